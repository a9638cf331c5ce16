import JvmDerived
import JvmDerived.Pilot.@@N@@Statement
import JvmDerived.Pilot.@@N@@Code
set_option linter.unusedVariables false
set_option linter.unusedSimpArgs false
namespace Jvm.Wk
open Jvm Jvm.ClassFile Sem Op Lib Bundle Jvm.Free Jvm.Stand Jvm.LawKit Jvm.RoadKit
abbrev Fd : Type := String × String × String × Value
abbrev Desc : Type := (String × List Fd) ⊕ (String × FieldType × List Value)
abbrev Ent : Type := Addr × Bool × Desc
def sl (Z : State) (f : Fd) : Nat := Jvm.RoadKit.slotOf Z f.1 f.2.1 f.2.2.1
def Dist (Z : State) : Desc → Prop
  | .inl (_, fs) => (fs.map (sl Z)).Pairwise (fun x y => x ≠ y)
  | .inr _ => True
def Sat (Z : State) (h : Heap) (a : Addr) : Desc → Prop
  | .inl (C, fs) => Exa Z h a C ∧ ∀ f ∈ fs, Fld Z h a f.1 f.2.1 f.2.2.1 f.2.2.2
  | .inr (ad, ty, vs) => ∃ c : Cell, Arr Z h a c ty ∧ c.slots = vs.toArray ∧ vs.length < 2147483648 ∧ (∀ v ∈ vs, fits ty v = true) ∧ (ad ≠ "" → Exa Z h a ad)
def Apart (x y : Ent) : Prop := (x.2.1 = true ∨ y.2.1 = true) → x.1 ≠ y.1
def Hp (Z : State) (EL : Bool × List (String × Nat)) (D : List Ent) (vm : Vm) (h : Heap) : Prop :=
  Ext Z.heap h ∧ CHv Z EL.2 vm h ∧ (∀ x ∈ D, Sat Z h x.1 x.2.2 ∧ (x.2.1 = true → Z.heap.size ≤ x.1 ∧ Safe Z EL.2 vm h x.1 ∧ Dist Z x.2.2)) ∧ D.Pairwise Apart
section Facts
variable {Z : State} {EL : Bool × List (String × Nat)} {D D' : List Ent} {vm vm1 : Vm} {h h' : Heap} {a b : Addr} {d d' : Desc} {s1 : Nat} {v : Value} {x y : Ent}
theorem Sat.ext (E : Ext h h') (S : Sat Z h a d) : Sat Z h' a d := by
  match d, S with
  | .inl (C, fs), S => exact ⟨S.1.ext E, fun f hf => (S.2 f hf).ext E⟩
  | .inr (ad, ty, vs), S => obtain ⟨c, A, r1, r2, r3, r4⟩ := S; exact ⟨c, A.ext E, r1, r2, r3, fun q => (r4 q).ext E⟩
theorem Sat.keep {ws : List Addr} (K : Keep h h' ws) (q : a ∉ ws) (S : Sat Z h a d) : Sat Z h' a d := by
  match d, S with
  | .inl (C, fs), S => exact ⟨S.1.keep K, fun f hf => (S.2 f hf).keep K q⟩
  | .inr (ad, ty, vs), S => obtain ⟨c, A, r1, r2, r3, r4⟩ := S; exact ⟨c, ⟨K.2.1 _ _ A.1 q, A.2⟩, r1, r2, r3, fun q => (r4 q).keep K⟩
theorem Sat.lt (S : Sat Z h a d) : a < h.size := by
  match d, S with
  | .inl (C, fs), S => exact S.1.lt
  | .inr (ad, ty, vs), S => obtain ⟨c, A, -⟩ := S; exact A.lt
theorem Apart.symm (q : Apart x y) : Apart y x := fun r e => q r.symm e.symm
theorem Hp.perm (P : D.Perm D') (H : Hp Z EL D vm h) : Hp Z EL D' vm h :=
  ⟨H.1, H.2.1, fun x hx => H.2.2.1 x (P.mem_iff.mpr hx), (P.pairwise_iff (fun q => Apart.symm q)).mp H.2.2.2⟩
theorem perm_front {α : Type} : ∀ (D : List α) (i : Nat) (x : α), D[i]? = some x → D.Perm (x :: D.eraseIdx i)
  | [], _, _, q => by simp at q
  | y :: D, 0, x, q => by simp at q; subst q; exact List.Perm.refl _
  | y :: D, i + 1, x, q => by
    have q' : D[i]? = some x := by simpa using q
    exact ((perm_front D i x q').cons y).trans (List.Perm.swap x y _)
theorem perm_set {α : Type} : ∀ (D : List α) (i : Nat) (x x' : α), D[i]? = some x → (D.set i x').Perm (x' :: D.eraseIdx i)
  | [], _, _, _, q => by simp at q
  | y :: D, 0, x, x', q => List.Perm.refl _
  | y :: D, i + 1, x, x', q => by
    have q' : D[i]? = some x := by simpa using q
    exact ((perm_set D i x x' q').cons y).trans (List.Perm.swap x' y _)
theorem Hp.new (H : Hp Z EL D vm h) (E : Ext h h') (S : Sat Z h' h.size d) (dd : Dist Z d) : Hp Z EL ((h.size, true, d) :: D) vm h' := by
  obtain ⟨h1, h2, h3, h4⟩ := H
  refine ⟨⟨Nat.le_trans h1.1 E.1, fun a c q => E.2 _ _ (h1.2 _ _ q)⟩, h2.ext E, fun x hx => ?_, List.pairwise_cons.mpr ⟨fun y hy _ => ?_, h4⟩⟩
  · rcases List.mem_cons.mp hx with rfl | hx
    · exact ⟨S, fun _ => ⟨h1.1, Safe.ext E h2 (Safe.new (Nat.le_refl _)), dd⟩⟩
    · exact ⟨(h3 x hx).1.ext E, fun w => ⟨((h3 x hx).2 w).1, Safe.ext E h2 ((h3 x hx).2 w).2.1, ((h3 x hx).2 w).2.2⟩⟩
  · have := (h3 y hy).1.lt
    exact fun e => by rw [← e] at this; exact Nat.lt_irrefl _ this
theorem Hp.keepHead (H : Hp Z EL ((a, true, d) :: D) vm h) (K : Keep h h' [a]) (S : Sat Z h' a d') (dd : Dist Z d') : Hp Z EL ((a, true, d') :: D) vm h' := by
  obtain ⟨h1, h2, h3, h4⟩ := H
  obtain ⟨g1, g2, -⟩ := (h3 _ (List.mem_cons_self ..)).2 rfl
  have hs : ∀ x ∈ [a], Safe Z EL.2 vm h x := fun x hx => by cases List.mem_singleton.mp hx; exact g2
  obtain ⟨p1, p2⟩ := List.pairwise_cons.mp h4
  refine ⟨⟨Nat.le_trans h1.1 K.1, fun b c q => K.2.1 _ _ (h1.2 _ _ q) fun z => ?_⟩, h2.keep K hs, fun x hx => ?_, List.pairwise_cons.mpr ⟨fun y hy r => p1 y hy (Or.inl rfl), p2⟩⟩
  · cases List.mem_singleton.mp z
    exact Nat.lt_irrefl _ (Nat.lt_of_lt_of_le (Array.getElem?_eq_some_iff.mp q).1 g1)
  · rcases List.mem_cons.mp hx with rfl | hx
    · exact ⟨S, fun _ => ⟨g1, Safe.keep K hs h2 g2, dd⟩⟩
    · have ne : x.1 ∉ [a] := fun z => p1 x hx (Or.inl rfl) (List.mem_singleton.mp z).symm
      have hx' := h3 x (List.mem_cons_of_mem _ hx)
      exact ⟨hx'.1.keep K ne, fun w => ⟨(hx'.2 w).1, Safe.keep K hs h2 (hx'.2 w).2.1, (hx'.2 w).2.2⟩⟩
theorem Hp.keepSet {i : Nat} (H : Hp Z EL D vm h) (hi : D[i]? = some (a, true, d)) (K : Keep h h' [a]) (S : Sat Z h' a d') (dd : Dist Z d') : Hp Z EL (D.set i (a, true, d')) vm h' :=
  ((H.perm (perm_front D i _ hi)).keepHead K S dd).perm (perm_set D i _ _ hi).symm
theorem Hp.toVm (H : Hp Z EL D vm h) (C : CHr Z EL.2 vm h vm1 h) : Hp Z EL D vm1 h :=
  ⟨H.1, C.1, fun x hx => ⟨(H.2.2.1 x hx).1, fun w => ⟨((H.2.2.1 x hx).2 w).1, C.safe (H.2.2.1 x hx).1.lt ((H.2.2.1 x hx).2 w).2.1, ((H.2.2.1 x hx).2 w).2.2⟩⟩, H.2.2.2⟩
theorem Hp.sub (H : Hp Z EL D vm h) (q : D'.Sublist D) : Hp Z EL D' vm h := ⟨H.1, H.2.1, fun x hx => H.2.2.1 x (q.subset hx), H.2.2.2.sublist q⟩
theorem Hp.grown (H : Hp Z EL D vm h) (E : Ext h h') (C : CHr Z EL.2 vm h vm1 h') : Hp Z EL D vm1 h' :=
  ⟨⟨Nat.le_trans H.1.1 E.1, fun a c q => E.2 _ _ (H.1.2 _ _ q)⟩, C.1, fun x hx => ⟨(H.2.2.1 x hx).1.ext E, fun w => ⟨((H.2.2.1 x hx).2 w).1, C.safe (H.2.2.1 x hx).1.lt ((H.2.2.1 x hx).2 w).2.1, ((H.2.2.1 x hx).2 w).2.2⟩⟩, H.2.2.2⟩
theorem Hp.read (H : Hp Z EL D vm h) (S : Sat Z h a d) (ne : ∀ x, Safe Z EL.2 vm h x → Z.heap.size ≤ x → x ≠ a) : Hp Z EL ((a, false, d) :: D) vm h := by
  refine ⟨H.1, H.2.1, fun x hx => ?_, List.pairwise_cons.mpr ⟨fun y hy r e => ?_, H.2.2.2⟩⟩
  · rcases List.mem_cons.mp hx with rfl | hx
    · exact ⟨S, fun w => by cases w⟩
    · exact H.2.2.1 x hx
  · rcases r with r | r
    · cases r
    · exact ne y.1 ((H.2.2.1 y hy).2 r).2.1 ((H.2.2.1 y hy).2 r).1 e.symm
theorem Sat.arv {ad : String} {ty : FieldType} {vs : List Value} (dv : Value) (S : Sat Z h a (.inr (ad, ty, vs))) : ∃ k, Arv Z h a k ty (Nat.toInt32 vs.length) vs dv := by
  obtain ⟨c, A, r1, r2, r3, r4⟩ := S
  have e1 : (Nat.toInt32 vs.length).toInt = vs.length := len_toInt r2
  have e2 : (Nat.toInt32 vs.length).toNatClampNeg = vs.length := by simp [Int32.toNatClampNeg, e1]
  refine ⟨c.cls, c, A, rfl, by rw [e2, r1]; simp, fun q => ?_, fun k hk => ?_, fun i hi => ?_⟩
  · rw [Int32.lt_iff_toInt_lt, e1] at q
    have : (0 : Int32).toInt = 0 := rfl
    omega
  · rw [r1] at hk ⊢
    have hk' : k < vs.length := by simpa using hk
    simp [hk']
  · rw [r1] at hi
    have hi' : i < vs.length := by simpa using hi
    have : vs.getD i dv = vs[i] := by simp [hi']
    rw [this]; exact r3 _ (List.getElem_mem hi')
theorem Sat.of_arv {ad : String} {ty : FieldType} {vs : List Value} {k : ClassId} {z : Int32} {dv : Value} (A : Arv Z h a k ty z vs dv) (hl : z.toNatClampNeg = vs.length) (hE : ad ≠ "" → Exa Z h a ad) : Sat Z h a (.inr (ad, ty, vs)) := by
  obtain ⟨c, A, r1, r2, r3, r4, r5⟩ := A
  have hs : c.slots.size = vs.length := r2.trans hl
  refine ⟨c, A, ?_, ?_, fun v hv => ?_, hE⟩
  · apply Array.ext_getElem?
    intro i
    by_cases hi : i < vs.length
    · rw [r4 i (by omega)]; simp [hi]
    · rw [Array.getElem?_eq_none (by omega), Array.getElem?_eq_none (by simpa using Nat.le_of_not_lt hi)]
  · have := (back32 r3).2; omega
  · obtain ⟨i, hi, rfl⟩ := List.mem_iff_getElem.mp hv
    have := r5 i (by omega)
    simpa [hi] using this
end Facts
def Idx (j : Int32) (i : Nat) : Prop := ¬ j < 0 ∧ j.toNatClampNeg = i
theorem Idx.of_nat {i : Nat} (hi : i < 2147483648) : Idx (Nat.toInt32 i) i := by
  have e1 : (Nat.toInt32 i).toInt = i := len_toInt hi
  refine ⟨fun q => ?_, by simp [Int32.toNatClampNeg, e1]⟩
  rw [Int32.lt_iff_toInt_lt, e1] at q
  have : (0 : Int32).toInt = 0 := rfl
  omega
theorem Idx.toInt {j : Int32} {i : Nat} (q : Idx j i) : j.toInt = i := by
  have h1 : ¬ j.toInt < 0 := fun r => q.1 (by rw [Int32.lt_iff_toInt_lt]; exact r)
  have h2 := q.2
  simp only [Int32.toNatClampNeg] at h2
  omega
end Jvm.Wk
namespace Jvm.Wk
open Jvm Jvm.ClassFile Sem Op Lib Bundle Jvm.Free Jvm.Stand Jvm.LawKit Jvm.RoadKit
def ELok (Z : State) (EL : Bool × List (String × Nat)) : Prop := (∃ a0, EW Z a0 EL.2) ∧ (EL.1 = true → EL.2 = [])
def Res (Z : State) (EL : Bool × List (String × Nat)) (Q : Option Value → List Ent → Prop) (R : Room) (s : State) (o : Outcome) (t : State) : Prop :=
  ∃ v L, o = .returned v ∧ Fr Z.heap.size L ∧ (∃ D', Hp Z EL D' t.vm t.heap ∧ Q v D') ∧ ReturnedEndW s o t L R.cells R.slots ∧ (EL.1 = true → s.WarmedH t.vm)
def Here (Z : State) (EL : Bool × List (String × Nat)) (R : Room) (own nm : String) (bytes : ByteArray) (ml : Nat) (ret : Option FieldType) (D : List Ent) (k n : Nat)
    (p : Program) (l : Launch) (e : Env) (s : State) (m : MethodId) (args : Array Value) (below : List Frame) (meth : Method) (c : Code) (T : State) (vm0 : Vm) (k0 : Nat) (locs : List Loc) (cells slots : Nat) : Prop :=
  Stand p l e R (s.setVm vm0) m args below meth c T locs cells slots ∧ s.Since vm0 k0 ∧ k0 ≤ T.heap.size ∧ p.tables.exec = Jvm.exec ∧ c.code = bytes ∧ c.maxLocals = ml ∧ vm0.findClass own = some m.cls ∧ Z.Warmed39 vm0 ∧
    meth.sig.returnType = ret ∧ meth.locks = false ∧ meth.name = nm ∧ Fr Z.heap.size locs ∧ Hp Z EL D vm0 T.heap ∧ cells ≤ k ∧ slots ≤ n ∧ ELok Z EL ∧ (EL.1 = true → vm0 = s.vm)
def W (Z : State) (EL : Bool × List (String × Nat)) (R : Room) (own nm : String) (bytes : ByteArray) (ml : Nat) (ret : Option FieldType) (Q : Option Value → List Ent → Prop) (D : List Ent) (k n : Nat) (pc : Nat) (ls : Array Slot) (st : List Value) : Prop :=
  ∀ p l e s m args below meth c T vm0 k0 locs cells slots, Here Z EL R own nm bytes ml ret D k n p l e s m args below meth c T vm0 k0 locs cells slots →
    ∃ s₂ o, Steps p.tables e below (T.setTop (mkF m pc ls st)) s₂ ∧ s₂.status = .running ∧ Ended s₂ below o ∧ Res Z EL Q R s o s₂
def Con (Z : State) (EL : Bool × List (String × Nat)) (y : MethodName) (bytes : ByteArray) (maxL : Nat) (ret : Option FieldType) (rm : Room) (as : List Value) (D : List Ent) (Q : Option Value → List Ent → Prop) : Prop :=
  ELok Z EL → ∀ (l : Launch) (ws : List Cond), MetFree l y (head1 (Cond.code y bytes maxL ret :: ws) rm) (fun a U => a = as.toArray ∧ Z.Warmed39 U.vm ∧ Hp Z EL D U.vm U.heap) (fun _ _ _ _ _ => True) (fun _ U o U' => Res Z EL Q rm U o U')
theorem ld0 : Jvm.Sym.laidSlots [] = [] := rfl
theorem ld1 {v : Value} {vs : List Value} {L : List Slot} (h : v.category = 1) (e : Jvm.Sym.laidSlots vs = L) : Jvm.Sym.laidSlots (v :: vs) = .val v :: L := by simp [Jvm.Sym.laidSlots, h, e]
theorem hent_of {as : List Value} {L : List Slot} {ml : Nat} {ls : Array Slot} (e : Jvm.Sym.laidSlots as = L) (h : L ++ List.replicate (ml - L.length) .unset = ls.toList) : Jvm.Sym.laidSlots as ++ List.replicate (ml - (Jvm.Sym.laidSlots as).length) .unset = ls.toList := by rw [e]; exact h
section Walk
variable {Z : State} {EL : Bool × List (String × Nat)} {R : Room} {own nm : String} {bytes : ByteArray} {ml : Nat} {ret : Option FieldType} {Q : Option Value → List Ent → Prop} {D D' : List Ent} {k n pc : Nat} {ls ls' : Array Slot} {st : List Value} {a0 : Array Value}
theorem Con.of {y : MethodName} {as : List Value} (hpl : plainFor y = true) (hent : Jvm.Sym.laidSlots as ++ List.replicate (ml - (Jvm.Sym.laidSlots as).length) .unset = ls.toList) (hW : W Z EL R y.cls y.name bytes ml ret Q D 0 0 0 ls []) : Con Z EL y bytes ml ret R as D Q := by
  intro hE l ws
  refine MetFree.of_bodySF hpl hisR ?_
  intro p e s m args below meth c s₁ Bd hml0 hP hK
  obtain ⟨rfl, hZ, hh⟩ := hP
  have X0 : Stand p l e R s m as.toArray below meth c s₁ [] 0 0 := Stand.of_body Bd
  have e0 : s₁.heap = s.heap := by rw [Bd.state]; rfl
  have hown : s.vm.findClass y.cls = some m.cls := findClass_of_methodNamed Bd.named
  have hnm := (name_of_methodNamed Bd.named Bd.method).1
  obtain ⟨s₂, o, h1, r⟩ := hW p l e s m as.toArray below meth c s₁ s.vm 0 [] 0 0
    ⟨X0, (State.WarmedH.refl s).since 0, Nat.zero_le _, Bd.exec, Bd.bytes, hml0, hown, hZ, Bd.returns, Bd.notSynchronized, hnm, Fr.nil _, by rw [e0]; exact hh, Nat.le_refl _, Nat.le_refl _, hE, fun _ => rfl⟩
  exact ⟨s₂, o, (XT.entry (by simpa using hent)).trans h1, r⟩
theorem W.pure {pc' : Nat} {st' : List Value} (H : ∀ {p : Program} {e : Env} {below : List Frame} {T target : State} {m : MethodId} {c : Code}, At T m c below → p.tables.exec = Jvm.exec → c.code = bytes → Steps p.tables e below (T.setTop (mkF m pc' ls' st')) target → Steps p.tables e below (T.setTop (mkF m pc ls st)) target)
    (next : W Z EL R own nm bytes ml ret Q D k n pc' ls' st') : W Z EL R own nm bytes ml ret Q D k n pc ls st := by
  intro p l e s m args below meth c T vm0 k0 locs cells slots A
  obtain ⟨s₂, o, h1, r⟩ := next p l e s m args below meth c T vm0 k0 locs cells slots A
  exact ⟨s₂, o, H A.1.here A.2.2.2.1 A.2.2.2.2.1 h1, r⟩
theorem W.mono {k' n' : Nat} (hk : k ≤ k') (hn : n ≤ n') (next : W Z EL R own nm bytes ml ret Q D k' n' pc ls st) : W Z EL R own nm bytes ml ret Q D k n pc ls st := by
  intro p l e s m args below meth c T vm0 k0 locs cells slots A
  obtain ⟨X, hS, hk0, hx, hby, hml, hown, hZ, r1, r2, r3, hN, hH, hc, hl, hE, hNI⟩ := A
  exact next p l e s m args below meth c T vm0 k0 locs cells slots ⟨X, hS, hk0, hx, hby, hml, hown, hZ, r1, r2, r3, hN, hH, Nat.le_trans hc hk, Nat.le_trans hl hn, hE, hNI⟩
theorem W.heap (H : ∀ vm h, Hp Z EL D vm h → Hp Z EL D' vm h) (next : W Z EL R own nm bytes ml ret Q D' k n pc ls st) : W Z EL R own nm bytes ml ret Q D k n pc ls st := by
  intro p l e s m args below meth c T vm0 k0 locs cells slots A
  obtain ⟨X, hS, hk0, hx, hby, hml, hown, hZ, r1, r2, r3, hN, hH, hc, hl, hE, hNI⟩ := A
  exact next p l e s m args below meth c T vm0 k0 locs cells slots ⟨X, hS, hk0, hx, hby, hml, hown, hZ, r1, r2, r3, hN, H _ _ hH, hc, hl, hE, hNI⟩
theorem W.perm (P : D.Perm D') (next : W Z EL R own nm bytes ml ret Q D' k n pc ls st) : W Z EL R own nm bytes ml ret Q D k n pc ls st := W.heap (fun _ _ H => H.perm P) next
theorem W.front (i : Nat) {x : Ent} (hi : D[i]? = some x) (hD : x :: D.eraseIdx i = D') (next : W Z EL R own nm bytes ml ret Q D' k n pc ls st) : W Z EL R own nm bytes ml ret Q D k n pc ls st := W.perm (hD ▸ perm_front D i x hi) next
theorem W.drop {x : Ent} (next : W Z EL R own nm bytes ml ret Q D k n pc ls st) : W Z EL R own nm bytes ml ret Q (x :: D) k n pc ls st := W.heap (fun _ _ H => H.sub (List.sublist_cons_self ..)) next
theorem W.aload (i : Nat) {v : Value} (hd : decode bytes pc = .ok (.aload i, 2)) (hl : ls[i]? = some (.val v)) (hv : v.isRef = true) (next : W Z EL R own nm bytes ml ret Q D k n (pc + 2) ls (v :: st)) : W Z EL R own nm bytes ml ret Q D k n pc ls st :=
  W.pure (fun h hx hc hr => XS.aload (g := mkF _ pc ls st) h hx rfl (hb hc hd) hl hv hr) next
theorem W.aloadN {i : Fin 4} {v : Value} (hd : decode bytes pc = .ok (.aload_n i, 1)) (hl : ls[i.val]? = some (.val v)) (hv : v.isRef = true) (next : W Z EL R own nm bytes ml ret Q D k n (pc + 1) ls (v :: st)) : W Z EL R own nm bytes ml ret Q D k n pc ls st :=
  W.pure (fun h hx hc hr => XS.aloadN (g := mkF _ pc ls st) h hx rfl (hb hc hd) hl hv hr) next
theorem W.iload {i : Nat} {v : Int32} (hd : decode bytes pc = .ok (.iload i, 2)) (hl : ls[i]? = some (.val (.int v))) (next : W Z EL R own nm bytes ml ret Q D k n (pc + 2) ls (.int v :: st)) : W Z EL R own nm bytes ml ret Q D k n pc ls st :=
  W.pure (fun h hx hc hr => XS.iload (g := mkF _ pc ls st) h hx rfl (hb hc hd) hl hr) next
theorem W.iloadN {i : Fin 4} {v : Int32} (hd : decode bytes pc = .ok (.iload_n i, 1)) (hl : ls[i.val]? = some (.val (.int v))) (next : W Z EL R own nm bytes ml ret Q D k n (pc + 1) ls (.int v :: st)) : W Z EL R own nm bytes ml ret Q D k n pc ls st :=
  W.pure (fun h hx hc hr => XS.iloadN (g := mkF _ pc ls st) h hx rfl (hb hc hd) hl hr) next
theorem W.astore {i : Nat} {v : Value} (hd : decode bytes pc = .ok (.astore i, 2)) (hv : v.isRef = true) (hl : storeLocals ls i v = some ls') (next : W Z EL R own nm bytes ml ret Q D k n (pc + 2) ls' st) : W Z EL R own nm bytes ml ret Q D k n pc ls (v :: st) :=
  W.pure (fun h hx hc hr => XS.astore (g := mkF _ pc ls (v :: st)) h hx rfl (hb hc hd) rfl hv hl hr) next
theorem W.astoreN {i : Fin 4} {v : Value} (hd : decode bytes pc = .ok (.astore_n i, 1)) (hv : v.isRef = true) (hl : storeLocals ls i.val v = some ls') (next : W Z EL R own nm bytes ml ret Q D k n (pc + 1) ls' st) : W Z EL R own nm bytes ml ret Q D k n pc ls (v :: st) :=
  W.pure (fun h hx hc hr => XS.astoreN (g := mkF _ pc ls (v :: st)) h hx rfl (hb hc hd) rfl hv hl hr) next
theorem W.istore {i : Nat} {v : Int32} (hd : decode bytes pc = .ok (.istore i, 2)) (hl : storeLocals ls i (.int v) = some ls') (next : W Z EL R own nm bytes ml ret Q D k n (pc + 2) ls' st) : W Z EL R own nm bytes ml ret Q D k n pc ls (.int v :: st) :=
  W.pure (fun h hx hc hr => XS.istore (g := mkF _ pc ls (.int v :: st)) h hx rfl (hb hc hd) rfl hl hr) next
theorem W.istoreN {i : Fin 4} {v : Int32} (hd : decode bytes pc = .ok (.istore_n i, 1)) (hl : storeLocals ls i.val (.int v) = some ls') (next : W Z EL R own nm bytes ml ret Q D k n (pc + 1) ls' st) : W Z EL R own nm bytes ml ret Q D k n pc ls (.int v :: st) :=
  W.pure (fun h hx hc hr => XS.istoreN (g := mkF _ pc ls (.int v :: st)) h hx rfl (hb hc hd) rfl hl hr) next
theorem W.iconst {i : Int} (v : Int32) (hd : decode bytes pc = .ok (.iconst i, 1)) (hv : Int32.ofInt i = v) (next : W Z EL R own nm bytes ml ret Q D k n (pc + 1) ls (.int v :: st)) : W Z EL R own nm bytes ml ret Q D k n pc ls st :=
  W.pure (fun h hx hc hr => XT.iconstV (g := mkF _ pc ls st) h hx rfl v (hb hc hd) hv hr) next
theorem W.bipush {i : Int} (v : Int32) (hd : decode bytes pc = .ok (.bipush i, 2)) (hv : (Int8.ofInt i).toInt32 = v) (next : W Z EL R own nm bytes ml ret Q D k n (pc + 2) ls (.int v :: st)) : W Z EL R own nm bytes ml ret Q D k n pc ls st :=
  W.pure (fun h hx hc hr => XT.bipushV (g := mkF _ pc ls st) h hx rfl v (hb hc hd) hv hr) next
theorem W.sipush {i : Int} (v : Int32) (hd : decode bytes pc = .ok (.sipush i, 3)) (hv : (Int16.ofInt i).toInt32 = v) (next : W Z EL R own nm bytes ml ret Q D k n (pc + 3) ls (.int v :: st)) : W Z EL R own nm bytes ml ret Q D k n pc ls st :=
  W.pure (fun h hx hc hr => XT.sipushV (g := mkF _ pc ls st) h hx rfl v (hb hc hd) hv hr) next
theorem W.aconstNull (hd : decode bytes pc = .ok (.aconst_null, 1)) (next : W Z EL R own nm bytes ml ret Q D k n (pc + 1) ls (.null :: st)) : W Z EL R own nm bytes ml ret Q D k n pc ls st :=
  W.pure (fun h hx hc hr => XS.aconstNull (g := mkF _ pc ls st) h hx rfl (hb hc hd) hr) next
theorem W.iinc {i : Nat} {cst : Int} {x : Int32} (v : Int32) (hd : decode bytes pc = .ok (.iinc i cst, 3)) (hv : Int32.ofInt cst = v) (hl : ls[i]? = some (.val (.int x))) (hl' : storeLocals ls i (.int (x + v)) = some ls') (next : W Z EL R own nm bytes ml ret Q D k n (pc + 3) ls' st) : W Z EL R own nm bytes ml ret Q D k n pc ls st :=
  W.pure (fun h hx hc hr => XT.iincV (g := mkF _ pc ls st) h hx rfl v (hb hc hd) hv hl hl' hr) next
theorem W.popv {x : Value} (hd : decode bytes pc = .ok (.pop, 1)) (hc1 : x.category = 1) (next : W Z EL R own nm bytes ml ret Q D k n (pc + 1) ls st) : W Z EL R own nm bytes ml ret Q D k n pc ls (x :: st) :=
  W.pure (fun h hx hc hr => XT.pop (g := mkF _ pc ls (x :: st)) h hx rfl (hb hc hd) rfl hc1 hr) next
theorem W.dup {x : Value} (hd : decode bytes pc = .ok (.dup, 1)) (hc1 : x.category = 1) (next : W Z EL R own nm bytes ml ret Q D k n (pc + 1) ls (x :: x :: st)) : W Z EL R own nm bytes ml ret Q D k n pc ls (x :: st) :=
  W.pure (fun h hx hc hr => XS.dup (g := mkF _ pc ls (x :: st)) h hx rfl (hb hc hd) rfl hc1 hr) next
theorem W.iadd {x y : Int32} (hd : decode bytes pc = .ok (.iadd, 1)) (next : W Z EL R own nm bytes ml ret Q D k n (pc + 1) ls (.int (x + y) :: st)) : W Z EL R own nm bytes ml ret Q D k n pc ls (.int y :: .int x :: st) :=
  W.pure (fun h hx hc hr => XS.iadd (g := mkF _ pc ls (.int y :: .int x :: st)) h hx rfl (hb hc hd) rfl hr) next
theorem W.isub {x y : Int32} (hd : decode bytes pc = .ok (.isub, 1)) (next : W Z EL R own nm bytes ml ret Q D k n (pc + 1) ls (.int (x - y) :: st)) : W Z EL R own nm bytes ml ret Q D k n pc ls (.int y :: .int x :: st) :=
  W.pure (fun h hx hc hr => XS.isub (g := mkF _ pc ls (.int y :: .int x :: st)) h hx rfl (hb hc hd) rfl hr) next
theorem W.irem {x y : Int32} (hd : decode bytes pc = .ok (.irem, 1)) (hy : y ≠ 0) (next : W Z EL R own nm bytes ml ret Q D k n (pc + 1) ls (.int (x % y) :: st)) : W Z EL R own nm bytes ml ret Q D k n pc ls (.int y :: .int x :: st) := by
  intro p l e s m args below meth c T vm0 k0 locs cells slots A
  obtain ⟨s₂, o, h1, r⟩ := next p l e s m args below meth c T vm0 k0 locs cells slots A
  exact ⟨s₂, o, iremM (g := mkF m pc ls (.int y :: .int x :: st)) A.1 A.2.2.2.1 rfl (hb A.2.2.2.2.1 hd) rfl hy h1, r⟩
theorem W.iand {x y : Int32} (hd : decode bytes pc = .ok (.iand, 1)) (next : W Z EL R own nm bytes ml ret Q D k n (pc + 1) ls (.int (x &&& y) :: st)) : W Z EL R own nm bytes ml ret Q D k n pc ls (.int y :: .int x :: st) :=
  W.pure (fun h hx hc hr => XS.iand (g := mkF _ pc ls (.int y :: .int x :: st)) h hx rfl (hb hc hd) rfl hr) next
theorem W.ishl {x y : Int32} (hd : decode bytes pc = .ok (.ishl, 1)) (next : W Z EL R own nm bytes ml ret Q D k n (pc + 1) ls (.int (x <<< (y &&& 31)) :: st)) : W Z EL R own nm bytes ml ret Q D k n pc ls (.int y :: .int x :: st) :=
  W.pure (fun h hx hc hr => XT.ishl (g := mkF _ pc ls (.int y :: .int x :: st)) h hx rfl (hb hc hd) rfl hr) next
theorem W.ishr {x y : Int32} (hd : decode bytes pc = .ok (.ishr, 1)) (next : W Z EL R own nm bytes ml ret Q D k n (pc + 1) ls (.int (x >>> (y &&& 31)) :: st)) : W Z EL R own nm bytes ml ret Q D k n pc ls (.int y :: .int x :: st) :=
  W.pure (fun h hx hc hr => XT.ishr (g := mkF _ pc ls (.int y :: .int x :: st)) h hx rfl (hb hc hd) rfl hr) next
theorem W.iushr {x y : Int32} (hd : decode bytes pc = .ok (.iushr, 1)) (next : W Z EL R own nm bytes ml ret Q D k n (pc + 1) ls (.int (XT.ushr x y) :: st)) : W Z EL R own nm bytes ml ret Q D k n pc ls (.int y :: .int x :: st) :=
  W.pure (fun h hx hc hr => XT.iushr (g := mkF _ pc ls (.int y :: .int x :: st)) h hx rfl (hb hc hd) rfl hr) next
theorem W.i2b {x : Int32} (hd : decode bytes pc = .ok (.i2b, 1)) (next : W Z EL R own nm bytes ml ret Q D k n (pc + 1) ls (.int x.toInt8.toInt32 :: st)) : W Z EL R own nm bytes ml ret Q D k n pc ls (.int x :: st) :=
  W.pure (fun h hx hc hr => XT.i2b (g := mkF _ pc ls (.int x :: st)) h hx rfl (hb hc hd) rfl hr) next
theorem W.i2c {x : Int32} (hd : decode bytes pc = .ok (.i2c, 1)) (next : W Z EL R own nm bytes ml ret Q D k n (pc + 1) ls (.int x.toUInt32.toUInt16.toUInt32.toInt32 :: st)) : W Z EL R own nm bytes ml ret Q D k n pc ls (.int x :: st) :=
  W.pure (fun h hx hc hr => XT.i2c (g := mkF _ pc ls (.int x :: st)) h hx rfl (hb hc hd) rfl hr) next
theorem W.goto (pc' : Nat) {o : Int} (hd : decode bytes pc = .ok (.goto o, 3)) (ho : 0 ≤ (pc : Int) + o ∧ ((pc : Int) + o).toNat = pc') (next : W Z EL R own nm bytes ml ret Q D k n pc' ls st) : W Z EL R own nm bytes ml ret Q D k n pc ls st :=
  W.pure (fun h hx hc hr => XS.goto (g := mkF _ pc ls st) h hx rfl rfl (hb hc hd) ho.1 ho.2 hr) next
def Cd : ClassFile.Cond → Int32 → Int32 → Prop
  | .eq, x, y => x = y
  | .ne, x, y => ¬ x = y
  | .lt, x, y => x < y
  | .ge, x, y => ¬ x < y
  | .gt, x, y => y < x
  | .le, x, y => ¬ y < x
theorem Cd.yes {cd : ClassFile.Cond} {x y : Int32} (q : Cd cd x y) : if_icmp.holds cd x y = true := by
  cases cd <;> first | exact (teq q).1 | exact (feq q).2 | exact (tlt q).1 | exact (flt q).2.1 | exact (tlt q).2.2.1 | exact (flt q).2.2.2
theorem Cd.no {cd : ClassFile.Cond} {x y : Int32} (q : ¬ Cd cd x y) : if_icmp.holds cd x y = false := by
  cases cd <;> first | exact (feq q).1 | exact (teq (Classical.not_not.mp q)).2 | exact (flt q).1 | exact (tlt (Classical.not_not.mp q)).2.1 | exact (flt q).2.2.1 | exact (tlt (Classical.not_not.mp q)).2.2.2
theorem W.icmpY (pc' : Nat) {cd : ClassFile.Cond} {x y : Int32} {o : Int} (hd : decode bytes pc = .ok (.if_icmp cd o, 3)) (q : Cd cd x y) (ho : 0 ≤ (pc : Int) + o ∧ ((pc : Int) + o).toNat = pc') (next : W Z EL R own nm bytes ml ret Q D k n pc' ls st) : W Z EL R own nm bytes ml ret Q D k n pc ls (.int y :: .int x :: st) :=
  W.pure (fun h hx hc hr => XS.icmpYes (g := mkF _ pc ls (.int y :: .int x :: st)) h hx rfl rfl (hb hc hd) rfl q.yes ho.1 ho.2 hr) next
theorem W.icmpN {cd : ClassFile.Cond} {x y : Int32} {o : Int} (hd : decode bytes pc = .ok (.if_icmp cd o, 3)) (q : ¬ Cd cd x y) (next : W Z EL R own nm bytes ml ret Q D k n (pc + 3) ls st) : W Z EL R own nm bytes ml ret Q D k n pc ls (.int y :: .int x :: st) :=
  W.pure (fun h hx hc hr => XS.icmpNo (g := mkF _ pc ls (.int y :: .int x :: st)) h hx rfl (hb hc hd) rfl (Cd.no q) hr) next
theorem W.icmp (pc' : Nat) {cd : ClassFile.Cond} {x y : Int32} {o : Int} (hd : decode bytes pc = .ok (.if_icmp cd o, 3)) (ho : 0 ≤ (pc : Int) + o ∧ ((pc : Int) + o).toNat = pc') (nextY : Cd cd x y → W Z EL R own nm bytes ml ret Q D k n pc' ls st) (nextN : ¬ Cd cd x y → W Z EL R own nm bytes ml ret Q D k n (pc + 3) ls st) : W Z EL R own nm bytes ml ret Q D k n pc ls (.int y :: .int x :: st) := by
  by_cases q : Cd cd x y
  · exact W.icmpY pc' hd q ho (nextY q)
  · exact W.icmpN hd q (nextN q)
theorem W.ifY (pc' : Nat) {cd : ClassFile.Cond} {x : Int32} {o : Int} (hd : decode bytes pc = .ok (.ifCond cd o, 3)) (q : Cd cd x 0) (ho : 0 ≤ (pc : Int) + o ∧ ((pc : Int) + o).toNat = pc') (next : W Z EL R own nm bytes ml ret Q D k n pc' ls st) : W Z EL R own nm bytes ml ret Q D k n pc ls (.int x :: st) :=
  W.pure (fun h hx hc hr => XS.ifYes (g := mkF _ pc ls (.int x :: st)) h hx rfl rfl (hb hc hd) rfl ((if0 _ _).trans q.yes) ho.1 ho.2 hr) next
theorem W.ifN {cd : ClassFile.Cond} {x : Int32} {o : Int} (hd : decode bytes pc = .ok (.ifCond cd o, 3)) (q : ¬ Cd cd x 0) (next : W Z EL R own nm bytes ml ret Q D k n (pc + 3) ls st) : W Z EL R own nm bytes ml ret Q D k n pc ls (.int x :: st) :=
  W.pure (fun h hx hc hr => XS.ifNo (g := mkF _ pc ls (.int x :: st)) h hx rfl (hb hc hd) rfl ((if0 _ _).trans (Cd.no q)) hr) next
theorem W.if (pc' : Nat) {cd : ClassFile.Cond} {x : Int32} {o : Int} (hd : decode bytes pc = .ok (.ifCond cd o, 3)) (ho : 0 ≤ (pc : Int) + o ∧ ((pc : Int) + o).toNat = pc') (nextY : Cd cd x 0 → W Z EL R own nm bytes ml ret Q D k n pc' ls st) (nextN : ¬ Cd cd x 0 → W Z EL R own nm bytes ml ret Q D k n (pc + 3) ls st) : W Z EL R own nm bytes ml ret Q D k n pc ls (.int x :: st) := by
  by_cases q : Cd cd x 0
  · exact W.ifY pc' hd q ho (nextY q)
  · exact W.ifN hd q (nextN q)
theorem W.ifnonnullY (pc' : Nat) {o : Int} {a : Addr} (hd : decode bytes pc = .ok (.ifnonnull o, 3)) (ho : 0 ≤ (pc : Int) + o ∧ ((pc : Int) + o).toNat = pc') (next : W Z EL R own nm bytes ml ret Q D k n pc' ls st) : W Z EL R own nm bytes ml ret Q D k n pc ls (.ref a :: st) :=
  W.pure (fun h hx hc hr => XT.ifnonnullYes (g := mkF _ pc ls (.ref a :: st)) h hx rfl rfl (hb hc hd) rfl ho.1 ho.2 hr) next
def Ca : ClassFile.ACond → Value → Value → Prop
  | .eq, x, y => x = y
  | .ne, x, y => ¬ x = y
theorem Ca.yes {cd : ClassFile.ACond} {x y : Value} (q : Ca cd x y) : XT.acmp cd x y = true := by
  cases cd
  · exact XT.aa_eq_t q
  · exact XT.aa_ne_t q
theorem Ca.no {cd : ClassFile.ACond} {x y : Value} (q : ¬ Ca cd x y) : XT.acmp cd x y = false := by
  cases cd
  · exact XT.aa_eq_f q
  · exact XT.aa_ne_f (Classical.not_not.mp q)
theorem W.acmpY (pc' : Nat) {cd : ClassFile.ACond} {x y : Value} {o : Int} (hd : decode bytes pc = .ok (.if_acmp cd o, 3)) (hx1 : x.isRef = true) (hy1 : y.isRef = true) (q : Ca cd x y) (ho : 0 ≤ (pc : Int) + o ∧ ((pc : Int) + o).toNat = pc') (next : W Z EL R own nm bytes ml ret Q D k n pc' ls st) : W Z EL R own nm bytes ml ret Q D k n pc ls (y :: x :: st) :=
  W.pure (fun h hx hc hr => XT.acmpYes (g := mkF _ pc ls (y :: x :: st)) h hx rfl rfl (hb hc hd) rfl hx1 hy1 q.yes ho.1 ho.2 hr) next
theorem W.acmpN {cd : ClassFile.ACond} {x y : Value} {o : Int} (hd : decode bytes pc = .ok (.if_acmp cd o, 3)) (hx1 : x.isRef = true) (hy1 : y.isRef = true) (q : ¬ Ca cd x y) (next : W Z EL R own nm bytes ml ret Q D k n (pc + 3) ls st) : W Z EL R own nm bytes ml ret Q D k n pc ls (y :: x :: st) :=
  W.pure (fun h hx hc hr => XT.acmpNo (g := mkF _ pc ls (y :: x :: st)) h hx rfl (hb hc hd) rfl hx1 hy1 (Ca.no q) hr) next
theorem W.acmp (pc' : Nat) {cd : ClassFile.ACond} {x y : Value} {o : Int} (hd : decode bytes pc = .ok (.if_acmp cd o, 3)) (hx1 : x.isRef = true) (hy1 : y.isRef = true) (ho : 0 ≤ (pc : Int) + o ∧ ((pc : Int) + o).toNat = pc') (nextY : Ca cd x y → W Z EL R own nm bytes ml ret Q D k n pc' ls st) (nextN : ¬ Ca cd x y → W Z EL R own nm bytes ml ret Q D k n (pc + 3) ls st) : W Z EL R own nm bytes ml ret Q D k n pc ls (y :: x :: st) := by
  by_cases q : Ca cd x y
  · exact W.acmpY pc' hd hx1 hy1 q ho (nextY q)
  · exact W.acmpN hd hx1 hy1 q (nextN q)
end Walk
end Jvm.Wk
namespace Jvm.Wk
open Jvm Jvm.ClassFile Sem Op Lib Bundle Jvm.Free Jvm.Stand Jvm.LawKit Jvm.RoadKit
section Walk
variable {Z : State} {EL : Bool × List (String × Nat)} {R : Room} {own nm : String} {bytes : ByteArray} {ml : Nat} {ret : Option FieldType} {Q : Option Value → List Ent → Prop} {D D' : List Ent} {k n pc : Nat} {ls ls' : Array Slot} {st : List Value} {a0 : Array Value}
theorem W.still {pc' : Nat} {st' : List Value}
    (H : ∀ {p : Program} {l : Launch} {e : Env} {s : State} {m : MethodId} {args : Array Value} {below : List Frame} {meth : Method} {c : Code} {T : State} {locs : List Loc} {cells slots : Nat}, Stand p l e R s m args below meth c T locs cells slots → p.tables.exec = Jvm.exec → c.code = bytes → c.maxLocals = ml → s.vm.findClass own = some m.cls → Z.Warmed39 s.vm → (∃ vm, Hp Z EL D vm T.heap) →
      ∃ T', Stand p l e R s m args below meth c T' locs cells slots ∧ T'.heap = T.heap ∧ ∀ target, Steps p.tables e below (T'.setTop (mkF m pc' ls' st')) target → Steps p.tables e below (T.setTop (mkF m pc ls st)) target)
    (next : W Z EL R own nm bytes ml ret Q D k n pc' ls' st') : W Z EL R own nm bytes ml ret Q D k n pc ls st := by
  intro p l e s m args below meth c T vm0 k0 locs cells slots A
  obtain ⟨X, hS, hk0, hx, hby, hml, hown, hZ, r1, r2, r3, hN, hH, hc, hl, hE, hNI⟩ := A
  obtain ⟨T', X', e', stp⟩ := H X hx hby hml hown hZ ⟨_, hH⟩
  obtain ⟨s₂, o, h1, r⟩ := next p l e s m args below meth c T' vm0 k0 locs cells slots ⟨X', hS, by rw [e']; exact hk0, hx, hby, hml, hown, hZ, r1, r2, r3, hN, by rw [e']; exact hH, hc, hl, hE, hNI⟩
  exact ⟨s₂, o, stp _ h1, r⟩
theorem W.getf {a : Addr} {b : Bool} {C O f d R0 : String} {fs : List Fd} {v : Value} {idx : Nat} (hd : decode bytes pc = .ok (.getfield idx, 3)) (w : (Cond.fieldLink own idx R0 f d).before a0 Z = true) (via : Via Z R0 O f d) (hm : (a, b, .inl (C, fs)) ∈ D) (hf : (O, f, d, v) ∈ fs)
    (next : W Z EL R own nm bytes ml ret Q D k n (pc + 3) ls (v :: st)) : W Z EL R own nm bytes ml ret Q D k n pc ls (.ref a :: st) :=
  W.still (fun X hx hby hml hown hZ hH => by
    obtain ⟨vm, hH⟩ := hH
    exact getF (host := "") X hx hZ hown (Or.inl w) via rfl ((hH.2.2.1 _ hm).1.2 _ hf) (g := mkF _ pc ls (.ref a :: st)) rfl rfl (hb hby hd)) next
theorem W.gets {O f d R0 : String} {v : Value} {idx : Nat} (hd : decode bytes pc = .ok (.getstatic idx, 3)) (w : (Cond.fieldLink own idx R0 f d).before a0 Z = true) (via : Via Z R0 O f d) (F : Sta Z Z.heap O f d v)
    (next : W Z EL R own nm bytes ml ret Q D k n (pc + 3) ls (v :: st)) : W Z EL R own nm bytes ml ret Q D k n pc ls st :=
  W.still (fun X hx hby hml hown hZ hH => by
    obtain ⟨vm, hH⟩ := hH
    exact getS (host := "") X hx hZ hown w via rfl (F.ext hH.1) (g := mkF _ pc ls st) rfl (hb hby hd)) next
theorem W.alen {a : Addr} {b : Bool} {ad : String} {ty : FieldType} {vs : List Value} (z : Int32) (hd : decode bytes pc = .ok (.arraylength, 1)) (hm : (a, b, .inr (ad, ty, vs)) ∈ D) (hz : Nat.toInt32 vs.length = z)
    (next : W Z EL R own nm bytes ml ret Q D k n (pc + 1) ls (.int z :: st)) : W Z EL R own nm bytes ml ret Q D k n pc ls (.ref a :: st) :=
  W.still (fun X hx hby hml hown hZ hH => by
    obtain ⟨vm, hH⟩ := hH
    obtain ⟨c, A, r1, -⟩ := (hH.2.2.1 _ hm).1
    refine ⟨_, X, rfl, fun target ht => ?_⟩
    refine X.arraylength hx A.1 (State.isArrayOf_alike hZ.alike A.2.1) (g := mkF _ pc ls (.ref a :: st)) rfl rfl (hb hby hd) target ?_
    rw [r1]
    have : vs.toArray.size = vs.length := by simp
    rw [this, hz]; exact ht) next
theorem idx_in' {j : Int32} {i : Nat} {vs : List Value} {c : Cell} (r1 : c.slots = vs.toArray) (hj : Idx j i) (hi : i < vs.length) : ¬ (j < 0 ∨ c.slots.size ≤ j.toNatClampNeg) := by
  rw [r1, hj.2]; rintro (q | q)
  · exact hj.1 q
  · simp at q; omega
theorem idx_at' {j : Int32} {i : Nat} {vs : List Value} {c : Cell} {v : Value} (r1 : c.slots = vs.toArray) (hj : Idx j i) (hv : vs[i]? = some v) : c.slots[j.toNatClampNeg]? = some v := by
  rw [r1, hj.2]; simpa using hv
theorem lt_of_at {vs : List Value} {i : Nat} {v : Value} (hv : vs[i]? = some v) : i < vs.length := (List.getElem?_eq_some_iff.mp hv).1
theorem W.caload {a : Addr} {b : Bool} {ad : String} {vs : List Value} {j : Int32} (i : Nat) {v : Value} (hd : decode bytes pc = .ok (.caload, 1)) (hm : (a, b, .inr (ad, .char, vs)) ∈ D) (hj : Idx j i) (hv : vs[i]? = some v)
    (next : W Z EL R own nm bytes ml ret Q D k n (pc + 1) ls (v :: st)) : W Z EL R own nm bytes ml ret Q D k n pc ls (.int j :: .ref a :: st) :=
  W.still (fun X hx hby hml hown hZ hH => by
    obtain ⟨vm, hH⟩ := hH
    obtain ⟨c, A, r1, -⟩ := (hH.2.2.1 _ hm).1
    exact ⟨_, X, rfl, fun target ht => X.caload hx A.1 (State.isArrayOf_alike hZ.alike A.2.1) A.2.2 (idx_in' r1 hj (lt_of_at hv)) (idx_at' r1 hj hv) (g := mkF _ pc ls (.int j :: .ref a :: st)) rfl rfl (hb hby hd) target ht⟩) next
theorem W.baload {a : Addr} {b : Bool} {ad : String} {vs : List Value} {j : Int32} (i : Nat) {v : Value} (hd : decode bytes pc = .ok (.baload, 1)) (hm : (a, b, .inr (ad, .byte, vs)) ∈ D) (hj : Idx j i) (hv : vs[i]? = some v)
    (next : W Z EL R own nm bytes ml ret Q D k n (pc + 1) ls (v :: st)) : W Z EL R own nm bytes ml ret Q D k n pc ls (.int j :: .ref a :: st) :=
  W.still (fun X hx hby hml hown hZ hH => by
    obtain ⟨vm, hH⟩ := hH
    obtain ⟨c, A, r1, -⟩ := (hH.2.2.1 _ hm).1
    exact ⟨_, X, rfl, fun target ht => X.baloadBytes hx A.1 (State.isArrayOf_alike hZ.alike A.2.1) A.2.2 (idx_in' r1 hj (lt_of_at hv)) (idx_at' r1 hj hv) (g := mkF _ pc ls (.int j :: .ref a :: st)) rfl rfl (hb hby hd) target ht⟩) next
theorem W.ldcI {idx : Nat} {v : Int32} (hd : decode bytes pc = .ok (.ldc idx, 2)) (w : (Cond.constant own idx v).before a0 Z = true) (next : W Z EL R own nm bytes ml ret Q D k n (pc + 2) ls (.int v :: st)) : W Z EL R own nm bytes ml ret Q D k n pc ls st :=
  W.still (fun X hx hby hml hown hZ hH => ⟨_, X, rfl, fun target ht => X.ldcI hx hown (mvT hZ w) (g := mkF _ pc ls st) rfl (hb hby hd) ht⟩) next
theorem Hp.exa {D : List Ent} {a : Addr} {b : Bool} {C : String} {fs : List Fd} (hm : (a, b, .inl (C, fs)) ∈ D) : ∀ vm h, Hp Z EL D vm h → Exa Z h a C := fun _ _ H => (H.2.2.1 _ hm).1.1
theorem Hp.ins {D : List Ent} {a : Addr} {b : Bool} {C : String} {fs : List Fd} (hm : (a, b, .inl (C, fs)) ∈ D) : ∀ vm h, Hp Z EL D vm h → Ins Z h a C true := fun _ _ H => Ins.self (H.2.2.1 _ hm).1.1
theorem W.initO {a : Addr} {idx : Nat} (Wt : Nat) (hd : decode bytes pc = .ok (.invokespecial idx, 3)) (w1 : (Cond.methodLink own idx Lib.objectInit).before a0 Z = true) (w2 : (Cond.instanceMethod Lib.objectInit).before a0 Z = true) (w3 : (Cond.code Lib.objectInit ⟨#[0xb1]⟩ 1 none).before a0 Z = true)
    (hls : ls.size = ml) (hW : (st.map fun v => v.category).sum = Wt) (hr : 1 ≤ R.frames ∧ Wt + 12 ≤ R.locals) (next : W Z EL R own nm bytes ml ret Q D k n (pc + 3) ls st) : W Z EL R own nm bytes ml ret Q D k n pc ls (.ref a :: st) :=
  W.still (fun X hx hby hml hown hZ hH => Jvm.RoadKit.initO X hx hZ hown w1 w2 w3 rfl (g := mkF _ pc ls (.ref a :: st)) rfl (by rw [hml]; exact hls) rfl (hb hby hd) hr.1 (W := Wt) (by show 2 * 0 + _ ≤ _; omega) hr.2) next
def LaidAll (Z : State) (a0 : Array Value) (C : String) : List Fd → Prop
  | [] => True
  | f :: r => (Laid Z a0 C f.1 f.2.1 f.2.2.1 ∧ ∃ ty, parseFieldDescriptor f.2.2.1 = some ty ∧ f.2.2.2 = defaultValue ty) ∧ LaidAll Z a0 C r
theorem LaidAll.mem {C : String} : ∀ {fs : List Fd}, LaidAll Z a0 C fs → ∀ f ∈ fs, Laid Z a0 C f.1 f.2.1 f.2.2.1 ∧ ∃ ty, parseFieldDescriptor f.2.2.1 = some ty ∧ f.2.2.2 = defaultValue ty
  | [], _, _, q => nomatch q
  | f :: r, L, g, q => by
    rcases List.mem_cons.mp q with rfl | q
    · exact L.1
    · exact LaidAll.mem L.2 g q
theorem LaidAll.dist {C : String} : ∀ {fs : List Fd}, LaidAll Z a0 C fs → (fs.map (·.2.1)).Pairwise (fun x y => x ≠ y) → (fs.map (sl Z)).Pairwise (fun x y => x ≠ y)
  | [], _, _ => List.Pairwise.nil
  | f :: r, L, N => by
    obtain ⟨n1, n2⟩ := List.pairwise_cons.mp N
    refine List.pairwise_cons.mpr ⟨fun y hy => ?_, LaidAll.dist L.2 n2⟩
    obtain ⟨g, hg, rfl⟩ := List.mem_map.mp hy
    obtain ⟨l1, t1, q1, -⟩ := L.1
    obtain ⟨l2, t2, q2, -⟩ := LaidAll.mem L.2 g hg
    exact slot_ne l1 l2 (n1 _ (List.mem_map.mpr ⟨g, hg, rfl⟩)) q1 q2
theorem W.new {C : String} {idx nn : Nat} {fs : List Fd} (hd : decode bytes pc = .ok (.new idx, 3)) (w : (Cond.classLink own idx C).before a0 Z = true) (wi : (Cond.instantiable C nn).before a0 Z = true) (wz : (Cond.initialized C).before a0 Z = true)
    (hfs : LaidAll Z a0 C fs) (hnm : (fs.map (·.2.1)).Pairwise (fun x y => x ≠ y)) (hr : k + 1 ≤ R.cells ∧ n + nn ≤ R.slots) (next : ∀ a, W Z EL R own nm bytes ml ret Q ((a, true, .inl (C, fs)) :: D) (k + 1) (n + nn) (pc + 3) ls (.ref a :: st)) : W Z EL R own nm bytes ml ret Q D k n pc ls st := by
  intro p l e s m args below meth c T vm0 k0 locs cells slots A
  obtain ⟨X, hS, hk0, hx, hby, hml, hown, hZ, r1, r2, r3, hN, hH, hc, hl, hE, hNI⟩ := A
  obtain ⟨T', h', X', e', E, A2, D2, -, stp⟩ := newO X hx hZ hown w wi wz rfl (g := mkF m pc ls st) rfl (hb hby hd) (by omega) (by omega)
  have H' : Hp Z EL ((T.heap.size, true, .inl (C, fs)) :: D) vm0 h' := hH.new E ⟨A2, fun f hf => by
    obtain ⟨l1, ty, q1, q2⟩ := hfs.mem f hf
    rw [q2]; exact D2 l1 q1⟩ (hfs.dist hnm)
  obtain ⟨s₂, o, h1, r⟩ := next T.heap.size p l e s m args below meth c T' vm0 k0 locs (cells + 1) (slots + nn) ⟨X', hS, by rw [e']; exact Nat.le_trans hk0 E.1, hx, hby, hml, hown, hZ, r1, r2, r3, hN, by rw [e']; exact H', by omega, by omega, hE, hNI⟩
  exact ⟨s₂, o, stp _ h1, r⟩
theorem fits_default (ty : FieldType) : fits ty (defaultValue ty) = true := by cases ty <;> rfl
theorem W.newarr {aty : ArrayType} {z : Int32} (N : Nat) {ad : String} {ty : FieldType} (hd : decode bytes pc = .ok (.newarray aty, 2)) (hty : newarray.typeOf aty = ty) (w : (Cond.arrayClass ty).before a0 Z = true) (hz : Idx z N) (had : "[" ++ ty.toString = ad) (hb8 : N * 8 ≤ 536870912) (hr : k + 1 ≤ R.cells ∧ n + N ≤ R.slots)
    (next : ∀ a, W Z EL R own nm bytes ml ret Q ((a, true, .inr (ad, ty, List.replicate N (defaultValue ty))) :: D) (k + 1) (n + N) (pc + 2) ls (.ref a :: st)) : W Z EL R own nm bytes ml ret Q D k n pc ls (.int z :: st) := by
  intro p l e s m args below meth c T vm0 k0 locs cells slots A
  subst hty
  obtain ⟨X, hS, hk0, hx, hby, hml, hown, hZ, r1, r2, r3, hN, hH, hc, hl, hE, hNI⟩ := A
  obtain ⟨T', h', cA, X', e', E, A2, E2, stp⟩ := newPE X hx hZ w rfl (g := mkF m pc ls (.int z :: st)) rfl (hb hby hd) rfl hz.1 (cap := N) (by rw [hz.2]; exact Nat.le_refl _) hb8 (by omega) (by omega) had
  have H' : Hp Z EL ((T.heap.size, true, .inr (ad, newarray.typeOf aty, List.replicate N (defaultValue (newarray.typeOf aty)))) :: D) vm0 h' := hH.new E ⟨_, A2, by simp [newA, hz.2], by simp; omega, fun v hv => by rw [(List.mem_replicate.mp hv).2]; exact fits_default _, fun _ => E2⟩ trivial
  obtain ⟨s₂, o, h1, r⟩ := next T.heap.size p l e s m args below meth c T' vm0 k0 locs (cells + 1) (slots + N) ⟨X', hS, by rw [e']; exact Nat.le_trans hk0 E.1, hx, hby, hml, hown, hZ, r1, r2, r3, hN, by rw [e']; exact H', by omega, by omega, hE, hNI⟩
  exact ⟨s₂, o, stp _ h1, r⟩
theorem pw_ne {l : List Nat} (P : l.Pairwise (fun x y => x ≠ y)) {i j : Nat} {x y : Nat} (hij : i ≠ j) (hi : l[i]? = some x) (hj : l[j]? = some y) : x ≠ y := by
  obtain ⟨i1, rfl⟩ := List.getElem?_eq_some_iff.mp hi
  obtain ⟨j1, rfl⟩ := List.getElem?_eq_some_iff.mp hj
  rw [List.pairwise_iff_getElem] at P
  rcases Nat.lt_or_gt_of_ne hij with q | q
  · exact P i j i1 j1 q
  · exact (P j i j1 i1 q).symm
theorem set_map_sl {fs : List Fd} {j : Nat} {f g : Fd} (hj : fs[j]? = some f) (e : sl Z g = sl Z f) : (fs.set j g).map (sl Z) = fs.map (sl Z) := by
  rw [List.map_set, e]
  apply List.ext_getElem?
  intro i
  rw [List.getElem?_set]
  split
  · rename_i q; subst q
    rw [List.getElem?_map, hj]
    have := (List.getElem?_eq_some_iff.mp hj).1
    simp [this]
  · rfl
theorem Sat.put {h h' : Heap} {a : Addr} {C O f d : String} {fs : List Fd} {j : Nat} {old v : Value} (S : Sat Z h a (.inl (C, fs))) (hD : Dist Z (.inl (C, fs))) (hj : fs[j]? = some (O, f, d, old)) (Wr1 : Wr h h' a (Jvm.RoadKit.slotOf Z O f d) v) : Sat Z h' a (.inl (C, fs.set j (O, f, d, v))) := by
  refine ⟨S.1.wr Wr1, fun g hg => ?_⟩
  obtain ⟨i, hi⟩ := List.mem_iff_getElem?.mp hg
  rw [List.getElem?_set] at hi
  split at hi
  · rename_i q; subst q
    split at hi
    · cases hi; exact (S.2 _ (List.mem_of_getElem? hj)).same Wr1
    · cases hi
  · rename_i q
    refine (S.2 g (List.mem_of_getElem? hi)).other Wr1 (Or.inr ?_)
    exact pw_ne hD (Ne.symm q) (x := sl Z g) (y := sl Z (O, f, d, old)) (by rw [List.getElem?_map, hi]; rfl) (by rw [List.getElem?_map, hj]; rfl)
theorem W.putf {a : Addr} {C O f d R0 : String} {fs : List Fd} {old v : Value} {idx kk : Nat} {ty : FieldType} (i j : Nat) (hd : decode bytes pc = .ok (.putfield idx, 3)) (w : (Cond.fieldLink own idx R0 f d).before a0 Z = true) (via : Via Z R0 O f d)
    (hi : D[i]? = some (a, true, .inl (C, fs))) (hj : fs[j]? = some (O, f, d, old)) (L : (Cond.lays C O f d).before a0 Z = true ∨ ((Cond.laysFinal C O f d).before a0 Z = true ∧ own = O ∧ nm = "<init>")) (wi : (Cond.instantiable C kk).before a0 Z = true)
    (hty : parseFieldDescriptor d = some ty) (hn : narrow ty v = v) (hf : fits ty v = true) (hD : D.set i (a, true, .inl (C, fs.set j (O, f, d, v))) = D')
    (next : W Z EL R own nm bytes ml ret Q D' k n (pc + 3) ls st) : W Z EL R own nm bytes ml ret Q D k n pc ls (v :: .ref a :: st) := by
  intro p l e s m args below meth c T vm0 k0 locs cells slots A
  obtain ⟨X, hS, hk0, hx, hby, hml, hown, hZ, r1, r2, r3, hN, hH, hc, hl, hE, hNI⟩ := A
  subst hD
  obtain ⟨S, g⟩ := hH.2.2.1 _ (List.mem_of_getElem? hi)
  obtain ⟨T', h', X', e', W1, stp⟩ := putF (host := "") X hx hZ hown (Or.inl w) via rfl (S.2 _ (List.mem_of_getElem? hj)) S.1 (L.imp id fun q => ⟨q.1, q.2.1, r3.trans q.2.2⟩) wi hty hn hf (g := mkF m pc ls (v :: .ref a :: st)) rfl rfl (hb hby hd)
  obtain ⟨g1, g2, g3⟩ := g rfl
  have H' := hH.keepSet (d' := .inl (C, fs.set j (O, f, d, v))) hi (Keep.of_wr W1) (Sat.put S g3 hj W1) (by show List.Pairwise _ _; rw [set_map_sl (Z := Z) (g := (O, f, d, v)) hj rfl]; exact g3)
  obtain ⟨s₂, o, q1, r⟩ := next p l e s m args below meth c T' vm0 k0 _ cells slots ⟨X', hS, by rw [e', W1.size]; exact hk0, hx, hby, hml, hown, hZ, r1, r2, r3, Fr.snoc X' hN g1, by rw [e']; exact H', hc, hl, hE, hNI⟩
  exact ⟨s₂, o, stp _ q1, r⟩
theorem Sat.store {h h' : Heap} {a : Addr} {ad : String} {ty : FieldType} {vs : List Value} {i : Nat} {v : Value} (S : Sat Z h a (.inr (ad, ty, vs))) (hv : fits ty v = true) (W1 : Wr h h' a i v) : Sat Z h' a (.inr (ad, ty, vs.set i v)) := by
  obtain ⟨c, A, r1, r2, r3, r4⟩ := S
  refine ⟨_, A.same W1, ?_, by simpa using r2, fun x hx => ?_, fun q => (r4 q).wr W1⟩
  · simp [Cell.setSlot, r1]
  · rcases List.mem_or_eq_of_mem_set hx with hx | rfl
    · exact r3 x hx
    · exact hv
theorem W.stA {a : Addr} {ad : String} {ty : FieldType} {vs : List Value} {i j : Nat} {v : Value} {st' : List Value} {pc' : Nat}
    (H : ∀ {p : Program} {l : Launch} {e : Env} {s : State} {m : MethodId} {args : Array Value} {below : List Frame} {meth : Method} {c : Code} {T : State} {locs : List Loc} {cells slots : Nat} {cl : Cell}, Stand p l e R s m args below meth c T locs cells slots → p.tables.exec = Jvm.exec → c.code = bytes → Z.Warmed39 s.vm → Arr Z T.heap a cl ty → cl.slots = vs.toArray →
      ∃ T' h', Stand p l e R s m args below meth c T' (locs ++ [⟨a, j⟩]) cells slots ∧ T'.heap = h' ∧ Wr T.heap h' a j v ∧ ∀ target, Steps p.tables e below (T'.setTop (mkF m pc' ls st')) target → Steps p.tables e below (T.setTop (mkF m pc ls st)) target)
    (hi : D[i]? = some (a, true, .inr (ad, ty, vs))) (hf : fits ty v = true) (hD : D.set i (a, true, .inr (ad, ty, vs.set j v)) = D')
    (next : W Z EL R own nm bytes ml ret Q D' k n pc' ls st') : W Z EL R own nm bytes ml ret Q D k n pc ls st := by
  intro p l e s m args below meth c T vm0 k0 locs cells slots A
  obtain ⟨X, hS, hk0, hx, hby, hml, hown, hZ, r1, r2, r3, hN, hH, hc, hl, hE, hNI⟩ := A
  subst hD
  obtain ⟨S, g⟩ := hH.2.2.1 _ (List.mem_of_getElem? hi)
  obtain ⟨cl, A, q1, -⟩ := id S
  obtain ⟨T', h', X', e', W1, stp⟩ := H X hx hby hZ A q1
  obtain ⟨g1, g2, g3⟩ := g rfl
  have H' := hH.keepSet hi (Keep.of_wr W1) (Sat.store S hf W1) trivial
  obtain ⟨s₂, o, q1, r⟩ := next p l e s m args below meth c T' vm0 k0 _ cells slots ⟨X', hS, by rw [e', W1.size]; exact hk0, hx, hby, hml, hown, hZ, r1, r2, r3, Fr.snoc X' hN g1, by rw [e']; exact H', hc, hl, hE, hNI⟩
  exact ⟨s₂, o, stp _ q1, r⟩
theorem W.castore {a : Addr} {ad : String} {vs : List Value} {z x x' : Int32} (i j : Nat) (hd : decode bytes pc = .ok (.castore, 1)) (hi : D[i]? = some (a, true, .inr (ad, .char, vs))) (hz : Idx z j) (hj : j < vs.length) (hx' : nar .char x = x')
    (hD : D.set i (a, true, .inr (ad, .char, vs.set j (.int x'))) = D') (next : W Z EL R own nm bytes ml ret Q D' k n (pc + 1) ls st) : W Z EL R own nm bytes ml ret Q D k n pc ls (.int x :: .int z :: .ref a :: st) :=
  W.stA (i := i) (j := j) (fun X hx hby hZ A q => by
    have r := stC X hx hZ rfl A (j := z) (x := x) (idx_in' q hz hj) (g := mkF _ pc ls (.int x :: .int z :: .ref a :: st)) rfl rfl (hb hby hd)
    rw [hz.2, hx'] at r; exact r) hi (by rw [← hx']; exact fits_nar_char x) hD next
theorem W.bastore {a : Addr} {ad : String} {vs : List Value} {z x x' : Int32} (i j : Nat) (hd : decode bytes pc = .ok (.bastore, 1)) (hi : D[i]? = some (a, true, .inr (ad, .byte, vs))) (hz : Idx z j) (hj : j < vs.length) (hx' : nar .byte x = x')
    (hD : D.set i (a, true, .inr (ad, .byte, vs.set j (.int x'))) = D') (next : W Z EL R own nm bytes ml ret Q D' k n (pc + 1) ls st) : W Z EL R own nm bytes ml ret Q D k n pc ls (.int x :: .int z :: .ref a :: st) :=
  W.stA (i := i) (j := j) (fun X hx hby hZ A q => by
    have r := stB X hx hZ rfl A (j := z) (x := x) (idx_in' q hz hj) (g := mkF _ pc ls (.int x :: .int z :: .ref a :: st)) rfl rfl (hb hby hd)
    rw [hz.2, hx'] at r; exact r) hi (by rw [← hx']; exact fits_nar_byte x) hD next
abbrev dStr (c : Int32) (v : Value) : Desc := .inl ("java/lang/String", [("java/lang/String", "value", "[B", v), ("java/lang/String", "coder", "B", .int c)])
theorem W.ldcT {idx : Nat} {text : String} (N : Nat) {vs : List Value} (hni : EL.1 = false) (hd : decode bytes pc = .ok (.ldc idx, 2)) (w : (Cond.stringLink own idx text).before a0 Z = true) (wS : ∀ a ∈ Bundle.stringAtoms, a.before a0 Z = true) (hmem : (own, idx) ∈ EL.2)
    (ht : (∀ c ∈ text.toList, c.toNat < 256) ∧ text.toList.map (fun c => Value.int (Jvm.Lit.byteI c.toNat.toUInt16)) = vs) (hn : 4 * text.toList.length ≤ N) (hbig : N ≤ 536870912) (hr : k + 2 ≤ R.cells ∧ n + (N + 4) ≤ R.slots)
    (next : ∀ a b, W Z EL R own nm bytes ml ret Q ((a, false, dStr 0 (.ref b)) :: (b, false, .inr ("", .byte, vs)) :: D) (k + 2) (n + (N + 4)) (pc + 2) ls (.ref a :: st)) : W Z EL R own nm bytes ml ret Q D k n pc ls st := by
  intro p l e s m args below meth c T vm0 k0 locs cells slots A
  obtain ⟨X, hS, hk0, hx, hby, hml, hown, hZ, r1, r2, r3, hN, hH, hc, hl, ⟨⟨b0, hE⟩, hNL⟩, hNI⟩ := A
  have hE' : EW Z a0 EL.2 := fun q hq => by
    obtain ⟨t, ht, r⟩ := hE q hq
    exact ⟨t, by have := mvS (s := Z) (args := a0) (State.Warmed39.refl Z) ht; simpa using this, r⟩
  have hlen : vs.length = text.toList.length := by rw [← ht.2]; simp
  have hv31 : vs.length < 2147483648 := by omega
  have iz := Idx.of_nat hv31
  obtain ⟨a, T', h', k1, b, kk, X', e', E, hS', hk1, hZ', hown', F1, F2, F3, F4, g1, g2, hC, -, hne, stp⟩ := ldcCH X hx hZ hown w wS rfl hS hk0 hE' hmem hH.2.1 (z := Nat.toInt32 vs.length) ht iz.1 iz.2 (g := mkF m pc ls st) rfl (hb hby hd) hn hbig (by omega) (by omega)
  have hH1 := hH.grown E hC
  have hH2 : Hp Z EL ((b, false, .inr ("", .byte, vs)) :: D) T'.vm h' := hH1.read (Sat.of_arv F4 iz.2 fun q => absurd rfl q) fun x q _ => (hne x q).2
  have hH3 : Hp Z EL ((a, false, dStr 0 (.ref b)) :: (b, false, .inr ("", .byte, vs)) :: D) T'.vm h' := hH2.read ⟨F1, fun f hf => by
    rcases List.mem_cons.mp hf with rfl | hf
    · exact F3
    · cases List.mem_singleton.mp hf; exact F2⟩ fun x q _ => (hne x q).1
  obtain ⟨s₂, o, q1, r⟩ := next a b p l e s m args below meth c T' T'.vm k1 locs (cells + 2) (slots + (N + 4)) ⟨X', hS', by rw [e']; exact hk1, hx, hby, hml, hown', hZ', r1, r2, r3, hN, by rw [e']; exact hH3, by omega, by omega, ⟨⟨b0, hE⟩, hNL⟩, fun q => by rw [hni] at q; cases q⟩
  exact ⟨s₂, o, stp _ q1, r⟩
theorem W.out {v : Option Value} (hk : k ≤ R.cells ∧ n ≤ R.slots) (hv : ret = none → v = none) (q : Q v D)
    (H : ∀ {p : Program} {l : Launch} {e : Env} {s : State} {m : MethodId} {args : Array Value} {below : List Frame} {meth : Method} {c : Code} {T : State} {locs : List Loc} {cells slots : Nat} {fs : List Frame}, Stand p l e R s m args below meth c T locs cells slots → p.tables.exec = Jvm.exec → c.code = bytes → meth.sig.returnType = ret →
      (∀ (f : JFrame) (acts : List Action), f.method = m → f.locked = none → f.entered = [] → (doReturn e (T.setTop f) acts v).1 = T.setFrames fs) → Steps p.tables e below (T.setTop (mkF m pc ls st)) (T.setFrames fs)) : W Z EL R own nm bytes ml ret Q D k n pc ls st := by
  intro p l e s m args below meth c T vm0 k0 locs cells slots A
  obtain ⟨X, hS, hk0, hx, hby, hml, hown, hZ, r1, r2, r3, hN, hH, hc, hl, ⟨⟨b0, hE⟩, hNL⟩, hNI⟩ := A
  obtain ⟨fs, h1, h2, h3, ⟨h4, h5, h6, h7⟩⟩ := X.leaveW hS hk0 (v := v) (fun z => hv (r1 ▸ z)) r2
  refine ⟨_, _, H X hx hby r1 h1, h2, h3, v, locs, rfl, hN, ⟨D, (show Hp Z EL D T.vm T.heap from hH.toVm (CHv.at X hZ hE hH.2.1)), q⟩, ⟨h4, h5, h6, h7.mono (by omega) (by omega)⟩, fun q => ?_⟩
  have := X.warmed
  rw [hNI q] at this; exact this
theorem W.ireturn {x : Int32} {t : FieldType} (hd : decode bytes pc = .ok (.ireturn, 1)) (hret : ret = some t) (ht : t = .int ∨ t = .boolean ∨ t = .byte ∨ t = .char ∨ t = .short) (hn : narrow t (.int x) = .int x) (hk : k ≤ R.cells ∧ n ≤ R.slots) (q : Q (some (.int x)) D) : W Z EL R own nm bytes ml ret Q D k n pc ls (.int x :: st) :=
  W.out hk (fun z => by rw [hret] at z; cases z) q (fun X hx hby hr hl => retOut X hx (hr.trans hret) hn (Or.inl ⟨rfl, ht, x, rfl⟩) (hb hby hd) hl)
theorem W.areturn {v : Value} {t : FieldType} (hd : decode bytes pc = .ok (.areturn, 1)) (hret : ret = some t) (ht : t.isReference = true) (hv : v.isRef = true) (hk : k ≤ R.cells ∧ n ≤ R.slots) (q : Q (some v) D) : W Z EL R own nm bytes ml ret Q D k n pc ls (v :: st) :=
  W.out hk (fun z => by rw [hret] at z; cases z) q (fun X hx hby hr hl => retOut X hx (hr.trans hret) (by cases t <;> first | rfl | cases ht) (Or.inr (Or.inr (Or.inr (Or.inr ⟨rfl, ht, hv⟩)))) (hb hby hd) hl)
theorem W.return_ (hd : decode bytes pc = .ok (.return_, 1)) (hret : ret = none) (hk : k ≤ R.cells ∧ n ≤ R.slots) (q : Q none D) : W Z EL R own nm bytes ml ret Q D k n pc ls [] :=
  W.out hk (fun _ => rfl) q (fun X hx hby hr hl => X.returnOut hx (hr.trans hret) (hb hby hd) hl)
end Walk
end Jvm.Wk
namespace Jvm.Wk
open Jvm Jvm.ClassFile Sem Op Lib Bundle Jvm.Free Jvm.Stand Jvm.LawKit Jvm.RoadKit
theorem same_self {Z : State} {a0 : Array Value} {y y2 : MethodName} {C : String} (hc : y2.cls = y.cls) (hy : y.cls ≠ "java/lang/invoke/MethodHandle" ∧ y.cls ≠ "java/lang/invoke/VarHandle") (wi : (Cond.instanceMethod y).before a0 Z = true) (wi2 : (Cond.instanceMethod y2).before a0 Z = true) (wse : (Cond.selects C y2 y2).before a0 Z = true) : (Cond.sameMethod y.cls y.cls y.name y.desc).before a0 Z = true := by
  obtain ⟨mk, meth, hn, -⟩ := Cond.instanceMethod_spec wi
  obtain ⟨mk2, meth2, hn2, -⟩ := Cond.instanceMethod_spec wi2
  have hf := State.methodFound?_of_named hn hy
  have h1 := findClass_of_methodNamed hn
  have h2 := findClass_of_methodNamed hn2
  obtain ⟨kr, hkr, hni⟩ := notFace_of_selects (args := a0) wse mk2 hn2
  rw [hc, h1] at h2
  have h3 := Option.some.inj h2
  rw [← h3] at hkr
  simp [Cond.before, Cond.holds, Cond.value, h1, hf, hn, hkr, hni]
theorem notFace_by {s : State} {args : Array Value} {y y2 : MethodName} {C : String} (hc : y2.cls = y.cls) (wi2 : (Cond.instanceMethod y2).before args s = true) (wse : (Cond.selects C y2 y2).before args s = true) : NotFace s y := fun r0 h0 => by
  obtain ⟨mk2, meth2, hn2, -⟩ := Cond.instanceMethod_spec wi2
  have h2 := findClass_of_methodNamed hn2
  rw [hc, findClass_of_methodNamed h0] at h2
  have h3 := Option.some.inj h2
  rw [h3]; exact notFace_of_selects wse mk2 hn2
section Calls
variable {Z : State} {EL : Bool × List (String × Nat)} {R : Room} {own nm : String} {bytes : ByteArray} {ml : Nat} {ret : Option FieldType} {Q : Option Value → List Ent → Prop} {D D' : List Ent} {k n pc : Nat} {ls ls' : Array Slot} {st : List Value} {a0 : Array Value}
variable {y : MethodName} {cb : ByteArray} {cm : Nat} {cr : Option FieldType} {rm : Room} {as : List Value} {Q' : Option Value → List Ent → Prop} {idx : Nat}
abbrev CPre (Z : State) (EL : Bool × List (String × Nat)) (R rm : Room) (D : List Ent) (vm0 : Vm) (as : List Value) : Pt → Array Value → Prop := fun A a => a = as.toArray ∧ Hp Z EL D vm0 A.U.heap ∧ A.cells + rm.cells ≤ R.cells ∧ A.slots + rm.slots ≤ R.slots
abbrev CPost (Z : State) (EL : Bool × List (String × Nat)) (rm : Room) (Q' : Option Value → List Ent → Prop) : Pt → Array Value → Option Value → Pt → Prop :=
  fun A _ v B => ∃ L D', Fr Z.heap.size L ∧ Hp Z EL D' B.U.vm B.U.heap ∧ Q' v D' ∧ B.locs = A.locs ++ L ∧ B.cells = A.cells + rm.cells ∧ B.slots = A.slots + rm.slots ∧ (EL.1 = true → A.U.WarmedH B.U.vm)
theorem conBack {p : Program} {l : Launch} {e : Env} {s : State} {args : Array Value} {below : List Frame} {vm0 : Vm} {len Wt : Nat} (hC : Con Z EL y cb cm cr rm as D Q') (hZ : Z.Warmed39 vm0) (wc : (Cond.code y cb cm cr).before a0 Z = true) (wz : (Cond.initialized y.cls).before a0 Z = true) (hE : ELok Z EL)
    (hf : rm.frames + 1 ≤ R.frames) (hl : Wt + (cm + 11) + rm.locals ≤ R.locals) : BackS l R p e below (s.setVm vm0) args y len Wt (CPre Z EL R rm D vm0 as) (CPost Z EL rm Q') := by
  obtain ⟨⟨b0, hE0⟩, hNL⟩ := id hE
  exact BackS.of_freeW (bytes := cb) (maxL := cm) (ret := cr) (E := fun _ first o t L k n => k = rm.cells ∧ n = rm.slots ∧ Fr Z.heap.size L ∧ (EL.1 = true → first.WarmedH t.vm) ∧ ∃ v, o = .returned v ∧ ∃ D', Hp Z EL D' t.vm t.heap ∧ Q' v D') (hC hE l []) hf hl
    (fun m meth c A a Y hp => have hU : Z.Warmed39 A.U.vm := wtrans (s := s.setVm vm0) hZ Y.warmed
      ⟨by show (Cond.and _ .tt).before a A.U = true; rw [Cond.before_and, mv hU wc]; rfl, mv hU wc, mv hU wz, hp.2.2.1, hp.2.2.2⟩)
    (fun m meth c A a g mk Y hp => ⟨hp.1, wtrans (s := s.setVm vm0) hZ Y.warmed, (show Hp Z EL D A.U.vm A.U.heap from hp.2.1.toVm (CHv.at Y hZ hE0 hp.2.1.2.1))⟩) (fun _ _ _ _ _ _ _ _ _ => trivial)
    (fun _ _ _ _ ⟨v, L, h1, h2, h3, h4, h5⟩ => ⟨L, _, _, h4, rfl, rfl, h2, h5, v, h1, h3⟩)
    (fun m meth c A a g mk v t L k n Y hp _ _ ⟨e1, e2, e3, e7, v', e4, D', e5, e6⟩ => by
      cases e4; subst e1 e2
      exact ⟨L, D', e3, e5, e6, rfl, rfl, rfl, e7⟩)
theorem W.afterCall {p : Program} {l : Launch} {e : Env} {s : State} {m : MethodId} {args : Array Value} {below : List Frame} {meth : Method} {c : Code} {T : State} {vm0 : Vm} {k0 : Nat} {locs : List Loc} {cells slots : Nat} {len : Nat} {rest : List Value} {aa : Array Value}
    (A : Here Z EL R own nm bytes ml ret D k n p l e s m args below meth c T vm0 k0 locs cells slots)
    (hB : ∃ (v : Option Value) (vm₁ : Vm) (B : Pt), (s.setVm vm0).WarmedH vm₁ ∧ Stand p l e R ((s.setVm vm0).setVm B.U.vm) m args below meth c B.U B.locs B.cells B.slots ∧ (s.setVm vm0).Since B.U.vm B.U.heap.size ∧ T.heap.size ≤ B.U.heap.size ∧ CPost Z EL rm Q' ⟨T.setVm vm₁, locs, cells, slots⟩ aa v B ∧
      Steps p.tables e below (T.setTop (mkF m pc ls st)) (B.U.setTop { mkF m pc ls st with pc := pc + len, stack := v.toList ++ rest }))
    (next : ∀ v D', Q' v D' → W Z EL R own nm bytes ml ret Q D' (k + rm.cells) (n + rm.slots) (pc + len) ls (v.toList ++ rest)) :
    ∃ s₂ o, Steps p.tables e below (T.setTop (mkF m pc ls st)) s₂ ∧ s₂.status = .running ∧ Ended s₂ below o ∧ Res Z EL Q R s o s₂ := by
  obtain ⟨X, hS, hk0, hx, hby, hml, hown, hZ, r1, r2, r3, hN, hH, hc, hl, hE, hNI⟩ := A
  obtain ⟨v, vm₁, ⟨U, L1, c1, n1⟩, hW1, X', hS', hg, ⟨L, D', hL, hH', hq, e1, e2, e3, e4⟩, stp⟩ := hB
  dsimp only [Pt.U, Pt.locs, Pt.cells, Pt.slots] at X' hS' hg hH' e1 e2 e3 e4 stp
  subst e1 e2 e3
  cases hb : EL.1 with
  | false =>
    obtain ⟨s₂, o, q1, r⟩ := next v D' hq p l e s m args below meth c U U.vm U.heap.size (locs ++ L) (cells + rm.cells) (slots + rm.slots)
      ⟨X', hS.trans hS' (Nat.le_trans hk0 hg), Nat.le_refl _, hx, hby, hml, (hS'.1.alike.findClass _ _).trans hown, State.Warmed39.trans (t := s.setVm vm0) hZ hS'.1, r1, r2, r3, Fr.app hN hL, hH', by omega, by omega, hE, fun q => by rw [hb] at q; cases q⟩
    exact ⟨s₂, o, stp.trans q1, r⟩
  | true =>
    have hWU : (s.setVm vm0).WarmedH U.vm := State.WarmedH.trans hW1 (e4 hb)
    have X2 : Stand p l e R (s.setVm vm0) m args below meth c U (locs ++ L) (cells + rm.cells) (slots + rm.slots) :=
      ⟨X.admits, X.cas, X.clock, X.frames, X.room, X.hears, X.method, X.code, X'.here, X'.tail, hWU, X'.limits, X'.bytes, X'.same.setVm vm0⟩
    have hn0 : EL.2 = [] := hE.2 hb
    have hH2 : Hp Z EL D' vm0 U.heap := ⟨hH'.1, by rw [hn0]; exact fun p hp => (by cases hp), fun x hx => ⟨(hH'.2.2.1 x hx).1, fun w => ⟨((hH'.2.2.1 x hx).2 w).1, (by rw [hn0]; rintro ⟨p, hp, -⟩; cases hp), ((hH'.2.2.1 x hx).2 w).2.2⟩⟩, hH'.2.2.2⟩
    obtain ⟨s₂, o, q1, r⟩ := next v D' hq p l e s m args below meth c U vm0 k0 (locs ++ L) (cells + rm.cells) (slots + rm.slots)
      ⟨X2, hS, Nat.le_trans hk0 hg, hx, hby, hml, hown, hZ, r1, r2, r3, Fr.app hN hL, hH2, by omega, by omega, hE, hNI⟩
    exact ⟨s₂, o, stp.trans q1, r⟩
abbrev Rooms (R rm : Room) (Wt cm k n : Nat) : Prop := rm.frames + 1 ≤ R.frames ∧ Wt + (cm + 11) + rm.locals ≤ R.locals ∧ k + rm.cells ≤ R.cells ∧ n + rm.slots ≤ R.slots
abbrev okCls (y : MethodName) : Prop := y.cls ≠ "java/lang/invoke/MethodHandle" ∧ y.cls ≠ "java/lang/invoke/VarHandle"
theorem W.callS {ps : List FieldType} {r : Option FieldType} (Wt : Nat) (rest : List Value) (hd : decode bytes pc = .ok (.invokestatic idx, 3)) (wl : (Cond.methodLink own idx y).before a0 Z = true) (ws : (Cond.static y).before a0 Z = true) (wz : (Cond.initialized y.cls).before a0 Z = true) (wc : (Cond.code y cb cm cr).before a0 Z = true)
    (hC : Con Z EL y cb cm cr rm as D Q') (hy : okCls y) (hps : parseMethodDescriptor y.desc = some ⟨ps, r⟩) (hlen : as.length = ps.length) (hst : as.reverse ++ rest = st) (hls : ls.size = ml) (hW : (rest.map fun v => v.category).sum = Wt) (hr : Rooms R rm Wt cm k n)
    (next : ∀ v D', Q' v D' → W Z EL R own nm bytes ml ret Q D' (k + rm.cells) (n + rm.slots) (pc + 3) ls (v.toList ++ rest)) : W Z EL R own nm bytes ml ret Q D k n pc ls st := by
  intro p l e s m args below meth c T vm0 k0 locs cells slots A
  obtain ⟨X, hS, hk0, hx, hby, hml, hown, hZ, r1, r2, r3, hN, hH, hc, hl, hE, hNI⟩ := id A
  subst hst
  exact W.afterCall A (callSS X hx hown (mvT hZ wl) (mvT hZ ws) (mvT hZ wz) (mvT hZ wc) hy (conBack (Wt := Wt) (len := 3) hC hZ wc wz hE hr.1 hr.2.1) (g := mkF m pc ls (as.reverse ++ rest)) rfl (by rw [hml]; exact hls) (lenOf hps hlen) rfl (by show 2 * 0 + _ ≤ _; omega) (hb hby hd) (fun _ _ => ⟨rfl, hH, by show cells + _ ≤ _; have := hr.2.2.1; omega, by show slots + _ ≤ _; have := hr.2.2.2; omega⟩)) next
theorem W.callSN {ps : List FieldType} {r : Option FieldType} {host : String} (Wt : Nat) (rest : List Value) (hd : decode bytes pc = .ok (.invokestatic idx, 3)) (wl : (Cond.methodLinkNest own idx y host).before a0 Z = true) (ws : (Cond.static y).before a0 Z = true) (wz : (Cond.initialized y.cls).before a0 Z = true) (wc : (Cond.code y cb cm cr).before a0 Z = true)
    (hC : Con Z EL y cb cm cr rm as D Q') (hy : okCls y) (hps : parseMethodDescriptor y.desc = some ⟨ps, r⟩) (hlen : as.length = ps.length) (hst : as.reverse ++ rest = st) (hls : ls.size = ml) (hW : (rest.map fun v => v.category).sum = Wt) (hr : Rooms R rm Wt cm k n)
    (next : ∀ v D', Q' v D' → W Z EL R own nm bytes ml ret Q D' (k + rm.cells) (n + rm.slots) (pc + 3) ls (v.toList ++ rest)) : W Z EL R own nm bytes ml ret Q D k n pc ls st := by
  intro p l e s m args below meth c T vm0 k0 locs cells slots A
  obtain ⟨X, hS, hk0, hx, hby, hml, hown, hZ, r1, r2, r3, hN, hH, hc, hl, hE, hNI⟩ := id A
  subst hst
  exact W.afterCall A (callSNS X hx hown (Cond.methodLinkNest_wide hZ wl) (mvT hZ ws) (mvT hZ wz) (mvT hZ wc) hy (conBack (Wt := Wt) (len := 3) hC hZ wc wz hE hr.1 hr.2.1) (g := mkF m pc ls (as.reverse ++ rest)) rfl (by rw [hml]; exact hls) (lenOf hps hlen) rfl (by show 2 * 0 + _ ≤ _; omega) (hb hby hd) (fun _ _ => ⟨rfl, hH, by show cells + _ ≤ _; have := hr.2.2.1; omega, by show slots + _ ≤ _; have := hr.2.2.2; omega⟩)) next
theorem W.callI {ps : List FieldType} {r : Option FieldType} {a : Addr} (Wt : Nat) (rest : List Value) (hd : decode bytes pc = .ok (.invokespecial idx, 3)) (hy1 : y.name = "<init>") (wl : (Cond.methodLink own idx y).before a0 Z = true) (wi : (Cond.instanceMethod y).before a0 Z = true) (wz : (Cond.initialized y.cls).before a0 Z = true) (wc : (Cond.code y cb cm none).before a0 Z = true)
    (hC : Con Z EL y cb cm none rm (.ref a :: as) D Q') (hy : okCls y) (hps : parseMethodDescriptor y.desc = some ⟨ps, r⟩) (hlen : as.length = ps.length) (hst : as.reverse ++ .ref a :: rest = st) (hls : ls.size = ml) (hW : (rest.map fun v => v.category).sum = Wt) (hr : Rooms R rm Wt cm k n)
    (next : ∀ v D', Q' v D' → W Z EL R own nm bytes ml ret Q D' (k + rm.cells) (n + rm.slots) (pc + 3) ls (v.toList ++ rest)) : W Z EL R own nm bytes ml ret Q D k n pc ls st := by
  intro p l e s m args below meth c T vm0 k0 locs cells slots A
  obtain ⟨X, hS, hk0, hx, hby, hml, hown, hZ, r1, r2, r3, hN, hH, hc, hl, hE, hNI⟩ := id A
  subst hst
  exact W.afterCall A (X.specialBackS hx hy1 hown (mvT hZ wl) (mvT hZ wi) (mvT hZ wc) hy (conBack (Wt := Wt) (len := 3) hC hZ wc wz hE hr.1 hr.2.1) (g := mkF m pc ls (as.reverse ++ .ref a :: rest)) rfl (by rw [hml]; exact hls) (Steps.refl _) (lenOf hps hlen) rfl (by show 2 * 0 + _ ≤ _; omega) (hb hby hd) (fun _ _ => ⟨rfl, hH, by show cells + _ ≤ _; have := hr.2.2.1; omega, by show slots + _ ≤ _; have := hr.2.2.2; omega⟩)) next
theorem W.callV {z : MethodName} {ps : List FieldType} {r : Option FieldType} {a : Addr} {C C' : String} (Wt : Nat) (rest : List Value) (hd : decode bytes pc = .ok (.invokevirtual idx, 3)) (wl : (Cond.methodLink own idx y).before a0 Z = true) (wdl : (Cond.declares y).before a0 Z = true) (wsy : (Cond.selects C' y y).before a0 Z = true) (wse : (Cond.selects C y z).before a0 Z = true) (wi : (Cond.instanceMethod z).before a0 Z = true) (wz : (Cond.initialized z.cls).before a0 Z = true) (wc : (Cond.code z cb cm cr).before a0 Z = true)
    (hI : ∀ vm h, Hp Z EL D vm h → Exa Z h a C) (hC : Con Z EL z cb cm cr rm (.ref a :: as) D Q') (hy : okCls y) (hps : parseMethodDescriptor y.desc = some ⟨ps, r⟩) (hlen : as.length = ps.length) (hst : as.reverse ++ .ref a :: rest = st) (hls : ls.size = ml) (hW : (rest.map fun v => v.category).sum = Wt) (hr : Rooms R rm Wt cm k n)
    (next : ∀ v D', Q' v D' → W Z EL R own nm bytes ml ret Q D' (k + rm.cells) (n + rm.slots) (pc + 3) ls (v.toList ++ rest)) : W Z EL R own nm bytes ml ret Q D k n pc ls st := by
  intro p l e s m args below meth c T vm0 k0 locs cells slots A
  obtain ⟨X, hS, hk0, hx, hby, hml, hown, hZ, r1, r2, r3, hN, hH, hc, hl, hE, hNI⟩ := id A
  subst hst
  obtain ⟨cq, kq, qa, qb, qc⟩ := isOf (s := s.setVm vm0) hZ rfl (hI _ _ hH)
  exact W.afterCall A (X.virtualBackS hx hown (mvT hZ wl) (mvT hZ wdl) (notFace_of_selects (args := #[]) (mvT hZ wsy)) (mvT hZ wse) (mvT hZ wi) hy (conBack (Wt := Wt) (len := 3) hC hZ wc wz hE hr.1 hr.2.1) qa qc (g := mkF m pc ls (as.reverse ++ .ref a :: rest)) rfl (by rw [hml]; exact hls) (Steps.refl _) (lenOf hps hlen) rfl (by show 2 * 0 + _ ≤ _; omega) (hb hby hd) (fun _ _ => ⟨rfl, hH, by show cells + _ ≤ _; have := hr.2.2.1; omega, by show slots + _ ≤ _; have := hr.2.2.2; omega⟩)) next
theorem W.callVN {z y2 : MethodName} {ps : List FieldType} {r : Option FieldType} {a : Addr} {C C' : String} (Wt : Nat) (rest : List Value) (hd : decode bytes pc = .ok (.invokevirtual idx, 3)) (wl : (Cond.methodLink own idx y).before a0 Z = true) (wdl : (Cond.declares y).before a0 Z = true) (hc2 : y2.cls = y.cls) (wi2 : (Cond.instanceMethod y2).before a0 Z = true) (wsy : (Cond.selects C' y2 y2).before a0 Z = true) (wse : (Cond.selects C y z).before a0 Z = true) (wi : (Cond.instanceMethod z).before a0 Z = true) (wz : (Cond.initialized z.cls).before a0 Z = true) (wc : (Cond.code z cb cm cr).before a0 Z = true)
    (hI : ∀ vm h, Hp Z EL D vm h → Exa Z h a C) (hC : Con Z EL z cb cm cr rm (.ref a :: as) D Q') (hy : okCls y) (hps : parseMethodDescriptor y.desc = some ⟨ps, r⟩) (hlen : as.length = ps.length) (hst : as.reverse ++ .ref a :: rest = st) (hls : ls.size = ml) (hW : (rest.map fun v => v.category).sum = Wt) (hr : Rooms R rm Wt cm k n)
    (next : ∀ v D', Q' v D' → W Z EL R own nm bytes ml ret Q D' (k + rm.cells) (n + rm.slots) (pc + 3) ls (v.toList ++ rest)) : W Z EL R own nm bytes ml ret Q D k n pc ls st := by
  intro p l e s m args below meth c T vm0 k0 locs cells slots A
  obtain ⟨X, hS, hk0, hx, hby, hml, hown, hZ, r1, r2, r3, hN, hH, hc, hl, hE, hNI⟩ := id A
  subst hst
  obtain ⟨cq, kq, qa, qb, qc⟩ := isOf (s := s.setVm vm0) hZ rfl (hI _ _ hH)
  exact W.afterCall A (X.virtualBackS hx hown (mvT hZ wl) (mvT hZ wdl) (notFace_by (args := #[]) hc2 (mvT hZ wi2) (mvT hZ wsy)) (mvT hZ wse) (mvT hZ wi) hy (conBack (Wt := Wt) (len := 3) hC hZ wc wz hE hr.1 hr.2.1) qa qc (g := mkF m pc ls (as.reverse ++ .ref a :: rest)) rfl (by rw [hml]; exact hls) (Steps.refl _) (lenOf hps hlen) rfl (by show 2 * 0 + _ ≤ _; omega) (hb hby hd) (fun _ _ => ⟨rfl, hH, by show cells + _ ≤ _; have := hr.2.2.1; omega, by show slots + _ ≤ _; have := hr.2.2.2; omega⟩)) next
theorem W.callUp {ps : List FieldType} {r : Option FieldType} {a : Addr} {K : String} (Wt : Nat) (rest : List Value) (hd : decode bytes pc = .ok (.invokespecial idx, 3)) (wl : (Cond.methodLink own idx y).before a0 Z = true) (wsm : (Cond.sameMethod y.cls y.cls y.name y.desc).before a0 Z = true) (wi : (Cond.instanceMethod y).before a0 Z = true) (wsu : (Cond.superclass own y.cls).before a0 Z = true) (hy1 : y.name ≠ "<init>") (wz : (Cond.initialized y.cls).before a0 Z = true) (wc : (Cond.code y cb cm cr).before a0 Z = true)
    (hI : ∀ vm h, Hp Z EL D vm h → Ins Z h a K true) (hC : Con Z EL y cb cm cr rm (.ref a :: as) D Q') (hps : parseMethodDescriptor y.desc = some ⟨ps, r⟩) (hlen : as.length = ps.length) (hst : as.reverse ++ .ref a :: rest = st) (hls : ls.size = ml) (hW : (rest.map fun v => v.category).sum = Wt) (hr : Rooms R rm Wt cm k n)
    (next : ∀ v D', Q' v D' → W Z EL R own nm bytes ml ret Q D' (k + rm.cells) (n + rm.slots) (pc + 3) ls (v.toList ++ rest)) : W Z EL R own nm bytes ml ret Q D k n pc ls st := by
  intro p l e s m args below meth c T vm0 k0 locs cells slots A
  obtain ⟨X, hS, hk0, hx, hby, hml, hown, hZ, r1, r2, r3, hN, hH, hc, hl, hE, hNI⟩ := id A
  subst hst
  exact W.afterCall A (superBackS (s := s.setVm vm0) X hx hZ hown wl wsm wi wsu hy1 (conBack (Wt := Wt) (len := 3) hC hZ wc wz hE hr.1 hr.2.1) rfl (hI _ _ hH) (g := mkF m pc ls (as.reverse ++ .ref a :: rest)) rfl (by rw [hml]; exact hls) wc (lenOf hps hlen) rfl (by show 2 * 0 + _ ≤ _; omega) (hb hby hd) (fun _ _ => ⟨rfl, hH, by show cells + _ ≤ _; have := hr.2.2.1; omega, by show slots + _ ≤ _; have := hr.2.2.2; omega⟩)) next
theorem W.callP {ps : List FieldType} {r : Option FieldType} {a : Addr} {K C : String} (Wt : Nat) (rest : List Value) (hd : decode bytes pc = .ok (.invokevirtual idx, 3)) (wl : (Cond.methodLink own idx y).before a0 Z = true) (wi : (Cond.instanceMethod y).before a0 Z = true) (wse : (Cond.selects C y y).before a0 Z = true) (wp : (Cond.privateMethod y).before a0 Z = true) (wz : (Cond.initialized y.cls).before a0 Z = true) (wc : (Cond.code y cb cm cr).before a0 Z = true)
    (hI : ∀ vm h, Hp Z EL D vm h → Exa Z h a K) (hC : Con Z EL y cb cm cr rm (.ref a :: as) D Q') (hy : okCls y) (hps : parseMethodDescriptor y.desc = some ⟨ps, r⟩) (hlen : as.length = ps.length) (hst : as.reverse ++ .ref a :: rest = st) (hls : ls.size = ml) (hW : (rest.map fun v => v.category).sum = Wt) (hr : Rooms R rm Wt cm k n)
    (next : ∀ v D', Q' v D' → W Z EL R own nm bytes ml ret Q D' (k + rm.cells) (n + rm.slots) (pc + 3) ls (v.toList ++ rest)) : W Z EL R own nm bytes ml ret Q D k n pc ls st := by
  intro p l e s m args below meth c T vm0 k0 locs cells slots A
  obtain ⟨X, hS, hk0, hx, hby, hml, hown, hZ, r1, r2, r3, hN, hH, hc, hl, hE, hNI⟩ := id A
  subst hst
  obtain ⟨cell, hcell, hobj⟩ := (hI _ _ hH).cell
  have hinst : (Cond.instanceMethod y).before args (s.setVm vm0) = true := mvT hZ wi
  have hpriv : (s.setVm vm0).PrivateAt y := Cond.privateMethod_at (args := args) (mvP hZ wp)
  obtain ⟨mk, _, hnamed, -⟩ := Cond.instanceMethod_spec hinst
  obtain ⟨kr, hkr, hni⟩ := notFace_of_selects (args := args) (mvT hZ wse) mk hnamed
  have hsel := selects_self_of_private (findClass_of_methodNamed hnamed) hkr hni hpriv hinst hy
  exact W.afterCall A (X.privateBackS hx hown (mvT hZ wl) hinst hsel hpriv (mvT hZ wc) hy (conBack (Wt := Wt) (len := 3) hC hZ wc wz hE hr.1 hr.2.1) (g := mkF m pc ls (as.reverse ++ .ref a :: rest)) rfl (by rw [hml]; exact hls) (Steps.refl _) hcell hobj (lenOf hps hlen) rfl (by show 2 * 0 + _ ≤ _; omega) (hb hby hd) (fun _ _ => ⟨rfl, hH, by show cells + _ ≤ _; have := hr.2.2.1; omega, by show slots + _ ≤ _; have := hr.2.2.2; omega⟩)) next
end Calls
end Jvm.Wk
namespace Jvm.Wk
open Jvm Jvm.ClassFile Sem Op Lib Bundle Jvm.Free Jvm.Stand Jvm.LawKit Jvm.RoadKit
abbrev vi (x : Int32) : Value := .int x
abbrev vr (a : Addr) : Value := .ref a
abbrev uu : Slot := .unset
abbrev ar (ad : String) (ty : FieldType) (vs : List Value) : Desc := .inr (ad, ty, vs)
theorem m0 {α : Type} {x : α} {l : List α} : x ∈ x :: l := List.mem_cons_self ..
theorem mS {α : Type} {x y : α} {l : List α} (h : x ∈ l) : x ∈ y :: l := List.mem_cons_of_mem _ h
theorem m1 {α : Type} {x y1 : α} {l : List α} : x ∈ y1 :: x :: l := mS m0
theorem m2 {α : Type} {x y1 y2 : α} {l : List α} : x ∈ y1 :: y2 :: x :: l := mS m1
theorem m3 {α : Type} {x y1 y2 y3 : α} {l : List α} : x ∈ y1 :: y2 :: y3 :: x :: l := mS m2
theorem m4 {α : Type} {x y1 y2 y3 y4 : α} {l : List α} : x ∈ y1 :: y2 :: y3 :: y4 :: x :: l := mS m3
theorem m5 {α : Type} {x y1 y2 y3 y4 y5 : α} {l : List α} : x ∈ y1 :: y2 :: y3 :: y4 :: y5 :: x :: l := mS m4
theorem m6 {α : Type} {x y1 y2 y3 y4 y5 y6 : α} {l : List α} : x ∈ y1 :: y2 :: y3 :: y4 :: y5 :: y6 :: x :: l := mS m5
theorem m7 {α : Type} {x y1 y2 y3 y4 y5 y6 y7 : α} {l : List α} : x ∈ y1 :: y2 :: y3 :: y4 :: y5 :: y6 :: y7 :: x :: l := mS m6
theorem m8 {α : Type} {x y1 y2 y3 y4 y5 y6 y7 y8 : α} {l : List α} : x ∈ y1 :: y2 :: y3 :: y4 :: y5 :: y6 :: y7 :: y8 :: x :: l := mS m7
theorem m9 {α : Type} {x y1 y2 y3 y4 y5 y6 y7 y8 y9 : α} {l : List α} : x ∈ y1 :: y2 :: y3 :: y4 :: y5 :: y6 :: y7 :: y8 :: y9 :: x :: l := mS m8
theorem m10 {α : Type} {x y1 y2 y3 y4 y5 y6 y7 y8 y9 y10 : α} {l : List α} : x ∈ y1 :: y2 :: y3 :: y4 :: y5 :: y6 :: y7 :: y8 :: y9 :: y10 :: x :: l := mS m9
theorem m11 {α : Type} {x y1 y2 y3 y4 y5 y6 y7 y8 y9 y10 y11 : α} {l : List α} : x ∈ y1 :: y2 :: y3 :: y4 :: y5 :: y6 :: y7 :: y8 :: y9 :: y10 :: y11 :: x :: l := mS m10
theorem i_lt {x y : Int32} (h : x < y) : x.toInt < y.toInt := Int32.lt_iff_toInt_lt.mp h
theorem i_nlt {x y : Int32} (h : ¬ x < y) : y.toInt ≤ x.toInt := by rw [Int32.lt_iff_toInt_lt] at h; omega
theorem i_eq {x y : Int32} (h : x = y) : x.toInt = y.toInt := by rw [h]
theorem i_ne {x y : Int32} (h : ¬ x = y) : x.toInt ≠ y.toInt := fun e => h (Int32.toInt_inj.mp e)
theorem eqI {x y : Int32} (h : x.toInt = y.toInt) : x = y := Int32.toInt_inj.mp h
section C
variable {x y : Int32}
theorem y_eq (h : x.toInt = y.toInt) : Cd .eq x y := eqI h
theorem n_eq (h : x.toInt ≠ y.toInt) : ¬ Cd .eq x y := fun e => h (i_eq e)
theorem y_ne (h : x.toInt ≠ y.toInt) : Cd .ne x y := fun e => h (i_eq e)
theorem n_ne (h : x.toInt = y.toInt) : ¬ Cd .ne x y := fun e => e (eqI h)
theorem y_lt (h : x.toInt < y.toInt) : Cd .lt x y := Int32.lt_iff_toInt_lt.mpr h
theorem n_lt (h : y.toInt ≤ x.toInt) : ¬ Cd .lt x y := fun e => by have := i_lt e; omega
theorem y_ge (h : y.toInt ≤ x.toInt) : Cd .ge x y := fun e => by have := i_lt e; omega
theorem n_ge (h : x.toInt < y.toInt) : ¬ Cd .ge x y := fun e => e (Int32.lt_iff_toInt_lt.mpr h)
theorem y_gt (h : y.toInt < x.toInt) : Cd .gt x y := Int32.lt_iff_toInt_lt.mpr h
theorem n_gt (h : x.toInt ≤ y.toInt) : ¬ Cd .gt x y := fun e => by have := i_lt e; omega
theorem y_le (h : x.toInt ≤ y.toInt) : Cd .le x y := fun e => by have := i_lt e; omega
theorem t_eq (h : Cd .eq x y) : x.toInt = y.toInt := i_eq h
theorem f_eq (h : ¬ Cd .eq x y) : x.toInt ≠ y.toInt := i_ne h
theorem t_ne (h : Cd .ne x y) : x.toInt ≠ y.toInt := i_ne h
theorem f_ne (h : ¬ Cd .ne x y) : x.toInt = y.toInt := i_eq (Classical.not_not.mp h)
theorem t_lt (h : Cd .lt x y) : x.toInt < y.toInt := i_lt h
theorem f_lt (h : ¬ Cd .lt x y) : y.toInt ≤ x.toInt := i_nlt h
theorem t_ge (h : Cd .ge x y) : y.toInt ≤ x.toInt := i_nlt h
theorem f_ge (h : ¬ Cd .ge x y) : x.toInt < y.toInt := i_lt (Classical.not_not.mp h)
theorem t_gt (h : Cd .gt x y) : y.toInt < x.toInt := i_lt h
theorem f_gt (h : ¬ Cd .gt x y) : x.toInt ≤ y.toInt := i_nlt h
theorem t_le (h : Cd .le x y) : x.toInt ≤ y.toInt := i_nlt h
theorem f_le (h : ¬ Cd .le x y) : y.toInt < x.toInt := i_lt (Classical.not_not.mp h)
end C
theorem a_add (x y : Int32) : ((x + y).toInt - (x.toInt + y.toInt)) % 4294967296 = 0 ∧ -2147483648 ≤ (x + y).toInt ∧ (x + y).toInt < 2147483648 := ⟨c_iadd x y, rng32 _⟩
theorem a_sub (x y : Int32) : ((x - y).toInt - (x.toInt - y.toInt)) % 4294967296 = 0 ∧ -2147483648 ≤ (x - y).toInt ∧ (x - y).toInt < 2147483648 := ⟨c_isub x y, rng32 _⟩
theorem a_and (x m : Int32) (k : Nat) (M : Int) (hk : k ≤ 31) (hm : m.toBitVec.toNat = 2 ^ k - 1) (hM : ((2 ^ k : Nat) : Int) = M) : (x &&& m).toInt = x.toInt % M := by rw [← hM]; exact c_mask x m k hk hm
theorem a_rem (x y : Int32) (d : Int) (hy : y.toInt = d) (hd : 0 < d) : (0 ≤ x.toInt → (x % y).toInt = x.toInt % d) ∧ (x.toInt < 0 → (x % y).toInt = -((-x.toInt) % d)) := c_irem x y d hy
theorem a_i2c (x : Int32) : (x.toUInt32.toUInt16.toUInt32.toInt32.toInt - x.toInt) % 65536 = 0 ∧ 0 ≤ x.toUInt32.toUInt16.toUInt32.toInt32.toInt ∧ x.toUInt32.toUInt16.toUInt32.toInt32.toInt < 65536 := c_i2c x
theorem a_i2b (x : Int32) : (x.toInt8.toInt32.toInt - x.toInt) % 256 = 0 ∧ -128 ≤ x.toInt8.toInt32.toInt ∧ x.toInt8.toInt32.toInt < 128 := c_i2b x
theorem z_i2c {x : Int32} (h : 0 ≤ x.toInt ∧ x.toInt ≤ 65535) : x.toUInt32.toUInt16.toUInt32.toInt32 = x := eqI (by have := a_i2c x; omega)
theorem z_i2b {x : Int32} (h : -128 ≤ x.toInt ∧ x.toInt ≤ 127) : x.toInt8.toInt32 = x := eqI (by have := a_i2b x; omega)
theorem z_and {x m : Int32} (k : Nat) (M : Int) (hk : k ≤ 31) (hm : m.toBitVec.toNat = 2 ^ k - 1) (hM : ((2 ^ k : Nat) : Int) = M) (h : 0 ≤ x.toInt ∧ x.toInt < M) : x &&& m = x := eqI (by have := a_and x m k M hk hm hM; rw [this]; exact Int.emod_eq_of_lt h.1 h.2)
theorem z_narC {x : Int32} (h : 0 ≤ x.toInt ∧ x.toInt ≤ 65535) : nar .char x = x := z_i2c h
theorem z_narB {x : Int32} (h : -128 ≤ x.toInt ∧ x.toInt ≤ 127) : nar .byte x = x := z_i2b h
theorem nw_char {x : Int32} (h : 0 ≤ x.toInt ∧ x.toInt ≤ 65535) : narrow .char (.int x) = .int x := by have e := z_i2c h; have := XT.narrow_c x; rw [e] at this; exact this
theorem nw_byte {x : Int32} (h : -128 ≤ x.toInt ∧ x.toInt ≤ 127) : narrow .byte (.int x) = .int x := by have e := z_i2b h; have := XT.narrow_b x; rw [e] at this; exact this
theorem nw_bool {x : Int32} (h : 0 ≤ x.toInt ∧ x.toInt ≤ 1) : narrow .boolean (.int x) = .int x := by
  have : x = 0 ∨ x = 1 := by
    rcases (by omega : x.toInt = 0 ∨ x.toInt = 1) with q | q
    · exact Or.inl (eqI q)
    · exact Or.inr (eqI q)
  rcases this with rfl | rfl <;> rfl
theorem ft_byte {x : Int32} (h : -128 ≤ x.toInt ∧ x.toInt ≤ 127) : fits .byte (.int x) = true := by have := fits_nar_byte x; rw [z_i2b h] at this; exact this
end Jvm.Wk
namespace Jvm.Wk
open Jvm Jvm.ClassFile Sem Op Lib Bundle Jvm.Free Jvm.Stand Jvm.LawKit Jvm.RoadKit
section Walk
variable {Z : State} {EL : Bool × List (String × Nat)} {R : Room} {own nm : String} {bytes : ByteArray} {ml : Nat} {ret : Option FieldType} {Q : Option Value → List Ent → Prop} {D D' : List Ent} {k n pc : Nat} {ls ls' : Array Slot} {st : List Value} {a0 : Array Value}
theorem W.dropAt (i : Nat) (hD : D.eraseIdx i = D') (next : W Z EL R own nm bytes ml ret Q D' k n pc ls st) : W Z EL R own nm bytes ml ret Q D k n pc ls st := W.heap (fun _ _ H => hD ▸ H.sub (List.eraseIdx_sublist ..)) next
theorem Hp.ne {i j : Nat} {x y : Ent} {vm : Vm} {h : Heap} (H : Hp Z EL D vm h) (hij : i ≠ j) (hi : D[i]? = some x) (hj : D[j]? = some y) (w : x.2.1 = true ∨ y.2.1 = true) : x.1 ≠ y.1 := by
  have P := H.2.2.2
  obtain ⟨i1, rfl⟩ := List.getElem?_eq_some_iff.mp hi
  obtain ⟨j1, rfl⟩ := List.getElem?_eq_some_iff.mp hj
  rw [List.pairwise_iff_getElem] at P
  rcases Nat.lt_or_gt_of_ne hij with q | q
  · exact P i j i1 j1 q w
  · exact (P j i j1 i1 q w.symm).symm
theorem wS_of (h1 : (Cond.initialized "java/lang/String").before a0 Z = true) (h2 : (Cond.instantiable "java/lang/String" 4).before a0 Z = true) (h3 : (Cond.arrayClass .byte).before a0 Z = true) (h4 : (Cond.laysFinal "java/lang/String" "java/lang/String" "value" "[B").before a0 Z = true) (h5 : (Cond.laysFinal "java/lang/String" "java/lang/String" "coder" "B").before a0 Z = true) (h6 : (Cond.soleField "java/lang/String" "value").before a0 Z = true) (h7 : (Cond.soleField "java/lang/String" "coder").before a0 Z = true) :
    ∀ a ∈ Bundle.stringAtoms, a.before a0 Z = true := fun a ha => by
  simp only [Bundle.stringAtoms, Bundle.sN, List.mem_cons, List.not_mem_nil, or_false] at ha
  rcases ha with rfl | rfl | rfl | rfl | rfl | rfl | rfl <;> assumption
theorem W.iaddK {x y : Int32} (z : Int32) (hd : decode bytes pc = .ok (.iadd, 1)) (hz : x + y = z) (next : W Z EL R own nm bytes ml ret Q D k n (pc + 1) ls (.int z :: st)) : W Z EL R own nm bytes ml ret Q D k n pc ls (.int y :: .int x :: st) := W.iadd hd (hz ▸ next)
theorem W.isubK {x y : Int32} (z : Int32) (hd : decode bytes pc = .ok (.isub, 1)) (hz : x - y = z) (next : W Z EL R own nm bytes ml ret Q D k n (pc + 1) ls (.int z :: st)) : W Z EL R own nm bytes ml ret Q D k n pc ls (.int y :: .int x :: st) := W.isub hd (hz ▸ next)
theorem W.iandK {x y : Int32} (z : Int32) (hd : decode bytes pc = .ok (.iand, 1)) (hz : x &&& y = z) (next : W Z EL R own nm bytes ml ret Q D k n (pc + 1) ls (.int z :: st)) : W Z EL R own nm bytes ml ret Q D k n pc ls (.int y :: .int x :: st) := W.iand hd (hz ▸ next)
theorem W.ishlK {x y : Int32} (z : Int32) (hd : decode bytes pc = .ok (.ishl, 1)) (hz : x <<< (y &&& 31) = z) (next : W Z EL R own nm bytes ml ret Q D k n (pc + 1) ls (.int z :: st)) : W Z EL R own nm bytes ml ret Q D k n pc ls (.int y :: .int x :: st) := W.ishl hd (hz ▸ next)
theorem W.ishrK {x y : Int32} (z : Int32) (hd : decode bytes pc = .ok (.ishr, 1)) (hz : x >>> (y &&& 31) = z) (next : W Z EL R own nm bytes ml ret Q D k n (pc + 1) ls (.int z :: st)) : W Z EL R own nm bytes ml ret Q D k n pc ls (.int y :: .int x :: st) := W.ishr hd (hz ▸ next)
theorem W.iushrK {x y : Int32} (z : Int32) (hd : decode bytes pc = .ok (.iushr, 1)) (hz : XT.ushr x y = z) (next : W Z EL R own nm bytes ml ret Q D k n (pc + 1) ls (.int z :: st)) : W Z EL R own nm bytes ml ret Q D k n pc ls (.int y :: .int x :: st) := W.iushr hd (hz ▸ next)
theorem W.i2bK {x : Int32} (z : Int32) (hd : decode bytes pc = .ok (.i2b, 1)) (hz : x.toInt8.toInt32 = z) (next : W Z EL R own nm bytes ml ret Q D k n (pc + 1) ls (.int z :: st)) : W Z EL R own nm bytes ml ret Q D k n pc ls (.int x :: st) := W.i2b hd (hz ▸ next)
theorem W.i2cK {x : Int32} (z : Int32) (hd : decode bytes pc = .ok (.i2c, 1)) (hz : x.toUInt32.toUInt16.toUInt32.toInt32 = z) (next : W Z EL R own nm bytes ml ret Q D k n (pc + 1) ls (.int z :: st)) : W Z EL R own nm bytes ml ret Q D k n pc ls (.int x :: st) := W.i2c hd (hz ▸ next)
theorem W.iincK {i : Nat} {cst : Int} {x : Int32} (v r : Int32) (hd : decode bytes pc = .ok (.iinc i cst, 3)) (hv : Int32.ofInt cst = v) (hl : ls[i]? = some (.val (.int x))) (hr : x + v = r) (hl' : storeLocals ls i (.int r) = some ls') (next : W Z EL R own nm bytes ml ret Q D k n (pc + 3) ls' st) : W Z EL R own nm bytes ml ret Q D k n pc ls st :=
  W.iinc v hd hv hl (hr ▸ hl') next
end Walk
section L
variable {x y : Int64}
end L
def si (Z : State) (C n d : String) : Int32 := match (Term.static C n d).eval #[] Z none [] Z with | some (.int x) => x | _ => 0
def sv (Z : State) (C n d : String) : Value := match (Term.static C n d).eval #[] Z none [] Z with | some v => v | none => .null
theorem eval_static {Z : State} {a b : Array Value} {C n d : String} : (Term.static C n d).eval a Z none [] Z = (Term.static C n d).eval b Z none [] Z := rfl
theorem si_of {Z : State} {C n d : String} {x : Int32} {a : Array Value} (h : (Term.static C n d).eval a Z none [] Z = some (.int x)) : si Z C n d = x := by
  unfold si; rw [eval_static (b := a), h]
theorem sv_of {Z : State} {C n d : String} {x : Value} {a : Array Value} (h : (Term.static C n d).eval a Z none [] Z = some x) : sv Z C n d = x := by
  unfold sv; rw [eval_static (b := a), h]
end Jvm.Wk
namespace Jvm.Wk
open Jvm Jvm.ClassFile Sem Op Lib Bundle Jvm.Free Jvm.Stand Jvm.LawKit Jvm.RoadKit
section Natives
variable {Z : State} {EL : Bool × List (String × Nat)} {R : Room} {own nm : String} {bytes : ByteArray} {ml : Nat} {ret : Option FieldType} {Q : Option Value → List Ent → Prop} {D D' : List Ent} {k n pc : Nat} {ls ls' : Array Slot} {st : List Value} {a0 : Array Value} {idx : Nat}
theorem range_get (vs : List Value) (s1 n1 : Nat) (dv : Value) (h : s1 + n1 ≤ vs.length) : (vs.drop s1).take n1 = (List.range n1).map fun i => vs.getD (s1 + i) dv := by
  apply List.ext_getElem?
  intro i
  by_cases hi : i < n1
  · rw [List.getElem?_take, if_pos hi, List.getElem?_drop, List.getElem?_map, List.getElem?_range hi]
    have : s1 + i < vs.length := by omega
    simp [this]
  · rw [List.getElem?_take, if_neg hi, List.getElem?_map, List.getElem?_eq_none (by simpa using Nat.le_of_not_lt hi)]; rfl
theorem W.cpy {a b : Addr} {wa : Bool} {ada adb : String} {ty : FieldType} {vs vd : List Value} {sp dp nn : Int32} (i s1 d1 n1 Wt : Nat) (hd : decode bytes pc = .ok (.invokestatic idx, 3)) (w1 : (Cond.methodLink own idx Jvm.Stand.acN).before a0 Z = true) (w2 : (Cond.native Jvm.Stand.acN).before a0 Z = true) (w3 : (Cond.static Jvm.Stand.acN).before a0 Z = true) (w4 : (Cond.initialized "java/lang/System").before a0 Z = true)
    (hm : (a, wa, .inr (ada, ty, vs)) ∈ D) (hi : D[i]? = some (b, true, .inr (adb, ty, vd))) (hty : refKind ty = false) (hs : Idx sp s1) (hdp : Idx dp d1) (hnn : Idx nn n1) (h45 : s1 + n1 ≤ vs.length ∧ d1 + n1 ≤ vd.length) (hls : ls.size = ml) (hW : (st.map fun v => v.category).sum = Wt) (hr : 1 ≤ R.frames ∧ Wt + (nativeFrameWords "java/lang/System" "arraycopy" 5 + 11) ≤ R.locals)
    (hD : D.set i (b, true, .inr (adb, ty, vd.take d1 ++ (vs.drop s1).take n1 ++ vd.drop (d1 + n1))) = D') (next : W Z EL R own nm bytes ml ret Q D' k n (pc + 3) ls st) : W Z EL R own nm bytes ml ret Q D k n pc ls (.int nn :: .int dp :: .ref b :: .int sp :: .ref a :: st) := by
  intro p l e s m args below meth c T vm0 k0 locs cells slots A
  obtain ⟨X, hS, hk0, hx, hby, hml, hown, hZ, r1, r2, r3, hN, hH, hc, hl, hE, hNI⟩ := A
  subst hD
  have SA := (hH.2.2.1 _ hm).1
  obtain ⟨SB, g⟩ := hH.2.2.1 _ (List.mem_of_getElem? hi)
  obtain ⟨g1, g2, g3⟩ := g rfl
  obtain ⟨ka, FA⟩ := Sat.arv .null SA
  obtain ⟨kb, FB⟩ := Sat.arv .null SB
  have va : (Nat.toInt32 vs.length).toNatClampNeg = vs.length := by obtain ⟨_, _, _, q, _⟩ := SA; exact (Idx.of_nat q).2
  have vb : (Nat.toInt32 vd.length).toNatClampNeg = vd.length := by obtain ⟨_, _, _, q, _⟩ := SB; exact (Idx.of_nat q).2
  obtain ⟨T', h', L, X', e', hN', K, F', stp⟩ := cpA X hx hZ hown w1 w2 w3 w4 rfl FA FB (Or.inl ⟨rfl, hty⟩) hs.1 hdp.1 hnn.1 (by rw [hs.2, hnn.2, va]; exact h45.1) (by rw [hdp.2, hnn.2, vb]; exact h45.2) rfl (by rw [hdp.2, hnn.2]; exact h45.2) hN g1
    (g := mkF m pc ls (.int nn :: .int dp :: .ref b :: .int sp :: .ref a :: st)) rfl (by rw [hml]; exact hls) rfl (hb hby hd) hr.1 (W := Wt) (by show 2 * 0 + _ ≤ _; omega) hr.2
  rw [hs.2, hdp.2, hnn.2, ← range_get vs s1 n1 .null h45.1] at F'
  have S' : Sat Z h' b (.inr (adb, ty, vd.take d1 ++ (vs.drop s1).take n1 ++ vd.drop (d1 + n1))) := Sat.of_arv F' (by rw [vb]; simp; omega) fun q => by
    obtain ⟨_, _, _, _, _, r⟩ := SB; exact (r q).keep K
  have H' := hH.keepSet hi K S' trivial
  obtain ⟨s₂, o, q1, r⟩ := next p l e s m args below meth c T' vm0 k0 L cells slots ⟨X', hS, by rw [e']; exact Nat.le_trans hk0 K.1, hx, hby, hml, hown, hZ, r1, r2, r3, hN', by rw [e']; exact H', hc, hl, hE, hNI⟩
  exact ⟨s₂, o, stp _ q1, r⟩
end Natives
end Jvm.Wk
namespace Jvm.Wk
open Jvm Jvm.ClassFile Sem Op Lib Bundle Jvm.Free Jvm.Stand Jvm.LawKit Jvm.RoadKit
section Start
variable {s : State} {args : Array Value} {C n d C' n' d' K : String}
theorem sf_int (hi : (Cond.initializedFor C n d).before args s = true) (h : (Cond.isInt (.static C n d)).before args s = true) : Sta s s.heap C n d (.int (si s C n d)) := by
  obtain ⟨x, e⟩ := is_v (Cond.before_iff.mp h)
  rw [si_of e]; exact Sta.start e (Or.inl hi)
theorem sf_nz (h : (Cond.isInt (.static C n d)).before args s = true) (hz : (Cond.not (.eq (.static C n d) (.int 0))).before args s = true) : (si s C n d).toInt ≠ 0 := by
  obtain ⟨x, e⟩ := is_v (Cond.before_iff.mp h)
  rw [si_of e]
  intro q
  have : x = 0 := eqI q
  subst this
  have h2 := not_v (Cond.before_iff.mp hz)
  rw [eq_i e (Term.int_eval 0) rfl] at h2
  cases h2
theorem sf_isref (h : (Cond.isRef (.static C n d)).before args s = true) : (sv s C n d).isRef = true := by
  obtain ⟨x, e, r⟩ := isR_v (Cond.before_iff.mp h)
  rw [sv_of e]; exact r
theorem sf_ref (hi : (Cond.initializedFor C n d).before args s = true) (h : (Cond.isRef (.static C n d)).before args s = true) : Sta s s.heap C n d (sv s C n d) := by
  obtain ⟨x, e, r⟩ := isR_v (Cond.before_iff.mp h)
  rw [sv_of e]; exact Sta.start e (Or.inl hi)
end Start
theorem CHv.nil {Z : State} {vm : Vm} {h : Heap} : CHv Z [] vm h := fun p hp => by cases hp
theorem Hp.start {Z : State} {EL : Bool × List (String × Nat)} (H : CHv Z EL.2 Z.vm Z.heap) : Hp Z EL [] Z.vm Z.heap := ⟨⟨Nat.le_refl _, fun _ _ q => q⟩, H, fun x hx => (by cases hx), List.Pairwise.nil⟩
end Jvm.Wk
namespace Jvm.Wk
open Jvm Jvm.ClassFile Sem Op Lib Bundle Jvm.Free Jvm.Stand Jvm.LawKit Jvm.RoadKit
theorem Con.mono {Z : State} {EL : Bool × List (String × Nat)} {y : MethodName} {bytes : ByteArray} {maxL : Nat} {ret : Option FieldType} {rm : Room} {as : List Value} {D : List Ent} {Q Q' : Option Value → List Ent → Prop} (h : Con Z EL y bytes maxL ret rm as D Q) (q : ∀ v D', Q v D' → Q' v D') : Con Z EL y bytes maxL ret rm as D Q' := by
  intro hE l ws
  refine MetFree.mono (h hE l ws) (fun _ _ p => p) (fun _ _ _ _ _ p => p) ?_
  intro a s o t _ r
  obtain ⟨v, L, h1, h2, ⟨D', h3, h4⟩, h5⟩ := r
  exact ⟨v, L, h1, h2, ⟨D', h3, q v D' h4⟩, h5⟩
end Jvm.Wk
namespace Jvm.Wk
open Jvm Jvm.ClassFile Sem Op Lib Bundle Jvm.Free Jvm.Stand Jvm.LawKit Jvm.RoadKit
theorem eq_int_val {s : State} {args : Array Value} {t : Term} {c : Int32} (h : (Cond.eq t (.int c)).value args s none s [] = some true) : t.eval args s none [] s = some (.int c) := by
  obtain ⟨x, y, e1, e2, -, -⟩ := cmp_v (Or.inl h)
  have c1 : y = .int c := Option.some.inj (e2.symm.trans (Term.int_eval c))
  subst c1
  cases x <;> simp [Cond.value, e1, e2] at h
  rw [e1, h]
end Jvm.Wk
namespace Jvm.Wk
open Jvm Jvm.ClassFile Sem Op Lib Bundle Jvm.Free Jvm.Stand Jvm.LawKit Jvm.RoadKit
def ta (Z : State) (t : Term) : Addr := match t.eval #[] Z none [] Z with | some (.ref a) => a | _ => 0
section Old
variable {s : State} {args : Array Value} {t : Term} {O f d K : String} {EL : Bool × List (String × Nat)} {D : List Ent} {a : Addr} {de : Desc}
theorem ta_of (e : t.eval #[] s none [] s = t.eval args s none [] s) (h : t.eval args s none [] s = some (.ref a)) : ta s t = a := by
  unfold ta; rw [e, h]
theorem t_exa (e : t.eval #[] s none [] s = t.eval args s none [] s) (h : (Cond.exactly t K).value args s none s [] = some true) : Exa s s.heap (ta s t) K := by
  obtain ⟨x, hx⟩ := exa_v h
  rw [ta_of e hx]; exact Exa.start hx h
theorem t_sta {C n dd : String} (hi : (Cond.initializedFor C n dd).before args s = true ∨ ((Cond.initialized C).before args s = true ∧ (Cond.laysStatic C n dd).before args s = true)) (h : ∃ x, (Term.static C n dd).eval args s none [] s = some (.ref x)) : Sta s s.heap C n dd (.ref (ta s (.static C n dd))) := by
  obtain ⟨x, hx⟩ := h
  rw [ta_of (args := args) (t := .static C n dd) rfl hx]; exact Sta.start hx hi
theorem t_fldI {c : Int32} (e : t.eval #[] s none [] s = t.eval args s none [] s) (h : (Cond.eq (.field t O f d) (.int c)).value args s none s [] = some true) : Fld s s.heap (ta s t) O f d (.int c) := by
  have h1 := eq_int_val h
  obtain ⟨x, hx⟩ := fld_v h1
  rw [ta_of e hx]
  exact Fld.start ((fld_at hx).symm.trans h1)
theorem t_fldR (e : t.eval #[] s none [] s = t.eval args s none [] s) (h : ∃ b, (Term.field t O f d).eval args s none [] s = some (.ref b)) : Fld s s.heap (ta s t) O f d (.ref (ta s (.field t O f d))) := by
  obtain ⟨b, h1⟩ := h
  obtain ⟨x, hx⟩ := fld_v h1
  have e2 : (Term.field t O f d).eval #[] s none [] s = (Term.field t O f d).eval args s none [] s := by
    rw [fld_at hx]; rw [hx] at e; rw [fld_at e]
  rw [ta_of e hx, ta_of e2 h1]
  exact Fld.start ((fld_at hx).symm.trans h1)
def Elems (s : State) (args : Array Value) (t : Term) : Nat → List Value → Prop
  | _, [] => True
  | i, v :: r => (Term.elem t (.int (Nat.toInt32 i))).eval args s none [] s = some v ∧ Elems s args t (i + 1) r
theorem Elems.get : ∀ {vs : List Value} {i : Nat}, Elems s args t i vs → ∀ {j : Nat} {v : Value}, vs[j]? = some v → (Term.elem t (.int (Nat.toInt32 (i + j)))).eval args s none [] s = some v
  | [], _, _, _, _, q => by simp at q
  | w :: r, i, H, 0, v, q => by simp at q; subst q; exact H.1
  | w :: r, i, H, j + 1, v, q => by
    have := Elems.get H.2 (j := j) (v := v) (by simpa using q)
    rw [show i + (j + 1) = i + 1 + j by omega]; exact this
theorem t_arr {ty : FieldType} {n : Int32} {vs : List Value} (e : t.eval #[] s none [] s = t.eval args s none [] s) (h : (Cond.arrayOf t ty).value args s none s [] = some true) (hl : (Cond.eq (.length t) (.int n)).value args s none s [] = some true) (hn : Idx n vs.length) (he : Elems s args t 0 vs) (hf : ∀ v ∈ vs, fits ty v = true) : Sat s s.heap (ta s t) (.inr ("", ty, vs)) := by
  obtain ⟨x, hx⟩ := arr_v h
  rw [ta_of e hx]
  obtain ⟨c, A⟩ := Arr.start hx h
  have hlen := eq_int_val hl
  have hat : s.arrayAt? x = some c := A.fin (Vm.Alike.refl _)
  have h31 := SBG.length_lt hx hat hlen
  have hsz : c.slots.size = vs.length := by
    rw [len_f hx hat h31] at hlen
    have q : c.slots.size.toInt32 = n := by injection hlen with q; injection q
    have q1 : (c.slots.size.toInt32).toInt = c.slots.size := len_toInt h31
    have := hn.toInt
    rw [← q, q1] at this; omega
  have hv31 : vs.length < 2147483648 := by omega
  refine ⟨c, A, ?_, hv31, hf, fun q => absurd rfl q⟩
  apply Array.ext_getElem?
  intro i
  by_cases hi : i < vs.length
  · have g := Elems.get he (j := i) (v := vs[i]) (by simp [hi])
    rw [Nat.zero_add] at g
    have r := (elem_in g hx (Term.int_eval _) A.1).2
    rw [(Idx.of_nat (by omega : i < 2147483648)).2] at r
    rw [r]; simp [hi]
  · rw [Array.getElem?_eq_none (by omega), Array.getElem?_eq_none (by simpa using Nat.le_of_not_lt hi)]
theorem Hp.readOld (H : Hp s EL D s.vm s.heap) (S : Sat s s.heap a de) : Hp s EL ((a, false, de) :: D) s.vm s.heap := H.read S fun x _ q e => by
  exact Nat.lt_irrefl _ (Nat.lt_of_lt_of_le S.lt (e ▸ q))
end Old
end Jvm.Wk
namespace Jvm.Wk
theorem allF {P : Fd → Prop} {f : Fd} {L : List Fd} (h : P f) (r : ∀ g ∈ L, P g) : ∀ g ∈ f :: L, P g := fun g q => (List.mem_cons.mp q).elim (fun e => e ▸ h) (r g)
end Jvm.Wk
namespace Jvm.Wk
open Jvm Jvm.ClassFile Sem Op Lib Bundle Jvm.Free Jvm.Stand Jvm.LawKit Jvm.RoadKit
end Jvm.Wk
namespace Jvm.Wk
open Jvm Jvm.ClassFile Sem Op Lib Bundle Jvm.Free Jvm.Stand Jvm.LawKit Jvm.RoadKit
end Jvm.Wk
namespace Jvm.Wk
open Jvm Jvm.ClassFile Sem Op Lib Bundle Jvm.Free Jvm.Stand Jvm.LawKit Jvm.RoadKit
end Jvm.Wk

namespace Jvm.Pilot.@@N@@
open Jvm Jvm.ClassFile Sem Op Lib Jvm.Free Jvm.Stand Jvm.LawKit Jvm.RoadKit Bundle Jvm.Wk Jvm.Pilot.@@N@@.Jvm.D
abbrev EL : Bool × List (String × Nat) := (false, consts_1)
def csv (Z : State) : Int32 := si Z "java/lang/String" "COMPACT_STRINGS" "Z"
def sfv (Z : State) : Value := sv Z "jdk/internal/util/Preconditions" "SIOOBE_FORMATTER" "Ljava/util/function/BiFunction;"
def og1 (Z : State) : Addr := ta Z (Jvm.Term.static "com/example/cunctator/cunctator/JobKey" "TOPIC_RULE" "Lcom/example/cunctator/cunctator/JobKey$NameRule;")
def og2 (Z : State) : Addr := ta Z (Jvm.Term.field (Jvm.Term.static "com/example/cunctator/cunctator/JobKey" "TOPIC_RULE" "Lcom/example/cunctator/cunctator/JobKey$NameRule;") "com/example/cunctator/cunctator/JobKey$NameRule" "symbols" "Ljava/lang/String;")
def og3 (Z : State) : Addr := ta Z (Jvm.Term.field (Jvm.Term.field (Jvm.Term.static "com/example/cunctator/cunctator/JobKey" "TOPIC_RULE" "Lcom/example/cunctator/cunctator/JobKey$NameRule;") "com/example/cunctator/cunctator/JobKey$NameRule" "symbols" "Ljava/lang/String;") "java/lang/String" "value" "[B")
def og4 (Z : State) : Addr := ta Z (Jvm.Term.static "com/example/cunctator/cunctator/JobKey" "ID_RULE" "Lcom/example/cunctator/cunctator/JobKey$NameRule;")
def og5 (Z : State) : Addr := ta Z (Jvm.Term.field (Jvm.Term.static "com/example/cunctator/cunctator/JobKey" "ID_RULE" "Lcom/example/cunctator/cunctator/JobKey$NameRule;") "com/example/cunctator/cunctator/JobKey$NameRule" "symbols" "Ljava/lang/String;")
def og6 (Z : State) : Addr := ta Z (Jvm.Term.field (Jvm.Term.field (Jvm.Term.static "com/example/cunctator/cunctator/JobKey" "ID_RULE" "Lcom/example/cunctator/cunctator/JobKey$NameRule;") "com/example/cunctator/cunctator/JobKey$NameRule" "symbols" "Ljava/lang/String;") "java/lang/String" "value" "[B")
def SF (Z : State) : Prop := Sta Z Z.heap "java/lang/String" "COMPACT_STRINGS" "Z" (.int (csv Z)) ∧ (csv Z).toInt ≠ 0 ∧ (sfv Z).isRef = true ∧ Sta Z Z.heap "jdk/internal/util/Preconditions" "SIOOBE_FORMATTER" "Ljava/util/function/BiFunction;" (sfv Z) ∧ Sta Z Z.heap "com/example/cunctator/cunctator/JobKey" "TOPIC_RULE" "Lcom/example/cunctator/cunctator/JobKey$NameRule;" (.ref (og1 Z)) ∧ Sta Z Z.heap "com/example/cunctator/cunctator/JobKey" "ID_RULE" "Lcom/example/cunctator/cunctator/JobKey$NameRule;" (.ref (og4 Z)) ∧ True
set_option maxRecDepth 65536
abbrev HW (a0 : Array Value) (Z : State) : Prop := ∀ d ∈ tables_1, d.before a0 Z = true
theorem wq {Z a0} (hw : HW a0 Z) (i : Nat) {d : Jvm.Cond} (h : tables_1[i]? = some d) : d.before a0 Z = true := hw _ (List.mem_of_getElem? h)
abbrev rmm (a b c d : Nat) : Room := { frames := a, cells := b, slots := c, locals := d }
abbrev oString (f0 f1 : Value) : Desc := .inl ("java/lang/String", [("java/lang/String", "value", "[B", f0), ("java/lang/String", "coder", "B", f1)])
abbrev oJobKey_NameRule (f0 f1 : Value) : Desc := .inl ("com/example/cunctator/cunctator/JobKey$NameRule", [("com/example/cunctator/cunctator/JobKey$NameRule", "maxLength", "I", f0), ("com/example/cunctator/cunctator/JobKey$NameRule", "symbols", "Ljava/lang/String;", f1)])
theorem d1_0 : decode method_2_code 0 = .ok (.iload_n 0, 1) := by decide +kernel
theorem d1_1 : decode method_2_code 1 = .ok (.ldc 7, 2) := by decide +kernel
theorem d1_3 : decode method_2_code 3 = .ok (.iand, 1) := by decide +kernel
theorem d1_4 : decode method_2_code 4 = .ok (.bipush 65, 2) := by decide +kernel
theorem d1_6 : decode method_2_code 6 = .ok (.irem, 1) := by decide +kernel
theorem d1_7 : decode method_2_code 7 = .ok (.istore_n 1, 1) := by decide +kernel
theorem d1_8 : decode method_2_code 8 = .ok (.iload_n 1, 1) := by decide +kernel
theorem d1_9 : decode method_2_code 9 = .ok (.bipush 26, 2) := by decide +kernel
theorem d1_11 : decode method_2_code 11 = .ok (.if_icmp .ge 9, 3) := by decide +kernel
theorem d1_20 : decode method_2_code 20 = .ok (.iload_n 1, 1) := by decide +kernel
theorem d1_21 : decode method_2_code 21 = .ok (.bipush 52, 2) := by decide +kernel
theorem d1_23 : decode method_2_code 23 = .ok (.if_icmp .ge 12, 3) := by decide +kernel
theorem d1_35 : decode method_2_code 35 = .ok (.iload_n 1, 1) := by decide +kernel
theorem d1_36 : decode method_2_code 36 = .ok (.bipush 62, 2) := by decide +kernel
theorem d1_38 : decode method_2_code 38 = .ok (.if_icmp .ge 12, 3) := by decide +kernel
theorem d1_50 : decode method_2_code 50 = .ok (.iload_n 1, 1) := by decide +kernel
theorem d1_51 : decode method_2_code 51 = .ok (.bipush 62, 2) := by decide +kernel
theorem d1_53 : decode method_2_code 53 = .ok (.if_icmp .ne 6, 3) := by decide +kernel
theorem d1_59 : decode method_2_code 59 = .ok (.iload_n 1, 1) := by decide +kernel
theorem d1_60 : decode method_2_code 60 = .ok (.bipush 63, 2) := by decide +kernel
theorem d1_62 : decode method_2_code 62 = .ok (.if_icmp .ne 6, 3) := by decide +kernel
theorem d1_68 : decode method_2_code 68 = .ok (.bipush 45, 2) := by decide +kernel
theorem d1_70 : decode method_2_code 70 = .ok (.ireturn, 1) := by decide +kernel
theorem d1_65 : decode method_2_code 65 = .ok (.bipush 95, 2) := by decide +kernel
theorem d1_67 : decode method_2_code 67 = .ok (.ireturn, 1) := by decide +kernel
theorem d1_56 : decode method_2_code 56 = .ok (.bipush 46, 2) := by decide +kernel
theorem d1_58 : decode method_2_code 58 = .ok (.ireturn, 1) := by decide +kernel
theorem d1_41 : decode method_2_code 41 = .ok (.bipush 48, 2) := by decide +kernel
theorem d1_43 : decode method_2_code 43 = .ok (.iload_n 1, 1) := by decide +kernel
theorem d1_44 : decode method_2_code 44 = .ok (.bipush 52, 2) := by decide +kernel
theorem d1_46 : decode method_2_code 46 = .ok (.isub, 1) := by decide +kernel
theorem d1_47 : decode method_2_code 47 = .ok (.iadd, 1) := by decide +kernel
theorem d1_48 : decode method_2_code 48 = .ok (.i2c, 1) := by decide +kernel
theorem d1_49 : decode method_2_code 49 = .ok (.ireturn, 1) := by decide +kernel
theorem q48 : (48 : Int32).toInt = 48 := by decide
theorem q2147483647 : (2147483647 : Int32).toInt = 2147483647 := by decide
theorem am_2147483647 (x : Int32) : (x &&& (2147483647 : Int32)).toInt = x.toInt % 2147483648 := a_and x 2147483647 31 2147483648 (by decide) (by decide) (by decide)
theorem q65 : (65 : Int32).toInt = 65 := by decide
theorem arem_65 (x : Int32) : (0 ≤ x.toInt → (x % (65 : Int32)).toInt = x.toInt % 65) ∧ (x.toInt < 0 → (x % (65 : Int32)).toInt = -((-x.toInt) % 65)) := a_rem x 65 65 (by decide) (by decide)
theorem q52 : (52 : Int32).toInt = 52 := by decide
theorem q26 : (26 : Int32).toInt = 26 := by decide
theorem q62 : (62 : Int32).toInt = 62 := by decide
theorem d1_26 : decode method_2_code 26 = .ok (.bipush 97, 2) := by decide +kernel
theorem d1_28 : decode method_2_code 28 = .ok (.iload_n 1, 1) := by decide +kernel
theorem d1_29 : decode method_2_code 29 = .ok (.bipush 26, 2) := by decide +kernel
theorem d1_31 : decode method_2_code 31 = .ok (.isub, 1) := by decide +kernel
theorem d1_32 : decode method_2_code 32 = .ok (.iadd, 1) := by decide +kernel
theorem d1_33 : decode method_2_code 33 = .ok (.i2c, 1) := by decide +kernel
theorem q97 : (97 : Int32).toInt = 97 := by decide
theorem d1_34 : decode method_2_code 34 = .ok (.ireturn, 1) := by decide +kernel
theorem d1_14 : decode method_2_code 14 = .ok (.bipush 65, 2) := by decide +kernel
theorem d1_16 : decode method_2_code 16 = .ok (.iload_n 1, 1) := by decide +kernel
theorem d1_17 : decode method_2_code 17 = .ok (.iadd, 1) := by decide +kernel
theorem d1_18 : decode method_2_code 18 = .ok (.i2c, 1) := by decide +kernel
theorem d1_19 : decode method_2_code 19 = .ok (.ireturn, 1) := by decide +kernel
abbrev y1 : MethodName := ⟨"com/example/cunctator/cunctator/JobKeyToStringPinLaw", "topicChar", "(I)C"⟩
abbrev y1b : ByteArray := method_2_code
abbrev y1r : Option Jvm.ClassFile.FieldType := (Option.some Jvm.ClassFile.FieldType.char)
theorem c1_topicChar {Z a0} (hw : HW a0 Z) (hs : SF Z) {x1 : Int32} {F : List Ent} : Con Z EL y1 y1b 2 y1r (rmm 0 0 0 0) [(vi x1)] (F) (fun v D' => (Cd .ge ((x1 &&& (2147483647 : Int32)) % (65 : Int32)) (26 : Int32) ∧ Cd .ge ((x1 &&& (2147483647 : Int32)) % (65 : Int32)) (52 : Int32) ∧ Cd .ge ((x1 &&& (2147483647 : Int32)) % (65 : Int32)) (62 : Int32) ∧ Cd .ne ((x1 &&& (2147483647 : Int32)) % (65 : Int32)) (62 : Int32) ∧ Cd .ne ((x1 &&& (2147483647 : Int32)) % (65 : Int32)) (63 : Int32) ∧ v = some (vi 45) ∧ F = D') ∨ (Cd .ge ((x1 &&& (2147483647 : Int32)) % (65 : Int32)) (26 : Int32) ∧ Cd .ge ((x1 &&& (2147483647 : Int32)) % (65 : Int32)) (52 : Int32) ∧ Cd .ge ((x1 &&& (2147483647 : Int32)) % (65 : Int32)) (62 : Int32) ∧ Cd .ne ((x1 &&& (2147483647 : Int32)) % (65 : Int32)) (62 : Int32) ∧ ¬ Cd .ne ((x1 &&& (2147483647 : Int32)) % (65 : Int32)) (63 : Int32) ∧ v = some (vi 95) ∧ F = D') ∨ (Cd .ge ((x1 &&& (2147483647 : Int32)) % (65 : Int32)) (26 : Int32) ∧ Cd .ge ((x1 &&& (2147483647 : Int32)) % (65 : Int32)) (52 : Int32) ∧ Cd .ge ((x1 &&& (2147483647 : Int32)) % (65 : Int32)) (62 : Int32) ∧ ¬ Cd .ne ((x1 &&& (2147483647 : Int32)) % (65 : Int32)) (62 : Int32) ∧ v = some (vi 46) ∧ F = D') ∨ (Cd .ge ((x1 &&& (2147483647 : Int32)) % (65 : Int32)) (26 : Int32) ∧ Cd .ge ((x1 &&& (2147483647 : Int32)) % (65 : Int32)) (52 : Int32) ∧ ¬ Cd .ge ((x1 &&& (2147483647 : Int32)) % (65 : Int32)) (62 : Int32) ∧ v = some (vi ((48 : Int32) + (((x1 &&& (2147483647 : Int32)) % (65 : Int32)) - (52 : Int32))).toUInt32.toUInt16.toUInt32.toInt32) ∧ F = D') ∨ (Cd .ge ((x1 &&& (2147483647 : Int32)) % (65 : Int32)) (26 : Int32) ∧ ¬ Cd .ge ((x1 &&& (2147483647 : Int32)) % (65 : Int32)) (52 : Int32) ∧ v = some (vi ((97 : Int32) + (((x1 &&& (2147483647 : Int32)) % (65 : Int32)) - (26 : Int32)))) ∧ F = D') ∨ (¬ Cd .ge ((x1 &&& (2147483647 : Int32)) % (65 : Int32)) (26 : Int32) ∧ v = some (vi ((65 : Int32) + ((x1 &&& (2147483647 : Int32)) % (65 : Int32)))) ∧ F = D')) := by
  refine Con.of (ls := #[iv x1, uu]) (by decide +kernel) rfl ?_
  refine W.iloadN d1_0 rfl ?_
  refine W.ldcI d1_1 (wq hw 4 rfl) ?_
  refine W.iand d1_3 ?_
  refine W.bipush (65) d1_4 (by decide) ?_
  refine W.irem d1_6 (by decide) ?_
  refine W.istoreN (ls' := #[iv x1, iv ((x1 &&& (2147483647 : Int32)) % (65 : Int32))]) d1_7 rfl ?_
  refine W.iloadN d1_8 rfl ?_
  refine W.bipush (26) d1_9 (by decide) ?_
  refine W.icmp 20 d1_11 (by decide) (fun h1 => ?_) (fun h1 => ?_)
  ·
   have ih1 := t_ge h1
   refine W.iloadN d1_20 rfl ?_
   refine W.bipush (52) d1_21 (by decide) ?_
   refine W.icmp 35 d1_23 (by decide) (fun h2 => ?_) (fun h2 => ?_)
   ·
    have ih2 := t_ge h2
    refine W.iloadN d1_35 rfl ?_
    refine W.bipush (62) d1_36 (by decide) ?_
    refine W.icmp 50 d1_38 (by decide) (fun h3 => ?_) (fun h3 => ?_)
    ·
     have ih3 := t_ge h3
     refine W.iloadN d1_50 rfl ?_
     refine W.bipush (62) d1_51 (by decide) ?_
     refine W.icmp 59 d1_53 (by decide) (fun h4 => ?_) (fun h4 => ?_)
     ·
      have ih4 := t_ne h4
      refine W.iloadN d1_59 rfl ?_
      refine W.bipush (63) d1_60 (by decide) ?_
      refine W.icmp 68 d1_62 (by decide) (fun h5 => ?_) (fun h5 => ?_)
      ·
       have ih5 := t_ne h5
       refine W.bipush (45) d1_68 (by decide) ?_
       exact W.ireturn d1_70 rfl (Or.inr (Or.inr (Or.inr (Or.inl rfl)))) (nw_char (by decide)) (by decide) (Or.inl ⟨h1, h2, h3, h4, h5, rfl, rfl⟩)
      ·
       have ih5 := f_ne h5
       refine W.bipush (95) d1_65 (by decide) ?_
       exact W.ireturn d1_67 rfl (Or.inr (Or.inr (Or.inr (Or.inl rfl)))) (nw_char (by decide)) (by decide) (Or.inr (Or.inl ⟨h1, h2, h3, h4, h5, rfl, rfl⟩))
     ·
      have ih4 := f_ne h4
      refine W.bipush (46) d1_56 (by decide) ?_
      exact W.ireturn d1_58 rfl (Or.inr (Or.inr (Or.inr (Or.inl rfl)))) (nw_char (by decide)) (by decide) (Or.inr (Or.inr (Or.inl ⟨h1, h2, h3, h4, rfl, rfl⟩)))
    ·
     have ih3 := f_ge h3
     refine W.bipush (48) d1_41 (by decide) ?_
     refine W.iloadN d1_43 rfl ?_
     refine W.bipush (52) d1_44 (by decide) ?_
     refine W.isub d1_46 ?_
     refine W.iadd d1_47 ?_
     refine W.i2c d1_48 ?_
     exact W.ireturn d1_49 rfl (Or.inr (Or.inr (Or.inr (Or.inl rfl)))) (nw_char (by have := q48; have := rng32 x1; have := q2147483647; have := am_2147483647 x1; have := q65; have := arem_65 (x1 &&& (2147483647 : Int32)); have := q52; have := a_sub ((x1 &&& (2147483647 : Int32)) % (65 : Int32)) (52 : Int32); have := a_add (48 : Int32) (((x1 &&& (2147483647 : Int32)) % (65 : Int32)) - (52 : Int32)); have := a_i2c ((48 : Int32) + (((x1 &&& (2147483647 : Int32)) % (65 : Int32)) - (52 : Int32))); have := q26; have := q62; omega)) (by decide) (Or.inr (Or.inr (Or.inr (Or.inl ⟨h1, h2, h3, rfl, rfl⟩))))
   ·
    have ih2 := f_ge h2
    refine W.bipush (97) d1_26 (by decide) ?_
    refine W.iloadN d1_28 rfl ?_
    refine W.bipush (26) d1_29 (by decide) ?_
    refine W.isub d1_31 ?_
    refine W.iadd d1_32 ?_
    refine W.i2cK ((97 : Int32) + (((x1 &&& (2147483647 : Int32)) % (65 : Int32)) - (26 : Int32))) d1_33 (z_i2c (by have := q97; have := rng32 x1; have := q2147483647; have := am_2147483647 x1; have := q65; have := arem_65 (x1 &&& (2147483647 : Int32)); have := q26; have := a_sub ((x1 &&& (2147483647 : Int32)) % (65 : Int32)) (26 : Int32); have := a_add (97 : Int32) (((x1 &&& (2147483647 : Int32)) % (65 : Int32)) - (26 : Int32)); have := q52; omega)) ?_
    exact W.ireturn d1_34 rfl (Or.inr (Or.inr (Or.inr (Or.inl rfl)))) (nw_char (by have := q97; have := rng32 x1; have := q2147483647; have := am_2147483647 x1; have := q65; have := arem_65 (x1 &&& (2147483647 : Int32)); have := q26; have := a_sub ((x1 &&& (2147483647 : Int32)) % (65 : Int32)) (26 : Int32); have := a_add (97 : Int32) (((x1 &&& (2147483647 : Int32)) % (65 : Int32)) - (26 : Int32)); have := q52; omega)) (by decide) (Or.inr (Or.inr (Or.inr (Or.inr (Or.inl ⟨h1, h2, rfl, rfl⟩)))))
  ·
   have ih1 := f_ge h1
   refine W.bipush (65) d1_14 (by decide) ?_
   refine W.iloadN d1_16 rfl ?_
   refine W.iadd d1_17 ?_
   refine W.i2cK ((65 : Int32) + ((x1 &&& (2147483647 : Int32)) % (65 : Int32))) d1_18 (z_i2c (by have := q65; have := rng32 x1; have := q2147483647; have := am_2147483647 x1; have := arem_65 (x1 &&& (2147483647 : Int32)); have := a_add (65 : Int32) ((x1 &&& (2147483647 : Int32)) % (65 : Int32)); have := q26; omega)) ?_
   exact W.ireturn d1_19 rfl (Or.inr (Or.inr (Or.inr (Or.inl rfl)))) (nw_char (by have := q65; have := rng32 x1; have := q2147483647; have := am_2147483647 x1; have := arem_65 (x1 &&& (2147483647 : Int32)); have := a_add (65 : Int32) ((x1 &&& (2147483647 : Int32)) % (65 : Int32)); have := q26; omega)) (by decide) (Or.inr (Or.inr (Or.inr (Or.inr (Or.inr ⟨h1, rfl, rfl⟩)))))
theorem q45 : (45 : Int32).toInt = 45 := by decide
theorem q63 : (63 : Int32).toInt = 63 := by decide
theorem q95 : (95 : Int32).toInt = 95 := by decide
theorem q46 : (46 : Int32).toInt = 46 := by decide
theorem c1_topicCharm {Z a0} (hw : HW a0 Z) (hs : SF Z) {x1 : Int32} {F : List Ent} : Con Z EL y1 y1b 2 y1r (rmm 0 0 0 0) [(vi x1)] (F) (fun v D' => ∃ r : Int32, ((45 ≤ r.toInt ∧ r.toInt ≤ 46) ∨ (48 ≤ r.toInt ∧ r.toInt ≤ 57) ∨ (65 ≤ r.toInt ∧ r.toInt ≤ 90) ∨ r.toInt = 95 ∨ (97 ≤ r.toInt ∧ r.toInt ≤ 122)) ∧ v = some (.int r) ∧ F = D') := Con.mono (c1_topicChar hw hs (x1 := x1)) (fun v D' h => by
  rcases h with ⟨h0, h1, h2, h3, h4, rfl, rfl⟩ | ⟨h0, h1, h2, h3, h4, rfl, rfl⟩ | ⟨h0, h1, h2, h3, rfl, rfl⟩ | ⟨h0, h1, h2, rfl, rfl⟩ | ⟨h0, h1, rfl, rfl⟩ | ⟨h0, rfl, rfl⟩
  · exact ⟨_, by have := t_ge h0; have := t_ge h1; have := t_ge h2; have := t_ne h3; have := t_ne h4; have := q45; have := rng32 x1; have := q2147483647; have := am_2147483647 x1; have := q65; have := arem_65 (x1 &&& (2147483647 : Int32)); have := q26; have := q52; have := q62; have := q63; omega, rfl, rfl⟩
  · exact ⟨_, by have := t_ge h0; have := t_ge h1; have := t_ge h2; have := t_ne h3; have := f_ne h4; have := q95; have := rng32 x1; have := q2147483647; have := am_2147483647 x1; have := q65; have := arem_65 (x1 &&& (2147483647 : Int32)); have := q26; have := q52; have := q62; have := q63; omega, rfl, rfl⟩
  · exact ⟨_, by have := t_ge h0; have := t_ge h1; have := t_ge h2; have := f_ne h3; have := q46; have := rng32 x1; have := q2147483647; have := am_2147483647 x1; have := q65; have := arem_65 (x1 &&& (2147483647 : Int32)); have := q26; have := q52; have := q62; omega, rfl, rfl⟩
  · exact ⟨_, by have := t_ge h0; have := t_ge h1; have := f_ge h2; have := q48; have := rng32 x1; have := q2147483647; have := am_2147483647 x1; have := q65; have := arem_65 (x1 &&& (2147483647 : Int32)); have := q52; have := a_sub ((x1 &&& (2147483647 : Int32)) % (65 : Int32)) (52 : Int32); have := a_add (48 : Int32) (((x1 &&& (2147483647 : Int32)) % (65 : Int32)) - (52 : Int32)); have := a_i2c ((48 : Int32) + (((x1 &&& (2147483647 : Int32)) % (65 : Int32)) - (52 : Int32))); have := q26; have := q62; omega, rfl, rfl⟩
  · exact ⟨_, by have := t_ge h0; have := f_ge h1; have := q97; have := rng32 x1; have := q2147483647; have := am_2147483647 x1; have := q65; have := arem_65 (x1 &&& (2147483647 : Int32)); have := q26; have := a_sub ((x1 &&& (2147483647 : Int32)) % (65 : Int32)) (26 : Int32); have := a_add (97 : Int32) (((x1 &&& (2147483647 : Int32)) % (65 : Int32)) - (26 : Int32)); have := q52; omega, rfl, rfl⟩
  · exact ⟨_, by have := f_ge h0; have := q65; have := rng32 x1; have := q2147483647; have := am_2147483647 x1; have := arem_65 (x1 &&& (2147483647 : Int32)); have := a_add (65 : Int32) ((x1 &&& (2147483647 : Int32)) % (65 : Int32)); have := q26; omega, rfl, rfl⟩)
theorem pd_I_C : parseMethodDescriptor "(I)C" = some ⟨[.int], some .char⟩ := by decide +kernel
theorem d2_0 : decode method_3_code 0 = .ok (.iload_n 0, 1) := by decide +kernel
theorem d2_1 : decode method_3_code 1 = .ok (.ldc 7, 2) := by decide +kernel
theorem d2_3 : decode method_3_code 3 = .ok (.iand, 1) := by decide +kernel
theorem d2_4 : decode method_3_code 4 = .ok (.bipush 66, 2) := by decide +kernel
theorem d2_6 : decode method_3_code 6 = .ok (.irem, 1) := by decide +kernel
theorem d2_7 : decode method_3_code 7 = .ok (.istore_n 1, 1) := by decide +kernel
theorem d2_8 : decode method_3_code 8 = .ok (.iload_n 1, 1) := by decide +kernel
theorem d2_9 : decode method_3_code 9 = .ok (.bipush 26, 2) := by decide +kernel
theorem d2_11 : decode method_3_code 11 = .ok (.if_icmp .ge 9, 3) := by decide +kernel
theorem d2_20 : decode method_3_code 20 = .ok (.iload_n 1, 1) := by decide +kernel
theorem d2_21 : decode method_3_code 21 = .ok (.bipush 52, 2) := by decide +kernel
theorem d2_23 : decode method_3_code 23 = .ok (.if_icmp .ge 12, 3) := by decide +kernel
theorem d2_35 : decode method_3_code 35 = .ok (.iload_n 1, 1) := by decide +kernel
theorem d2_36 : decode method_3_code 36 = .ok (.bipush 62, 2) := by decide +kernel
theorem d2_38 : decode method_3_code 38 = .ok (.if_icmp .ge 12, 3) := by decide +kernel
theorem d2_50 : decode method_3_code 50 = .ok (.iload_n 1, 1) := by decide +kernel
theorem d2_51 : decode method_3_code 51 = .ok (.bipush 62, 2) := by decide +kernel
theorem d2_53 : decode method_3_code 53 = .ok (.if_icmp .ne 6, 3) := by decide +kernel
theorem d2_59 : decode method_3_code 59 = .ok (.iload_n 1, 1) := by decide +kernel
theorem d2_60 : decode method_3_code 60 = .ok (.bipush 63, 2) := by decide +kernel
theorem d2_62 : decode method_3_code 62 = .ok (.if_icmp .ne 6, 3) := by decide +kernel
theorem d2_68 : decode method_3_code 68 = .ok (.iload_n 1, 1) := by decide +kernel
theorem d2_69 : decode method_3_code 69 = .ok (.bipush 64, 2) := by decide +kernel
theorem d2_71 : decode method_3_code 71 = .ok (.if_icmp .ne 6, 3) := by decide +kernel
theorem d2_77 : decode method_3_code 77 = .ok (.bipush 45, 2) := by decide +kernel
theorem d2_79 : decode method_3_code 79 = .ok (.ireturn, 1) := by decide +kernel
theorem d2_74 : decode method_3_code 74 = .ok (.bipush 58, 2) := by decide +kernel
theorem d2_76 : decode method_3_code 76 = .ok (.ireturn, 1) := by decide +kernel
theorem d2_65 : decode method_3_code 65 = .ok (.bipush 95, 2) := by decide +kernel
theorem d2_67 : decode method_3_code 67 = .ok (.ireturn, 1) := by decide +kernel
theorem d2_56 : decode method_3_code 56 = .ok (.bipush 46, 2) := by decide +kernel
theorem d2_58 : decode method_3_code 58 = .ok (.ireturn, 1) := by decide +kernel
theorem d2_41 : decode method_3_code 41 = .ok (.bipush 48, 2) := by decide +kernel
theorem d2_43 : decode method_3_code 43 = .ok (.iload_n 1, 1) := by decide +kernel
theorem d2_44 : decode method_3_code 44 = .ok (.bipush 52, 2) := by decide +kernel
theorem d2_46 : decode method_3_code 46 = .ok (.isub, 1) := by decide +kernel
theorem d2_47 : decode method_3_code 47 = .ok (.iadd, 1) := by decide +kernel
theorem d2_48 : decode method_3_code 48 = .ok (.i2c, 1) := by decide +kernel
theorem d2_49 : decode method_3_code 49 = .ok (.ireturn, 1) := by decide +kernel
theorem q66 : (66 : Int32).toInt = 66 := by decide
theorem arem_66 (x : Int32) : (0 ≤ x.toInt → (x % (66 : Int32)).toInt = x.toInt % 66) ∧ (x.toInt < 0 → (x % (66 : Int32)).toInt = -((-x.toInt) % 66)) := a_rem x 66 66 (by decide) (by decide)
theorem d2_26 : decode method_3_code 26 = .ok (.bipush 97, 2) := by decide +kernel
theorem d2_28 : decode method_3_code 28 = .ok (.iload_n 1, 1) := by decide +kernel
theorem d2_29 : decode method_3_code 29 = .ok (.bipush 26, 2) := by decide +kernel
theorem d2_31 : decode method_3_code 31 = .ok (.isub, 1) := by decide +kernel
theorem d2_32 : decode method_3_code 32 = .ok (.iadd, 1) := by decide +kernel
theorem d2_33 : decode method_3_code 33 = .ok (.i2c, 1) := by decide +kernel
theorem d2_34 : decode method_3_code 34 = .ok (.ireturn, 1) := by decide +kernel
theorem d2_14 : decode method_3_code 14 = .ok (.bipush 65, 2) := by decide +kernel
theorem d2_16 : decode method_3_code 16 = .ok (.iload_n 1, 1) := by decide +kernel
theorem d2_17 : decode method_3_code 17 = .ok (.iadd, 1) := by decide +kernel
theorem d2_18 : decode method_3_code 18 = .ok (.i2c, 1) := by decide +kernel
theorem d2_19 : decode method_3_code 19 = .ok (.ireturn, 1) := by decide +kernel
abbrev y2 : MethodName := ⟨"com/example/cunctator/cunctator/JobKeyToStringPinLaw", "idChar", "(I)C"⟩
abbrev y2b : ByteArray := method_3_code
abbrev y2r : Option Jvm.ClassFile.FieldType := (Option.some Jvm.ClassFile.FieldType.char)
theorem c2_idChar {Z a0} (hw : HW a0 Z) (hs : SF Z) {x1 : Int32} {F : List Ent} : Con Z EL y2 y2b 2 y2r (rmm 0 0 0 0) [(vi x1)] (F) (fun v D' => (Cd .ge ((x1 &&& (2147483647 : Int32)) % (66 : Int32)) (26 : Int32) ∧ Cd .ge ((x1 &&& (2147483647 : Int32)) % (66 : Int32)) (52 : Int32) ∧ Cd .ge ((x1 &&& (2147483647 : Int32)) % (66 : Int32)) (62 : Int32) ∧ Cd .ne ((x1 &&& (2147483647 : Int32)) % (66 : Int32)) (62 : Int32) ∧ Cd .ne ((x1 &&& (2147483647 : Int32)) % (66 : Int32)) (63 : Int32) ∧ Cd .ne ((x1 &&& (2147483647 : Int32)) % (66 : Int32)) (64 : Int32) ∧ v = some (vi 45) ∧ F = D') ∨ (Cd .ge ((x1 &&& (2147483647 : Int32)) % (66 : Int32)) (26 : Int32) ∧ Cd .ge ((x1 &&& (2147483647 : Int32)) % (66 : Int32)) (52 : Int32) ∧ Cd .ge ((x1 &&& (2147483647 : Int32)) % (66 : Int32)) (62 : Int32) ∧ Cd .ne ((x1 &&& (2147483647 : Int32)) % (66 : Int32)) (62 : Int32) ∧ Cd .ne ((x1 &&& (2147483647 : Int32)) % (66 : Int32)) (63 : Int32) ∧ ¬ Cd .ne ((x1 &&& (2147483647 : Int32)) % (66 : Int32)) (64 : Int32) ∧ v = some (vi 58) ∧ F = D') ∨ (Cd .ge ((x1 &&& (2147483647 : Int32)) % (66 : Int32)) (26 : Int32) ∧ Cd .ge ((x1 &&& (2147483647 : Int32)) % (66 : Int32)) (52 : Int32) ∧ Cd .ge ((x1 &&& (2147483647 : Int32)) % (66 : Int32)) (62 : Int32) ∧ Cd .ne ((x1 &&& (2147483647 : Int32)) % (66 : Int32)) (62 : Int32) ∧ ¬ Cd .ne ((x1 &&& (2147483647 : Int32)) % (66 : Int32)) (63 : Int32) ∧ v = some (vi 95) ∧ F = D') ∨ (Cd .ge ((x1 &&& (2147483647 : Int32)) % (66 : Int32)) (26 : Int32) ∧ Cd .ge ((x1 &&& (2147483647 : Int32)) % (66 : Int32)) (52 : Int32) ∧ Cd .ge ((x1 &&& (2147483647 : Int32)) % (66 : Int32)) (62 : Int32) ∧ ¬ Cd .ne ((x1 &&& (2147483647 : Int32)) % (66 : Int32)) (62 : Int32) ∧ v = some (vi 46) ∧ F = D') ∨ (Cd .ge ((x1 &&& (2147483647 : Int32)) % (66 : Int32)) (26 : Int32) ∧ Cd .ge ((x1 &&& (2147483647 : Int32)) % (66 : Int32)) (52 : Int32) ∧ ¬ Cd .ge ((x1 &&& (2147483647 : Int32)) % (66 : Int32)) (62 : Int32) ∧ v = some (vi ((48 : Int32) + (((x1 &&& (2147483647 : Int32)) % (66 : Int32)) - (52 : Int32))).toUInt32.toUInt16.toUInt32.toInt32) ∧ F = D') ∨ (Cd .ge ((x1 &&& (2147483647 : Int32)) % (66 : Int32)) (26 : Int32) ∧ ¬ Cd .ge ((x1 &&& (2147483647 : Int32)) % (66 : Int32)) (52 : Int32) ∧ v = some (vi ((97 : Int32) + (((x1 &&& (2147483647 : Int32)) % (66 : Int32)) - (26 : Int32)))) ∧ F = D') ∨ (¬ Cd .ge ((x1 &&& (2147483647 : Int32)) % (66 : Int32)) (26 : Int32) ∧ v = some (vi ((65 : Int32) + ((x1 &&& (2147483647 : Int32)) % (66 : Int32)))) ∧ F = D')) := by
  refine Con.of (ls := #[iv x1, uu]) (by decide +kernel) rfl ?_
  refine W.iloadN d2_0 rfl ?_
  refine W.ldcI d2_1 (wq hw 4 rfl) ?_
  refine W.iand d2_3 ?_
  refine W.bipush (66) d2_4 (by decide) ?_
  refine W.irem d2_6 (by decide) ?_
  refine W.istoreN (ls' := #[iv x1, iv ((x1 &&& (2147483647 : Int32)) % (66 : Int32))]) d2_7 rfl ?_
  refine W.iloadN d2_8 rfl ?_
  refine W.bipush (26) d2_9 (by decide) ?_
  refine W.icmp 20 d2_11 (by decide) (fun h1 => ?_) (fun h1 => ?_)
  ·
   have ih1 := t_ge h1
   refine W.iloadN d2_20 rfl ?_
   refine W.bipush (52) d2_21 (by decide) ?_
   refine W.icmp 35 d2_23 (by decide) (fun h2 => ?_) (fun h2 => ?_)
   ·
    have ih2 := t_ge h2
    refine W.iloadN d2_35 rfl ?_
    refine W.bipush (62) d2_36 (by decide) ?_
    refine W.icmp 50 d2_38 (by decide) (fun h3 => ?_) (fun h3 => ?_)
    ·
     have ih3 := t_ge h3
     refine W.iloadN d2_50 rfl ?_
     refine W.bipush (62) d2_51 (by decide) ?_
     refine W.icmp 59 d2_53 (by decide) (fun h4 => ?_) (fun h4 => ?_)
     ·
      have ih4 := t_ne h4
      refine W.iloadN d2_59 rfl ?_
      refine W.bipush (63) d2_60 (by decide) ?_
      refine W.icmp 68 d2_62 (by decide) (fun h5 => ?_) (fun h5 => ?_)
      ·
       have ih5 := t_ne h5
       refine W.iloadN d2_68 rfl ?_
       refine W.bipush (64) d2_69 (by decide) ?_
       refine W.icmp 77 d2_71 (by decide) (fun h6 => ?_) (fun h6 => ?_)
       ·
        have ih6 := t_ne h6
        refine W.bipush (45) d2_77 (by decide) ?_
        exact W.ireturn d2_79 rfl (Or.inr (Or.inr (Or.inr (Or.inl rfl)))) (nw_char (by decide)) (by decide) (Or.inl ⟨h1, h2, h3, h4, h5, h6, rfl, rfl⟩)
       ·
        have ih6 := f_ne h6
        refine W.bipush (58) d2_74 (by decide) ?_
        exact W.ireturn d2_76 rfl (Or.inr (Or.inr (Or.inr (Or.inl rfl)))) (nw_char (by decide)) (by decide) (Or.inr (Or.inl ⟨h1, h2, h3, h4, h5, h6, rfl, rfl⟩))
      ·
       have ih5 := f_ne h5
       refine W.bipush (95) d2_65 (by decide) ?_
       exact W.ireturn d2_67 rfl (Or.inr (Or.inr (Or.inr (Or.inl rfl)))) (nw_char (by decide)) (by decide) (Or.inr (Or.inr (Or.inl ⟨h1, h2, h3, h4, h5, rfl, rfl⟩)))
     ·
      have ih4 := f_ne h4
      refine W.bipush (46) d2_56 (by decide) ?_
      exact W.ireturn d2_58 rfl (Or.inr (Or.inr (Or.inr (Or.inl rfl)))) (nw_char (by decide)) (by decide) (Or.inr (Or.inr (Or.inr (Or.inl ⟨h1, h2, h3, h4, rfl, rfl⟩))))
    ·
     have ih3 := f_ge h3
     refine W.bipush (48) d2_41 (by decide) ?_
     refine W.iloadN d2_43 rfl ?_
     refine W.bipush (52) d2_44 (by decide) ?_
     refine W.isub d2_46 ?_
     refine W.iadd d2_47 ?_
     refine W.i2c d2_48 ?_
     exact W.ireturn d2_49 rfl (Or.inr (Or.inr (Or.inr (Or.inl rfl)))) (nw_char (by have := q48; have := rng32 x1; have := q2147483647; have := am_2147483647 x1; have := q66; have := arem_66 (x1 &&& (2147483647 : Int32)); have := q52; have := a_sub ((x1 &&& (2147483647 : Int32)) % (66 : Int32)) (52 : Int32); have := a_add (48 : Int32) (((x1 &&& (2147483647 : Int32)) % (66 : Int32)) - (52 : Int32)); have := a_i2c ((48 : Int32) + (((x1 &&& (2147483647 : Int32)) % (66 : Int32)) - (52 : Int32))); have := q26; have := q62; omega)) (by decide) (Or.inr (Or.inr (Or.inr (Or.inr (Or.inl ⟨h1, h2, h3, rfl, rfl⟩)))))
   ·
    have ih2 := f_ge h2
    refine W.bipush (97) d2_26 (by decide) ?_
    refine W.iloadN d2_28 rfl ?_
    refine W.bipush (26) d2_29 (by decide) ?_
    refine W.isub d2_31 ?_
    refine W.iadd d2_32 ?_
    refine W.i2cK ((97 : Int32) + (((x1 &&& (2147483647 : Int32)) % (66 : Int32)) - (26 : Int32))) d2_33 (z_i2c (by have := q97; have := rng32 x1; have := q2147483647; have := am_2147483647 x1; have := q66; have := arem_66 (x1 &&& (2147483647 : Int32)); have := q26; have := a_sub ((x1 &&& (2147483647 : Int32)) % (66 : Int32)) (26 : Int32); have := a_add (97 : Int32) (((x1 &&& (2147483647 : Int32)) % (66 : Int32)) - (26 : Int32)); have := q52; omega)) ?_
    exact W.ireturn d2_34 rfl (Or.inr (Or.inr (Or.inr (Or.inl rfl)))) (nw_char (by have := q97; have := rng32 x1; have := q2147483647; have := am_2147483647 x1; have := q66; have := arem_66 (x1 &&& (2147483647 : Int32)); have := q26; have := a_sub ((x1 &&& (2147483647 : Int32)) % (66 : Int32)) (26 : Int32); have := a_add (97 : Int32) (((x1 &&& (2147483647 : Int32)) % (66 : Int32)) - (26 : Int32)); have := q52; omega)) (by decide) (Or.inr (Or.inr (Or.inr (Or.inr (Or.inr (Or.inl ⟨h1, h2, rfl, rfl⟩))))))
  ·
   have ih1 := f_ge h1
   refine W.bipush (65) d2_14 (by decide) ?_
   refine W.iloadN d2_16 rfl ?_
   refine W.iadd d2_17 ?_
   refine W.i2cK ((65 : Int32) + ((x1 &&& (2147483647 : Int32)) % (66 : Int32))) d2_18 (z_i2c (by have := q65; have := rng32 x1; have := q2147483647; have := am_2147483647 x1; have := q66; have := arem_66 (x1 &&& (2147483647 : Int32)); have := a_add (65 : Int32) ((x1 &&& (2147483647 : Int32)) % (66 : Int32)); have := q26; omega)) ?_
   exact W.ireturn d2_19 rfl (Or.inr (Or.inr (Or.inr (Or.inl rfl)))) (nw_char (by have := q65; have := rng32 x1; have := q2147483647; have := am_2147483647 x1; have := q66; have := arem_66 (x1 &&& (2147483647 : Int32)); have := a_add (65 : Int32) ((x1 &&& (2147483647 : Int32)) % (66 : Int32)); have := q26; omega)) (by decide) (Or.inr (Or.inr (Or.inr (Or.inr (Or.inr (Or.inr ⟨h1, rfl, rfl⟩))))))
theorem q64 : (64 : Int32).toInt = 64 := by decide
theorem q58 : (58 : Int32).toInt = 58 := by decide
theorem c2_idCharm {Z a0} (hw : HW a0 Z) (hs : SF Z) {x1 : Int32} {F : List Ent} : Con Z EL y2 y2b 2 y2r (rmm 0 0 0 0) [(vi x1)] (F) (fun v D' => ∃ r : Int32, ((45 ≤ r.toInt ∧ r.toInt ≤ 46) ∨ (48 ≤ r.toInt ∧ r.toInt ≤ 58) ∨ (65 ≤ r.toInt ∧ r.toInt ≤ 90) ∨ r.toInt = 95 ∨ (97 ≤ r.toInt ∧ r.toInt ≤ 122)) ∧ v = some (.int r) ∧ F = D') := Con.mono (c2_idChar hw hs (x1 := x1)) (fun v D' h => by
  rcases h with ⟨h0, h1, h2, h3, h4, h5, rfl, rfl⟩ | ⟨h0, h1, h2, h3, h4, h5, rfl, rfl⟩ | ⟨h0, h1, h2, h3, h4, rfl, rfl⟩ | ⟨h0, h1, h2, h3, rfl, rfl⟩ | ⟨h0, h1, h2, rfl, rfl⟩ | ⟨h0, h1, rfl, rfl⟩ | ⟨h0, rfl, rfl⟩
  · exact ⟨_, by have := t_ge h0; have := t_ge h1; have := t_ge h2; have := t_ne h3; have := t_ne h4; have := t_ne h5; have := q45; have := rng32 x1; have := q2147483647; have := am_2147483647 x1; have := q66; have := arem_66 (x1 &&& (2147483647 : Int32)); have := q26; have := q52; have := q62; have := q63; have := q64; omega, rfl, rfl⟩
  · exact ⟨_, by have := t_ge h0; have := t_ge h1; have := t_ge h2; have := t_ne h3; have := t_ne h4; have := f_ne h5; have := q58; have := rng32 x1; have := q2147483647; have := am_2147483647 x1; have := q66; have := arem_66 (x1 &&& (2147483647 : Int32)); have := q26; have := q52; have := q62; have := q63; have := q64; omega, rfl, rfl⟩
  · exact ⟨_, by have := t_ge h0; have := t_ge h1; have := t_ge h2; have := t_ne h3; have := f_ne h4; have := q95; have := rng32 x1; have := q2147483647; have := am_2147483647 x1; have := q66; have := arem_66 (x1 &&& (2147483647 : Int32)); have := q26; have := q52; have := q62; have := q63; omega, rfl, rfl⟩
  · exact ⟨_, by have := t_ge h0; have := t_ge h1; have := t_ge h2; have := f_ne h3; have := q46; have := rng32 x1; have := q2147483647; have := am_2147483647 x1; have := q66; have := arem_66 (x1 &&& (2147483647 : Int32)); have := q26; have := q52; have := q62; omega, rfl, rfl⟩
  · exact ⟨_, by have := t_ge h0; have := t_ge h1; have := f_ge h2; have := q48; have := rng32 x1; have := q2147483647; have := am_2147483647 x1; have := q66; have := arem_66 (x1 &&& (2147483647 : Int32)); have := q52; have := a_sub ((x1 &&& (2147483647 : Int32)) % (66 : Int32)) (52 : Int32); have := a_add (48 : Int32) (((x1 &&& (2147483647 : Int32)) % (66 : Int32)) - (52 : Int32)); have := a_i2c ((48 : Int32) + (((x1 &&& (2147483647 : Int32)) % (66 : Int32)) - (52 : Int32))); have := q26; have := q62; omega, rfl, rfl⟩
  · exact ⟨_, by have := t_ge h0; have := f_ge h1; have := q97; have := rng32 x1; have := q2147483647; have := am_2147483647 x1; have := q66; have := arem_66 (x1 &&& (2147483647 : Int32)); have := q26; have := a_sub ((x1 &&& (2147483647 : Int32)) % (66 : Int32)) (26 : Int32); have := a_add (97 : Int32) (((x1 &&& (2147483647 : Int32)) % (66 : Int32)) - (26 : Int32)); have := q52; omega, rfl, rfl⟩
  · exact ⟨_, by have := f_ge h0; have := q65; have := rng32 x1; have := q2147483647; have := am_2147483647 x1; have := q66; have := arem_66 (x1 &&& (2147483647 : Int32)); have := a_add (65 : Int32) ((x1 &&& (2147483647 : Int32)) % (66 : Int32)); have := q26; omega, rfl, rfl⟩)
theorem ix2 : Idx (2 : Int32) 2 := by unfold Idx; decide
theorem ix0 : Idx (0 : Int32) 0 := by unfold Idx; decide
theorem ix1 : Idx (1 : Int32) 1 := by unfold Idx; decide
theorem d3_0 : decode jdk_42_method_139_code 0 = .ok (.getstatic 38, 3) := by decide +kernel
theorem d3_3 : decode jdk_42_method_139_code 3 = .ok (.ifCond .eq 23, 3) := by decide +kernel
theorem q0 : (0 : Int32).toInt = 0 := by decide
theorem d3_6 : decode jdk_42_method_139_code 6 = .ok (.iload_n 0, 1) := by decide +kernel
theorem d3_7 : decode jdk_42_method_139_code 7 = .ok (.invokestatic 1015, 3) := by decide +kernel
theorem d4_0 : decode jdk_43_method_3_code 0 = .ok (.iload_n 0, 1) := by decide +kernel
theorem d4_1 : decode jdk_43_method_3_code 1 = .ok (.sipush 255, 3) := by decide +kernel
theorem d4_4 : decode jdk_43_method_3_code 4 = .ok (.if_icmp .gt 7, 3) := by decide +kernel
theorem q255 : (255 : Int32).toInt = 255 := by decide
theorem d4_7 : decode jdk_43_method_3_code 7 = .ok (.iconst 1, 1) := by decide +kernel
theorem d4_8 : decode jdk_43_method_3_code 8 = .ok (.goto 4, 3) := by decide +kernel
theorem d4_12 : decode jdk_43_method_3_code 12 = .ok (.ireturn, 1) := by decide +kernel
abbrev y3 : MethodName := ⟨"java/lang/StringLatin1", "canEncode", "(C)Z"⟩
abbrev y3b : ByteArray := jdk_43_method_3_code
abbrev y3r : Option Jvm.ClassFile.FieldType := (Option.some Jvm.ClassFile.FieldType.boolean)
theorem c4_canEncode {Z a0} (hw : HW a0 Z) (hs : SF Z) {x1 : Int32} (hx1 : (45 ≤ x1.toInt ∧ x1.toInt ≤ 46) ∨ (48 ≤ x1.toInt ∧ x1.toInt ≤ 57) ∨ (65 ≤ x1.toInt ∧ x1.toInt ≤ 90) ∨ x1.toInt = 95 ∨ (97 ≤ x1.toInt ∧ x1.toInt ≤ 122)) {F : List Ent} : Con Z EL y3 y3b 1 y3r (rmm 0 0 0 0) [(vi x1)] (F) (fun v D' => (v = some (vi 1) ∧ F = D')) := by
  refine Con.of (ls := #[iv x1]) (by decide +kernel) rfl ?_
  refine W.iloadN d4_0 rfl ?_
  refine W.sipush (255) d4_1 (by decide) ?_
  refine W.icmpN d4_4 (n_gt (by have := q255; omega)) ?_
  refine W.iconst (1) d4_7 (by decide) ?_
  refine W.goto 12 d4_8 (by decide) ?_
  exact W.ireturn d4_12 rfl (Or.inr (Or.inl rfl)) (nw_bool (by decide)) (by decide) ⟨rfl, rfl⟩
theorem pd_C_Z : parseMethodDescriptor "(C)Z" = some ⟨[.char], some .boolean⟩ := by decide +kernel
theorem d3_10 : decode jdk_42_method_139_code 10 = .ok (.ifCond .eq 16, 3) := by decide +kernel
theorem d3_13 : decode jdk_42_method_139_code 13 = .ok (.new 10, 3) := by decide +kernel
theorem laString {Z a0} (hw : HW a0 Z) : LaidAll Z a0 "java/lang/String" [("java/lang/String", "value", "[B", .null), ("java/lang/String", "coder", "B", (vi 0))] := ⟨⟨Or.inr (wq hw 32 rfl), (.array .byte), by decide, rfl⟩, ⟨⟨Or.inr (wq hw 34 rfl), .byte, by decide, rfl⟩, trivial⟩⟩
theorem d3_16 : decode jdk_42_method_139_code 16 = .ok (.dup, 1) := by decide +kernel
theorem d3_17 : decode jdk_42_method_139_code 17 = .ok (.iload_n 0, 1) := by decide +kernel
theorem d3_18 : decode jdk_42_method_139_code 18 = .ok (.invokestatic 1018, 3) := by decide +kernel
theorem d5_0 : decode jdk_43_method_46_code 0 = .ok (.iconst 1, 1) := by decide +kernel
theorem d5_1 : decode jdk_43_method_46_code 1 = .ok (.newarray .byte, 2) := by decide +kernel
theorem d5_3 : decode jdk_43_method_46_code 3 = .ok (.dup, 1) := by decide +kernel
theorem d5_4 : decode jdk_43_method_46_code 4 = .ok (.iconst 0, 1) := by decide +kernel
theorem d5_5 : decode jdk_43_method_46_code 5 = .ok (.iload_n 0, 1) := by decide +kernel
theorem d5_6 : decode jdk_43_method_46_code 6 = .ok (.i2b, 1) := by decide +kernel
theorem d5_7 : decode jdk_43_method_46_code 7 = .ok (.bastore, 1) := by decide +kernel
theorem d5_8 : decode jdk_43_method_46_code 8 = .ok (.areturn, 1) := by decide +kernel
abbrev y4 : MethodName := ⟨"java/lang/StringLatin1", "toBytes", "(C)[B"⟩
abbrev y4b : ByteArray := jdk_43_method_46_code
abbrev y4r : Option Jvm.ClassFile.FieldType := (Option.some (Jvm.ClassFile.FieldType.array Jvm.ClassFile.FieldType.byte))
theorem c5_toBytes {Z a0} (hw : HW a0 Z) (hs : SF Z) {x1 : Int32} (hx1 : (45 ≤ x1.toInt ∧ x1.toInt ≤ 46) ∨ (48 ≤ x1.toInt ∧ x1.toInt ≤ 57) ∨ (65 ≤ x1.toInt ∧ x1.toInt ≤ 90) ∨ x1.toInt = 95 ∨ (97 ≤ x1.toInt ∧ x1.toInt ≤ 122)) {F : List Ent} : Con Z EL y4 y4b 1 y4r (rmm 0 1 1 0) [(vi x1)] (F) (fun v D' => (∃ a1 : Addr, v = some (vr a1) ∧ (a1, true, ar "[B" .byte [(vi x1)]) :: F = D')) := by
  refine Con.of (ls := #[iv x1]) (by decide +kernel) rfl ?_
  refine W.iconst (1) d5_0 (by decide) ?_
  refine W.newarr 1 (ad := "[B") (ty := .byte) d5_1 rfl (wq hw 23 rfl) ix1 rfl (by decide) (by decide) (fun a1 => ?_)
  show W _ _ _ _ _ _ _ _ _ _ _ _ 3 _ [(vr a1)]
  refine W.dup d5_3 rfl ?_
  refine W.iconst (0) d5_4 (by decide) ?_
  refine W.iloadN d5_5 rfl ?_
  refine W.i2bK x1 d5_6 (z_i2b (by omega)) ?_
  refine W.bastore (D' := (a1, true, ar "[B" .byte [(vi x1)]) :: F) 0 0 d5_7 rfl ix0 (Nat.le_of_ble_eq_true rfl) (z_narB (by omega)) rfl ?_
  exact W.areturn d5_8 rfl rfl rfl (by decide) ⟨a1, rfl, rfl⟩
theorem pd_C__B : parseMethodDescriptor "(C)[B" = some ⟨[.char], some (.array .byte)⟩ := by decide +kernel
theorem d3_21 : decode jdk_42_method_139_code 21 = .ok (.iconst 0, 1) := by decide +kernel
theorem d3_22 : decode jdk_42_method_139_code 22 = .ok (.invokespecial 209, 3) := by decide +kernel
theorem d6_0 : decode jdk_42_method_151_code 0 = .ok (.aload_n 0, 1) := by decide +kernel
theorem d6_1 : decode jdk_42_method_151_code 1 = .ok (.invokespecial 1, 3) := by decide +kernel
theorem d6_4 : decode jdk_42_method_151_code 4 = .ok (.aload_n 0, 1) := by decide +kernel
theorem d6_5 : decode jdk_42_method_151_code 5 = .ok (.aload_n 1, 1) := by decide +kernel
theorem d6_6 : decode jdk_42_method_151_code 6 = .ok (.putfield 9, 3) := by decide +kernel
theorem pf_B : parseFieldDescriptor "[B" = some (.array .byte) := by decide
theorem d6_9 : decode jdk_42_method_151_code 9 = .ok (.aload_n 0, 1) := by decide +kernel
theorem d6_10 : decode jdk_42_method_151_code 10 = .ok (.iload_n 2, 1) := by decide +kernel
theorem d6_11 : decode jdk_42_method_151_code 11 = .ok (.putfield 15, 3) := by decide +kernel
theorem pfB : parseFieldDescriptor "B" = some .byte := by decide
theorem d6_14 : decode jdk_42_method_151_code 14 = .ok (.return_, 1) := by decide +kernel
abbrev y5 : MethodName := ⟨"java/lang/String", "<init>", "([BB)V"⟩
abbrev y5b : ByteArray := jdk_42_method_151_code
abbrev y5r : Option Jvm.ClassFile.FieldType := (Option.none : Option Jvm.ClassFile.FieldType)
theorem c6_init {Z a0} (hw : HW a0 Z) (hs : SF Z) {p1 p2 : Addr} {F : List Ent} : Con Z EL y5 y5b 3 y5r (rmm 1 0 0 12) [(vr p1), (vr p2), (vi 0)] ((p1, true, oString .null (vi 0)) :: F) (fun v D' => (v = none ∧ (p1, true, oString (vr p2) (vi 0)) :: F = D')) := by
  refine Con.of (ls := #[rv p1, rv p2, iv 0]) (by decide +kernel) rfl ?_
  refine W.aloadN d6_0 rfl rfl ?_
  refine W.initO 0 d6_1 (wq hw 28 rfl) (wq hw 29 rfl) (wq hw 30 rfl) rfl rfl (by decide) ?_
  refine W.aloadN d6_4 rfl rfl ?_
  refine W.aloadN d6_5 rfl rfl ?_
  refine W.putf (D' := (p1, true, oString (vr p2) (vi 0)) :: F) 0 0 d6_6 (wq hw 31 rfl) Via.refl rfl rfl (Or.inr ⟨(wq hw 32 rfl), rfl, rfl⟩) (wq hw 19 rfl) pf_B rfl rfl rfl ?_
  refine W.aloadN d6_9 rfl rfl ?_
  refine W.iloadN d6_10 rfl ?_
  refine W.putf (D' := (p1, true, oString (vr p2) (vi 0)) :: F) 0 1 d6_11 (wq hw 33 rfl) Via.refl rfl rfl (Or.inr ⟨(wq hw 34 rfl), rfl, rfl⟩) (wq hw 19 rfl) pfB (nw_byte (by decide)) (ft_byte (by decide)) rfl ?_
  exact W.return_ d6_14 rfl (by decide) ⟨rfl, rfl⟩
theorem pd__BB_V : parseMethodDescriptor "([BB)V" = some ⟨[(.array .byte), .byte], none⟩ := by decide +kernel
theorem d3_25 : decode jdk_42_method_139_code 25 = .ok (.areturn, 1) := by decide +kernel
abbrev y6 : MethodName := ⟨"java/lang/String", "valueOf", "(C)Ljava/lang/String;"⟩
abbrev y6b : ByteArray := jdk_42_method_139_code
abbrev y6r : Option Jvm.ClassFile.FieldType := (Option.some (Jvm.ClassFile.FieldType.object "java/lang/String"))
theorem c3_valueOf {Z a0} (hw : HW a0 Z) (hs : SF Z) {x1 : Int32} (hx1 : (45 ≤ x1.toInt ∧ x1.toInt ≤ 46) ∨ (48 ≤ x1.toInt ∧ x1.toInt ≤ 57) ∨ (65 ≤ x1.toInt ∧ x1.toInt ≤ 90) ∨ x1.toInt = 95 ∨ (97 ≤ x1.toInt ∧ x1.toInt ≤ 122)) {F : List Ent} : Con Z EL y6 y6b 1 y6r (rmm 2 2 5 27) [(vi x1)] (F) (fun v D' => (∃ a1 a2 : Addr, v = some (vr a1) ∧ (a1, true, oString (vr a2) (vi 0)) :: (a2, true, ar "[B" .byte [(vi x1)]) :: F = D')) := by
  refine Con.of (ls := #[iv x1]) (by decide +kernel) rfl ?_
  refine W.gets d3_0 (wq hw 13 rfl) Via.refl hs.1 ?_
  refine W.ifN d3_3 (n_eq (by have := hs.2.1; have := q0; omega)) ?_
  refine W.iloadN d3_6 rfl ?_
  refine W.callS (as := [(vi x1)]) 0 [] d3_7 (wq hw 14 rfl) (wq hw 15 rfl) (wq hw 16 rfl) (wq hw 17 rfl) (c4_canEncode hw hs (hx1 := hx1)) (by decide) pd_C_Z rfl rfl rfl rfl (by decide) (fun v D' h => ?_)
  obtain ⟨rfl, rfl⟩ := h
  show W _ _ _ _ _ _ _ _ _ _ _ _ 10 _ [(vi 1)]
  refine W.ifN d3_10 (n_eq (by decide)) ?_
  refine W.new d3_13 (wq hw 18 rfl) (wq hw 19 rfl) (wq hw 11 rfl) (laString hw) (by decide) (by decide) (fun a1 => ?_)
  show W _ _ _ _ _ _ _ _ _ _ _ _ 16 _ [(vr a1)]
  refine W.dup d3_16 rfl ?_
  refine W.iloadN d3_17 rfl ?_
  refine W.callS (as := [(vi x1)]) 2 [(vr a1), (vr a1)] d3_18 (wq hw 20 rfl) (wq hw 21 rfl) (wq hw 16 rfl) (wq hw 22 rfl) (c5_toBytes hw hs (hx1 := hx1)) (by decide) pd_C__B rfl rfl rfl rfl (by decide) (fun v D' h => ?_)
  obtain ⟨a2, rfl, rfl⟩ := h
  show W _ _ _ _ _ _ _ _ _ _ _ _ 21 _ [(vr a2), (vr a1), (vr a1)]
  refine W.iconst (0) d3_21 (by decide) ?_
  refine W.front 1 (D' := (a1, true, oString .null (vi 0)) :: (a2, true, ar "[B" .byte [(vi x1)]) :: F) rfl rfl ?_
  refine W.callI (as := [(vr a2), (vi 0)]) 1 [(vr a1)] d3_22 rfl (wq hw 24 rfl) (wq hw 25 rfl) (wq hw 11 rfl) (wq hw 27 rfl) (c6_init hw hs) (by decide) pd__BB_V rfl rfl rfl rfl (by decide) (fun v D' h => ?_)
  obtain ⟨rfl, rfl⟩ := h
  show W _ _ _ _ _ _ _ _ _ _ _ _ 25 _ [(vr a1)]
  exact W.areturn d3_25 rfl rfl rfl (by decide) ⟨a1, a2, rfl, rfl⟩
theorem pd_C_Ljava_lang_String_ : parseMethodDescriptor "(C)Ljava/lang/String;" = some ⟨[.char], some (.object "java/lang/String")⟩ := by decide +kernel
theorem c8_canEncode {Z a0} (hw : HW a0 Z) (hs : SF Z) {x1 : Int32} (hx1 : (45 ≤ x1.toInt ∧ x1.toInt ≤ 46) ∨ (48 ≤ x1.toInt ∧ x1.toInt ≤ 58) ∨ (65 ≤ x1.toInt ∧ x1.toInt ≤ 90) ∨ x1.toInt = 95 ∨ (97 ≤ x1.toInt ∧ x1.toInt ≤ 122)) {F : List Ent} : Con Z EL y3 y3b 1 y3r (rmm 0 0 0 0) [(vi x1)] (F) (fun v D' => (v = some (vi 1) ∧ F = D')) := by
  refine Con.of (ls := #[iv x1]) (by decide +kernel) rfl ?_
  refine W.iloadN d4_0 rfl ?_
  refine W.sipush (255) d4_1 (by decide) ?_
  refine W.icmpN d4_4 (n_gt (by have := q255; omega)) ?_
  refine W.iconst (1) d4_7 (by decide) ?_
  refine W.goto 12 d4_8 (by decide) ?_
  exact W.ireturn d4_12 rfl (Or.inr (Or.inl rfl)) (nw_bool (by decide)) (by decide) ⟨rfl, rfl⟩
theorem c9_toBytes {Z a0} (hw : HW a0 Z) (hs : SF Z) {x1 : Int32} (hx1 : (45 ≤ x1.toInt ∧ x1.toInt ≤ 46) ∨ (48 ≤ x1.toInt ∧ x1.toInt ≤ 58) ∨ (65 ≤ x1.toInt ∧ x1.toInt ≤ 90) ∨ x1.toInt = 95 ∨ (97 ≤ x1.toInt ∧ x1.toInt ≤ 122)) {F : List Ent} : Con Z EL y4 y4b 1 y4r (rmm 0 1 1 0) [(vi x1)] (F) (fun v D' => (∃ a1 : Addr, v = some (vr a1) ∧ (a1, true, ar "[B" .byte [(vi x1)]) :: F = D')) := by
  refine Con.of (ls := #[iv x1]) (by decide +kernel) rfl ?_
  refine W.iconst (1) d5_0 (by decide) ?_
  refine W.newarr 1 (ad := "[B") (ty := .byte) d5_1 rfl (wq hw 23 rfl) ix1 rfl (by decide) (by decide) (fun a1 => ?_)
  show W _ _ _ _ _ _ _ _ _ _ _ _ 3 _ [(vr a1)]
  refine W.dup d5_3 rfl ?_
  refine W.iconst (0) d5_4 (by decide) ?_
  refine W.iloadN d5_5 rfl ?_
  refine W.i2bK x1 d5_6 (z_i2b (by omega)) ?_
  refine W.bastore (D' := (a1, true, ar "[B" .byte [(vi x1)]) :: F) 0 0 d5_7 rfl ix0 (Nat.le_of_ble_eq_true rfl) (z_narB (by omega)) rfl ?_
  exact W.areturn d5_8 rfl rfl rfl (by decide) ⟨a1, rfl, rfl⟩
theorem c7_valueOf {Z a0} (hw : HW a0 Z) (hs : SF Z) {x1 : Int32} (hx1 : (45 ≤ x1.toInt ∧ x1.toInt ≤ 46) ∨ (48 ≤ x1.toInt ∧ x1.toInt ≤ 58) ∨ (65 ≤ x1.toInt ∧ x1.toInt ≤ 90) ∨ x1.toInt = 95 ∨ (97 ≤ x1.toInt ∧ x1.toInt ≤ 122)) {F : List Ent} : Con Z EL y6 y6b 1 y6r (rmm 2 2 5 27) [(vi x1)] (F) (fun v D' => (∃ a1 a2 : Addr, v = some (vr a1) ∧ (a1, true, oString (vr a2) (vi 0)) :: (a2, true, ar "[B" .byte [(vi x1)]) :: F = D')) := by
  refine Con.of (ls := #[iv x1]) (by decide +kernel) rfl ?_
  refine W.gets d3_0 (wq hw 13 rfl) Via.refl hs.1 ?_
  refine W.ifN d3_3 (n_eq (by have := hs.2.1; have := q0; omega)) ?_
  refine W.iloadN d3_6 rfl ?_
  refine W.callS (as := [(vi x1)]) 0 [] d3_7 (wq hw 14 rfl) (wq hw 15 rfl) (wq hw 16 rfl) (wq hw 17 rfl) (c8_canEncode hw hs (hx1 := hx1)) (by decide) pd_C_Z rfl rfl rfl rfl (by decide) (fun v D' h => ?_)
  obtain ⟨rfl, rfl⟩ := h
  show W _ _ _ _ _ _ _ _ _ _ _ _ 10 _ [(vi 1)]
  refine W.ifN d3_10 (n_eq (by decide)) ?_
  refine W.new d3_13 (wq hw 18 rfl) (wq hw 19 rfl) (wq hw 11 rfl) (laString hw) (by decide) (by decide) (fun a1 => ?_)
  show W _ _ _ _ _ _ _ _ _ _ _ _ 16 _ [(vr a1)]
  refine W.dup d3_16 rfl ?_
  refine W.iloadN d3_17 rfl ?_
  refine W.callS (as := [(vi x1)]) 2 [(vr a1), (vr a1)] d3_18 (wq hw 20 rfl) (wq hw 21 rfl) (wq hw 16 rfl) (wq hw 22 rfl) (c9_toBytes hw hs (hx1 := hx1)) (by decide) pd_C__B rfl rfl rfl rfl (by decide) (fun v D' h => ?_)
  obtain ⟨a2, rfl, rfl⟩ := h
  show W _ _ _ _ _ _ _ _ _ _ _ _ 21 _ [(vr a2), (vr a1), (vr a1)]
  refine W.iconst (0) d3_21 (by decide) ?_
  refine W.front 1 (D' := (a1, true, oString .null (vi 0)) :: (a2, true, ar "[B" .byte [(vi x1)]) :: F) rfl rfl ?_
  refine W.callI (as := [(vr a2), (vi 0)]) 1 [(vr a1)] d3_22 rfl (wq hw 24 rfl) (wq hw 25 rfl) (wq hw 11 rfl) (wq hw 27 rfl) (c6_init hw hs) (by decide) pd__BB_V rfl rfl rfl rfl (by decide) (fun v D' h => ?_)
  obtain ⟨rfl, rfl⟩ := h
  show W _ _ _ _ _ _ _ _ _ _ _ _ 25 _ [(vr a1)]
  exact W.areturn d3_25 rfl rfl rfl (by decide) ⟨a1, a2, rfl, rfl⟩
theorem laJobKey {Z a0} (hw : HW a0 Z) : LaidAll Z a0 "com/example/cunctator/cunctator/JobKey" [("com/example/cunctator/cunctator/JobKey", "topic", "Ljava/lang/String;", .null), ("com/example/cunctator/cunctator/JobKey", "id", "Ljava/lang/String;", .null)] := ⟨⟨Or.inr (wq hw 95 rfl), (.object "java/lang/String"), by decide, rfl⟩, ⟨⟨Or.inr (wq hw 102 rfl), (.object "java/lang/String"), by decide, rfl⟩, trivial⟩⟩
theorem d8_0 : decode prog_8_method_1_code 0 = .ok (.aload_n 0, 1) := by decide +kernel
theorem d8_1 : decode prog_8_method_1_code 1 = .ok (.invokespecial 1, 3) := by decide +kernel
theorem d8_4 : decode prog_8_method_1_code 4 = .ok (.aload_n 0, 1) := by decide +kernel
theorem d8_5 : decode prog_8_method_1_code 5 = .ok (.aload_n 1, 1) := by decide +kernel
theorem d8_6 : decode prog_8_method_1_code 6 = .ok (.invokestatic 7, 3) := by decide +kernel
theorem d9_0 : decode prog_8_method_2_code 0 = .ok (.getstatic 23, 3) := by decide +kernel
theorem d9_3 : decode prog_8_method_2_code 3 = .ok (.aload_n 0, 1) := by decide +kernel
theorem d9_4 : decode prog_8_method_2_code 4 = .ok (.invokevirtual 27, 3) := by decide +kernel
theorem d10_0 : decode prog_9_method_2_code 0 = .ok (.aload_n 1, 1) := by decide +kernel
theorem d10_1 : decode prog_9_method_2_code 1 = .ok (.ifnonnull 10, 3) := by decide +kernel
theorem d10_11 : decode prog_9_method_2_code 11 = .ok (.aload_n 1, 1) := by decide +kernel
theorem d10_12 : decode prog_9_method_2_code 12 = .ok (.invokevirtual 58, 3) := by decide +kernel
theorem d11_0 : decode jdk_42_method_55_code 0 = .ok (.aload_n 0, 1) := by decide +kernel
theorem d11_1 : decode jdk_42_method_55_code 1 = .ok (.getfield 9, 3) := by decide +kernel
theorem d11_4 : decode jdk_42_method_55_code 4 = .ok (.arraylength, 1) := by decide +kernel
theorem d11_5 : decode jdk_42_method_55_code 5 = .ok (.ifCond .ne 7, 3) := by decide +kernel
theorem d11_12 : decode jdk_42_method_55_code 12 = .ok (.iconst 0, 1) := by decide +kernel
theorem d11_13 : decode jdk_42_method_55_code 13 = .ok (.ireturn, 1) := by decide +kernel
abbrev y7 : MethodName := ⟨"java/lang/String", "isEmpty", "()Z"⟩
abbrev y7b : ByteArray := jdk_42_method_55_code
abbrev y7r : Option Jvm.ClassFile.FieldType := (Option.some Jvm.ClassFile.FieldType.boolean)
theorem c13_isEmpty {Z a0} (hw : HW a0 Z) (hs : SF Z) {p1 p2 : Addr} {f_p1_1 : Value} {vs_p2 : List Value} (hvs_p2 : vs_p2.length = 1) {w_p1 : Bool} {w_p2 : Bool} {ad_p2 : String} {F : List Ent} (mp1 : (p1, w_p1, oString (vr p2) f_p1_1) ∈ F) (mp2 : (p2, w_p2, ar ad_p2 .byte vs_p2) ∈ F) : Con Z EL y7 y7b 1 y7r (rmm 0 0 0 0) [(vr p1)] (F) (fun v D' => (v = some (vi 0) ∧ F = D')) := by
  refine Con.of (ls := #[rv p1]) (by decide +kernel) rfl ?_
  refine W.aloadN d11_0 rfl rfl ?_
  refine W.getf d11_1 (wq hw 31 rfl) Via.refl mp1 m0 ?_
  refine W.alen (1) d11_4 mp2 (by rw [hvs_p2]; rfl) ?_
  refine W.ifY 12 d11_5 (y_ne (by decide)) (by decide) ?_
  refine W.iconst (0) d11_12 (by decide) ?_
  exact W.ireturn d11_13 rfl (Or.inr (Or.inl rfl)) (nw_bool (by decide)) (by decide) ⟨rfl, rfl⟩
theorem pd__Z : parseMethodDescriptor "()Z" = some ⟨[], some .boolean⟩ := by decide +kernel
theorem d10_15 : decode prog_9_method_2_code 15 = .ok (.ifCond .eq 10, 3) := by decide +kernel
theorem d10_25 : decode prog_9_method_2_code 25 = .ok (.iconst 0, 1) := by decide +kernel
theorem d10_26 : decode prog_9_method_2_code 26 = .ok (.istore_n 2, 1) := by decide +kernel
theorem d10_27 : decode prog_9_method_2_code 27 = .ok (.iload_n 2, 1) := by decide +kernel
theorem d10_28 : decode prog_9_method_2_code 28 = .ok (.aload_n 1, 1) := by decide +kernel
theorem d10_29 : decode prog_9_method_2_code 29 = .ok (.invokevirtual 64, 3) := by decide +kernel
theorem d12_0 : decode jdk_42_method_54_code 0 = .ok (.aload_n 0, 1) := by decide +kernel
theorem d12_1 : decode jdk_42_method_54_code 1 = .ok (.getfield 9, 3) := by decide +kernel
theorem d12_4 : decode jdk_42_method_54_code 4 = .ok (.arraylength, 1) := by decide +kernel
theorem d12_5 : decode jdk_42_method_54_code 5 = .ok (.aload_n 0, 1) := by decide +kernel
theorem d12_6 : decode jdk_42_method_54_code 6 = .ok (.invokevirtual 335, 3) := by decide +kernel
theorem d13_0 : decode jdk_42_method_152_code 0 = .ok (.getstatic 38, 3) := by decide +kernel
theorem d13_3 : decode jdk_42_method_152_code 3 = .ok (.ifCond .eq 10, 3) := by decide +kernel
theorem d13_6 : decode jdk_42_method_152_code 6 = .ok (.aload_n 0, 1) := by decide +kernel
theorem d13_7 : decode jdk_42_method_152_code 7 = .ok (.getfield 15, 3) := by decide +kernel
theorem d13_10 : decode jdk_42_method_152_code 10 = .ok (.goto 4, 3) := by decide +kernel
theorem d13_14 : decode jdk_42_method_152_code 14 = .ok (.ireturn, 1) := by decide +kernel
abbrev y8 : MethodName := ⟨"java/lang/String", "coder", "()B"⟩
abbrev y8b : ByteArray := jdk_42_method_152_code
abbrev y8r : Option Jvm.ClassFile.FieldType := (Option.some Jvm.ClassFile.FieldType.byte)
theorem c15_coder {Z a0} (hw : HW a0 Z) (hs : SF Z) {p1 : Addr} {f_p1_0 : Value} {w_p1 : Bool} {F : List Ent} (mp1 : (p1, w_p1, oString f_p1_0 (vi 0)) ∈ F) : Con Z EL y8 y8b 1 y8r (rmm 0 0 0 0) [(vr p1)] (F) (fun v D' => (v = some (vi 0) ∧ F = D')) := by
  refine Con.of (ls := #[rv p1]) (by decide +kernel) rfl ?_
  refine W.gets d13_0 (wq hw 13 rfl) Via.refl hs.1 ?_
  refine W.ifN d13_3 (n_eq (by have := hs.2.1; have := q0; omega)) ?_
  refine W.aloadN d13_6 rfl rfl ?_
  refine W.getf d13_7 (wq hw 33 rfl) Via.refl mp1 m1 ?_
  refine W.goto 14 d13_10 (by decide) ?_
  exact W.ireturn d13_14 rfl (Or.inr (Or.inr (Or.inl rfl))) (nw_byte (by decide)) (by decide) ⟨rfl, rfl⟩
theorem pd__B : parseMethodDescriptor "()B" = some ⟨[], some .byte⟩ := by decide +kernel
theorem d12_9 : decode jdk_42_method_54_code 9 = .ok (.ishr, 1) := by decide +kernel
theorem d12_10 : decode jdk_42_method_54_code 10 = .ok (.ireturn, 1) := by decide +kernel
abbrev y9 : MethodName := ⟨"java/lang/String", "length", "()I"⟩
abbrev y9b : ByteArray := jdk_42_method_54_code
abbrev y9r : Option Jvm.ClassFile.FieldType := (Option.some Jvm.ClassFile.FieldType.int)
theorem c14_length {Z a0} (hw : HW a0 Z) (hs : SF Z) {p1 p2 : Addr} {vs_p2 : List Value} (hvs_p2 : vs_p2.length = 1) {w_p1 : Bool} {w_p2 : Bool} {ad_p2 : String} {F : List Ent} (mp1 : (p1, w_p1, oString (vr p2) (vi 0)) ∈ F) (mp2 : (p2, w_p2, ar ad_p2 .byte vs_p2) ∈ F) : Con Z EL y9 y9b 1 y9r (rmm 1 0 0 13) [(vr p1)] (F) (fun v D' => (v = some (vi 1) ∧ F = D')) := by
  refine Con.of (ls := #[rv p1]) (by decide +kernel) rfl ?_
  refine W.aloadN d12_0 rfl rfl ?_
  refine W.getf d12_1 (wq hw 31 rfl) Via.refl mp1 m0 ?_
  refine W.alen (1) d12_4 mp2 (by rw [hvs_p2]; rfl) ?_
  refine W.aloadN d12_5 rfl rfl ?_
  refine W.callV (as := []) 1 [(vi 1)] d12_6 (wq hw 63 rfl) (wq hw 64 rfl) (wq hw 66 rfl) (wq hw 66 rfl) (wq hw 65 rfl) (wq hw 11 rfl) (wq hw 67 rfl) (Hp.exa mp1) (c15_coder hw hs (mp1 := mp1)) (by decide) pd__B rfl rfl rfl rfl (by decide) (fun v D' h => ?_)
  obtain ⟨rfl, rfl⟩ := h
  show W _ _ _ _ _ _ _ _ _ _ _ _ 9 _ [(vi 0), (vi 1)]
  refine W.ishrK (1 : Int32) d12_9 (by decide) ?_
  exact W.ireturn d12_10 rfl (Or.inl rfl) rfl (by decide) ⟨rfl, rfl⟩
theorem pd__I : parseMethodDescriptor "()I" = some ⟨[], some .int⟩ := by decide +kernel
theorem d10_32 : decode prog_9_method_2_code 32 = .ok (.if_icmp .ge 58, 3) := by decide +kernel
theorem d10_35 : decode prog_9_method_2_code 35 = .ok (.aload_n 1, 1) := by decide +kernel
theorem d10_36 : decode prog_9_method_2_code 36 = .ok (.iload_n 2, 1) := by decide +kernel
theorem d10_37 : decode prog_9_method_2_code 37 = .ok (.invokevirtual 68, 3) := by decide +kernel
theorem d14_0 : decode jdk_42_method_56_code 0 = .ok (.aload_n 0, 1) := by decide +kernel
theorem d14_1 : decode jdk_42_method_56_code 1 = .ok (.invokevirtual 492, 3) := by decide +kernel
theorem d15_0 : decode jdk_42_method_154_code 0 = .ok (.getstatic 38, 3) := by decide +kernel
theorem d15_3 : decode jdk_42_method_154_code 3 = .ok (.ifCond .eq 14, 3) := by decide +kernel
theorem d15_6 : decode jdk_42_method_154_code 6 = .ok (.aload_n 0, 1) := by decide +kernel
theorem d15_7 : decode jdk_42_method_154_code 7 = .ok (.getfield 15, 3) := by decide +kernel
theorem d15_10 : decode jdk_42_method_154_code 10 = .ok (.ifCond .ne 7, 3) := by decide +kernel
theorem d15_13 : decode jdk_42_method_154_code 13 = .ok (.iconst 1, 1) := by decide +kernel
theorem d15_14 : decode jdk_42_method_154_code 14 = .ok (.goto 4, 3) := by decide +kernel
theorem d15_18 : decode jdk_42_method_154_code 18 = .ok (.ireturn, 1) := by decide +kernel
abbrev y10 : MethodName := ⟨"java/lang/String", "isLatin1", "()Z"⟩
abbrev y10b : ByteArray := jdk_42_method_154_code
abbrev y10r : Option Jvm.ClassFile.FieldType := (Option.some Jvm.ClassFile.FieldType.boolean)
theorem c17_isLatin1 {Z a0} (hw : HW a0 Z) (hs : SF Z) {p1 : Addr} {f_p1_0 : Value} {w_p1 : Bool} {F : List Ent} (mp1 : (p1, w_p1, oString f_p1_0 (vi 0)) ∈ F) : Con Z EL y10 y10b 1 y10r (rmm 0 0 0 0) [(vr p1)] (F) (fun v D' => (v = some (vi 1) ∧ F = D')) := by
  refine Con.of (ls := #[rv p1]) (by decide +kernel) rfl ?_
  refine W.gets d15_0 (wq hw 13 rfl) Via.refl hs.1 ?_
  refine W.ifN d15_3 (n_eq (by have := hs.2.1; have := q0; omega)) ?_
  refine W.aloadN d15_6 rfl rfl ?_
  refine W.getf d15_7 (wq hw 33 rfl) Via.refl mp1 m1 ?_
  refine W.ifN d15_10 (n_ne (by decide)) ?_
  refine W.iconst (1) d15_13 (by decide) ?_
  refine W.goto 18 d15_14 (by decide) ?_
  exact W.ireturn d15_18 rfl (Or.inr (Or.inl rfl)) (nw_bool (by decide)) (by decide) ⟨rfl, rfl⟩
theorem d14_4 : decode jdk_42_method_56_code 4 = .ok (.ifCond .eq 12, 3) := by decide +kernel
theorem d14_7 : decode jdk_42_method_56_code 7 = .ok (.aload_n 0, 1) := by decide +kernel
theorem d14_8 : decode jdk_42_method_56_code 8 = .ok (.getfield 9, 3) := by decide +kernel
theorem d14_11 : decode jdk_42_method_56_code 11 = .ok (.iload_n 1, 1) := by decide +kernel
theorem d14_12 : decode jdk_42_method_56_code 12 = .ok (.invokestatic 495, 3) := by decide +kernel
theorem d16_0 : decode jdk_43_method_2_code 0 = .ok (.iload_n 1, 1) := by decide +kernel
theorem d16_1 : decode jdk_43_method_2_code 1 = .ok (.aload_n 0, 1) := by decide +kernel
theorem d16_2 : decode jdk_43_method_2_code 2 = .ok (.arraylength, 1) := by decide +kernel
theorem d16_3 : decode jdk_43_method_2_code 3 = .ok (.invokestatic 9, 3) := by decide +kernel
theorem d17_0 : decode jdk_42_method_155_code 0 = .ok (.iload_n 0, 1) := by decide +kernel
theorem d17_1 : decode jdk_42_method_155_code 1 = .ok (.iload_n 1, 1) := by decide +kernel
theorem d17_2 : decode jdk_42_method_155_code 2 = .ok (.getstatic 1053, 3) := by decide +kernel
theorem d17_5 : decode jdk_42_method_155_code 5 = .ok (.invokestatic 1059, 3) := by decide +kernel
theorem d18_0 : decode jdk_41_method_11_code 0 = .ok (.iload_n 0, 1) := by decide +kernel
theorem d18_1 : decode jdk_41_method_11_code 1 = .ok (.ifCond .lt 8, 3) := by decide +kernel
theorem d18_4 : decode jdk_41_method_11_code 4 = .ok (.iload_n 0, 1) := by decide +kernel
theorem d18_5 : decode jdk_41_method_11_code 5 = .ok (.iload_n 1, 1) := by decide +kernel
theorem d18_6 : decode jdk_41_method_11_code 6 = .ok (.if_icmp .lt 10, 3) := by decide +kernel
theorem d18_16 : decode jdk_41_method_11_code 16 = .ok (.iload_n 0, 1) := by decide +kernel
theorem d18_17 : decode jdk_41_method_11_code 17 = .ok (.ireturn, 1) := by decide +kernel
abbrev y11 : MethodName := ⟨"jdk/internal/util/Preconditions", "checkIndex", "(IILjava/util/function/BiFunction;)I"⟩
abbrev y11b : ByteArray := jdk_41_method_11_code
abbrev y11r : Option Jvm.ClassFile.FieldType := (Option.some Jvm.ClassFile.FieldType.int)
theorem c20_checkIndex {Z a0} (hw : HW a0 Z) (hs : SF Z) {F : List Ent} : Con Z EL y11 y11b 3 y11r (rmm 0 0 0 0) [(vi 0), (vi 1), (sfv Z)] (F) (fun v D' => (v = some (vi 0) ∧ F = D')) := by
  refine Con.of (ls := #[iv 0, iv 1, .val (sfv Z)]) (by decide +kernel) (hent_of (ld1 rfl (ld1 rfl (ld1 (XT.cat1 hs.2.2.1) ld0))) rfl) ?_
  refine W.iloadN d18_0 rfl ?_
  refine W.ifN d18_1 (n_lt (by decide)) ?_
  refine W.iloadN d18_4 rfl ?_
  refine W.iloadN d18_5 rfl ?_
  refine W.icmpY 16 d18_6 (y_lt (by decide)) (by decide) ?_
  refine W.iloadN d18_16 rfl ?_
  exact W.ireturn d18_17 rfl (Or.inl rfl) rfl (by decide) ⟨rfl, rfl⟩
theorem pd_IILjava_util_function_BiFunction__I : parseMethodDescriptor "(IILjava/util/function/BiFunction;)I" = some ⟨[.int, .int, (.object "java/util/function/BiFunction")], some .int⟩ := by decide +kernel
theorem d17_8 : decode jdk_42_method_155_code 8 = .ok (.pop, 1) := by decide +kernel
theorem d17_9 : decode jdk_42_method_155_code 9 = .ok (.return_, 1) := by decide +kernel
abbrev y12 : MethodName := ⟨"java/lang/String", "checkIndex", "(II)V"⟩
abbrev y12b : ByteArray := jdk_42_method_155_code
abbrev y12r : Option Jvm.ClassFile.FieldType := (Option.none : Option Jvm.ClassFile.FieldType)
theorem c19_checkIndex {Z a0} (hw : HW a0 Z) (hs : SF Z) {F : List Ent} : Con Z EL y12 y12b 2 y12r (rmm 1 0 0 14) [(vi 0), (vi 1)] (F) (fun v D' => (v = none ∧ F = D')) := by
  refine Con.of (ls := #[iv 0, iv 1]) (by decide +kernel) rfl ?_
  refine W.iloadN d17_0 rfl ?_
  refine W.iloadN d17_1 rfl ?_
  refine W.gets d17_2 (wq hw 84 rfl) Via.refl hs.2.2.2.1 ?_
  refine W.callS (as := [(vi 0), (vi 1), (sfv Z)]) 0 [] d17_5 (wq hw 86 rfl) (wq hw 87 rfl) (wq hw 85 rfl) (wq hw 88 rfl) (c20_checkIndex hw hs) (by decide) pd_IILjava_util_function_BiFunction__I rfl rfl rfl rfl (by decide) (fun v D' h => ?_)
  obtain ⟨rfl, rfl⟩ := h
  show W _ _ _ _ _ _ _ _ _ _ _ _ 8 _ [(vi 0)]
  refine W.popv d17_8 rfl ?_
  exact W.return_ d17_9 rfl (by decide) ⟨rfl, rfl⟩
theorem pd_II_V : parseMethodDescriptor "(II)V" = some ⟨[.int, .int], none⟩ := by decide +kernel
theorem d16_6 : decode jdk_43_method_2_code 6 = .ok (.aload_n 0, 1) := by decide +kernel
theorem d16_7 : decode jdk_43_method_2_code 7 = .ok (.iload_n 1, 1) := by decide +kernel
theorem d16_8 : decode jdk_43_method_2_code 8 = .ok (.baload, 1) := by decide +kernel
theorem d16_9 : decode jdk_43_method_2_code 9 = .ok (.sipush 255, 3) := by decide +kernel
theorem d16_12 : decode jdk_43_method_2_code 12 = .ok (.iand, 1) := by decide +kernel
theorem d16_13 : decode jdk_43_method_2_code 13 = .ok (.i2c, 1) := by decide +kernel
theorem d16_14 : decode jdk_43_method_2_code 14 = .ok (.ireturn, 1) := by decide +kernel
abbrev y13 : MethodName := ⟨"java/lang/StringLatin1", "charAt", "([BI)C"⟩
abbrev y13b : ByteArray := jdk_43_method_2_code
abbrev y13r : Option Jvm.ClassFile.FieldType := (Option.some Jvm.ClassFile.FieldType.char)
theorem c18_charAt {Z a0} (hw : HW a0 Z) (hs : SF Z) {p1 : Addr} {x1 : Int32} (hx1 : (45 ≤ x1.toInt ∧ x1.toInt ≤ 46) ∨ (48 ≤ x1.toInt ∧ x1.toInt ≤ 57) ∨ (65 ≤ x1.toInt ∧ x1.toInt ≤ 90) ∨ x1.toInt = 95 ∨ (97 ≤ x1.toInt ∧ x1.toInt ≤ 122)) {w_p1 : Bool} {ad_p1 : String} {F : List Ent} (mp1 : (p1, w_p1, ar ad_p1 .byte [(vi x1)]) ∈ F) : Con Z EL y13 y13b 2 y13r (rmm 2 0 0 27) [(vr p1), (vi 0)] (F) (fun v D' => (v = some (vi x1) ∧ F = D')) := by
  refine Con.of (ls := #[rv p1, iv 0]) (by decide +kernel) rfl ?_
  refine W.iloadN d16_0 rfl ?_
  refine W.aloadN d16_1 rfl rfl ?_
  refine W.alen (1) d16_2 mp1 rfl ?_
  refine W.callS (as := [(vi 0), (vi 1)]) 0 [] d16_3 (wq hw 81 rfl) (wq hw 82 rfl) (wq hw 11 rfl) (wq hw 83 rfl) (c19_checkIndex hw hs) (by decide) pd_II_V rfl rfl rfl rfl (by decide) (fun v D' h => ?_)
  obtain ⟨rfl, rfl⟩ := h
  show W _ _ _ _ _ _ _ _ _ _ _ _ 6 _ []
  refine W.aloadN d16_6 rfl rfl ?_
  refine W.iloadN d16_7 rfl ?_
  refine W.baload 0 d16_8 mp1 ix0 rfl ?_
  refine W.sipush (255) d16_9 (by decide) ?_
  refine W.iandK x1 d16_12 (z_and 8 256 (by decide) (by decide) (by decide) (by omega)) ?_
  refine W.i2cK x1 d16_13 (z_i2c (by omega)) ?_
  exact W.ireturn d16_14 rfl (Or.inr (Or.inr (Or.inr (Or.inl rfl)))) (nw_char (by omega)) (by decide) ⟨rfl, rfl⟩
theorem pd__BI_C : parseMethodDescriptor "([BI)C" = some ⟨[(.array .byte), .int], some .char⟩ := by decide +kernel
theorem d14_15 : decode jdk_42_method_56_code 15 = .ok (.ireturn, 1) := by decide +kernel
abbrev y14 : MethodName := ⟨"java/lang/String", "charAt", "(I)C"⟩
abbrev y14b : ByteArray := jdk_42_method_56_code
abbrev y14r : Option Jvm.ClassFile.FieldType := (Option.some Jvm.ClassFile.FieldType.char)
theorem c16_charAt {Z a0} (hw : HW a0 Z) (hs : SF Z) {p1 p2 : Addr} {x1 : Int32} (hx1 : (45 ≤ x1.toInt ∧ x1.toInt ≤ 46) ∨ (48 ≤ x1.toInt ∧ x1.toInt ≤ 57) ∨ (65 ≤ x1.toInt ∧ x1.toInt ≤ 90) ∨ x1.toInt = 95 ∨ (97 ≤ x1.toInt ∧ x1.toInt ≤ 122)) {w_p1 : Bool} {w_p2 : Bool} {ad_p2 : String} {F : List Ent} (mp1 : (p1, w_p1, oString (vr p2) (vi 0)) ∈ F) (mp2 : (p2, w_p2, ar ad_p2 .byte [(vi x1)]) ∈ F) : Con Z EL y14 y14b 2 y14r (rmm 3 0 0 40) [(vr p1), (vi 0)] (F) (fun v D' => (v = some (vi x1) ∧ F = D')) := by
  refine Con.of (ls := #[rv p1, iv 0]) (by decide +kernel) rfl ?_
  refine W.aloadN d14_0 rfl rfl ?_
  refine W.callV (as := []) 0 [] d14_1 (wq hw 73 rfl) (wq hw 74 rfl) (wq hw 76 rfl) (wq hw 76 rfl) (wq hw 75 rfl) (wq hw 11 rfl) (wq hw 77 rfl) (Hp.exa mp1) (c17_isLatin1 hw hs (mp1 := mp1)) (by decide) pd__Z rfl rfl rfl rfl (by decide) (fun v D' h => ?_)
  obtain ⟨rfl, rfl⟩ := h
  show W _ _ _ _ _ _ _ _ _ _ _ _ 4 _ [(vi 1)]
  refine W.ifN d14_4 (n_eq (by decide)) ?_
  refine W.aloadN d14_7 rfl rfl ?_
  refine W.getf d14_8 (wq hw 31 rfl) Via.refl mp1 m0 ?_
  refine W.iloadN d14_11 rfl ?_
  refine W.callS (as := [(vr p2), (vi 0)]) 0 [] d14_12 (wq hw 78 rfl) (wq hw 79 rfl) (wq hw 16 rfl) (wq hw 80 rfl) (c18_charAt hw hs (hx1 := hx1) (mp1 := mp2)) (by decide) pd__BI_C rfl rfl rfl rfl (by decide) (fun v D' h => ?_)
  obtain ⟨rfl, rfl⟩ := h
  show W _ _ _ _ _ _ _ _ _ _ _ _ 15 _ [(vi x1)]
  exact W.ireturn d14_15 rfl (Or.inr (Or.inr (Or.inr (Or.inl rfl)))) (nw_char (by omega)) (by decide) ⟨rfl, rfl⟩
theorem d10_40 : decode prog_9_method_2_code 40 = .ok (.istore_n 3, 1) := by decide +kernel
theorem d10_41 : decode prog_9_method_2_code 41 = .ok (.iload_n 3, 1) := by decide +kernel
theorem d10_42 : decode prog_9_method_2_code 42 = .ok (.invokestatic 72, 3) := by decide +kernel
theorem d19_0 : decode prog_8_method_9_code 0 = .ok (.iload_n 0, 1) := by decide +kernel
theorem d19_1 : decode prog_8_method_9_code 1 = .ok (.bipush 65, 2) := by decide +kernel
theorem d19_3 : decode prog_8_method_9_code 3 = .ok (.if_icmp .lt 9, 3) := by decide +kernel
theorem d19_12 : decode prog_8_method_9_code 12 = .ok (.iload_n 0, 1) := by decide +kernel
theorem d19_13 : decode prog_8_method_9_code 13 = .ok (.bipush 97, 2) := by decide +kernel
theorem d19_15 : decode prog_8_method_9_code 15 = .ok (.if_icmp .lt 9, 3) := by decide +kernel
theorem d19_24 : decode prog_8_method_9_code 24 = .ok (.iload_n 0, 1) := by decide +kernel
theorem d19_25 : decode prog_8_method_9_code 25 = .ok (.bipush 48, 2) := by decide +kernel
theorem d19_27 : decode prog_8_method_9_code 27 = .ok (.if_icmp .lt 13, 3) := by decide +kernel
theorem d19_40 : decode prog_8_method_9_code 40 = .ok (.iconst 0, 1) := by decide +kernel
theorem d19_41 : decode prog_8_method_9_code 41 = .ok (.ireturn, 1) := by decide +kernel
theorem d19_30 : decode prog_8_method_9_code 30 = .ok (.iload_n 0, 1) := by decide +kernel
theorem d19_31 : decode prog_8_method_9_code 31 = .ok (.bipush 57, 2) := by decide +kernel
theorem d19_33 : decode prog_8_method_9_code 33 = .ok (.if_icmp .gt 7, 3) := by decide +kernel
theorem q57 : (57 : Int32).toInt = 57 := by decide
theorem d19_36 : decode prog_8_method_9_code 36 = .ok (.iconst 1, 1) := by decide +kernel
theorem d19_37 : decode prog_8_method_9_code 37 = .ok (.goto 4, 3) := by decide +kernel
theorem d19_6 : decode prog_8_method_9_code 6 = .ok (.iload_n 0, 1) := by decide +kernel
theorem d19_7 : decode prog_8_method_9_code 7 = .ok (.bipush 90, 2) := by decide +kernel
theorem d19_9 : decode prog_8_method_9_code 9 = .ok (.if_icmp .le 27, 3) := by decide +kernel
theorem q90 : (90 : Int32).toInt = 90 := by decide
theorem d19_18 : decode prog_8_method_9_code 18 = .ok (.iload_n 0, 1) := by decide +kernel
theorem d19_19 : decode prog_8_method_9_code 19 = .ok (.bipush 122, 2) := by decide +kernel
theorem d19_21 : decode prog_8_method_9_code 21 = .ok (.if_icmp .le 15, 3) := by decide +kernel
theorem q122 : (122 : Int32).toInt = 122 := by decide
abbrev y15 : MethodName := ⟨"com/example/cunctator/cunctator/JobKey", "isAsciiLetterOrDigit", "(C)Z"⟩
abbrev y15b : ByteArray := prog_8_method_9_code
abbrev y15r : Option Jvm.ClassFile.FieldType := (Option.some Jvm.ClassFile.FieldType.boolean)
theorem c21_isAsciiLetterOrDigit {Z a0} (hw : HW a0 Z) (hs : SF Z) {x1 : Int32} (hx1 : (45 ≤ x1.toInt ∧ x1.toInt ≤ 46) ∨ (48 ≤ x1.toInt ∧ x1.toInt ≤ 57) ∨ (65 ≤ x1.toInt ∧ x1.toInt ≤ 90) ∨ x1.toInt = 95 ∨ (97 ≤ x1.toInt ∧ x1.toInt ≤ 122)) {F : List Ent} : Con Z EL y15 y15b 1 y15r (rmm 0 0 0 0) [(vi x1)] (F) (fun v D' => (Cd .lt x1 (65 : Int32) ∧ Cd .lt x1 (48 : Int32) ∧ v = some (vi 0) ∧ F = D') ∨ (Cd .lt x1 (65 : Int32) ∧ ¬ Cd .lt x1 (48 : Int32) ∧ v = some (vi 1) ∧ F = D') ∨ (¬ Cd .lt x1 (65 : Int32) ∧ Cd .le x1 (90 : Int32) ∧ v = some (vi 1) ∧ F = D') ∨ (¬ Cd .lt x1 (65 : Int32) ∧ ¬ Cd .le x1 (90 : Int32) ∧ Cd .lt x1 (97 : Int32) ∧ v = some (vi 0) ∧ F = D') ∨ (¬ Cd .lt x1 (65 : Int32) ∧ ¬ Cd .le x1 (90 : Int32) ∧ ¬ Cd .lt x1 (97 : Int32) ∧ v = some (vi 1) ∧ F = D')) := by
  refine Con.of (ls := #[iv x1]) (by decide +kernel) rfl ?_
  refine W.iloadN d19_0 rfl ?_
  refine W.bipush (65) d19_1 (by decide) ?_
  refine W.icmp 12 d19_3 (by decide) (fun h1 => ?_) (fun h1 => ?_)
  ·
   have ih1 := t_lt h1
   refine W.iloadN d19_12 rfl ?_
   refine W.bipush (97) d19_13 (by decide) ?_
   refine W.icmpY 24 d19_15 (y_lt (by have := q97; have := q65; omega)) (by decide) ?_
   refine W.iloadN d19_24 rfl ?_
   refine W.bipush (48) d19_25 (by decide) ?_
   refine W.icmp 40 d19_27 (by decide) (fun h2 => ?_) (fun h2 => ?_)
   ·
    have ih2 := t_lt h2
    refine W.iconst (0) d19_40 (by decide) ?_
    exact W.ireturn d19_41 rfl (Or.inr (Or.inl rfl)) (nw_bool (by decide)) (by decide) (Or.inl ⟨h1, h2, rfl, rfl⟩)
   ·
    have ih2 := f_lt h2
    refine W.iloadN d19_30 rfl ?_
    refine W.bipush (57) d19_31 (by decide) ?_
    refine W.icmpN d19_33 (n_gt (by have := q57; have := q65; have := q48; omega)) ?_
    refine W.iconst (1) d19_36 (by decide) ?_
    refine W.goto 41 d19_37 (by decide) ?_
    exact W.ireturn d19_41 rfl (Or.inr (Or.inl rfl)) (nw_bool (by decide)) (by decide) (Or.inr (Or.inl ⟨h1, h2, rfl, rfl⟩))
  ·
   have ih1 := f_lt h1
   refine W.iloadN d19_6 rfl ?_
   refine W.bipush (90) d19_7 (by decide) ?_
   refine W.icmp 36 d19_9 (by decide) (fun h3 => ?_) (fun h3 => ?_)
   ·
    have ih3 := t_le h3
    refine W.iconst (1) d19_36 (by decide) ?_
    refine W.goto 41 d19_37 (by decide) ?_
    exact W.ireturn d19_41 rfl (Or.inr (Or.inl rfl)) (nw_bool (by decide)) (by decide) (Or.inr (Or.inr (Or.inl ⟨h1, h3, rfl, rfl⟩)))
   ·
    have ih3 := f_le h3
    refine W.iloadN d19_12 rfl ?_
    refine W.bipush (97) d19_13 (by decide) ?_
    refine W.icmp 24 d19_15 (by decide) (fun h4 => ?_) (fun h4 => ?_)
    ·
     have ih4 := t_lt h4
     refine W.iloadN d19_24 rfl ?_
     refine W.bipush (48) d19_25 (by decide) ?_
     refine W.icmpN d19_27 (n_lt (by have := q48; have := q65; have := q90; have := q97; omega)) ?_
     refine W.iloadN d19_30 rfl ?_
     refine W.bipush (57) d19_31 (by decide) ?_
     refine W.icmpY 40 d19_33 (y_gt (by have := q57; have := q65; have := q90; have := q97; omega)) (by decide) ?_
     refine W.iconst (0) d19_40 (by decide) ?_
     exact W.ireturn d19_41 rfl (Or.inr (Or.inl rfl)) (nw_bool (by decide)) (by decide) (Or.inr (Or.inr (Or.inr (Or.inl ⟨h1, h3, h4, rfl, rfl⟩))))
    ·
     have ih4 := f_lt h4
     refine W.iloadN d19_18 rfl ?_
     refine W.bipush (122) d19_19 (by decide) ?_
     refine W.icmpY 36 d19_21 (y_le (by have := q122; have := q65; have := q90; have := q97; omega)) (by decide) ?_
     refine W.iconst (1) d19_36 (by decide) ?_
     refine W.goto 41 d19_37 (by decide) ?_
     exact W.ireturn d19_41 rfl (Or.inr (Or.inl rfl)) (nw_bool (by decide)) (by decide) (Or.inr (Or.inr (Or.inr (Or.inr ⟨h1, h3, h4, rfl, rfl⟩))))
theorem d10_45 : decode prog_9_method_2_code 45 = .ok (.ifCond .ne 39, 3) := by decide +kernel
theorem d10_48 : decode prog_9_method_2_code 48 = .ok (.aload_n 0, 1) := by decide +kernel
theorem d10_49 : decode prog_9_method_2_code 49 = .ok (.getfield 13, 3) := by decide +kernel
theorem d10_52 : decode prog_9_method_2_code 52 = .ok (.iload_n 3, 1) := by decide +kernel
theorem d10_53 : decode prog_9_method_2_code 53 = .ok (.invokevirtual 78, 3) := by decide +kernel
theorem d46_0 : decode jdk_42_method_79_code 0 = .ok (.aload_n 0, 1) := by decide +kernel
theorem d46_1 : decode jdk_42_method_79_code 1 = .ok (.iload_n 1, 1) := by decide +kernel
theorem d46_2 : decode jdk_42_method_79_code 2 = .ok (.iconst 0, 1) := by decide +kernel
theorem d46_3 : decode jdk_42_method_79_code 3 = .ok (.invokevirtual 633, 3) := by decide +kernel
theorem d47_0 : decode jdk_42_method_80_code 0 = .ok (.aload_n 0, 1) := by decide +kernel
theorem d47_1 : decode jdk_42_method_80_code 1 = .ok (.invokevirtual 492, 3) := by decide +kernel
theorem d47_4 : decode jdk_42_method_80_code 4 = .ok (.ifCond .eq 19, 3) := by decide +kernel
theorem d47_7 : decode jdk_42_method_80_code 7 = .ok (.aload_n 0, 1) := by decide +kernel
theorem d47_8 : decode jdk_42_method_80_code 8 = .ok (.getfield 9, 3) := by decide +kernel
theorem d47_11 : decode jdk_42_method_80_code 11 = .ok (.iload_n 1, 1) := by decide +kernel
theorem d47_12 : decode jdk_42_method_80_code 12 = .ok (.iload_n 2, 1) := by decide +kernel
theorem d47_13 : decode jdk_42_method_80_code 13 = .ok (.aload_n 0, 1) := by decide +kernel
theorem d47_14 : decode jdk_42_method_80_code 14 = .ok (.invokevirtual 505, 3) := by decide +kernel
theorem c24_length {Z a0} (hw : HW a0 Z) (hs : SF Z) {w_og2Z : Bool} {w_og3Z : Bool} {ad_og3Z : String} {F : List Ent} (mog2Z : ((og2 Z), w_og2Z, oString (vr (og3 Z)) (vi 0)) ∈ F) (mog3Z : ((og3 Z), w_og3Z, ar ad_og3Z .byte [(vi 46), (vi 95), (vi 45)]) ∈ F) : Con Z EL y9 y9b 1 y9r (rmm 1 0 0 13) [(vr (og2 Z))] (F) (fun v D' => (v = some (vi 3) ∧ F = D')) := by
  refine Con.of (ls := #[rv (og2 Z)]) (by decide +kernel) rfl ?_
  refine W.aloadN d12_0 rfl rfl ?_
  refine W.getf d12_1 (wq hw 31 rfl) Via.refl mog2Z m0 ?_
  refine W.alen (3) d12_4 mog3Z rfl ?_
  refine W.aloadN d12_5 rfl rfl ?_
  refine W.callV (as := []) 1 [(vi 3)] d12_6 (wq hw 63 rfl) (wq hw 64 rfl) (wq hw 66 rfl) (wq hw 66 rfl) (wq hw 65 rfl) (wq hw 11 rfl) (wq hw 67 rfl) (Hp.exa mog2Z) (c15_coder hw hs (mp1 := mog2Z)) (by decide) pd__B rfl rfl rfl rfl (by decide) (fun v D' h => ?_)
  obtain ⟨rfl, rfl⟩ := h
  show W _ _ _ _ _ _ _ _ _ _ _ _ 9 _ [(vi 0), (vi 3)]
  refine W.ishrK (3 : Int32) d12_9 (by decide) ?_
  exact W.ireturn d12_10 rfl (Or.inl rfl) rfl (by decide) ⟨rfl, rfl⟩
theorem d47_17 : decode jdk_42_method_80_code 17 = .ok (.invokestatic 637, 3) := by decide +kernel
theorem d48_0 : decode jdk_43_method_22_code 0 = .ok (.iload_n 1, 1) := by decide +kernel
theorem d48_1 : decode jdk_43_method_22_code 1 = .ok (.invokestatic 88, 3) := by decide +kernel
theorem d49_0 : decode jdk_43_method_4_code 0 = .ok (.iload_n 0, 1) := by decide +kernel
theorem d49_1 : decode jdk_43_method_4_code 1 = .ok (.ifCond .lt 14, 3) := by decide +kernel
theorem d49_4 : decode jdk_43_method_4_code 4 = .ok (.iload_n 0, 1) := by decide +kernel
theorem d49_5 : decode jdk_43_method_4_code 5 = .ok (.sipush 255, 3) := by decide +kernel
theorem d49_8 : decode jdk_43_method_4_code 8 = .ok (.if_icmp .gt 7, 3) := by decide +kernel
theorem d49_11 : decode jdk_43_method_4_code 11 = .ok (.iconst 1, 1) := by decide +kernel
theorem d49_12 : decode jdk_43_method_4_code 12 = .ok (.goto 4, 3) := by decide +kernel
theorem d49_16 : decode jdk_43_method_4_code 16 = .ok (.ireturn, 1) := by decide +kernel
abbrev y16 : MethodName := ⟨"java/lang/StringLatin1", "canEncode", "(I)Z"⟩
abbrev y16b : ByteArray := jdk_43_method_4_code
abbrev y16r : Option Jvm.ClassFile.FieldType := (Option.some Jvm.ClassFile.FieldType.boolean)
theorem c26_canEncode {Z a0} (hw : HW a0 Z) (hs : SF Z) {x1 : Int32} (hx1 : (45 ≤ x1.toInt ∧ x1.toInt ≤ 46) ∨ (48 ≤ x1.toInt ∧ x1.toInt ≤ 57) ∨ (65 ≤ x1.toInt ∧ x1.toInt ≤ 90) ∨ x1.toInt = 95 ∨ (97 ≤ x1.toInt ∧ x1.toInt ≤ 122)) {F : List Ent} : Con Z EL y16 y16b 1 y16r (rmm 0 0 0 0) [(vi x1)] (F) (fun v D' => (v = some (vi 1) ∧ F = D')) := by
  refine Con.of (ls := #[iv x1]) (by decide +kernel) rfl ?_
  refine W.iloadN d49_0 rfl ?_
  refine W.ifN d49_1 (n_lt (by have := q0; omega)) ?_
  refine W.iloadN d49_4 rfl ?_
  refine W.sipush (255) d49_5 (by decide) ?_
  refine W.icmpN d49_8 (n_gt (by have := q255; omega)) ?_
  refine W.iconst (1) d49_11 (by decide) ?_
  refine W.goto 16 d49_12 (by decide) ?_
  exact W.ireturn d49_16 rfl (Or.inr (Or.inl rfl)) (nw_bool (by decide)) (by decide) ⟨rfl, rfl⟩
theorem pd_I_Z : parseMethodDescriptor "(I)Z" = some ⟨[.int], some .boolean⟩ := by decide +kernel
theorem d48_4 : decode jdk_43_method_22_code 4 = .ok (.ifCond .ne 5, 3) := by decide +kernel
theorem d48_9 : decode jdk_43_method_22_code 9 = .ok (.iload_n 2, 1) := by decide +kernel
theorem d48_10 : decode jdk_43_method_22_code 10 = .ok (.iconst 0, 1) := by decide +kernel
theorem d48_11 : decode jdk_43_method_22_code 11 = .ok (.invokestatic 92, 3) := by decide +kernel
theorem d50_0 : decode jdk_29_method_65_code 0 = .ok (.iload_n 0, 1) := by decide +kernel
theorem d50_1 : decode jdk_29_method_65_code 1 = .ok (.iload_n 1, 1) := by decide +kernel
theorem d50_2 : decode jdk_29_method_65_code 2 = .ok (.if_icmp .lt 7, 3) := by decide +kernel
theorem d50_5 : decode jdk_29_method_65_code 5 = .ok (.iload_n 0, 1) := by decide +kernel
theorem d50_6 : decode jdk_29_method_65_code 6 = .ok (.goto 4, 3) := by decide +kernel
theorem d50_10 : decode jdk_29_method_65_code 10 = .ok (.ireturn, 1) := by decide +kernel
abbrev y17 : MethodName := ⟨"java/lang/Math", "max", "(II)I"⟩
abbrev y17b : ByteArray := jdk_29_method_65_code
abbrev y17r : Option Jvm.ClassFile.FieldType := (Option.some Jvm.ClassFile.FieldType.int)
theorem c27_max {Z a0} (hw : HW a0 Z) (hs : SF Z) {F : List Ent} : Con Z EL y17 y17b 2 y17r (rmm 0 0 0 0) [(vi 0), (vi 0)] (F) (fun v D' => (v = some (vi 0) ∧ F = D')) := by
  refine Con.of (ls := #[iv 0, iv 0]) (by decide +kernel) rfl ?_
  refine W.iloadN d50_0 rfl ?_
  refine W.iloadN d50_1 rfl ?_
  refine W.icmpN d50_2 (n_lt (by decide)) ?_
  refine W.iloadN d50_5 rfl ?_
  refine W.goto 10 d50_6 (by decide) ?_
  exact W.ireturn d50_10 rfl (Or.inl rfl) rfl (by decide) ⟨rfl, rfl⟩
theorem pd_II_I : parseMethodDescriptor "(II)I" = some ⟨[.int, .int], some .int⟩ := by decide +kernel
theorem d48_14 : decode jdk_43_method_22_code 14 = .ok (.istore_n 2, 1) := by decide +kernel
theorem d48_15 : decode jdk_43_method_22_code 15 = .ok (.iload_n 3, 1) := by decide +kernel
theorem d48_16 : decode jdk_43_method_22_code 16 = .ok (.aload_n 0, 1) := by decide +kernel
theorem d48_17 : decode jdk_43_method_22_code 17 = .ok (.arraylength, 1) := by decide +kernel
theorem d48_18 : decode jdk_43_method_22_code 18 = .ok (.invokestatic 38, 3) := by decide +kernel
theorem d40_0 : decode jdk_29_method_69_code 0 = .ok (.iload_n 0, 1) := by decide +kernel
theorem d40_1 : decode jdk_29_method_69_code 1 = .ok (.iload_n 1, 1) := by decide +kernel
theorem d40_2 : decode jdk_29_method_69_code 2 = .ok (.if_icmp .gt 7, 3) := by decide +kernel
theorem d40_5 : decode jdk_29_method_69_code 5 = .ok (.iload_n 0, 1) := by decide +kernel
theorem d40_6 : decode jdk_29_method_69_code 6 = .ok (.goto 4, 3) := by decide +kernel
theorem d40_10 : decode jdk_29_method_69_code 10 = .ok (.ireturn, 1) := by decide +kernel
abbrev y18 : MethodName := ⟨"java/lang/Math", "min", "(II)I"⟩
abbrev y18b : ByteArray := jdk_29_method_69_code
abbrev y18r : Option Jvm.ClassFile.FieldType := (Option.some Jvm.ClassFile.FieldType.int)
theorem c28_min {Z a0} (hw : HW a0 Z) (hs : SF Z) {F : List Ent} : Con Z EL y18 y18b 2 y18r (rmm 0 0 0 0) [(vi 3), (vi 3)] (F) (fun v D' => (v = some (vi 3) ∧ F = D')) := by
  refine Con.of (ls := #[iv 3, iv 3]) (by decide +kernel) rfl ?_
  refine W.iloadN d40_0 rfl ?_
  refine W.iloadN d40_1 rfl ?_
  refine W.icmpN d40_2 (n_gt (by decide)) ?_
  refine W.iloadN d40_5 rfl ?_
  refine W.goto 10 d40_6 (by decide) ?_
  exact W.ireturn d40_10 rfl (Or.inl rfl) rfl (by decide) ⟨rfl, rfl⟩
theorem d48_21 : decode jdk_43_method_22_code 21 = .ok (.istore_n 3, 1) := by decide +kernel
theorem d48_22 : decode jdk_43_method_22_code 22 = .ok (.iload_n 2, 1) := by decide +kernel
theorem d48_23 : decode jdk_43_method_22_code 23 = .ok (.iload_n 3, 1) := by decide +kernel
theorem d48_24 : decode jdk_43_method_22_code 24 = .ok (.if_icmp .lt 5, 3) := by decide +kernel
theorem d48_29 : decode jdk_43_method_22_code 29 = .ok (.aload_n 0, 1) := by decide +kernel
theorem d48_30 : decode jdk_43_method_22_code 30 = .ok (.iload_n 1, 1) := by decide +kernel
theorem d48_31 : decode jdk_43_method_22_code 31 = .ok (.iload_n 2, 1) := by decide +kernel
theorem d48_32 : decode jdk_43_method_22_code 32 = .ok (.iload_n 3, 1) := by decide +kernel
theorem d48_33 : decode jdk_43_method_22_code 33 = .ok (.invokestatic 95, 3) := by decide +kernel
theorem d51_0 : decode jdk_43_method_23_code 0 = .ok (.iload_n 1, 1) := by decide +kernel
theorem d51_1 : decode jdk_43_method_23_code 1 = .ok (.i2b, 1) := by decide +kernel
theorem d51_2 : decode jdk_43_method_23_code 2 = .ok (.istore 4, 2) := by decide +kernel
theorem d51_4 : decode jdk_43_method_23_code 4 = .ok (.iload_n 2, 1) := by decide +kernel
theorem d51_5 : decode jdk_43_method_23_code 5 = .ok (.istore 5, 2) := by decide +kernel
theorem d51_7 : decode jdk_43_method_23_code 7 = .ok (.iload 5, 2) := by decide +kernel
theorem d51_9 : decode jdk_43_method_23_code 9 = .ok (.iload_n 3, 1) := by decide +kernel
theorem d51_10 : decode jdk_43_method_23_code 10 = .ok (.if_icmp .ge 21, 3) := by decide +kernel
theorem d51_13 : decode jdk_43_method_23_code 13 = .ok (.aload_n 0, 1) := by decide +kernel
theorem d51_14 : decode jdk_43_method_23_code 14 = .ok (.iload 5, 2) := by decide +kernel
theorem d51_16 : decode jdk_43_method_23_code 16 = .ok (.baload, 1) := by decide +kernel
theorem d51_17 : decode jdk_43_method_23_code 17 = .ok (.iload 4, 2) := by decide +kernel
theorem d51_19 : decode jdk_43_method_23_code 19 = .ok (.if_icmp .ne 6, 3) := by decide +kernel
theorem d51_25 : decode jdk_43_method_23_code 25 = .ok (.iinc 5 1, 3) := by decide +kernel
theorem d51_28 : decode jdk_43_method_23_code 28 = .ok (.goto (-21), 3) := by decide +kernel
theorem d51_31 : decode jdk_43_method_23_code 31 = .ok (.iconst (-1), 1) := by decide +kernel
theorem d51_32 : decode jdk_43_method_23_code 32 = .ok (.ireturn, 1) := by decide +kernel
theorem d51_22 : decode jdk_43_method_23_code 22 = .ok (.iload 5, 2) := by decide +kernel
theorem d51_24 : decode jdk_43_method_23_code 24 = .ok (.ireturn, 1) := by decide +kernel
abbrev y19 : MethodName := ⟨"java/lang/StringLatin1", "indexOfChar", "([BIII)I"⟩
abbrev y19b : ByteArray := jdk_43_method_23_code
abbrev y19r : Option Jvm.ClassFile.FieldType := (Option.some Jvm.ClassFile.FieldType.int)
theorem c29_indexOfChar {Z a0} (hw : HW a0 Z) (hs : SF Z) {x1 : Int32} (hx1 : (45 ≤ x1.toInt ∧ x1.toInt ≤ 46) ∨ (48 ≤ x1.toInt ∧ x1.toInt ≤ 57) ∨ (65 ≤ x1.toInt ∧ x1.toInt ≤ 90) ∨ x1.toInt = 95 ∨ (97 ≤ x1.toInt ∧ x1.toInt ≤ 122)) {w_og3Z : Bool} {ad_og3Z : String} {F : List Ent} (mog3Z : ((og3 Z), w_og3Z, ar ad_og3Z .byte [(vi 46), (vi 95), (vi 45)]) ∈ F) : Con Z EL y19 y19b 6 y19r (rmm 0 0 0 0) [(vr (og3 Z)), (vi x1), (vi 0), (vi 3)] (F) (fun v D' => (Cd .ne (46 : Int32) x1 ∧ Cd .ne (95 : Int32) x1 ∧ Cd .ne (45 : Int32) x1 ∧ v = some (vi (-1)) ∧ F = D') ∨ (Cd .ne (46 : Int32) x1 ∧ Cd .ne (95 : Int32) x1 ∧ ¬ Cd .ne (45 : Int32) x1 ∧ v = some (vi 2) ∧ F = D') ∨ (Cd .ne (46 : Int32) x1 ∧ ¬ Cd .ne (95 : Int32) x1 ∧ v = some (vi 1) ∧ F = D') ∨ (¬ Cd .ne (46 : Int32) x1 ∧ v = some (vi 0) ∧ F = D')) := by
  refine Con.of (ls := #[rv (og3 Z), iv x1, iv 0, iv 3, uu, uu]) (by decide +kernel) rfl ?_
  refine W.iloadN d51_0 rfl ?_
  refine W.i2bK x1 d51_1 (z_i2b (by omega)) ?_
  refine W.istore (ls' := #[rv (og3 Z), iv x1, iv 0, iv 3, iv x1, uu]) d51_2 rfl ?_
  refine W.iloadN d51_4 rfl ?_
  refine W.istore (ls' := #[rv (og3 Z), iv x1, iv 0, iv 3, iv x1, iv 0]) d51_5 rfl ?_
  refine W.iload d51_7 rfl ?_
  refine W.iloadN d51_9 rfl ?_
  refine W.icmpN d51_10 (n_ge (by decide)) ?_
  refine W.aloadN d51_13 rfl rfl ?_
  refine W.iload d51_14 rfl ?_
  refine W.baload 0 d51_16 mog3Z ix0 rfl ?_
  refine W.iload d51_17 rfl ?_
  refine W.icmp 25 d51_19 (by decide) (fun h1 => ?_) (fun h1 => ?_)
  ·
   have ih1 := t_ne h1
   refine W.iincK (ls' := #[rv (og3 Z), iv x1, iv 0, iv 3, iv x1, iv 1]) (1) (1 : Int32) d51_25 (by decide) rfl (by decide) rfl ?_
   refine W.goto 7 d51_28 (by decide) ?_
   refine W.iload d51_7 rfl ?_
   refine W.iloadN d51_9 rfl ?_
   refine W.icmpN d51_10 (n_ge (by decide)) ?_
   refine W.aloadN d51_13 rfl rfl ?_
   refine W.iload d51_14 rfl ?_
   refine W.baload 1 d51_16 mog3Z ix1 rfl ?_
   refine W.iload d51_17 rfl ?_
   refine W.icmp 25 d51_19 (by decide) (fun h2 => ?_) (fun h2 => ?_)
   ·
    have ih2 := t_ne h2
    refine W.iincK (ls' := #[rv (og3 Z), iv x1, iv 0, iv 3, iv x1, iv 2]) (1) (2 : Int32) d51_25 (by decide) rfl (by decide) rfl ?_
    refine W.goto 7 d51_28 (by decide) ?_
    refine W.iload d51_7 rfl ?_
    refine W.iloadN d51_9 rfl ?_
    refine W.icmpN d51_10 (n_ge (by decide)) ?_
    refine W.aloadN d51_13 rfl rfl ?_
    refine W.iload d51_14 rfl ?_
    refine W.baload 2 d51_16 mog3Z ix2 rfl ?_
    refine W.iload d51_17 rfl ?_
    refine W.icmp 25 d51_19 (by decide) (fun h3 => ?_) (fun h3 => ?_)
    ·
     have ih3 := t_ne h3
     refine W.iincK (ls' := #[rv (og3 Z), iv x1, iv 0, iv 3, iv x1, iv 3]) (1) (3 : Int32) d51_25 (by decide) rfl (by decide) rfl ?_
     refine W.goto 7 d51_28 (by decide) ?_
     refine W.iload d51_7 rfl ?_
     refine W.iloadN d51_9 rfl ?_
     refine W.icmpY 31 d51_10 (y_ge (by decide)) (by decide) ?_
     refine W.iconst (-1) d51_31 (by decide) ?_
     exact W.ireturn d51_32 rfl (Or.inl rfl) rfl (by decide) (Or.inl ⟨h1, h2, h3, rfl, rfl⟩)
    ·
     have ih3 := f_ne h3
     refine W.iload d51_22 rfl ?_
     exact W.ireturn d51_24 rfl (Or.inl rfl) rfl (by decide) (Or.inr (Or.inl ⟨h1, h2, h3, rfl, rfl⟩))
   ·
    have ih2 := f_ne h2
    refine W.iload d51_22 rfl ?_
    exact W.ireturn d51_24 rfl (Or.inl rfl) rfl (by decide) (Or.inr (Or.inr (Or.inl ⟨h1, h2, rfl, rfl⟩)))
  ·
   have ih1 := f_ne h1
   refine W.iload d51_22 rfl ?_
   exact W.ireturn d51_24 rfl (Or.inl rfl) rfl (by decide) (Or.inr (Or.inr (Or.inr ⟨h1, rfl, rfl⟩)))
theorem pd__BIII_I : parseMethodDescriptor "([BIII)I" = some ⟨[(.array .byte), .int, .int, .int], some .int⟩ := by decide +kernel
theorem d48_36 : decode jdk_43_method_22_code 36 = .ok (.ireturn, 1) := by decide +kernel
abbrev y20 : MethodName := ⟨"java/lang/StringLatin1", "indexOf", "([BIII)I"⟩
abbrev y20b : ByteArray := jdk_43_method_22_code
abbrev y20r : Option Jvm.ClassFile.FieldType := (Option.some Jvm.ClassFile.FieldType.int)
theorem c25_indexOf {Z a0} (hw : HW a0 Z) (hs : SF Z) {x1 : Int32} (hx1 : (45 ≤ x1.toInt ∧ x1.toInt ≤ 46) ∨ (48 ≤ x1.toInt ∧ x1.toInt ≤ 57) ∨ (65 ≤ x1.toInt ∧ x1.toInt ≤ 90) ∨ x1.toInt = 95 ∨ (97 ≤ x1.toInt ∧ x1.toInt ≤ 122)) {w_og3Z : Bool} {ad_og3Z : String} {F : List Ent} (mog3Z : ((og3 Z), w_og3Z, ar ad_og3Z .byte [(vi 46), (vi 95), (vi 45)]) ∈ F) : Con Z EL y20 y20b 4 y20r (rmm 1 0 0 17) [(vr (og3 Z)), (vi x1), (vi 0), (vi 3)] (F) (fun v D' => (Cd .ne (46 : Int32) x1 ∧ Cd .ne (95 : Int32) x1 ∧ Cd .ne (45 : Int32) x1 ∧ v = some (vi (-1)) ∧ F = D') ∨ (Cd .ne (46 : Int32) x1 ∧ Cd .ne (95 : Int32) x1 ∧ ¬ Cd .ne (45 : Int32) x1 ∧ v = some (vi 2) ∧ F = D') ∨ (Cd .ne (46 : Int32) x1 ∧ ¬ Cd .ne (95 : Int32) x1 ∧ v = some (vi 1) ∧ F = D') ∨ (¬ Cd .ne (46 : Int32) x1 ∧ v = some (vi 0) ∧ F = D')) := by
  refine Con.of (ls := #[rv (og3 Z), iv x1, iv 0, iv 3]) (by decide +kernel) rfl ?_
  refine W.iloadN d48_0 rfl ?_
  refine W.callS (as := [(vi x1)]) 0 [] d48_1 (wq hw 247 rfl) (wq hw 248 rfl) (wq hw 16 rfl) (wq hw 249 rfl) (c26_canEncode hw hs (hx1 := hx1)) (by decide) pd_I_Z rfl rfl rfl rfl (by decide) (fun v D' h => ?_)
  obtain ⟨rfl, rfl⟩ := h
  show W _ _ _ _ _ _ _ _ _ _ _ _ 4 _ [(vi 1)]
  refine W.ifY 9 d48_4 (y_ne (by decide)) (by decide) ?_
  refine W.iloadN d48_9 rfl ?_
  refine W.iconst (0) d48_10 (by decide) ?_
  refine W.callS (as := [(vi 0), (vi 0)]) 0 [] d48_11 (wq hw 250 rfl) (wq hw 251 rfl) (wq hw 209 rfl) (wq hw 252 rfl) (c27_max hw hs) (by decide) pd_II_I rfl rfl rfl rfl (by decide) (fun v D' h => ?_)
  obtain ⟨rfl, rfl⟩ := h
  show W _ _ _ _ _ _ _ _ _ _ _ _ 14 _ [(vi 0)]
  refine W.istoreN (ls' := #[rv (og3 Z), iv x1, iv 0, iv 3]) d48_14 rfl ?_
  refine W.iloadN d48_15 rfl ?_
  refine W.aloadN d48_16 rfl rfl ?_
  refine W.alen (3) d48_17 mog3Z rfl ?_
  refine W.callS (as := [(vi 3), (vi 3)]) 0 [] d48_18 (wq hw 253 rfl) (wq hw 208 rfl) (wq hw 209 rfl) (wq hw 210 rfl) (c28_min hw hs) (by decide) pd_II_I rfl rfl rfl rfl (by decide) (fun v D' h => ?_)
  obtain ⟨rfl, rfl⟩ := h
  show W _ _ _ _ _ _ _ _ _ _ _ _ 21 _ [(vi 3)]
  refine W.istoreN (ls' := #[rv (og3 Z), iv x1, iv 0, iv 3]) d48_21 rfl ?_
  refine W.iloadN d48_22 rfl ?_
  refine W.iloadN d48_23 rfl ?_
  refine W.icmpY 29 d48_24 (y_lt (by decide)) (by decide) ?_
  refine W.aloadN d48_29 rfl rfl ?_
  refine W.iloadN d48_30 rfl ?_
  refine W.iloadN d48_31 rfl ?_
  refine W.iloadN d48_32 rfl ?_
  refine W.callS (as := [(vr (og3 Z)), (vi x1), (vi 0), (vi 3)]) 0 [] d48_33 (wq hw 254 rfl) (wq hw 255 rfl) (wq hw 16 rfl) (wq hw 256 rfl) (c29_indexOfChar hw hs (hx1 := hx1) (mog3Z := mog3Z)) (by decide) pd__BIII_I rfl rfl rfl rfl (by decide) (fun v D' h => ?_)
  rcases h with ⟨h1, h2, h3, rfl, rfl⟩ | ⟨h4, h5, h6, rfl, rfl⟩ | ⟨h7, h8, rfl, rfl⟩ | ⟨h9, rfl, rfl⟩
  ·
   have ih1 := t_ne h1
   have ih2 := t_ne h2
   have ih3 := t_ne h3
   show W _ _ _ _ _ _ _ _ _ _ _ _ 36 _ [(vi (-1))]
   exact W.ireturn d48_36 rfl (Or.inl rfl) rfl (by decide) (Or.inl ⟨h1, h2, h3, rfl, rfl⟩)
  ·
   have ih4 := t_ne h4
   have ih5 := t_ne h5
   have ih6 := f_ne h6
   show W _ _ _ _ _ _ _ _ _ _ _ _ 36 _ [(vi 2)]
   exact W.ireturn d48_36 rfl (Or.inl rfl) rfl (by decide) (Or.inr (Or.inl ⟨h4, h5, h6, rfl, rfl⟩))
  ·
   have ih7 := t_ne h7
   have ih8 := f_ne h8
   show W _ _ _ _ _ _ _ _ _ _ _ _ 36 _ [(vi 1)]
   exact W.ireturn d48_36 rfl (Or.inl rfl) rfl (by decide) (Or.inr (Or.inr (Or.inl ⟨h7, h8, rfl, rfl⟩)))
  ·
   have ih9 := f_ne h9
   show W _ _ _ _ _ _ _ _ _ _ _ _ 36 _ [(vi 0)]
   exact W.ireturn d48_36 rfl (Or.inl rfl) rfl (by decide) (Or.inr (Or.inr (Or.inr ⟨h9, rfl, rfl⟩)))
theorem d47_20 : decode jdk_42_method_80_code 20 = .ok (.goto 16, 3) := by decide +kernel
theorem d47_36 : decode jdk_42_method_80_code 36 = .ok (.ireturn, 1) := by decide +kernel
abbrev y21 : MethodName := ⟨"java/lang/String", "indexOf", "(II)I"⟩
abbrev y21b : ByteArray := jdk_42_method_80_code
abbrev y21r : Option Jvm.ClassFile.FieldType := (Option.some Jvm.ClassFile.FieldType.int)
theorem c23_indexOf {Z a0} (hw : HW a0 Z) (hs : SF Z) {x1 : Int32} (hx1 : (45 ≤ x1.toInt ∧ x1.toInt ≤ 46) ∨ (48 ≤ x1.toInt ∧ x1.toInt ≤ 57) ∨ (65 ≤ x1.toInt ∧ x1.toInt ≤ 90) ∨ x1.toInt = 95 ∨ (97 ≤ x1.toInt ∧ x1.toInt ≤ 122)) {w_og2Z : Bool} {w_og3Z : Bool} {ad_og3Z : String} {F : List Ent} (mog2Z : ((og2 Z), w_og2Z, oString (vr (og3 Z)) (vi 0)) ∈ F) (mog3Z : ((og3 Z), w_og3Z, ar ad_og3Z .byte [(vi 46), (vi 95), (vi 45)]) ∈ F) : Con Z EL y21 y21b 3 y21r (rmm 2 0 0 32) [(vr (og2 Z)), (vi x1), (vi 0)] (F) (fun v D' => (Cd .ne (46 : Int32) x1 ∧ Cd .ne (95 : Int32) x1 ∧ Cd .ne (45 : Int32) x1 ∧ v = some (vi (-1)) ∧ F = D') ∨ (Cd .ne (46 : Int32) x1 ∧ Cd .ne (95 : Int32) x1 ∧ ¬ Cd .ne (45 : Int32) x1 ∧ v = some (vi 2) ∧ F = D') ∨ (Cd .ne (46 : Int32) x1 ∧ ¬ Cd .ne (95 : Int32) x1 ∧ v = some (vi 1) ∧ F = D') ∨ (¬ Cd .ne (46 : Int32) x1 ∧ v = some (vi 0) ∧ F = D')) := by
  refine Con.of (ls := #[rv (og2 Z), iv x1, iv 0]) (by decide +kernel) rfl ?_
  refine W.aloadN d47_0 rfl rfl ?_
  refine W.callV (as := []) 0 [] d47_1 (wq hw 73 rfl) (wq hw 74 rfl) (wq hw 76 rfl) (wq hw 76 rfl) (wq hw 75 rfl) (wq hw 11 rfl) (wq hw 77 rfl) (Hp.exa mog2Z) (c17_isLatin1 hw hs (mp1 := mog2Z)) (by decide) pd__Z rfl rfl rfl rfl (by decide) (fun v D' h => ?_)
  obtain ⟨rfl, rfl⟩ := h
  show W _ _ _ _ _ _ _ _ _ _ _ _ 4 _ [(vi 1)]
  refine W.ifN d47_4 (n_eq (by decide)) ?_
  refine W.aloadN d47_7 rfl rfl ?_
  refine W.getf d47_8 (wq hw 31 rfl) Via.refl mog2Z m0 ?_
  refine W.iloadN d47_11 rfl ?_
  refine W.iloadN d47_12 rfl ?_
  refine W.aloadN d47_13 rfl rfl ?_
  refine W.callV (as := []) 3 [(vi 0), (vi x1), (vr (og3 Z))] d47_14 (wq hw 243 rfl) (wq hw 59 rfl) (wq hw 61 rfl) (wq hw 61 rfl) (wq hw 60 rfl) (wq hw 11 rfl) (wq hw 62 rfl) (Hp.exa mog2Z) (c24_length hw hs (mog2Z := mog2Z) (mog3Z := mog3Z)) (by decide) pd__I rfl rfl rfl rfl (by decide) (fun v D' h => ?_)
  obtain ⟨rfl, rfl⟩ := h
  show W _ _ _ _ _ _ _ _ _ _ _ _ 17 _ [(vi 3), (vi 0), (vi x1), (vr (og3 Z))]
  refine W.callS (as := [(vr (og3 Z)), (vi x1), (vi 0), (vi 3)]) 0 [] d47_17 (wq hw 244 rfl) (wq hw 245 rfl) (wq hw 16 rfl) (wq hw 246 rfl) (c25_indexOf hw hs (hx1 := hx1) (mog3Z := mog3Z)) (by decide) pd__BIII_I rfl rfl rfl rfl (by decide) (fun v D' h => ?_)
  rcases h with ⟨h1, h2, h3, rfl, rfl⟩ | ⟨h4, h5, h6, rfl, rfl⟩ | ⟨h7, h8, rfl, rfl⟩ | ⟨h9, rfl, rfl⟩
  ·
   have ih1 := t_ne h1
   have ih2 := t_ne h2
   have ih3 := t_ne h3
   show W _ _ _ _ _ _ _ _ _ _ _ _ 20 _ [(vi (-1))]
   refine W.goto 36 d47_20 (by decide) ?_
   exact W.ireturn d47_36 rfl (Or.inl rfl) rfl (by decide) (Or.inl ⟨h1, h2, h3, rfl, rfl⟩)
  ·
   have ih4 := t_ne h4
   have ih5 := t_ne h5
   have ih6 := f_ne h6
   show W _ _ _ _ _ _ _ _ _ _ _ _ 20 _ [(vi 2)]
   refine W.goto 36 d47_20 (by decide) ?_
   exact W.ireturn d47_36 rfl (Or.inl rfl) rfl (by decide) (Or.inr (Or.inl ⟨h4, h5, h6, rfl, rfl⟩))
  ·
   have ih7 := t_ne h7
   have ih8 := f_ne h8
   show W _ _ _ _ _ _ _ _ _ _ _ _ 20 _ [(vi 1)]
   refine W.goto 36 d47_20 (by decide) ?_
   exact W.ireturn d47_36 rfl (Or.inl rfl) rfl (by decide) (Or.inr (Or.inr (Or.inl ⟨h7, h8, rfl, rfl⟩)))
  ·
   have ih9 := f_ne h9
   show W _ _ _ _ _ _ _ _ _ _ _ _ 20 _ [(vi 0)]
   refine W.goto 36 d47_20 (by decide) ?_
   exact W.ireturn d47_36 rfl (Or.inl rfl) rfl (by decide) (Or.inr (Or.inr (Or.inr ⟨h9, rfl, rfl⟩)))
theorem d46_6 : decode jdk_42_method_79_code 6 = .ok (.ireturn, 1) := by decide +kernel
abbrev y22 : MethodName := ⟨"java/lang/String", "indexOf", "(I)I"⟩
abbrev y22b : ByteArray := jdk_42_method_79_code
abbrev y22r : Option Jvm.ClassFile.FieldType := (Option.some Jvm.ClassFile.FieldType.int)
theorem c22_indexOf {Z a0} (hw : HW a0 Z) (hs : SF Z) {x1 : Int32} (hx1 : (45 ≤ x1.toInt ∧ x1.toInt ≤ 46) ∨ (48 ≤ x1.toInt ∧ x1.toInt ≤ 57) ∨ (65 ≤ x1.toInt ∧ x1.toInt ≤ 90) ∨ x1.toInt = 95 ∨ (97 ≤ x1.toInt ∧ x1.toInt ≤ 122)) {w_og2Z : Bool} {w_og3Z : Bool} {ad_og3Z : String} {F : List Ent} (mog2Z : ((og2 Z), w_og2Z, oString (vr (og3 Z)) (vi 0)) ∈ F) (mog3Z : ((og3 Z), w_og3Z, ar ad_og3Z .byte [(vi 46), (vi 95), (vi 45)]) ∈ F) : Con Z EL y22 y22b 2 y22r (rmm 3 0 0 46) [(vr (og2 Z)), (vi x1)] (F) (fun v D' => (Cd .ne (46 : Int32) x1 ∧ Cd .ne (95 : Int32) x1 ∧ Cd .ne (45 : Int32) x1 ∧ v = some (vi (-1)) ∧ F = D') ∨ (Cd .ne (46 : Int32) x1 ∧ Cd .ne (95 : Int32) x1 ∧ ¬ Cd .ne (45 : Int32) x1 ∧ v = some (vi 2) ∧ F = D') ∨ (Cd .ne (46 : Int32) x1 ∧ ¬ Cd .ne (95 : Int32) x1 ∧ v = some (vi 1) ∧ F = D') ∨ (¬ Cd .ne (46 : Int32) x1 ∧ v = some (vi 0) ∧ F = D')) := by
  refine Con.of (ls := #[rv (og2 Z), iv x1]) (by decide +kernel) rfl ?_
  refine W.aloadN d46_0 rfl rfl ?_
  refine W.iloadN d46_1 rfl ?_
  refine W.iconst (0) d46_2 (by decide) ?_
  refine W.callV (as := [(vi x1), (vi 0)]) 0 [] d46_3 (wq hw 238 rfl) (wq hw 239 rfl) (wq hw 241 rfl) (wq hw 241 rfl) (wq hw 240 rfl) (wq hw 11 rfl) (wq hw 242 rfl) (Hp.exa mog2Z) (c23_indexOf hw hs (hx1 := hx1) (mog2Z := mog2Z) (mog3Z := mog3Z)) (by decide) pd_II_I rfl rfl rfl rfl (by decide) (fun v D' h => ?_)
  rcases h with ⟨h1, h2, h3, rfl, rfl⟩ | ⟨h4, h5, h6, rfl, rfl⟩ | ⟨h7, h8, rfl, rfl⟩ | ⟨h9, rfl, rfl⟩
  ·
   have ih1 := t_ne h1
   have ih2 := t_ne h2
   have ih3 := t_ne h3
   show W _ _ _ _ _ _ _ _ _ _ _ _ 6 _ [(vi (-1))]
   exact W.ireturn d46_6 rfl (Or.inl rfl) rfl (by decide) (Or.inl ⟨h1, h2, h3, rfl, rfl⟩)
  ·
   have ih4 := t_ne h4
   have ih5 := t_ne h5
   have ih6 := f_ne h6
   show W _ _ _ _ _ _ _ _ _ _ _ _ 6 _ [(vi 2)]
   exact W.ireturn d46_6 rfl (Or.inl rfl) rfl (by decide) (Or.inr (Or.inl ⟨h4, h5, h6, rfl, rfl⟩))
  ·
   have ih7 := t_ne h7
   have ih8 := f_ne h8
   show W _ _ _ _ _ _ _ _ _ _ _ _ 6 _ [(vi 1)]
   exact W.ireturn d46_6 rfl (Or.inl rfl) rfl (by decide) (Or.inr (Or.inr (Or.inl ⟨h7, h8, rfl, rfl⟩)))
  ·
   have ih9 := f_ne h9
   show W _ _ _ _ _ _ _ _ _ _ _ _ 6 _ [(vi 0)]
   exact W.ireturn d46_6 rfl (Or.inl rfl) rfl (by decide) (Or.inr (Or.inr (Or.inr ⟨h9, rfl, rfl⟩)))
theorem pd_I_I : parseMethodDescriptor "(I)I" = some ⟨[.int], some .int⟩ := by decide +kernel
theorem d10_56 : decode prog_9_method_2_code 56 = .ok (.ifCond .ge 28, 3) := by decide +kernel
theorem d10_84 : decode prog_9_method_2_code 84 = .ok (.iinc 2 1, 3) := by decide +kernel
theorem d10_87 : decode prog_9_method_2_code 87 = .ok (.goto (-60), 3) := by decide +kernel
theorem d10_90 : decode prog_9_method_2_code 90 = .ok (.aload_n 1, 1) := by decide +kernel
theorem d10_91 : decode prog_9_method_2_code 91 = .ok (.invokevirtual 64, 3) := by decide +kernel
theorem d10_94 : decode prog_9_method_2_code 94 = .ok (.aload_n 0, 1) := by decide +kernel
theorem d10_95 : decode prog_9_method_2_code 95 = .ok (.getfield 7, 3) := by decide +kernel
theorem d10_98 : decode prog_9_method_2_code 98 = .ok (.if_icmp .le 35, 3) := by decide +kernel
theorem d10_133 : decode prog_9_method_2_code 133 = .ok (.aload_n 1, 1) := by decide +kernel
theorem d10_134 : decode prog_9_method_2_code 134 = .ok (.areturn, 1) := by decide +kernel
abbrev y23 : MethodName := ⟨"com/example/cunctator/cunctator/JobKey$NameRule", "check", "(Ljava/lang/String;)Ljava/lang/String;"⟩
abbrev y23b : ByteArray := prog_9_method_2_code
abbrev y23r : Option Jvm.ClassFile.FieldType := (Option.some (Jvm.ClassFile.FieldType.object "java/lang/String"))
theorem c12_check {Z a0} (hw : HW a0 Z) (hs : SF Z) {p1 p2 : Addr} {x1 : Int32} (hx1 : (45 ≤ x1.toInt ∧ x1.toInt ≤ 46) ∨ (48 ≤ x1.toInt ∧ x1.toInt ≤ 57) ∨ (65 ≤ x1.toInt ∧ x1.toInt ≤ 90) ∨ x1.toInt = 95 ∨ (97 ≤ x1.toInt ∧ x1.toInt ≤ 122)) {w_p1 : Bool} {w_p2 : Bool} {ad_p2 : String} {w_og1Z : Bool} {w_og2Z : Bool} {w_og3Z : Bool} {ad_og3Z : String} {F : List Ent} (mp1 : (p1, w_p1, oString (vr p2) (vi 0)) ∈ F) (mp2 : (p2, w_p2, ar ad_p2 .byte [(vi x1)]) ∈ F) (mog1Z : ((og1 Z), w_og1Z, oJobKey_NameRule (vi 64) (vr (og2 Z))) ∈ F) (mog2Z : ((og2 Z), w_og2Z, oString (vr (og3 Z)) (vi 0)) ∈ F) (mog3Z : ((og3 Z), w_og3Z, ar ad_og3Z .byte [(vi 46), (vi 95), (vi 45)]) ∈ F) : Con Z EL y23 y23b 4 y23r (rmm 4 0 0 59) [(vr (og1 Z)), (vr p1)] (F) (fun v D' => (v = some (vr p1) ∧ F = D')) := by
  refine Con.of (ls := #[rv (og1 Z), rv p1, uu, uu]) (by decide +kernel) rfl ?_
  refine W.aloadN d10_0 rfl rfl ?_
  refine W.ifnonnullY 11 d10_1 (by decide) ?_
  refine W.aloadN d10_11 rfl rfl ?_
  refine W.callV (as := []) 0 [] d10_12 (wq hw 53 rfl) (wq hw 54 rfl) (wq hw 56 rfl) (wq hw 56 rfl) (wq hw 55 rfl) (wq hw 11 rfl) (wq hw 57 rfl) (Hp.exa mp1) (c13_isEmpty hw hs (hvs_p2 := rfl) (mp1 := mp1) (mp2 := mp2)) (by decide) pd__Z rfl rfl rfl rfl (by decide) (fun v D' h => ?_)
  obtain ⟨rfl, rfl⟩ := h
  show W _ _ _ _ _ _ _ _ _ _ _ _ 15 _ [(vi 0)]
  refine W.ifY 25 d10_15 (y_eq (by decide)) (by decide) ?_
  refine W.iconst (0) d10_25 (by decide) ?_
  refine W.istoreN (ls' := #[rv (og1 Z), rv p1, iv 0, uu]) d10_26 rfl ?_
  refine W.iloadN d10_27 rfl ?_
  refine W.aloadN d10_28 rfl rfl ?_
  refine W.callV (as := []) 1 [(vi 0)] d10_29 (wq hw 58 rfl) (wq hw 59 rfl) (wq hw 61 rfl) (wq hw 61 rfl) (wq hw 60 rfl) (wq hw 11 rfl) (wq hw 62 rfl) (Hp.exa mp1) (c14_length hw hs (hvs_p2 := rfl) (mp1 := mp1) (mp2 := mp2)) (by decide) pd__I rfl rfl rfl rfl (by decide) (fun v D' h => ?_)
  obtain ⟨rfl, rfl⟩ := h
  show W _ _ _ _ _ _ _ _ _ _ _ _ 32 _ [(vi 1), (vi 0)]
  refine W.icmpN d10_32 (n_ge (by decide)) ?_
  have K2 : W Z EL (rmm 4 0 0 59) "com/example/cunctator/cunctator/JobKey$NameRule" "check" prog_9_method_2_code 4 (Option.some (Jvm.ClassFile.FieldType.object "java/lang/String")) (fun v D' => (v = some (vr p1) ∧ F = D')) (F) 0 0 84 #[rv (og1 Z), rv p1, iv 0, iv x1] [] := by
   refine W.iincK (ls' := #[rv (og1 Z), rv p1, iv 1, iv x1]) (1) (1 : Int32) d10_84 (by decide) rfl (by decide) rfl ?_
   refine W.goto 27 d10_87 (by decide) ?_
   refine W.iloadN d10_27 rfl ?_
   refine W.aloadN d10_28 rfl rfl ?_
   refine W.callV (as := []) 1 [(vi 1)] d10_29 (wq hw 58 rfl) (wq hw 59 rfl) (wq hw 61 rfl) (wq hw 61 rfl) (wq hw 60 rfl) (wq hw 11 rfl) (wq hw 62 rfl) (Hp.exa mp1) (c14_length hw hs (hvs_p2 := rfl) (mp1 := mp1) (mp2 := mp2)) (by decide) pd__I rfl rfl rfl rfl (by decide) (fun v D' h => ?_)
   obtain ⟨rfl, rfl⟩ := h
   show W _ _ _ _ _ _ _ _ _ _ _ _ 32 _ [(vi 1), (vi 1)]
   refine W.icmpY 90 d10_32 (y_ge (by decide)) (by decide) ?_
   refine W.aloadN d10_90 rfl rfl ?_
   refine W.callV (as := []) 0 [] d10_91 (wq hw 58 rfl) (wq hw 59 rfl) (wq hw 61 rfl) (wq hw 61 rfl) (wq hw 60 rfl) (wq hw 11 rfl) (wq hw 62 rfl) (Hp.exa mp1) (c14_length hw hs (hvs_p2 := rfl) (mp1 := mp1) (mp2 := mp2)) (by decide) pd__I rfl rfl rfl rfl (by decide) (fun v D' h => ?_)
   obtain ⟨rfl, rfl⟩ := h
   show W _ _ _ _ _ _ _ _ _ _ _ _ 94 _ [(vi 1)]
   refine W.aloadN d10_94 rfl rfl ?_
   refine W.getf d10_95 (wq hw 92 rfl) Via.refl mog1Z m0 ?_
   refine W.icmpY 133 d10_98 (y_le (by decide)) (by decide) ?_
   refine W.aloadN d10_133 rfl rfl ?_
   exact W.areturn d10_134 rfl rfl rfl (by decide) ⟨rfl, rfl⟩
  refine W.aloadN d10_35 rfl rfl ?_
  refine W.iloadN d10_36 rfl ?_
  refine W.callV (as := [(vi 0)]) 0 [] d10_37 (wq hw 68 rfl) (wq hw 69 rfl) (wq hw 71 rfl) (wq hw 71 rfl) (wq hw 70 rfl) (wq hw 11 rfl) (wq hw 72 rfl) (Hp.exa mp1) (c16_charAt hw hs (hx1 := hx1) (mp1 := mp1) (mp2 := mp2)) (by decide) pd_I_C rfl rfl rfl rfl (by decide) (fun v D' h => ?_)
  obtain ⟨rfl, rfl⟩ := h
  show W _ _ _ _ _ _ _ _ _ _ _ _ 40 _ [(vi x1)]
  refine W.istoreN (ls' := #[rv (og1 Z), rv p1, iv 0, iv x1]) d10_40 rfl ?_
  refine W.iloadN d10_41 rfl ?_
  refine W.callSN (as := [(vi x1)]) 0 [] d10_42 (wq hw 89 rfl) (wq hw 90 rfl) (wq hw 37 rfl) (wq hw 91 rfl) (c21_isAsciiLetterOrDigit hw hs (hx1 := hx1)) (by decide) pd_C_Z rfl rfl rfl rfl (by decide) (fun v D' h => ?_)
  rcases h with ⟨h1, h2, rfl, rfl⟩ | ⟨h3, h4, rfl, rfl⟩ | ⟨h5, h6, rfl, rfl⟩ | ⟨h7, h8, h9, rfl, rfl⟩ | ⟨h10, h11, h12, rfl, rfl⟩
  ·
   have ih1 := t_lt h1
   have ih2 := t_lt h2
   show W _ _ _ _ _ _ _ _ _ _ _ _ 45 _ [(vi 0)]
   refine W.ifN d10_45 (n_ne (by decide)) ?_
   refine W.aloadN d10_48 rfl rfl ?_
   refine W.getf d10_49 (wq hw 231 rfl) Via.refl mog1Z m1 ?_
   refine W.iloadN d10_52 rfl ?_
   refine W.callV (as := [(vi x1)]) 0 [] d10_53 (wq hw 233 rfl) (wq hw 234 rfl) (wq hw 236 rfl) (wq hw 236 rfl) (wq hw 235 rfl) (wq hw 11 rfl) (wq hw 237 rfl) (Hp.exa mog2Z) (c22_indexOf hw hs (hx1 := hx1) (mog2Z := mog2Z) (mog3Z := mog3Z)) (by decide) pd_I_I rfl rfl rfl rfl (by decide) (fun v D' h => ?_)
   rcases h with ⟨h13, h14, h15, rfl, rfl⟩ | ⟨h16, h17, h18, rfl, rfl⟩ | ⟨h19, h20, rfl, rfl⟩ | ⟨h21, rfl, rfl⟩
   ·
    have ih13 := t_ne h13
    have ih14 := t_ne h14
    exact absurd h15 (n_ne (by have := q45; have := q65; have := q48; have := q46; have := q95; omega))
   ·
    have ih16 := t_ne h16
    have ih17 := t_ne h17
    have ih18 := f_ne h18
    show W _ _ _ _ _ _ _ _ _ _ _ _ 56 _ [(vi 2)]
    refine W.ifY 84 d10_56 (y_ge (by decide)) (by decide) ?_
    exact W.mono (by decide) (by decide) (K2  )
   ·
    have ih19 := t_ne h19
    exact absurd h20 (Classical.not_not.mpr (y_ne (by have := q95; have := q65; have := q48; have := q46; omega)))
   ·
    have ih21 := f_ne h21
    show W _ _ _ _ _ _ _ _ _ _ _ _ 56 _ [(vi 0)]
    refine W.ifY 84 d10_56 (y_ge (by decide)) (by decide) ?_
    exact W.mono (by decide) (by decide) (K2  )
  ·
   have ih3 := t_lt h3
   have ih4 := f_lt h4
   show W _ _ _ _ _ _ _ _ _ _ _ _ 45 _ [(vi 1)]
   refine W.ifY 84 d10_45 (y_ne (by decide)) (by decide) ?_
   exact W.mono (by decide) (by decide) (K2  )
  ·
   have ih5 := f_lt h5
   have ih6 := t_le h6
   show W _ _ _ _ _ _ _ _ _ _ _ _ 45 _ [(vi 1)]
   refine W.ifY 84 d10_45 (y_ne (by decide)) (by decide) ?_
   exact W.mono (by decide) (by decide) (K2  )
  ·
   have ih7 := f_lt h7
   have ih8 := f_le h8
   have ih9 := t_lt h9
   show W _ _ _ _ _ _ _ _ _ _ _ _ 45 _ [(vi 0)]
   refine W.ifN d10_45 (n_ne (by decide)) ?_
   refine W.aloadN d10_48 rfl rfl ?_
   refine W.getf d10_49 (wq hw 231 rfl) Via.refl mog1Z m1 ?_
   refine W.iloadN d10_52 rfl ?_
   refine W.callV (as := [(vi x1)]) 0 [] d10_53 (wq hw 233 rfl) (wq hw 234 rfl) (wq hw 236 rfl) (wq hw 236 rfl) (wq hw 235 rfl) (wq hw 11 rfl) (wq hw 237 rfl) (Hp.exa mog2Z) (c22_indexOf hw hs (hx1 := hx1) (mog2Z := mog2Z) (mog3Z := mog3Z)) (by decide) pd_I_I rfl rfl rfl rfl (by decide) (fun v D' h => ?_)
   rcases h with ⟨h22, h23, h24, rfl, rfl⟩ | ⟨h25, h26, h27, rfl, rfl⟩ | ⟨h28, h29, rfl, rfl⟩ | ⟨h30, rfl, rfl⟩
   ·
    have ih22 := t_ne h22
    exact absurd h23 (n_ne (by have := q95; have := q65; have := q90; have := q97; have := q46; omega))
   ·
    have ih25 := t_ne h25
    exact absurd h26 (n_ne (by have := q95; have := q65; have := q90; have := q97; have := q46; omega))
   ·
    have ih28 := t_ne h28
    have ih29 := f_ne h29
    show W _ _ _ _ _ _ _ _ _ _ _ _ 56 _ [(vi 1)]
    refine W.ifY 84 d10_56 (y_ge (by decide)) (by decide) ?_
    exact W.mono (by decide) (by decide) (K2  )
   ·
    exact absurd h30 (Classical.not_not.mpr (y_ne (by have := q46; have := q65; have := q90; have := q97; omega)))
  ·
   have ih10 := f_lt h10
   have ih11 := f_le h11
   have ih12 := f_lt h12
   show W _ _ _ _ _ _ _ _ _ _ _ _ 45 _ [(vi 1)]
   refine W.ifY 84 d10_45 (y_ne (by decide)) (by decide) ?_
   exact W.mono (by decide) (by decide) (K2  )
theorem pd_Ljava_lang_String__Ljava_lang_String_ : parseMethodDescriptor "(Ljava/lang/String;)Ljava/lang/String;" = some ⟨[(.object "java/lang/String")], some (.object "java/lang/String")⟩ := by decide +kernel
theorem d9_7 : decode prog_8_method_2_code 7 = .ok (.areturn, 1) := by decide +kernel
abbrev y24 : MethodName := ⟨"com/example/cunctator/cunctator/JobKey", "checkTopic", "(Ljava/lang/String;)Ljava/lang/String;"⟩
abbrev y24b : ByteArray := prog_8_method_2_code
abbrev y24r : Option Jvm.ClassFile.FieldType := (Option.some (Jvm.ClassFile.FieldType.object "java/lang/String"))
theorem c11_checkTopic {Z a0} (hw : HW a0 Z) (hs : SF Z) {p1 p2 : Addr} {x1 : Int32} (hx1 : (45 ≤ x1.toInt ∧ x1.toInt ≤ 46) ∨ (48 ≤ x1.toInt ∧ x1.toInt ≤ 57) ∨ (65 ≤ x1.toInt ∧ x1.toInt ≤ 90) ∨ x1.toInt = 95 ∨ (97 ≤ x1.toInt ∧ x1.toInt ≤ 122)) {w_og1Z : Bool} {w_p1 : Bool} {w_p2 : Bool} {ad_p2 : String} {w_og2Z : Bool} {w_og3Z : Bool} {ad_og3Z : String} {F : List Ent} (mog1Z : ((og1 Z), w_og1Z, oJobKey_NameRule (vi 64) (vr (og2 Z))) ∈ F) (mp1 : (p1, w_p1, oString (vr p2) (vi 0)) ∈ F) (mp2 : (p2, w_p2, ar ad_p2 .byte [(vi x1)]) ∈ F) (mog2Z : ((og2 Z), w_og2Z, oString (vr (og3 Z)) (vi 0)) ∈ F) (mog3Z : ((og3 Z), w_og3Z, ar ad_og3Z .byte [(vi 46), (vi 95), (vi 45)]) ∈ F) : Con Z EL y24 y24b 1 y24r (rmm 5 0 0 74) [(vr p1)] (F) (fun v D' => (v = some (vr p1) ∧ F = D')) := by
  refine Con.of (ls := #[rv p1]) (by decide +kernel) rfl ?_
  refine W.gets d9_0 (wq hw 45 rfl) Via.refl hs.2.2.2.2.1 ?_
  refine W.aloadN d9_3 rfl rfl ?_
  refine W.callV (as := [(vr p1)]) 0 [] d9_4 (wq hw 47 rfl) (wq hw 48 rfl) (wq hw 50 rfl) (wq hw 50 rfl) (wq hw 49 rfl) (wq hw 51 rfl) (wq hw 52 rfl) (Hp.exa mog1Z) (c12_check hw hs (hx1 := hx1) (mp1 := mp1) (mp2 := mp2) (mog1Z := mog1Z) (mog2Z := mog2Z) (mog3Z := mog3Z)) (by decide) pd_Ljava_lang_String__Ljava_lang_String_ rfl rfl rfl rfl (by decide) (fun v D' h => ?_)
  obtain ⟨rfl, rfl⟩ := h
  show W _ _ _ _ _ _ _ _ _ _ _ _ 7 _ [(vr p1)]
  exact W.areturn d9_7 rfl rfl rfl (by decide) ⟨rfl, rfl⟩
theorem d8_9 : decode prog_8_method_1_code 9 = .ok (.putfield 13, 3) := by decide +kernel
theorem pfLjava_lang_String_ : parseFieldDescriptor "Ljava/lang/String;" = some (.object "java/lang/String") := by decide
abbrev oJobKey (f0 f1 : Value) : Desc := .inl ("com/example/cunctator/cunctator/JobKey", [("com/example/cunctator/cunctator/JobKey", "topic", "Ljava/lang/String;", f0), ("com/example/cunctator/cunctator/JobKey", "id", "Ljava/lang/String;", f1)])
theorem d8_12 : decode prog_8_method_1_code 12 = .ok (.aload_n 0, 1) := by decide +kernel
theorem d8_13 : decode prog_8_method_1_code 13 = .ok (.aload_n 2, 1) := by decide +kernel
theorem d8_14 : decode prog_8_method_1_code 14 = .ok (.invokestatic 17, 3) := by decide +kernel
theorem d20_0 : decode prog_8_method_3_code 0 = .ok (.getstatic 32, 3) := by decide +kernel
theorem d20_3 : decode prog_8_method_3_code 3 = .ok (.aload_n 0, 1) := by decide +kernel
theorem d20_4 : decode prog_8_method_3_code 4 = .ok (.invokevirtual 27, 3) := by decide +kernel
theorem c33_charAt {Z a0} (hw : HW a0 Z) (hs : SF Z) {p1 : Addr} {x1 : Int32} (hx1 : (45 ≤ x1.toInt ∧ x1.toInt ≤ 46) ∨ (48 ≤ x1.toInt ∧ x1.toInt ≤ 58) ∨ (65 ≤ x1.toInt ∧ x1.toInt ≤ 90) ∨ x1.toInt = 95 ∨ (97 ≤ x1.toInt ∧ x1.toInt ≤ 122)) {w_p1 : Bool} {ad_p1 : String} {F : List Ent} (mp1 : (p1, w_p1, ar ad_p1 .byte [(vi x1)]) ∈ F) : Con Z EL y13 y13b 2 y13r (rmm 2 0 0 27) [(vr p1), (vi 0)] (F) (fun v D' => (v = some (vi x1) ∧ F = D')) := by
  refine Con.of (ls := #[rv p1, iv 0]) (by decide +kernel) rfl ?_
  refine W.iloadN d16_0 rfl ?_
  refine W.aloadN d16_1 rfl rfl ?_
  refine W.alen (1) d16_2 mp1 rfl ?_
  refine W.callS (as := [(vi 0), (vi 1)]) 0 [] d16_3 (wq hw 81 rfl) (wq hw 82 rfl) (wq hw 11 rfl) (wq hw 83 rfl) (c19_checkIndex hw hs) (by decide) pd_II_V rfl rfl rfl rfl (by decide) (fun v D' h => ?_)
  obtain ⟨rfl, rfl⟩ := h
  show W _ _ _ _ _ _ _ _ _ _ _ _ 6 _ []
  refine W.aloadN d16_6 rfl rfl ?_
  refine W.iloadN d16_7 rfl ?_
  refine W.baload 0 d16_8 mp1 ix0 rfl ?_
  refine W.sipush (255) d16_9 (by decide) ?_
  refine W.iandK x1 d16_12 (z_and 8 256 (by decide) (by decide) (by decide) (by omega)) ?_
  refine W.i2cK x1 d16_13 (z_i2c (by omega)) ?_
  exact W.ireturn d16_14 rfl (Or.inr (Or.inr (Or.inr (Or.inl rfl)))) (nw_char (by omega)) (by decide) ⟨rfl, rfl⟩
theorem c32_charAt {Z a0} (hw : HW a0 Z) (hs : SF Z) {p1 p2 : Addr} {x1 : Int32} (hx1 : (45 ≤ x1.toInt ∧ x1.toInt ≤ 46) ∨ (48 ≤ x1.toInt ∧ x1.toInt ≤ 58) ∨ (65 ≤ x1.toInt ∧ x1.toInt ≤ 90) ∨ x1.toInt = 95 ∨ (97 ≤ x1.toInt ∧ x1.toInt ≤ 122)) {w_p1 : Bool} {w_p2 : Bool} {ad_p2 : String} {F : List Ent} (mp1 : (p1, w_p1, oString (vr p2) (vi 0)) ∈ F) (mp2 : (p2, w_p2, ar ad_p2 .byte [(vi x1)]) ∈ F) : Con Z EL y14 y14b 2 y14r (rmm 3 0 0 40) [(vr p1), (vi 0)] (F) (fun v D' => (v = some (vi x1) ∧ F = D')) := by
  refine Con.of (ls := #[rv p1, iv 0]) (by decide +kernel) rfl ?_
  refine W.aloadN d14_0 rfl rfl ?_
  refine W.callV (as := []) 0 [] d14_1 (wq hw 73 rfl) (wq hw 74 rfl) (wq hw 76 rfl) (wq hw 76 rfl) (wq hw 75 rfl) (wq hw 11 rfl) (wq hw 77 rfl) (Hp.exa mp1) (c17_isLatin1 hw hs (mp1 := mp1)) (by decide) pd__Z rfl rfl rfl rfl (by decide) (fun v D' h => ?_)
  obtain ⟨rfl, rfl⟩ := h
  show W _ _ _ _ _ _ _ _ _ _ _ _ 4 _ [(vi 1)]
  refine W.ifN d14_4 (n_eq (by decide)) ?_
  refine W.aloadN d14_7 rfl rfl ?_
  refine W.getf d14_8 (wq hw 31 rfl) Via.refl mp1 m0 ?_
  refine W.iloadN d14_11 rfl ?_
  refine W.callS (as := [(vr p2), (vi 0)]) 0 [] d14_12 (wq hw 78 rfl) (wq hw 79 rfl) (wq hw 16 rfl) (wq hw 80 rfl) (c33_charAt hw hs (hx1 := hx1) (mp1 := mp2)) (by decide) pd__BI_C rfl rfl rfl rfl (by decide) (fun v D' h => ?_)
  obtain ⟨rfl, rfl⟩ := h
  show W _ _ _ _ _ _ _ _ _ _ _ _ 15 _ [(vi x1)]
  exact W.ireturn d14_15 rfl (Or.inr (Or.inr (Or.inr (Or.inl rfl)))) (nw_char (by omega)) (by decide) ⟨rfl, rfl⟩
theorem c34_isAsciiLetterOrDigit {Z a0} (hw : HW a0 Z) (hs : SF Z) {x1 : Int32} (hx1 : (45 ≤ x1.toInt ∧ x1.toInt ≤ 46) ∨ (48 ≤ x1.toInt ∧ x1.toInt ≤ 58) ∨ (65 ≤ x1.toInt ∧ x1.toInt ≤ 90) ∨ x1.toInt = 95 ∨ (97 ≤ x1.toInt ∧ x1.toInt ≤ 122)) {F : List Ent} : Con Z EL y15 y15b 1 y15r (rmm 0 0 0 0) [(vi x1)] (F) (fun v D' => (Cd .lt x1 (65 : Int32) ∧ Cd .lt x1 (48 : Int32) ∧ v = some (vi 0) ∧ F = D') ∨ (Cd .lt x1 (65 : Int32) ∧ ¬ Cd .lt x1 (48 : Int32) ∧ Cd .gt x1 (57 : Int32) ∧ v = some (vi 0) ∧ F = D') ∨ (Cd .lt x1 (65 : Int32) ∧ ¬ Cd .lt x1 (48 : Int32) ∧ ¬ Cd .gt x1 (57 : Int32) ∧ v = some (vi 1) ∧ F = D') ∨ (¬ Cd .lt x1 (65 : Int32) ∧ Cd .le x1 (90 : Int32) ∧ v = some (vi 1) ∧ F = D') ∨ (¬ Cd .lt x1 (65 : Int32) ∧ ¬ Cd .le x1 (90 : Int32) ∧ Cd .lt x1 (97 : Int32) ∧ v = some (vi 0) ∧ F = D') ∨ (¬ Cd .lt x1 (65 : Int32) ∧ ¬ Cd .le x1 (90 : Int32) ∧ ¬ Cd .lt x1 (97 : Int32) ∧ v = some (vi 1) ∧ F = D')) := by
  refine Con.of (ls := #[iv x1]) (by decide +kernel) rfl ?_
  refine W.iloadN d19_0 rfl ?_
  refine W.bipush (65) d19_1 (by decide) ?_
  refine W.icmp 12 d19_3 (by decide) (fun h1 => ?_) (fun h1 => ?_)
  ·
   have ih1 := t_lt h1
   refine W.iloadN d19_12 rfl ?_
   refine W.bipush (97) d19_13 (by decide) ?_
   refine W.icmpY 24 d19_15 (y_lt (by have := q97; have := q65; omega)) (by decide) ?_
   refine W.iloadN d19_24 rfl ?_
   refine W.bipush (48) d19_25 (by decide) ?_
   refine W.icmp 40 d19_27 (by decide) (fun h2 => ?_) (fun h2 => ?_)
   ·
    have ih2 := t_lt h2
    refine W.iconst (0) d19_40 (by decide) ?_
    exact W.ireturn d19_41 rfl (Or.inr (Or.inl rfl)) (nw_bool (by decide)) (by decide) (Or.inl ⟨h1, h2, rfl, rfl⟩)
   ·
    have ih2 := f_lt h2
    refine W.iloadN d19_30 rfl ?_
    refine W.bipush (57) d19_31 (by decide) ?_
    refine W.icmp 40 d19_33 (by decide) (fun h3 => ?_) (fun h3 => ?_)
    ·
     have ih3 := t_gt h3
     refine W.iconst (0) d19_40 (by decide) ?_
     exact W.ireturn d19_41 rfl (Or.inr (Or.inl rfl)) (nw_bool (by decide)) (by decide) (Or.inr (Or.inl ⟨h1, h2, h3, rfl, rfl⟩))
    ·
     have ih3 := f_gt h3
     refine W.iconst (1) d19_36 (by decide) ?_
     refine W.goto 41 d19_37 (by decide) ?_
     exact W.ireturn d19_41 rfl (Or.inr (Or.inl rfl)) (nw_bool (by decide)) (by decide) (Or.inr (Or.inr (Or.inl ⟨h1, h2, h3, rfl, rfl⟩)))
  ·
   have ih1 := f_lt h1
   refine W.iloadN d19_6 rfl ?_
   refine W.bipush (90) d19_7 (by decide) ?_
   refine W.icmp 36 d19_9 (by decide) (fun h4 => ?_) (fun h4 => ?_)
   ·
    have ih4 := t_le h4
    refine W.iconst (1) d19_36 (by decide) ?_
    refine W.goto 41 d19_37 (by decide) ?_
    exact W.ireturn d19_41 rfl (Or.inr (Or.inl rfl)) (nw_bool (by decide)) (by decide) (Or.inr (Or.inr (Or.inr (Or.inl ⟨h1, h4, rfl, rfl⟩))))
   ·
    have ih4 := f_le h4
    refine W.iloadN d19_12 rfl ?_
    refine W.bipush (97) d19_13 (by decide) ?_
    refine W.icmp 24 d19_15 (by decide) (fun h5 => ?_) (fun h5 => ?_)
    ·
     have ih5 := t_lt h5
     refine W.iloadN d19_24 rfl ?_
     refine W.bipush (48) d19_25 (by decide) ?_
     refine W.icmpN d19_27 (n_lt (by have := q48; have := q65; have := q90; have := q97; omega)) ?_
     refine W.iloadN d19_30 rfl ?_
     refine W.bipush (57) d19_31 (by decide) ?_
     refine W.icmpY 40 d19_33 (y_gt (by have := q57; have := q65; have := q90; have := q97; omega)) (by decide) ?_
     refine W.iconst (0) d19_40 (by decide) ?_
     exact W.ireturn d19_41 rfl (Or.inr (Or.inl rfl)) (nw_bool (by decide)) (by decide) (Or.inr (Or.inr (Or.inr (Or.inr (Or.inl ⟨h1, h4, h5, rfl, rfl⟩)))))
    ·
     have ih5 := f_lt h5
     refine W.iloadN d19_18 rfl ?_
     refine W.bipush (122) d19_19 (by decide) ?_
     refine W.icmpY 36 d19_21 (y_le (by have := q122; have := q65; have := q90; have := q97; omega)) (by decide) ?_
     refine W.iconst (1) d19_36 (by decide) ?_
     refine W.goto 41 d19_37 (by decide) ?_
     exact W.ireturn d19_41 rfl (Or.inr (Or.inl rfl)) (nw_bool (by decide)) (by decide) (Or.inr (Or.inr (Or.inr (Or.inr (Or.inr ⟨h1, h4, h5, rfl, rfl⟩)))))
theorem c37_length {Z a0} (hw : HW a0 Z) (hs : SF Z) {w_og5Z : Bool} {w_og6Z : Bool} {ad_og6Z : String} {F : List Ent} (mog5Z : ((og5 Z), w_og5Z, oString (vr (og6 Z)) (vi 0)) ∈ F) (mog6Z : ((og6 Z), w_og6Z, ar ad_og6Z .byte [(vi 46), (vi 95), (vi 58), (vi 45)]) ∈ F) : Con Z EL y9 y9b 1 y9r (rmm 1 0 0 13) [(vr (og5 Z))] (F) (fun v D' => (v = some (vi 4) ∧ F = D')) := by
  refine Con.of (ls := #[rv (og5 Z)]) (by decide +kernel) rfl ?_
  refine W.aloadN d12_0 rfl rfl ?_
  refine W.getf d12_1 (wq hw 31 rfl) Via.refl mog5Z m0 ?_
  refine W.alen (4) d12_4 mog6Z rfl ?_
  refine W.aloadN d12_5 rfl rfl ?_
  refine W.callV (as := []) 1 [(vi 4)] d12_6 (wq hw 63 rfl) (wq hw 64 rfl) (wq hw 66 rfl) (wq hw 66 rfl) (wq hw 65 rfl) (wq hw 11 rfl) (wq hw 67 rfl) (Hp.exa mog5Z) (c15_coder hw hs (mp1 := mog5Z)) (by decide) pd__B rfl rfl rfl rfl (by decide) (fun v D' h => ?_)
  obtain ⟨rfl, rfl⟩ := h
  show W _ _ _ _ _ _ _ _ _ _ _ _ 9 _ [(vi 0), (vi 4)]
  refine W.ishrK (4 : Int32) d12_9 (by decide) ?_
  exact W.ireturn d12_10 rfl (Or.inl rfl) rfl (by decide) ⟨rfl, rfl⟩
theorem c39_canEncode {Z a0} (hw : HW a0 Z) (hs : SF Z) {x1 : Int32} (hx1 : (45 ≤ x1.toInt ∧ x1.toInt ≤ 46) ∨ (48 ≤ x1.toInt ∧ x1.toInt ≤ 58) ∨ (65 ≤ x1.toInt ∧ x1.toInt ≤ 90) ∨ x1.toInt = 95 ∨ (97 ≤ x1.toInt ∧ x1.toInt ≤ 122)) {F : List Ent} : Con Z EL y16 y16b 1 y16r (rmm 0 0 0 0) [(vi x1)] (F) (fun v D' => (v = some (vi 1) ∧ F = D')) := by
  refine Con.of (ls := #[iv x1]) (by decide +kernel) rfl ?_
  refine W.iloadN d49_0 rfl ?_
  refine W.ifN d49_1 (n_lt (by have := q0; omega)) ?_
  refine W.iloadN d49_4 rfl ?_
  refine W.sipush (255) d49_5 (by decide) ?_
  refine W.icmpN d49_8 (n_gt (by have := q255; omega)) ?_
  refine W.iconst (1) d49_11 (by decide) ?_
  refine W.goto 16 d49_12 (by decide) ?_
  exact W.ireturn d49_16 rfl (Or.inr (Or.inl rfl)) (nw_bool (by decide)) (by decide) ⟨rfl, rfl⟩
theorem c40_min {Z a0} (hw : HW a0 Z) (hs : SF Z) {F : List Ent} : Con Z EL y18 y18b 2 y18r (rmm 0 0 0 0) [(vi 4), (vi 4)] (F) (fun v D' => (v = some (vi 4) ∧ F = D')) := by
  refine Con.of (ls := #[iv 4, iv 4]) (by decide +kernel) rfl ?_
  refine W.iloadN d40_0 rfl ?_
  refine W.iloadN d40_1 rfl ?_
  refine W.icmpN d40_2 (n_gt (by decide)) ?_
  refine W.iloadN d40_5 rfl ?_
  refine W.goto 10 d40_6 (by decide) ?_
  exact W.ireturn d40_10 rfl (Or.inl rfl) rfl (by decide) ⟨rfl, rfl⟩
theorem ix3 : Idx (3 : Int32) 3 := by unfold Idx; decide
theorem c41_indexOfChar {Z a0} (hw : HW a0 Z) (hs : SF Z) {x1 : Int32} (hx1 : (45 ≤ x1.toInt ∧ x1.toInt ≤ 46) ∨ (48 ≤ x1.toInt ∧ x1.toInt ≤ 58) ∨ (65 ≤ x1.toInt ∧ x1.toInt ≤ 90) ∨ x1.toInt = 95 ∨ (97 ≤ x1.toInt ∧ x1.toInt ≤ 122)) {w_og6Z : Bool} {ad_og6Z : String} {F : List Ent} (mog6Z : ((og6 Z), w_og6Z, ar ad_og6Z .byte [(vi 46), (vi 95), (vi 58), (vi 45)]) ∈ F) : Con Z EL y19 y19b 6 y19r (rmm 0 0 0 0) [(vr (og6 Z)), (vi x1), (vi 0), (vi 4)] (F) (fun v D' => (Cd .ne (46 : Int32) x1 ∧ Cd .ne (95 : Int32) x1 ∧ Cd .ne (58 : Int32) x1 ∧ Cd .ne (45 : Int32) x1 ∧ v = some (vi (-1)) ∧ F = D') ∨ (Cd .ne (46 : Int32) x1 ∧ Cd .ne (95 : Int32) x1 ∧ Cd .ne (58 : Int32) x1 ∧ ¬ Cd .ne (45 : Int32) x1 ∧ v = some (vi 3) ∧ F = D') ∨ (Cd .ne (46 : Int32) x1 ∧ Cd .ne (95 : Int32) x1 ∧ ¬ Cd .ne (58 : Int32) x1 ∧ v = some (vi 2) ∧ F = D') ∨ (Cd .ne (46 : Int32) x1 ∧ ¬ Cd .ne (95 : Int32) x1 ∧ v = some (vi 1) ∧ F = D') ∨ (¬ Cd .ne (46 : Int32) x1 ∧ v = some (vi 0) ∧ F = D')) := by
  refine Con.of (ls := #[rv (og6 Z), iv x1, iv 0, iv 4, uu, uu]) (by decide +kernel) rfl ?_
  refine W.iloadN d51_0 rfl ?_
  refine W.i2bK x1 d51_1 (z_i2b (by omega)) ?_
  refine W.istore (ls' := #[rv (og6 Z), iv x1, iv 0, iv 4, iv x1, uu]) d51_2 rfl ?_
  refine W.iloadN d51_4 rfl ?_
  refine W.istore (ls' := #[rv (og6 Z), iv x1, iv 0, iv 4, iv x1, iv 0]) d51_5 rfl ?_
  refine W.iload d51_7 rfl ?_
  refine W.iloadN d51_9 rfl ?_
  refine W.icmpN d51_10 (n_ge (by decide)) ?_
  refine W.aloadN d51_13 rfl rfl ?_
  refine W.iload d51_14 rfl ?_
  refine W.baload 0 d51_16 mog6Z ix0 rfl ?_
  refine W.iload d51_17 rfl ?_
  refine W.icmp 25 d51_19 (by decide) (fun h1 => ?_) (fun h1 => ?_)
  ·
   have ih1 := t_ne h1
   refine W.iincK (ls' := #[rv (og6 Z), iv x1, iv 0, iv 4, iv x1, iv 1]) (1) (1 : Int32) d51_25 (by decide) rfl (by decide) rfl ?_
   refine W.goto 7 d51_28 (by decide) ?_
   refine W.iload d51_7 rfl ?_
   refine W.iloadN d51_9 rfl ?_
   refine W.icmpN d51_10 (n_ge (by decide)) ?_
   refine W.aloadN d51_13 rfl rfl ?_
   refine W.iload d51_14 rfl ?_
   refine W.baload 1 d51_16 mog6Z ix1 rfl ?_
   refine W.iload d51_17 rfl ?_
   refine W.icmp 25 d51_19 (by decide) (fun h2 => ?_) (fun h2 => ?_)
   ·
    have ih2 := t_ne h2
    refine W.iincK (ls' := #[rv (og6 Z), iv x1, iv 0, iv 4, iv x1, iv 2]) (1) (2 : Int32) d51_25 (by decide) rfl (by decide) rfl ?_
    refine W.goto 7 d51_28 (by decide) ?_
    refine W.iload d51_7 rfl ?_
    refine W.iloadN d51_9 rfl ?_
    refine W.icmpN d51_10 (n_ge (by decide)) ?_
    refine W.aloadN d51_13 rfl rfl ?_
    refine W.iload d51_14 rfl ?_
    refine W.baload 2 d51_16 mog6Z ix2 rfl ?_
    refine W.iload d51_17 rfl ?_
    refine W.icmp 25 d51_19 (by decide) (fun h3 => ?_) (fun h3 => ?_)
    ·
     have ih3 := t_ne h3
     refine W.iincK (ls' := #[rv (og6 Z), iv x1, iv 0, iv 4, iv x1, iv 3]) (1) (3 : Int32) d51_25 (by decide) rfl (by decide) rfl ?_
     refine W.goto 7 d51_28 (by decide) ?_
     refine W.iload d51_7 rfl ?_
     refine W.iloadN d51_9 rfl ?_
     refine W.icmpN d51_10 (n_ge (by decide)) ?_
     refine W.aloadN d51_13 rfl rfl ?_
     refine W.iload d51_14 rfl ?_
     refine W.baload 3 d51_16 mog6Z ix3 rfl ?_
     refine W.iload d51_17 rfl ?_
     refine W.icmp 25 d51_19 (by decide) (fun h4 => ?_) (fun h4 => ?_)
     ·
      have ih4 := t_ne h4
      refine W.iincK (ls' := #[rv (og6 Z), iv x1, iv 0, iv 4, iv x1, iv 4]) (1) (4 : Int32) d51_25 (by decide) rfl (by decide) rfl ?_
      refine W.goto 7 d51_28 (by decide) ?_
      refine W.iload d51_7 rfl ?_
      refine W.iloadN d51_9 rfl ?_
      refine W.icmpY 31 d51_10 (y_ge (by decide)) (by decide) ?_
      refine W.iconst (-1) d51_31 (by decide) ?_
      exact W.ireturn d51_32 rfl (Or.inl rfl) rfl (by decide) (Or.inl ⟨h1, h2, h3, h4, rfl, rfl⟩)
     ·
      have ih4 := f_ne h4
      refine W.iload d51_22 rfl ?_
      exact W.ireturn d51_24 rfl (Or.inl rfl) rfl (by decide) (Or.inr (Or.inl ⟨h1, h2, h3, h4, rfl, rfl⟩))
    ·
     have ih3 := f_ne h3
     refine W.iload d51_22 rfl ?_
     exact W.ireturn d51_24 rfl (Or.inl rfl) rfl (by decide) (Or.inr (Or.inr (Or.inl ⟨h1, h2, h3, rfl, rfl⟩)))
   ·
    have ih2 := f_ne h2
    refine W.iload d51_22 rfl ?_
    exact W.ireturn d51_24 rfl (Or.inl rfl) rfl (by decide) (Or.inr (Or.inr (Or.inr (Or.inl ⟨h1, h2, rfl, rfl⟩))))
  ·
   have ih1 := f_ne h1
   refine W.iload d51_22 rfl ?_
   exact W.ireturn d51_24 rfl (Or.inl rfl) rfl (by decide) (Or.inr (Or.inr (Or.inr (Or.inr ⟨h1, rfl, rfl⟩))))
theorem c38_indexOf {Z a0} (hw : HW a0 Z) (hs : SF Z) {x1 : Int32} (hx1 : (45 ≤ x1.toInt ∧ x1.toInt ≤ 46) ∨ (48 ≤ x1.toInt ∧ x1.toInt ≤ 58) ∨ (65 ≤ x1.toInt ∧ x1.toInt ≤ 90) ∨ x1.toInt = 95 ∨ (97 ≤ x1.toInt ∧ x1.toInt ≤ 122)) {w_og6Z : Bool} {ad_og6Z : String} {F : List Ent} (mog6Z : ((og6 Z), w_og6Z, ar ad_og6Z .byte [(vi 46), (vi 95), (vi 58), (vi 45)]) ∈ F) : Con Z EL y20 y20b 4 y20r (rmm 1 0 0 17) [(vr (og6 Z)), (vi x1), (vi 0), (vi 4)] (F) (fun v D' => (Cd .ne (46 : Int32) x1 ∧ Cd .ne (95 : Int32) x1 ∧ Cd .ne (58 : Int32) x1 ∧ Cd .ne (45 : Int32) x1 ∧ v = some (vi (-1)) ∧ F = D') ∨ (Cd .ne (46 : Int32) x1 ∧ Cd .ne (95 : Int32) x1 ∧ Cd .ne (58 : Int32) x1 ∧ ¬ Cd .ne (45 : Int32) x1 ∧ v = some (vi 3) ∧ F = D') ∨ (Cd .ne (46 : Int32) x1 ∧ Cd .ne (95 : Int32) x1 ∧ ¬ Cd .ne (58 : Int32) x1 ∧ v = some (vi 2) ∧ F = D') ∨ (Cd .ne (46 : Int32) x1 ∧ ¬ Cd .ne (95 : Int32) x1 ∧ v = some (vi 1) ∧ F = D') ∨ (¬ Cd .ne (46 : Int32) x1 ∧ v = some (vi 0) ∧ F = D')) := by
  refine Con.of (ls := #[rv (og6 Z), iv x1, iv 0, iv 4]) (by decide +kernel) rfl ?_
  refine W.iloadN d48_0 rfl ?_
  refine W.callS (as := [(vi x1)]) 0 [] d48_1 (wq hw 247 rfl) (wq hw 248 rfl) (wq hw 16 rfl) (wq hw 249 rfl) (c39_canEncode hw hs (hx1 := hx1)) (by decide) pd_I_Z rfl rfl rfl rfl (by decide) (fun v D' h => ?_)
  obtain ⟨rfl, rfl⟩ := h
  show W _ _ _ _ _ _ _ _ _ _ _ _ 4 _ [(vi 1)]
  refine W.ifY 9 d48_4 (y_ne (by decide)) (by decide) ?_
  refine W.iloadN d48_9 rfl ?_
  refine W.iconst (0) d48_10 (by decide) ?_
  refine W.callS (as := [(vi 0), (vi 0)]) 0 [] d48_11 (wq hw 250 rfl) (wq hw 251 rfl) (wq hw 209 rfl) (wq hw 252 rfl) (c27_max hw hs) (by decide) pd_II_I rfl rfl rfl rfl (by decide) (fun v D' h => ?_)
  obtain ⟨rfl, rfl⟩ := h
  show W _ _ _ _ _ _ _ _ _ _ _ _ 14 _ [(vi 0)]
  refine W.istoreN (ls' := #[rv (og6 Z), iv x1, iv 0, iv 4]) d48_14 rfl ?_
  refine W.iloadN d48_15 rfl ?_
  refine W.aloadN d48_16 rfl rfl ?_
  refine W.alen (4) d48_17 mog6Z rfl ?_
  refine W.callS (as := [(vi 4), (vi 4)]) 0 [] d48_18 (wq hw 253 rfl) (wq hw 208 rfl) (wq hw 209 rfl) (wq hw 210 rfl) (c40_min hw hs) (by decide) pd_II_I rfl rfl rfl rfl (by decide) (fun v D' h => ?_)
  obtain ⟨rfl, rfl⟩ := h
  show W _ _ _ _ _ _ _ _ _ _ _ _ 21 _ [(vi 4)]
  refine W.istoreN (ls' := #[rv (og6 Z), iv x1, iv 0, iv 4]) d48_21 rfl ?_
  refine W.iloadN d48_22 rfl ?_
  refine W.iloadN d48_23 rfl ?_
  refine W.icmpY 29 d48_24 (y_lt (by decide)) (by decide) ?_
  refine W.aloadN d48_29 rfl rfl ?_
  refine W.iloadN d48_30 rfl ?_
  refine W.iloadN d48_31 rfl ?_
  refine W.iloadN d48_32 rfl ?_
  refine W.callS (as := [(vr (og6 Z)), (vi x1), (vi 0), (vi 4)]) 0 [] d48_33 (wq hw 254 rfl) (wq hw 255 rfl) (wq hw 16 rfl) (wq hw 256 rfl) (c41_indexOfChar hw hs (hx1 := hx1) (mog6Z := mog6Z)) (by decide) pd__BIII_I rfl rfl rfl rfl (by decide) (fun v D' h => ?_)
  rcases h with ⟨h1, h2, h3, h4, rfl, rfl⟩ | ⟨h5, h6, h7, h8, rfl, rfl⟩ | ⟨h9, h10, h11, rfl, rfl⟩ | ⟨h12, h13, rfl, rfl⟩ | ⟨h14, rfl, rfl⟩
  ·
   have ih1 := t_ne h1
   have ih2 := t_ne h2
   have ih3 := t_ne h3
   have ih4 := t_ne h4
   show W _ _ _ _ _ _ _ _ _ _ _ _ 36 _ [(vi (-1))]
   exact W.ireturn d48_36 rfl (Or.inl rfl) rfl (by decide) (Or.inl ⟨h1, h2, h3, h4, rfl, rfl⟩)
  ·
   have ih5 := t_ne h5
   have ih6 := t_ne h6
   have ih7 := t_ne h7
   have ih8 := f_ne h8
   show W _ _ _ _ _ _ _ _ _ _ _ _ 36 _ [(vi 3)]
   exact W.ireturn d48_36 rfl (Or.inl rfl) rfl (by decide) (Or.inr (Or.inl ⟨h5, h6, h7, h8, rfl, rfl⟩))
  ·
   have ih9 := t_ne h9
   have ih10 := t_ne h10
   have ih11 := f_ne h11
   show W _ _ _ _ _ _ _ _ _ _ _ _ 36 _ [(vi 2)]
   exact W.ireturn d48_36 rfl (Or.inl rfl) rfl (by decide) (Or.inr (Or.inr (Or.inl ⟨h9, h10, h11, rfl, rfl⟩)))
  ·
   have ih12 := t_ne h12
   have ih13 := f_ne h13
   show W _ _ _ _ _ _ _ _ _ _ _ _ 36 _ [(vi 1)]
   exact W.ireturn d48_36 rfl (Or.inl rfl) rfl (by decide) (Or.inr (Or.inr (Or.inr (Or.inl ⟨h12, h13, rfl, rfl⟩))))
  ·
   have ih14 := f_ne h14
   show W _ _ _ _ _ _ _ _ _ _ _ _ 36 _ [(vi 0)]
   exact W.ireturn d48_36 rfl (Or.inl rfl) rfl (by decide) (Or.inr (Or.inr (Or.inr (Or.inr ⟨h14, rfl, rfl⟩))))
theorem c36_indexOf {Z a0} (hw : HW a0 Z) (hs : SF Z) {x1 : Int32} (hx1 : (45 ≤ x1.toInt ∧ x1.toInt ≤ 46) ∨ (48 ≤ x1.toInt ∧ x1.toInt ≤ 58) ∨ (65 ≤ x1.toInt ∧ x1.toInt ≤ 90) ∨ x1.toInt = 95 ∨ (97 ≤ x1.toInt ∧ x1.toInt ≤ 122)) {w_og5Z : Bool} {w_og6Z : Bool} {ad_og6Z : String} {F : List Ent} (mog5Z : ((og5 Z), w_og5Z, oString (vr (og6 Z)) (vi 0)) ∈ F) (mog6Z : ((og6 Z), w_og6Z, ar ad_og6Z .byte [(vi 46), (vi 95), (vi 58), (vi 45)]) ∈ F) : Con Z EL y21 y21b 3 y21r (rmm 2 0 0 32) [(vr (og5 Z)), (vi x1), (vi 0)] (F) (fun v D' => (Cd .ne (46 : Int32) x1 ∧ Cd .ne (95 : Int32) x1 ∧ Cd .ne (58 : Int32) x1 ∧ Cd .ne (45 : Int32) x1 ∧ v = some (vi (-1)) ∧ F = D') ∨ (Cd .ne (46 : Int32) x1 ∧ Cd .ne (95 : Int32) x1 ∧ Cd .ne (58 : Int32) x1 ∧ ¬ Cd .ne (45 : Int32) x1 ∧ v = some (vi 3) ∧ F = D') ∨ (Cd .ne (46 : Int32) x1 ∧ Cd .ne (95 : Int32) x1 ∧ ¬ Cd .ne (58 : Int32) x1 ∧ v = some (vi 2) ∧ F = D') ∨ (Cd .ne (46 : Int32) x1 ∧ ¬ Cd .ne (95 : Int32) x1 ∧ v = some (vi 1) ∧ F = D') ∨ (¬ Cd .ne (46 : Int32) x1 ∧ v = some (vi 0) ∧ F = D')) := by
  refine Con.of (ls := #[rv (og5 Z), iv x1, iv 0]) (by decide +kernel) rfl ?_
  refine W.aloadN d47_0 rfl rfl ?_
  refine W.callV (as := []) 0 [] d47_1 (wq hw 73 rfl) (wq hw 74 rfl) (wq hw 76 rfl) (wq hw 76 rfl) (wq hw 75 rfl) (wq hw 11 rfl) (wq hw 77 rfl) (Hp.exa mog5Z) (c17_isLatin1 hw hs (mp1 := mog5Z)) (by decide) pd__Z rfl rfl rfl rfl (by decide) (fun v D' h => ?_)
  obtain ⟨rfl, rfl⟩ := h
  show W _ _ _ _ _ _ _ _ _ _ _ _ 4 _ [(vi 1)]
  refine W.ifN d47_4 (n_eq (by decide)) ?_
  refine W.aloadN d47_7 rfl rfl ?_
  refine W.getf d47_8 (wq hw 31 rfl) Via.refl mog5Z m0 ?_
  refine W.iloadN d47_11 rfl ?_
  refine W.iloadN d47_12 rfl ?_
  refine W.aloadN d47_13 rfl rfl ?_
  refine W.callV (as := []) 3 [(vi 0), (vi x1), (vr (og6 Z))] d47_14 (wq hw 243 rfl) (wq hw 59 rfl) (wq hw 61 rfl) (wq hw 61 rfl) (wq hw 60 rfl) (wq hw 11 rfl) (wq hw 62 rfl) (Hp.exa mog5Z) (c37_length hw hs (mog5Z := mog5Z) (mog6Z := mog6Z)) (by decide) pd__I rfl rfl rfl rfl (by decide) (fun v D' h => ?_)
  obtain ⟨rfl, rfl⟩ := h
  show W _ _ _ _ _ _ _ _ _ _ _ _ 17 _ [(vi 4), (vi 0), (vi x1), (vr (og6 Z))]
  refine W.callS (as := [(vr (og6 Z)), (vi x1), (vi 0), (vi 4)]) 0 [] d47_17 (wq hw 244 rfl) (wq hw 245 rfl) (wq hw 16 rfl) (wq hw 246 rfl) (c38_indexOf hw hs (hx1 := hx1) (mog6Z := mog6Z)) (by decide) pd__BIII_I rfl rfl rfl rfl (by decide) (fun v D' h => ?_)
  rcases h with ⟨h1, h2, h3, h4, rfl, rfl⟩ | ⟨h5, h6, h7, h8, rfl, rfl⟩ | ⟨h9, h10, h11, rfl, rfl⟩ | ⟨h12, h13, rfl, rfl⟩ | ⟨h14, rfl, rfl⟩
  ·
   have ih1 := t_ne h1
   have ih2 := t_ne h2
   have ih3 := t_ne h3
   have ih4 := t_ne h4
   show W _ _ _ _ _ _ _ _ _ _ _ _ 20 _ [(vi (-1))]
   refine W.goto 36 d47_20 (by decide) ?_
   exact W.ireturn d47_36 rfl (Or.inl rfl) rfl (by decide) (Or.inl ⟨h1, h2, h3, h4, rfl, rfl⟩)
  ·
   have ih5 := t_ne h5
   have ih6 := t_ne h6
   have ih7 := t_ne h7
   have ih8 := f_ne h8
   show W _ _ _ _ _ _ _ _ _ _ _ _ 20 _ [(vi 3)]
   refine W.goto 36 d47_20 (by decide) ?_
   exact W.ireturn d47_36 rfl (Or.inl rfl) rfl (by decide) (Or.inr (Or.inl ⟨h5, h6, h7, h8, rfl, rfl⟩))
  ·
   have ih9 := t_ne h9
   have ih10 := t_ne h10
   have ih11 := f_ne h11
   show W _ _ _ _ _ _ _ _ _ _ _ _ 20 _ [(vi 2)]
   refine W.goto 36 d47_20 (by decide) ?_
   exact W.ireturn d47_36 rfl (Or.inl rfl) rfl (by decide) (Or.inr (Or.inr (Or.inl ⟨h9, h10, h11, rfl, rfl⟩)))
  ·
   have ih12 := t_ne h12
   have ih13 := f_ne h13
   show W _ _ _ _ _ _ _ _ _ _ _ _ 20 _ [(vi 1)]
   refine W.goto 36 d47_20 (by decide) ?_
   exact W.ireturn d47_36 rfl (Or.inl rfl) rfl (by decide) (Or.inr (Or.inr (Or.inr (Or.inl ⟨h12, h13, rfl, rfl⟩))))
  ·
   have ih14 := f_ne h14
   show W _ _ _ _ _ _ _ _ _ _ _ _ 20 _ [(vi 0)]
   refine W.goto 36 d47_20 (by decide) ?_
   exact W.ireturn d47_36 rfl (Or.inl rfl) rfl (by decide) (Or.inr (Or.inr (Or.inr (Or.inr ⟨h14, rfl, rfl⟩))))
theorem c35_indexOf {Z a0} (hw : HW a0 Z) (hs : SF Z) {x1 : Int32} (hx1 : (45 ≤ x1.toInt ∧ x1.toInt ≤ 46) ∨ (48 ≤ x1.toInt ∧ x1.toInt ≤ 58) ∨ (65 ≤ x1.toInt ∧ x1.toInt ≤ 90) ∨ x1.toInt = 95 ∨ (97 ≤ x1.toInt ∧ x1.toInt ≤ 122)) {w_og5Z : Bool} {w_og6Z : Bool} {ad_og6Z : String} {F : List Ent} (mog5Z : ((og5 Z), w_og5Z, oString (vr (og6 Z)) (vi 0)) ∈ F) (mog6Z : ((og6 Z), w_og6Z, ar ad_og6Z .byte [(vi 46), (vi 95), (vi 58), (vi 45)]) ∈ F) : Con Z EL y22 y22b 2 y22r (rmm 3 0 0 46) [(vr (og5 Z)), (vi x1)] (F) (fun v D' => (Cd .ne (46 : Int32) x1 ∧ Cd .ne (95 : Int32) x1 ∧ Cd .ne (58 : Int32) x1 ∧ Cd .ne (45 : Int32) x1 ∧ v = some (vi (-1)) ∧ F = D') ∨ (Cd .ne (46 : Int32) x1 ∧ Cd .ne (95 : Int32) x1 ∧ Cd .ne (58 : Int32) x1 ∧ ¬ Cd .ne (45 : Int32) x1 ∧ v = some (vi 3) ∧ F = D') ∨ (Cd .ne (46 : Int32) x1 ∧ Cd .ne (95 : Int32) x1 ∧ ¬ Cd .ne (58 : Int32) x1 ∧ v = some (vi 2) ∧ F = D') ∨ (Cd .ne (46 : Int32) x1 ∧ ¬ Cd .ne (95 : Int32) x1 ∧ v = some (vi 1) ∧ F = D') ∨ (¬ Cd .ne (46 : Int32) x1 ∧ v = some (vi 0) ∧ F = D')) := by
  refine Con.of (ls := #[rv (og5 Z), iv x1]) (by decide +kernel) rfl ?_
  refine W.aloadN d46_0 rfl rfl ?_
  refine W.iloadN d46_1 rfl ?_
  refine W.iconst (0) d46_2 (by decide) ?_
  refine W.callV (as := [(vi x1), (vi 0)]) 0 [] d46_3 (wq hw 238 rfl) (wq hw 239 rfl) (wq hw 241 rfl) (wq hw 241 rfl) (wq hw 240 rfl) (wq hw 11 rfl) (wq hw 242 rfl) (Hp.exa mog5Z) (c36_indexOf hw hs (hx1 := hx1) (mog5Z := mog5Z) (mog6Z := mog6Z)) (by decide) pd_II_I rfl rfl rfl rfl (by decide) (fun v D' h => ?_)
  rcases h with ⟨h1, h2, h3, h4, rfl, rfl⟩ | ⟨h5, h6, h7, h8, rfl, rfl⟩ | ⟨h9, h10, h11, rfl, rfl⟩ | ⟨h12, h13, rfl, rfl⟩ | ⟨h14, rfl, rfl⟩
  ·
   have ih1 := t_ne h1
   have ih2 := t_ne h2
   have ih3 := t_ne h3
   have ih4 := t_ne h4
   show W _ _ _ _ _ _ _ _ _ _ _ _ 6 _ [(vi (-1))]
   exact W.ireturn d46_6 rfl (Or.inl rfl) rfl (by decide) (Or.inl ⟨h1, h2, h3, h4, rfl, rfl⟩)
  ·
   have ih5 := t_ne h5
   have ih6 := t_ne h6
   have ih7 := t_ne h7
   have ih8 := f_ne h8
   show W _ _ _ _ _ _ _ _ _ _ _ _ 6 _ [(vi 3)]
   exact W.ireturn d46_6 rfl (Or.inl rfl) rfl (by decide) (Or.inr (Or.inl ⟨h5, h6, h7, h8, rfl, rfl⟩))
  ·
   have ih9 := t_ne h9
   have ih10 := t_ne h10
   have ih11 := f_ne h11
   show W _ _ _ _ _ _ _ _ _ _ _ _ 6 _ [(vi 2)]
   exact W.ireturn d46_6 rfl (Or.inl rfl) rfl (by decide) (Or.inr (Or.inr (Or.inl ⟨h9, h10, h11, rfl, rfl⟩)))
  ·
   have ih12 := t_ne h12
   have ih13 := f_ne h13
   show W _ _ _ _ _ _ _ _ _ _ _ _ 6 _ [(vi 1)]
   exact W.ireturn d46_6 rfl (Or.inl rfl) rfl (by decide) (Or.inr (Or.inr (Or.inr (Or.inl ⟨h12, h13, rfl, rfl⟩))))
  ·
   have ih14 := f_ne h14
   show W _ _ _ _ _ _ _ _ _ _ _ _ 6 _ [(vi 0)]
   exact W.ireturn d46_6 rfl (Or.inl rfl) rfl (by decide) (Or.inr (Or.inr (Or.inr (Or.inr ⟨h14, rfl, rfl⟩))))
theorem c31_check {Z a0} (hw : HW a0 Z) (hs : SF Z) {p1 p2 : Addr} {x1 : Int32} (hx1 : (45 ≤ x1.toInt ∧ x1.toInt ≤ 46) ∨ (48 ≤ x1.toInt ∧ x1.toInt ≤ 58) ∨ (65 ≤ x1.toInt ∧ x1.toInt ≤ 90) ∨ x1.toInt = 95 ∨ (97 ≤ x1.toInt ∧ x1.toInt ≤ 122)) {w_p1 : Bool} {w_p2 : Bool} {ad_p2 : String} {w_og4Z : Bool} {w_og5Z : Bool} {w_og6Z : Bool} {ad_og6Z : String} {F : List Ent} (mp1 : (p1, w_p1, oString (vr p2) (vi 0)) ∈ F) (mp2 : (p2, w_p2, ar ad_p2 .byte [(vi x1)]) ∈ F) (mog4Z : ((og4 Z), w_og4Z, oJobKey_NameRule (vi 128) (vr (og5 Z))) ∈ F) (mog5Z : ((og5 Z), w_og5Z, oString (vr (og6 Z)) (vi 0)) ∈ F) (mog6Z : ((og6 Z), w_og6Z, ar ad_og6Z .byte [(vi 46), (vi 95), (vi 58), (vi 45)]) ∈ F) : Con Z EL y23 y23b 4 y23r (rmm 4 0 0 59) [(vr (og4 Z)), (vr p1)] (F) (fun v D' => (v = some (vr p1) ∧ F = D')) := by
  refine Con.of (ls := #[rv (og4 Z), rv p1, uu, uu]) (by decide +kernel) rfl ?_
  refine W.aloadN d10_0 rfl rfl ?_
  refine W.ifnonnullY 11 d10_1 (by decide) ?_
  refine W.aloadN d10_11 rfl rfl ?_
  refine W.callV (as := []) 0 [] d10_12 (wq hw 53 rfl) (wq hw 54 rfl) (wq hw 56 rfl) (wq hw 56 rfl) (wq hw 55 rfl) (wq hw 11 rfl) (wq hw 57 rfl) (Hp.exa mp1) (c13_isEmpty hw hs (hvs_p2 := rfl) (mp1 := mp1) (mp2 := mp2)) (by decide) pd__Z rfl rfl rfl rfl (by decide) (fun v D' h => ?_)
  obtain ⟨rfl, rfl⟩ := h
  show W _ _ _ _ _ _ _ _ _ _ _ _ 15 _ [(vi 0)]
  refine W.ifY 25 d10_15 (y_eq (by decide)) (by decide) ?_
  refine W.iconst (0) d10_25 (by decide) ?_
  refine W.istoreN (ls' := #[rv (og4 Z), rv p1, iv 0, uu]) d10_26 rfl ?_
  refine W.iloadN d10_27 rfl ?_
  refine W.aloadN d10_28 rfl rfl ?_
  refine W.callV (as := []) 1 [(vi 0)] d10_29 (wq hw 58 rfl) (wq hw 59 rfl) (wq hw 61 rfl) (wq hw 61 rfl) (wq hw 60 rfl) (wq hw 11 rfl) (wq hw 62 rfl) (Hp.exa mp1) (c14_length hw hs (hvs_p2 := rfl) (mp1 := mp1) (mp2 := mp2)) (by decide) pd__I rfl rfl rfl rfl (by decide) (fun v D' h => ?_)
  obtain ⟨rfl, rfl⟩ := h
  show W _ _ _ _ _ _ _ _ _ _ _ _ 32 _ [(vi 1), (vi 0)]
  refine W.icmpN d10_32 (n_ge (by decide)) ?_
  have K2 : W Z EL (rmm 4 0 0 59) "com/example/cunctator/cunctator/JobKey$NameRule" "check" prog_9_method_2_code 4 (Option.some (Jvm.ClassFile.FieldType.object "java/lang/String")) (fun v D' => (v = some (vr p1) ∧ F = D')) (F) 0 0 84 #[rv (og4 Z), rv p1, iv 0, iv x1] [] := by
   refine W.iincK (ls' := #[rv (og4 Z), rv p1, iv 1, iv x1]) (1) (1 : Int32) d10_84 (by decide) rfl (by decide) rfl ?_
   refine W.goto 27 d10_87 (by decide) ?_
   refine W.iloadN d10_27 rfl ?_
   refine W.aloadN d10_28 rfl rfl ?_
   refine W.callV (as := []) 1 [(vi 1)] d10_29 (wq hw 58 rfl) (wq hw 59 rfl) (wq hw 61 rfl) (wq hw 61 rfl) (wq hw 60 rfl) (wq hw 11 rfl) (wq hw 62 rfl) (Hp.exa mp1) (c14_length hw hs (hvs_p2 := rfl) (mp1 := mp1) (mp2 := mp2)) (by decide) pd__I rfl rfl rfl rfl (by decide) (fun v D' h => ?_)
   obtain ⟨rfl, rfl⟩ := h
   show W _ _ _ _ _ _ _ _ _ _ _ _ 32 _ [(vi 1), (vi 1)]
   refine W.icmpY 90 d10_32 (y_ge (by decide)) (by decide) ?_
   refine W.aloadN d10_90 rfl rfl ?_
   refine W.callV (as := []) 0 [] d10_91 (wq hw 58 rfl) (wq hw 59 rfl) (wq hw 61 rfl) (wq hw 61 rfl) (wq hw 60 rfl) (wq hw 11 rfl) (wq hw 62 rfl) (Hp.exa mp1) (c14_length hw hs (hvs_p2 := rfl) (mp1 := mp1) (mp2 := mp2)) (by decide) pd__I rfl rfl rfl rfl (by decide) (fun v D' h => ?_)
   obtain ⟨rfl, rfl⟩ := h
   show W _ _ _ _ _ _ _ _ _ _ _ _ 94 _ [(vi 1)]
   refine W.aloadN d10_94 rfl rfl ?_
   refine W.getf d10_95 (wq hw 92 rfl) Via.refl mog4Z m0 ?_
   refine W.icmpY 133 d10_98 (y_le (by decide)) (by decide) ?_
   refine W.aloadN d10_133 rfl rfl ?_
   exact W.areturn d10_134 rfl rfl rfl (by decide) ⟨rfl, rfl⟩
  refine W.aloadN d10_35 rfl rfl ?_
  refine W.iloadN d10_36 rfl ?_
  refine W.callV (as := [(vi 0)]) 0 [] d10_37 (wq hw 68 rfl) (wq hw 69 rfl) (wq hw 71 rfl) (wq hw 71 rfl) (wq hw 70 rfl) (wq hw 11 rfl) (wq hw 72 rfl) (Hp.exa mp1) (c32_charAt hw hs (hx1 := hx1) (mp1 := mp1) (mp2 := mp2)) (by decide) pd_I_C rfl rfl rfl rfl (by decide) (fun v D' h => ?_)
  obtain ⟨rfl, rfl⟩ := h
  show W _ _ _ _ _ _ _ _ _ _ _ _ 40 _ [(vi x1)]
  refine W.istoreN (ls' := #[rv (og4 Z), rv p1, iv 0, iv x1]) d10_40 rfl ?_
  refine W.iloadN d10_41 rfl ?_
  refine W.callSN (as := [(vi x1)]) 0 [] d10_42 (wq hw 89 rfl) (wq hw 90 rfl) (wq hw 37 rfl) (wq hw 91 rfl) (c34_isAsciiLetterOrDigit hw hs (hx1 := hx1)) (by decide) pd_C_Z rfl rfl rfl rfl (by decide) (fun v D' h => ?_)
  rcases h with ⟨h1, h2, rfl, rfl⟩ | ⟨h3, h4, h5, rfl, rfl⟩ | ⟨h6, h7, h8, rfl, rfl⟩ | ⟨h9, h10, rfl, rfl⟩ | ⟨h11, h12, h13, rfl, rfl⟩ | ⟨h14, h15, h16, rfl, rfl⟩
  ·
   have ih1 := t_lt h1
   have ih2 := t_lt h2
   show W _ _ _ _ _ _ _ _ _ _ _ _ 45 _ [(vi 0)]
   refine W.ifN d10_45 (n_ne (by decide)) ?_
   refine W.aloadN d10_48 rfl rfl ?_
   refine W.getf d10_49 (wq hw 231 rfl) Via.refl mog4Z m1 ?_
   refine W.iloadN d10_52 rfl ?_
   refine W.callV (as := [(vi x1)]) 0 [] d10_53 (wq hw 233 rfl) (wq hw 234 rfl) (wq hw 236 rfl) (wq hw 236 rfl) (wq hw 235 rfl) (wq hw 11 rfl) (wq hw 237 rfl) (Hp.exa mog5Z) (c35_indexOf hw hs (hx1 := hx1) (mog5Z := mog5Z) (mog6Z := mog6Z)) (by decide) pd_I_I rfl rfl rfl rfl (by decide) (fun v D' h => ?_)
   rcases h with ⟨h17, h18, h19, h20, rfl, rfl⟩ | ⟨h21, h22, h23, h24, rfl, rfl⟩ | ⟨h25, h26, h27, rfl, rfl⟩ | ⟨h28, h29, rfl, rfl⟩ | ⟨h30, rfl, rfl⟩
   ·
    have ih17 := t_ne h17
    have ih18 := t_ne h18
    have ih19 := t_ne h19
    exact absurd h20 (n_ne (by have := q45; have := q65; have := q48; have := q46; have := q95; have := q58; omega))
   ·
    have ih21 := t_ne h21
    have ih22 := t_ne h22
    have ih23 := t_ne h23
    have ih24 := f_ne h24
    show W _ _ _ _ _ _ _ _ _ _ _ _ 56 _ [(vi 3)]
    refine W.ifY 84 d10_56 (y_ge (by decide)) (by decide) ?_
    exact W.mono (by decide) (by decide) (K2  )
   ·
    have ih25 := t_ne h25
    have ih26 := t_ne h26
    exact absurd h27 (Classical.not_not.mpr (y_ne (by have := q58; have := q65; have := q48; have := q46; have := q95; omega)))
   ·
    have ih28 := t_ne h28
    exact absurd h29 (Classical.not_not.mpr (y_ne (by have := q95; have := q65; have := q48; have := q46; omega)))
   ·
    have ih30 := f_ne h30
    show W _ _ _ _ _ _ _ _ _ _ _ _ 56 _ [(vi 0)]
    refine W.ifY 84 d10_56 (y_ge (by decide)) (by decide) ?_
    exact W.mono (by decide) (by decide) (K2  )
  ·
   have ih3 := t_lt h3
   have ih4 := f_lt h4
   have ih5 := t_gt h5
   show W _ _ _ _ _ _ _ _ _ _ _ _ 45 _ [(vi 0)]
   refine W.ifN d10_45 (n_ne (by decide)) ?_
   refine W.aloadN d10_48 rfl rfl ?_
   refine W.getf d10_49 (wq hw 231 rfl) Via.refl mog4Z m1 ?_
   refine W.iloadN d10_52 rfl ?_
   refine W.callV (as := [(vi x1)]) 0 [] d10_53 (wq hw 233 rfl) (wq hw 234 rfl) (wq hw 236 rfl) (wq hw 236 rfl) (wq hw 235 rfl) (wq hw 11 rfl) (wq hw 237 rfl) (Hp.exa mog5Z) (c35_indexOf hw hs (hx1 := hx1) (mog5Z := mog5Z) (mog6Z := mog6Z)) (by decide) pd_I_I rfl rfl rfl rfl (by decide) (fun v D' h => ?_)
   rcases h with ⟨h31, h32, h33, h34, rfl, rfl⟩ | ⟨h35, h36, h37, h38, rfl, rfl⟩ | ⟨h39, h40, h41, rfl, rfl⟩ | ⟨h42, h43, rfl, rfl⟩ | ⟨h44, rfl, rfl⟩
   ·
    have ih31 := t_ne h31
    have ih32 := t_ne h32
    exact absurd h33 (n_ne (by have := q58; have := q65; have := q48; have := q57; have := q46; have := q95; omega))
   ·
    have ih35 := t_ne h35
    have ih36 := t_ne h36
    exact absurd h37 (n_ne (by have := q58; have := q65; have := q48; have := q57; have := q46; have := q95; omega))
   ·
    have ih39 := t_ne h39
    have ih40 := t_ne h40
    have ih41 := f_ne h41
    show W _ _ _ _ _ _ _ _ _ _ _ _ 56 _ [(vi 2)]
    refine W.ifY 84 d10_56 (y_ge (by decide)) (by decide) ?_
    exact W.mono (by decide) (by decide) (K2  )
   ·
    have ih42 := t_ne h42
    exact absurd h43 (Classical.not_not.mpr (y_ne (by have := q95; have := q65; have := q48; have := q57; have := q46; omega)))
   ·
    exact absurd h44 (Classical.not_not.mpr (y_ne (by have := q46; have := q65; have := q48; have := q57; omega)))
  ·
   have ih6 := t_lt h6
   have ih7 := f_lt h7
   have ih8 := f_gt h8
   show W _ _ _ _ _ _ _ _ _ _ _ _ 45 _ [(vi 1)]
   refine W.ifY 84 d10_45 (y_ne (by decide)) (by decide) ?_
   exact W.mono (by decide) (by decide) (K2  )
  ·
   have ih9 := f_lt h9
   have ih10 := t_le h10
   show W _ _ _ _ _ _ _ _ _ _ _ _ 45 _ [(vi 1)]
   refine W.ifY 84 d10_45 (y_ne (by decide)) (by decide) ?_
   exact W.mono (by decide) (by decide) (K2  )
  ·
   have ih11 := f_lt h11
   have ih12 := f_le h12
   have ih13 := t_lt h13
   show W _ _ _ _ _ _ _ _ _ _ _ _ 45 _ [(vi 0)]
   refine W.ifN d10_45 (n_ne (by decide)) ?_
   refine W.aloadN d10_48 rfl rfl ?_
   refine W.getf d10_49 (wq hw 231 rfl) Via.refl mog4Z m1 ?_
   refine W.iloadN d10_52 rfl ?_
   refine W.callV (as := [(vi x1)]) 0 [] d10_53 (wq hw 233 rfl) (wq hw 234 rfl) (wq hw 236 rfl) (wq hw 236 rfl) (wq hw 235 rfl) (wq hw 11 rfl) (wq hw 237 rfl) (Hp.exa mog5Z) (c35_indexOf hw hs (hx1 := hx1) (mog5Z := mog5Z) (mog6Z := mog6Z)) (by decide) pd_I_I rfl rfl rfl rfl (by decide) (fun v D' h => ?_)
   rcases h with ⟨h45, h46, h47, h48, rfl, rfl⟩ | ⟨h49, h50, h51, h52, rfl, rfl⟩ | ⟨h53, h54, h55, rfl, rfl⟩ | ⟨h56, h57, rfl, rfl⟩ | ⟨h58, rfl, rfl⟩
   ·
    have ih45 := t_ne h45
    exact absurd h46 (n_ne (by have := q95; have := q65; have := q90; have := q97; have := q46; omega))
   ·
    have ih49 := t_ne h49
    exact absurd h50 (n_ne (by have := q95; have := q65; have := q90; have := q97; have := q46; omega))
   ·
    have ih53 := t_ne h53
    exact absurd h54 (n_ne (by have := q95; have := q65; have := q90; have := q97; have := q46; omega))
   ·
    have ih56 := t_ne h56
    have ih57 := f_ne h57
    show W _ _ _ _ _ _ _ _ _ _ _ _ 56 _ [(vi 1)]
    refine W.ifY 84 d10_56 (y_ge (by decide)) (by decide) ?_
    exact W.mono (by decide) (by decide) (K2  )
   ·
    exact absurd h58 (Classical.not_not.mpr (y_ne (by have := q46; have := q65; have := q90; have := q97; omega)))
  ·
   have ih14 := f_lt h14
   have ih15 := f_le h15
   have ih16 := f_lt h16
   show W _ _ _ _ _ _ _ _ _ _ _ _ 45 _ [(vi 1)]
   refine W.ifY 84 d10_45 (y_ne (by decide)) (by decide) ?_
   exact W.mono (by decide) (by decide) (K2  )
theorem d20_7 : decode prog_8_method_3_code 7 = .ok (.areturn, 1) := by decide +kernel
abbrev y25 : MethodName := ⟨"com/example/cunctator/cunctator/JobKey", "checkId", "(Ljava/lang/String;)Ljava/lang/String;"⟩
abbrev y25b : ByteArray := prog_8_method_3_code
abbrev y25r : Option Jvm.ClassFile.FieldType := (Option.some (Jvm.ClassFile.FieldType.object "java/lang/String"))
theorem c30_checkId {Z a0} (hw : HW a0 Z) (hs : SF Z) {p1 p2 : Addr} {x1 : Int32} (hx1 : (45 ≤ x1.toInt ∧ x1.toInt ≤ 46) ∨ (48 ≤ x1.toInt ∧ x1.toInt ≤ 58) ∨ (65 ≤ x1.toInt ∧ x1.toInt ≤ 90) ∨ x1.toInt = 95 ∨ (97 ≤ x1.toInt ∧ x1.toInt ≤ 122)) {w_og4Z : Bool} {w_p1 : Bool} {w_p2 : Bool} {ad_p2 : String} {w_og5Z : Bool} {w_og6Z : Bool} {ad_og6Z : String} {F : List Ent} (mog4Z : ((og4 Z), w_og4Z, oJobKey_NameRule (vi 128) (vr (og5 Z))) ∈ F) (mp1 : (p1, w_p1, oString (vr p2) (vi 0)) ∈ F) (mp2 : (p2, w_p2, ar ad_p2 .byte [(vi x1)]) ∈ F) (mog5Z : ((og5 Z), w_og5Z, oString (vr (og6 Z)) (vi 0)) ∈ F) (mog6Z : ((og6 Z), w_og6Z, ar ad_og6Z .byte [(vi 46), (vi 95), (vi 58), (vi 45)]) ∈ F) : Con Z EL y25 y25b 1 y25r (rmm 5 0 0 74) [(vr p1)] (F) (fun v D' => (v = some (vr p1) ∧ F = D')) := by
  refine Con.of (ls := #[rv p1]) (by decide +kernel) rfl ?_
  refine W.gets d20_0 (wq hw 99 rfl) Via.refl hs.2.2.2.2.2.1 ?_
  refine W.aloadN d20_3 rfl rfl ?_
  refine W.callV (as := [(vr p1)]) 0 [] d20_4 (wq hw 47 rfl) (wq hw 48 rfl) (wq hw 50 rfl) (wq hw 50 rfl) (wq hw 49 rfl) (wq hw 51 rfl) (wq hw 52 rfl) (Hp.exa mog4Z) (c31_check hw hs (hx1 := hx1) (mp1 := mp1) (mp2 := mp2) (mog4Z := mog4Z) (mog5Z := mog5Z) (mog6Z := mog6Z)) (by decide) pd_Ljava_lang_String__Ljava_lang_String_ rfl rfl rfl rfl (by decide) (fun v D' h => ?_)
  obtain ⟨rfl, rfl⟩ := h
  show W _ _ _ _ _ _ _ _ _ _ _ _ 7 _ [(vr p1)]
  exact W.areturn d20_7 rfl rfl rfl (by decide) ⟨rfl, rfl⟩
theorem d8_17 : decode prog_8_method_1_code 17 = .ok (.putfield 20, 3) := by decide +kernel
theorem d8_20 : decode prog_8_method_1_code 20 = .ok (.return_, 1) := by decide +kernel
abbrev y26 : MethodName := ⟨"com/example/cunctator/cunctator/JobKey", "<init>", "(Ljava/lang/String;Ljava/lang/String;)V"⟩
abbrev y26b : ByteArray := prog_8_method_1_code
abbrev y26r : Option Jvm.ClassFile.FieldType := (Option.none : Option Jvm.ClassFile.FieldType)
theorem c10_init {Z a0} (hw : HW a0 Z) (hs : SF Z) {p1 p2 p3 p4 p5 : Addr} {x1 : Int32} (hx1 : (45 ≤ x1.toInt ∧ x1.toInt ≤ 46) ∨ (48 ≤ x1.toInt ∧ x1.toInt ≤ 57) ∨ (65 ≤ x1.toInt ∧ x1.toInt ≤ 90) ∨ x1.toInt = 95 ∨ (97 ≤ x1.toInt ∧ x1.toInt ≤ 122)) {x2 : Int32} (hx2 : (45 ≤ x2.toInt ∧ x2.toInt ≤ 46) ∨ (48 ≤ x2.toInt ∧ x2.toInt ≤ 58) ∨ (65 ≤ x2.toInt ∧ x2.toInt ≤ 90) ∨ x2.toInt = 95 ∨ (97 ≤ x2.toInt ∧ x2.toInt ≤ 122)) {w_og1Z : Bool} {w_p2 : Bool} {w_p4 : Bool} {ad_p4 : String} {w_og2Z : Bool} {w_og3Z : Bool} {ad_og3Z : String} {w_og4Z : Bool} {w_p3 : Bool} {w_p5 : Bool} {ad_p5 : String} {w_og5Z : Bool} {w_og6Z : Bool} {ad_og6Z : String} {F : List Ent} (mog1Z : ((og1 Z), w_og1Z, oJobKey_NameRule (vi 64) (vr (og2 Z))) ∈ F) (mp2 : (p2, w_p2, oString (vr p4) (vi 0)) ∈ F) (mp4 : (p4, w_p4, ar ad_p4 .byte [(vi x1)]) ∈ F) (mog2Z : ((og2 Z), w_og2Z, oString (vr (og3 Z)) (vi 0)) ∈ F) (mog3Z : ((og3 Z), w_og3Z, ar ad_og3Z .byte [(vi 46), (vi 95), (vi 45)]) ∈ F) (mog4Z : ((og4 Z), w_og4Z, oJobKey_NameRule (vi 128) (vr (og5 Z))) ∈ F) (mp3 : (p3, w_p3, oString (vr p5) (vi 0)) ∈ F) (mp5 : (p5, w_p5, ar ad_p5 .byte [(vi x2)]) ∈ F) (mog5Z : ((og5 Z), w_og5Z, oString (vr (og6 Z)) (vi 0)) ∈ F) (mog6Z : ((og6 Z), w_og6Z, ar ad_og6Z .byte [(vi 46), (vi 95), (vi 58), (vi 45)]) ∈ F) : Con Z EL y26 y26b 3 y26r (rmm 6 0 0 87) [(vr p1), (vr p2), (vr p3)] ((p1, true, oJobKey .null .null) :: F) (fun v D' => (v = none ∧ (p1, true, oJobKey (vr p2) (vr p3)) :: F = D')) := by
  refine Con.of (ls := #[rv p1, rv p2, rv p3]) (by decide +kernel) rfl ?_
  refine W.aloadN d8_0 rfl rfl ?_
  refine W.initO 0 d8_1 (wq hw 41 rfl) (wq hw 29 rfl) (wq hw 30 rfl) rfl rfl (by decide) ?_
  refine W.aloadN d8_4 rfl rfl ?_
  refine W.aloadN d8_5 rfl rfl ?_
  refine W.callS (as := [(vr p2)]) 1 [(vr p1)] d8_6 (wq hw 42 rfl) (wq hw 43 rfl) (wq hw 37 rfl) (wq hw 44 rfl) (c11_checkTopic hw hs (hx1 := hx1) (mog1Z := (mS mog1Z)) (mp1 := (mS mp2)) (mp2 := (mS mp4)) (mog2Z := (mS mog2Z)) (mog3Z := (mS mog3Z))) (by decide) pd_Ljava_lang_String__Ljava_lang_String_ rfl rfl rfl rfl (by decide) (fun v D' h => ?_)
  obtain ⟨rfl, rfl⟩ := h
  show W _ _ _ _ _ _ _ _ _ _ _ _ 9 _ [(vr p2), (vr p1)]
  refine W.putf (D' := (p1, true, oJobKey (vr p2) .null) :: F) 0 0 d8_9 (wq hw 94 rfl) Via.refl rfl rfl (Or.inr ⟨(wq hw 95 rfl), rfl, rfl⟩) (wq hw 36 rfl) pfLjava_lang_String_ rfl rfl rfl ?_
  refine W.aloadN d8_12 rfl rfl ?_
  refine W.aloadN d8_13 rfl rfl ?_
  refine W.callS (as := [(vr p3)]) 1 [(vr p1)] d8_14 (wq hw 96 rfl) (wq hw 97 rfl) (wq hw 37 rfl) (wq hw 98 rfl) (c30_checkId hw hs (hx1 := hx2) (mog4Z := (mS mog4Z)) (mp1 := (mS mp3)) (mp2 := (mS mp5)) (mog5Z := (mS mog5Z)) (mog6Z := (mS mog6Z))) (by decide) pd_Ljava_lang_String__Ljava_lang_String_ rfl rfl rfl rfl (by decide) (fun v D' h => ?_)
  obtain ⟨rfl, rfl⟩ := h
  show W _ _ _ _ _ _ _ _ _ _ _ _ 17 _ [(vr p3), (vr p1)]
  refine W.putf (D' := (p1, true, oJobKey (vr p2) (vr p3)) :: F) 0 1 d8_17 (wq hw 101 rfl) Via.refl rfl rfl (Or.inr ⟨(wq hw 102 rfl), rfl, rfl⟩) (wq hw 36 rfl) pfLjava_lang_String_ rfl rfl rfl ?_
  exact W.return_ d8_20 rfl (by decide) ⟨rfl, rfl⟩
theorem pd_Ljava_lang_String_Ljava_lang_String__V : parseMethodDescriptor "(Ljava/lang/String;Ljava/lang/String;)V" = some ⟨[(.object "java/lang/String"), (.object "java/lang/String")], none⟩ := by decide +kernel
theorem d21_0 : decode prog_8_method_8_code 0 = .ok (.new 45, 3) := by decide +kernel
theorem laStringBuilder {Z a0} (hw : HW a0 Z) : LaidAll Z a0 "java/lang/StringBuilder" [("java/lang/AbstractStringBuilder", "value", "[B", .null), ("java/lang/AbstractStringBuilder", "coder", "B", (vi 0)), ("java/lang/AbstractStringBuilder", "count", "I", (vi 0))] := ⟨⟨Or.inl (wq hw 123 rfl), (.array .byte), by decide, rfl⟩, ⟨⟨Or.inl (wq hw 125 rfl), .byte, by decide, rfl⟩, ⟨⟨Or.inl (wq hw 138 rfl), .int, by decide, rfl⟩, trivial⟩⟩⟩
theorem d21_3 : decode prog_8_method_8_code 3 = .ok (.dup, 1) := by decide +kernel
theorem d21_4 : decode prog_8_method_8_code 4 = .ok (.invokespecial 47, 3) := by decide +kernel
theorem d22_0 : decode jdk_67_method_1_code 0 = .ok (.aload_n 0, 1) := by decide +kernel
theorem d22_1 : decode jdk_67_method_1_code 1 = .ok (.bipush 16, 2) := by decide +kernel
theorem d22_3 : decode jdk_67_method_1_code 3 = .ok (.invokespecial 1, 3) := by decide +kernel
theorem d23_0 : decode jdk_68_method_2_code 0 = .ok (.aload_n 0, 1) := by decide +kernel
theorem d23_1 : decode jdk_68_method_2_code 1 = .ok (.invokespecial 3, 3) := by decide +kernel
theorem d23_4 : decode jdk_68_method_2_code 4 = .ok (.getstatic 18, 3) := by decide +kernel
theorem d23_7 : decode jdk_68_method_2_code 7 = .ok (.ifCond .eq 18, 3) := by decide +kernel
theorem d23_10 : decode jdk_68_method_2_code 10 = .ok (.aload_n 0, 1) := by decide +kernel
theorem d23_11 : decode jdk_68_method_2_code 11 = .ok (.iload_n 1, 1) := by decide +kernel
theorem d23_12 : decode jdk_68_method_2_code 12 = .ok (.newarray .byte, 2) := by decide +kernel
theorem ix16 : Idx (16 : Int32) 16 := by unfold Idx; decide
theorem d23_14 : decode jdk_68_method_2_code 14 = .ok (.putfield 15, 3) := by decide +kernel
abbrev oStringBuilder (f0 f1 f2 : Value) : Desc := .inl ("java/lang/StringBuilder", [("java/lang/AbstractStringBuilder", "value", "[B", f0), ("java/lang/AbstractStringBuilder", "coder", "B", f1), ("java/lang/AbstractStringBuilder", "count", "I", f2)])
theorem d23_17 : decode jdk_68_method_2_code 17 = .ok (.aload_n 0, 1) := by decide +kernel
theorem d23_18 : decode jdk_68_method_2_code 18 = .ok (.iconst 0, 1) := by decide +kernel
theorem d23_19 : decode jdk_68_method_2_code 19 = .ok (.putfield 22, 3) := by decide +kernel
theorem d23_22 : decode jdk_68_method_2_code 22 = .ok (.goto 16, 3) := by decide +kernel
theorem d23_38 : decode jdk_68_method_2_code 38 = .ok (.return_, 1) := by decide +kernel
abbrev y27 : MethodName := ⟨"java/lang/AbstractStringBuilder", "<init>", "(I)V"⟩
abbrev y27b : ByteArray := jdk_68_method_2_code
abbrev y27r : Option Jvm.ClassFile.FieldType := (Option.none : Option Jvm.ClassFile.FieldType)
theorem c44_init {Z a0} (hw : HW a0 Z) (hs : SF Z) {p1 : Addr} {f_p1_2 : Value} {F : List Ent} : Con Z EL y27 y27b 2 y27r (rmm 1 1 16 12) [(vr p1), (vi 16)] ((p1, true, oStringBuilder .null (vi 0) f_p1_2) :: F) (fun v D' => (∃ a1 : Addr, v = none ∧ (a1, true, ar "[B" .byte [(vi 0), (vi 0), (vi 0), (vi 0), (vi 0), (vi 0), (vi 0), (vi 0), (vi 0), (vi 0), (vi 0), (vi 0), (vi 0), (vi 0), (vi 0), (vi 0)]) :: (p1, true, oStringBuilder (vr a1) (vi 0) f_p1_2) :: F = D')) := by
  refine Con.of (ls := #[rv p1, iv 16]) (by decide +kernel) rfl ?_
  refine W.aloadN d23_0 rfl rfl ?_
  refine W.initO 0 d23_1 (wq hw 120 rfl) (wq hw 29 rfl) (wq hw 30 rfl) rfl rfl (by decide) ?_
  refine W.gets d23_4 (wq hw 121 rfl) Via.refl hs.1 ?_
  refine W.ifN d23_7 (n_eq (by have := hs.2.1; have := q0; omega)) ?_
  refine W.aloadN d23_10 rfl rfl ?_
  refine W.iloadN d23_11 rfl ?_
  refine W.newarr 16 (ad := "[B") (ty := .byte) d23_12 rfl (wq hw 23 rfl) ix16 rfl (by decide) (by decide) (fun a1 => ?_)
  show W _ _ _ _ _ _ _ _ _ _ _ _ 14 _ [(vr a1), (vr p1)]
  refine W.putf (D' := (a1, true, ar "[B" .byte [(vi 0), (vi 0), (vi 0), (vi 0), (vi 0), (vi 0), (vi 0), (vi 0), (vi 0), (vi 0), (vi 0), (vi 0), (vi 0), (vi 0), (vi 0), (vi 0)]) :: (p1, true, oStringBuilder (vr a1) (vi 0) f_p1_2) :: F) 1 0 d23_14 (wq hw 122 rfl) Via.refl rfl rfl (Or.inl (wq hw 123 rfl)) (wq hw 109 rfl) pf_B rfl rfl rfl ?_
  refine W.aloadN d23_17 rfl rfl ?_
  refine W.iconst (0) d23_18 (by decide) ?_
  refine W.putf (D' := (a1, true, ar "[B" .byte [(vi 0), (vi 0), (vi 0), (vi 0), (vi 0), (vi 0), (vi 0), (vi 0), (vi 0), (vi 0), (vi 0), (vi 0), (vi 0), (vi 0), (vi 0), (vi 0)]) :: (p1, true, oStringBuilder (vr a1) (vi 0) f_p1_2) :: F) 1 1 d23_19 (wq hw 124 rfl) Via.refl rfl rfl (Or.inl (wq hw 125 rfl)) (wq hw 109 rfl) pfB (nw_byte (by decide)) (ft_byte (by decide)) rfl ?_
  refine W.goto 38 d23_22 (by decide) ?_
  exact W.return_ d23_38 rfl (by decide) ⟨a1, rfl, rfl⟩
theorem pd_I_V : parseMethodDescriptor "(I)V" = some ⟨[.int], none⟩ := by decide +kernel
theorem d22_6 : decode jdk_67_method_1_code 6 = .ok (.return_, 1) := by decide +kernel
abbrev y28 : MethodName := ⟨"java/lang/StringBuilder", "<init>", "()V"⟩
abbrev y28b : ByteArray := jdk_67_method_1_code
abbrev y28r : Option Jvm.ClassFile.FieldType := (Option.none : Option Jvm.ClassFile.FieldType)
theorem c43_init {Z a0} (hw : HW a0 Z) (hs : SF Z) {p1 : Addr} {f_p1_2 : Value} {F : List Ent} : Con Z EL y28 y28b 1 y28r (rmm 2 1 16 25) [(vr p1)] ((p1, true, oStringBuilder .null (vi 0) f_p1_2) :: F) (fun v D' => (∃ a1 : Addr, v = none ∧ (a1, true, ar "[B" .byte [(vi 0), (vi 0), (vi 0), (vi 0), (vi 0), (vi 0), (vi 0), (vi 0), (vi 0), (vi 0), (vi 0), (vi 0), (vi 0), (vi 0), (vi 0), (vi 0)]) :: (p1, true, oStringBuilder (vr a1) (vi 0) f_p1_2) :: F = D')) := by
  refine Con.of (ls := #[rv p1]) (by decide +kernel) rfl ?_
  refine W.aloadN d22_0 rfl rfl ?_
  refine W.bipush (16) d22_1 (by decide) ?_
  refine W.callI (as := [(vi 16)]) 0 [] d22_3 rfl (wq hw 114 rfl) (wq hw 115 rfl) (wq hw 118 rfl) (wq hw 119 rfl) (c44_init hw hs) (by decide) pd_I_V rfl rfl rfl rfl (by decide) (fun v D' h => ?_)
  obtain ⟨a1, rfl, rfl⟩ := h
  show W _ _ _ _ _ _ _ _ _ _ _ _ 6 _ []
  exact W.return_ d22_6 rfl (by decide) ⟨a1, rfl, rfl⟩
theorem pd__V : parseMethodDescriptor "()V" = some ⟨[], none⟩ := by decide +kernel
theorem d21_7 : decode prog_8_method_8_code 7 = .ok (.aload_n 0, 1) := by decide +kernel
theorem d21_8 : decode prog_8_method_8_code 8 = .ok (.getfield 13, 3) := by decide +kernel
theorem d21_11 : decode prog_8_method_8_code 11 = .ok (.invokevirtual 48, 3) := by decide +kernel
theorem d24_0 : decode jdk_67_method_7_code 0 = .ok (.aload_n 0, 1) := by decide +kernel
theorem d24_1 : decode jdk_67_method_7_code 1 = .ok (.aload_n 1, 1) := by decide +kernel
theorem d24_2 : decode jdk_67_method_7_code 2 = .ok (.invokespecial 29, 3) := by decide +kernel
theorem d25_0 : decode jdk_68_method_22_code 0 = .ok (.aload_n 1, 1) := by decide +kernel
theorem d25_1 : decode jdk_68_method_22_code 1 = .ok (.ifnonnull 8, 3) := by decide +kernel
theorem d25_9 : decode jdk_68_method_22_code 9 = .ok (.aload_n 1, 1) := by decide +kernel
theorem d25_10 : decode jdk_68_method_22_code 10 = .ok (.invokevirtual 32, 3) := by decide +kernel
theorem d25_13 : decode jdk_68_method_22_code 13 = .ok (.istore_n 2, 1) := by decide +kernel
theorem d25_14 : decode jdk_68_method_22_code 14 = .ok (.aload_n 0, 1) := by decide +kernel
theorem d25_15 : decode jdk_68_method_22_code 15 = .ok (.aload_n 0, 1) := by decide +kernel
theorem d25_16 : decode jdk_68_method_22_code 16 = .ok (.getfield 79, 3) := by decide +kernel
theorem d25_19 : decode jdk_68_method_22_code 19 = .ok (.iload_n 2, 1) := by decide +kernel
theorem d25_20 : decode jdk_68_method_22_code 20 = .ok (.iadd, 1) := by decide +kernel
theorem d25_21 : decode jdk_68_method_22_code 21 = .ok (.invokevirtual 100, 3) := by decide +kernel
theorem d26_0 : decode jdk_68_method_9_code 0 = .ok (.aload_n 0, 1) := by decide +kernel
theorem d26_1 : decode jdk_68_method_9_code 1 = .ok (.getfield 15, 3) := by decide +kernel
theorem d26_4 : decode jdk_68_method_9_code 4 = .ok (.arraylength, 1) := by decide +kernel
theorem d26_5 : decode jdk_68_method_9_code 5 = .ok (.aload_n 0, 1) := by decide +kernel
theorem d26_6 : decode jdk_68_method_9_code 6 = .ok (.getfield 22, 3) := by decide +kernel
theorem d26_9 : decode jdk_68_method_9_code 9 = .ok (.ishr, 1) := by decide +kernel
theorem d26_10 : decode jdk_68_method_9_code 10 = .ok (.istore_n 2, 1) := by decide +kernel
theorem d26_11 : decode jdk_68_method_9_code 11 = .ok (.iload_n 1, 1) := by decide +kernel
theorem d26_12 : decode jdk_68_method_9_code 12 = .ok (.iload_n 2, 1) := by decide +kernel
theorem d26_13 : decode jdk_68_method_9_code 13 = .ok (.isub, 1) := by decide +kernel
theorem d26_14 : decode jdk_68_method_9_code 14 = .ok (.ifCond .le 24, 3) := by decide +kernel
theorem d26_38 : decode jdk_68_method_9_code 38 = .ok (.return_, 1) := by decide +kernel
abbrev y29 : MethodName := ⟨"java/lang/AbstractStringBuilder", "ensureCapacityInternal", "(I)V"⟩
abbrev y29b : ByteArray := jdk_68_method_9_code
abbrev y29r : Option Jvm.ClassFile.FieldType := (Option.none : Option Jvm.ClassFile.FieldType)
theorem c47_ensureCapacityInternal {Z a0} (hw : HW a0 Z) (hs : SF Z) {p1 p2 : Addr} {f_p1_2 : Value} {vs_p2 : List Value} (hvs_p2 : vs_p2.length = 16) {w_p1 : Bool} {w_p2 : Bool} {ad_p2 : String} {F : List Ent} (mp1 : (p1, w_p1, oStringBuilder (vr p2) (vi 0) f_p1_2) ∈ F) (mp2 : (p2, w_p2, ar ad_p2 .byte vs_p2) ∈ F) : Con Z EL y29 y29b 3 y29r (rmm 0 0 0 0) [(vr p1), (vi 1)] (F) (fun v D' => (v = none ∧ F = D')) := by
  refine Con.of (ls := #[rv p1, iv 1, uu]) (by decide +kernel) rfl ?_
  refine W.aloadN d26_0 rfl rfl ?_
  refine W.getf d26_1 (wq hw 122 rfl) Via.refl mp1 m0 ?_
  refine W.alen (16) d26_4 mp2 (by rw [hvs_p2]; rfl) ?_
  refine W.aloadN d26_5 rfl rfl ?_
  refine W.getf d26_6 (wq hw 124 rfl) Via.refl mp1 m1 ?_
  refine W.ishrK (16 : Int32) d26_9 (by decide) ?_
  refine W.istoreN (ls' := #[rv p1, iv 1, iv 16]) d26_10 rfl ?_
  refine W.iloadN d26_11 rfl ?_
  refine W.iloadN d26_12 rfl ?_
  refine W.isubK (-15 : Int32) d26_13 (by decide) ?_
  refine W.ifY 38 d26_14 (y_le (by decide)) (by decide) ?_
  exact W.return_ d26_38 rfl (by decide) ⟨rfl, rfl⟩
theorem d25_24 : decode jdk_68_method_22_code 24 = .ok (.aload_n 0, 1) := by decide +kernel
theorem d25_25 : decode jdk_68_method_22_code 25 = .ok (.aload_n 0, 1) := by decide +kernel
theorem d25_26 : decode jdk_68_method_22_code 26 = .ok (.getfield 79, 3) := by decide +kernel
theorem d25_29 : decode jdk_68_method_22_code 29 = .ok (.aload_n 1, 1) := by decide +kernel
theorem d25_30 : decode jdk_68_method_22_code 30 = .ok (.invokevirtual 208, 3) := by decide +kernel
theorem d27_0 : decode jdk_68_method_73_code 0 = .ok (.aload_n 0, 1) := by decide +kernel
theorem d27_1 : decode jdk_68_method_73_code 1 = .ok (.aload_n 2, 1) := by decide +kernel
theorem d27_2 : decode jdk_68_method_73_code 2 = .ok (.invokevirtual 397, 3) := by decide +kernel
theorem d28_0 : decode jdk_68_method_71_code 0 = .ok (.getstatic 18, 3) := by decide +kernel
theorem d28_3 : decode jdk_68_method_71_code 3 = .ok (.ifCond .eq 18, 3) := by decide +kernel
theorem d28_6 : decode jdk_68_method_71_code 6 = .ok (.aload_n 0, 1) := by decide +kernel
theorem d28_7 : decode jdk_68_method_71_code 7 = .ok (.getfield 22, 3) := by decide +kernel
theorem d28_10 : decode jdk_68_method_71_code 10 = .ok (.aload_n 1, 1) := by decide +kernel
theorem d28_11 : decode jdk_68_method_71_code 11 = .ok (.invokevirtual 40, 3) := by decide +kernel
theorem d28_14 : decode jdk_68_method_71_code 14 = .ok (.if_icmp .eq 7, 3) := by decide +kernel
theorem d28_21 : decode jdk_68_method_71_code 21 = .ok (.return_, 1) := by decide +kernel
abbrev y30 : MethodName := ⟨"java/lang/AbstractStringBuilder", "inflateIfNeededFor", "(Ljava/lang/String;)V"⟩
abbrev y30b : ByteArray := jdk_68_method_71_code
abbrev y30r : Option Jvm.ClassFile.FieldType := (Option.none : Option Jvm.ClassFile.FieldType)
theorem c49_inflateIfNeededFor {Z a0} (hw : HW a0 Z) (hs : SF Z) {p1 p2 : Addr} {f_p1_0 f_p1_2 f_p2_0 : Value} {w_p1 : Bool} {w_p2 : Bool} {F : List Ent} (mp1 : (p1, w_p1, oStringBuilder f_p1_0 (vi 0) f_p1_2) ∈ F) (mp2 : (p2, w_p2, oString f_p2_0 (vi 0)) ∈ F) : Con Z EL y30 y30b 2 y30r (rmm 1 0 0 13) [(vr p1), (vr p2)] (F) (fun v D' => (v = none ∧ F = D')) := by
  refine Con.of (ls := #[rv p1, rv p2]) (by decide +kernel) rfl ?_
  refine W.gets d28_0 (wq hw 121 rfl) Via.refl hs.1 ?_
  refine W.ifN d28_3 (n_eq (by have := hs.2.1; have := q0; omega)) ?_
  refine W.aloadN d28_6 rfl rfl ?_
  refine W.getf d28_7 (wq hw 124 rfl) Via.refl mp1 m1 ?_
  refine W.aloadN d28_10 rfl rfl ?_
  refine W.callV (as := []) 1 [(vi 0)] d28_11 (wq hw 154 rfl) (wq hw 64 rfl) (wq hw 66 rfl) (wq hw 66 rfl) (wq hw 65 rfl) (wq hw 11 rfl) (wq hw 67 rfl) (Hp.exa mp2) (c15_coder hw hs (mp1 := mp2)) (by decide) pd__B rfl rfl rfl rfl (by decide) (fun v D' h => ?_)
  obtain ⟨rfl, rfl⟩ := h
  show W _ _ _ _ _ _ _ _ _ _ _ _ 14 _ [(vi 0), (vi 0)]
  refine W.icmpY 21 d28_14 (y_eq (by decide)) (by decide) ?_
  exact W.return_ d28_21 rfl (by decide) ⟨rfl, rfl⟩
theorem pd_Ljava_lang_String__V : parseMethodDescriptor "(Ljava/lang/String;)V" = some ⟨[(.object "java/lang/String")], none⟩ := by decide +kernel
theorem d27_5 : decode jdk_68_method_73_code 5 = .ok (.aload_n 2, 1) := by decide +kernel
theorem d27_6 : decode jdk_68_method_73_code 6 = .ok (.aload_n 0, 1) := by decide +kernel
theorem d27_7 : decode jdk_68_method_73_code 7 = .ok (.getfield 15, 3) := by decide +kernel
theorem d27_10 : decode jdk_68_method_73_code 10 = .ok (.iload_n 1, 1) := by decide +kernel
theorem d27_11 : decode jdk_68_method_73_code 11 = .ok (.aload_n 0, 1) := by decide +kernel
theorem d27_12 : decode jdk_68_method_73_code 12 = .ok (.getfield 22, 3) := by decide +kernel
theorem d27_15 : decode jdk_68_method_73_code 15 = .ok (.invokevirtual 399, 3) := by decide +kernel
theorem d29_0 : decode jdk_42_method_147_code 0 = .ok (.aload_n 0, 1) := by decide +kernel
theorem d29_1 : decode jdk_42_method_147_code 1 = .ok (.invokevirtual 335, 3) := by decide +kernel
theorem d29_4 : decode jdk_42_method_147_code 4 = .ok (.iload_n 3, 1) := by decide +kernel
theorem d29_5 : decode jdk_42_method_147_code 5 = .ok (.if_icmp .ne 23, 3) := by decide +kernel
theorem d29_8 : decode jdk_42_method_147_code 8 = .ok (.aload_n 0, 1) := by decide +kernel
theorem d29_9 : decode jdk_42_method_147_code 9 = .ok (.getfield 9, 3) := by decide +kernel
theorem d29_12 : decode jdk_42_method_147_code 12 = .ok (.iconst 0, 1) := by decide +kernel
theorem d29_13 : decode jdk_42_method_147_code 13 = .ok (.aload_n 1, 1) := by decide +kernel
theorem d29_14 : decode jdk_42_method_147_code 14 = .ok (.iload_n 2, 1) := by decide +kernel
theorem d29_15 : decode jdk_42_method_147_code 15 = .ok (.iload_n 3, 1) := by decide +kernel
theorem d29_16 : decode jdk_42_method_147_code 16 = .ok (.ishl, 1) := by decide +kernel
theorem d29_17 : decode jdk_42_method_147_code 17 = .ok (.aload_n 0, 1) := by decide +kernel
theorem d29_18 : decode jdk_42_method_147_code 18 = .ok (.getfield 9, 3) := by decide +kernel
theorem d29_21 : decode jdk_42_method_147_code 21 = .ok (.arraylength, 1) := by decide +kernel
theorem d29_22 : decode jdk_42_method_147_code 22 = .ok (.invokestatic 212, 3) := by decide +kernel
theorem d29_25 : decode jdk_42_method_147_code 25 = .ok (.goto 18, 3) := by decide +kernel
theorem d29_43 : decode jdk_42_method_147_code 43 = .ok (.return_, 1) := by decide +kernel
abbrev y31 : MethodName := ⟨"java/lang/String", "getBytes", "([BIB)V"⟩
abbrev y31b : ByteArray := jdk_42_method_147_code
abbrev y31r : Option Jvm.ClassFile.FieldType := (Option.none : Option Jvm.ClassFile.FieldType)
theorem c50_getBytes {Z a0} (hw : HW a0 Z) (hs : SF Z) {p1 p2 p3 : Addr} {x1 : Int32} (hx1 : (45 ≤ x1.toInt ∧ x1.toInt ≤ 46) ∨ (48 ≤ x1.toInt ∧ x1.toInt ≤ 57) ∨ (65 ≤ x1.toInt ∧ x1.toInt ≤ 90) ∨ x1.toInt = 95 ∨ (97 ≤ x1.toInt ∧ x1.toInt ≤ 122)) {e_p2_1 e_p2_2 e_p2_3 e_p2_4 e_p2_5 e_p2_6 e_p2_7 e_p2_8 e_p2_9 e_p2_10 e_p2_11 e_p2_12 e_p2_13 e_p2_14 e_p2_15 : Value} {ad_p2 : String} {w_p1 : Bool} {w_p3 : Bool} {ad_p3 : String} {F : List Ent} (mp1 : (p1, w_p1, oString (vr p3) (vi 0)) ∈ F) (mp3 : (p3, w_p3, ar ad_p3 .byte [(vi x1)]) ∈ F) : Con Z EL y31 y31b 4 y31r (rmm 1 0 0 48) [(vr p1), (vr p2), (vi 0), (vi 0)] ((p2, true, ar ad_p2 .byte [(vi 0), e_p2_1, e_p2_2, e_p2_3, e_p2_4, e_p2_5, e_p2_6, e_p2_7, e_p2_8, e_p2_9, e_p2_10, e_p2_11, e_p2_12, e_p2_13, e_p2_14, e_p2_15]) :: F) (fun v D' => (v = none ∧ (p2, true, ar ad_p2 .byte [(vi x1), e_p2_1, e_p2_2, e_p2_3, e_p2_4, e_p2_5, e_p2_6, e_p2_7, e_p2_8, e_p2_9, e_p2_10, e_p2_11, e_p2_12, e_p2_13, e_p2_14, e_p2_15]) :: F = D')) := by
  refine Con.of (ls := #[rv p1, rv p2, iv 0, iv 0]) (by decide +kernel) rfl ?_
  refine W.aloadN d29_0 rfl rfl ?_
  refine W.callV (as := []) 0 [] d29_1 (wq hw 63 rfl) (wq hw 64 rfl) (wq hw 66 rfl) (wq hw 66 rfl) (wq hw 65 rfl) (wq hw 11 rfl) (wq hw 67 rfl) (Hp.exa (mS mp1)) (c15_coder hw hs (mp1 := (mS mp1))) (by decide) pd__B rfl rfl rfl rfl (by decide) (fun v D' h => ?_)
  obtain ⟨rfl, rfl⟩ := h
  show W _ _ _ _ _ _ _ _ _ _ _ _ 4 _ [(vi 0)]
  refine W.iloadN d29_4 rfl ?_
  refine W.icmpN d29_5 (n_ne (by decide)) ?_
  refine W.aloadN d29_8 rfl rfl ?_
  refine W.getf d29_9 (wq hw 31 rfl) Via.refl (mS mp1) m0 ?_
  refine W.iconst (0) d29_12 (by decide) ?_
  refine W.aloadN d29_13 rfl rfl ?_
  refine W.iloadN d29_14 rfl ?_
  refine W.iloadN d29_15 rfl ?_
  refine W.ishlK (0 : Int32) d29_16 (by decide) ?_
  refine W.aloadN d29_17 rfl rfl ?_
  refine W.getf d29_18 (wq hw 31 rfl) Via.refl (mS mp1) m0 ?_
  refine W.alen (1) d29_21 (mS mp3) rfl ?_
  refine W.cpy (D' := (p2, true, ar ad_p2 .byte [(vi x1), e_p2_1, e_p2_2, e_p2_3, e_p2_4, e_p2_5, e_p2_6, e_p2_7, e_p2_8, e_p2_9, e_p2_10, e_p2_11, e_p2_12, e_p2_13, e_p2_14, e_p2_15]) :: F) 0 0 0 1 0 d29_22 (wq hw 160 rfl) (wq hw 163 rfl) (wq hw 161 rfl) (wq hw 162 rfl) (mS mp3) rfl rfl ix0 ix0 ix1 ⟨Nat.le_of_ble_eq_true rfl, Nat.le_of_ble_eq_true rfl⟩ rfl rfl (by decide) rfl ?_
  refine W.goto 43 d29_25 (by decide) ?_
  exact W.return_ d29_43 rfl (by decide) ⟨rfl, rfl⟩
theorem pd__BIB_V : parseMethodDescriptor "([BIB)V" = some ⟨[(.array .byte), .int, .byte], none⟩ := by decide +kernel
theorem d27_18 : decode jdk_68_method_73_code 18 = .ok (.return_, 1) := by decide +kernel
abbrev y32 : MethodName := ⟨"java/lang/AbstractStringBuilder", "putStringAt", "(ILjava/lang/String;)V"⟩
abbrev y32b : ByteArray := jdk_68_method_73_code
abbrev y32r : Option Jvm.ClassFile.FieldType := (Option.none : Option Jvm.ClassFile.FieldType)
theorem c48_putStringAt {Z a0} (hw : HW a0 Z) (hs : SF Z) {p1 p2 p3 p4 : Addr} {x1 : Int32} (hx1 : (45 ≤ x1.toInt ∧ x1.toInt ≤ 46) ∨ (48 ≤ x1.toInt ∧ x1.toInt ≤ 57) ∨ (65 ≤ x1.toInt ∧ x1.toInt ≤ 90) ∨ x1.toInt = 95 ∨ (97 ≤ x1.toInt ∧ x1.toInt ≤ 122)) {e_p3_1 e_p3_2 e_p3_3 e_p3_4 e_p3_5 e_p3_6 e_p3_7 e_p3_8 e_p3_9 e_p3_10 e_p3_11 e_p3_12 e_p3_13 e_p3_14 e_p3_15 f_p1_2 : Value} {ad_p3 : String} {w_p1 : Bool} {w_p2 : Bool} {w_p4 : Bool} {ad_p4 : String} {F : List Ent} (mp1 : (p1, w_p1, oStringBuilder (vr p3) (vi 0) f_p1_2) ∈ F) (mp2 : (p2, w_p2, oString (vr p4) (vi 0)) ∈ F) (mp4 : (p4, w_p4, ar ad_p4 .byte [(vi x1)]) ∈ F) : Con Z EL y32 y32b 3 y32r (rmm 2 0 0 63) [(vr p1), (vi 0), (vr p2)] ((p3, true, ar ad_p3 .byte [(vi 0), e_p3_1, e_p3_2, e_p3_3, e_p3_4, e_p3_5, e_p3_6, e_p3_7, e_p3_8, e_p3_9, e_p3_10, e_p3_11, e_p3_12, e_p3_13, e_p3_14, e_p3_15]) :: F) (fun v D' => (v = none ∧ (p3, true, ar ad_p3 .byte [(vi x1), e_p3_1, e_p3_2, e_p3_3, e_p3_4, e_p3_5, e_p3_6, e_p3_7, e_p3_8, e_p3_9, e_p3_10, e_p3_11, e_p3_12, e_p3_13, e_p3_14, e_p3_15]) :: F = D')) := by
  refine Con.of (ls := #[rv p1, iv 0, rv p2]) (by decide +kernel) rfl ?_
  refine W.aloadN d27_0 rfl rfl ?_
  refine W.aloadN d27_1 rfl rfl ?_
  refine W.callP (as := [(vr p2)]) 0 [] d27_2 (wq hw 149 rfl) (wq hw 150 rfl) (wq hw 152 rfl) (wq hw 151 rfl) (wq hw 118 rfl) (wq hw 153 rfl) (Hp.exa (mS mp1)) (c49_inflateIfNeededFor hw hs (mp1 := (mS mp1)) (mp2 := (mS mp2))) (by decide) pd_Ljava_lang_String__V rfl rfl rfl rfl (by decide) (fun v D' h => ?_)
  obtain ⟨rfl, rfl⟩ := h
  show W _ _ _ _ _ _ _ _ _ _ _ _ 5 _ []
  refine W.aloadN d27_5 rfl rfl ?_
  refine W.aloadN d27_6 rfl rfl ?_
  refine W.getf d27_7 (wq hw 122 rfl) Via.refl (mS mp1) m0 ?_
  refine W.iloadN d27_10 rfl ?_
  refine W.aloadN d27_11 rfl rfl ?_
  refine W.getf d27_12 (wq hw 124 rfl) Via.refl (mS mp1) m1 ?_
  refine W.callV (as := [(vr p3), (vi 0), (vi 0)]) 0 [] d27_15 (wq hw 155 rfl) (wq hw 156 rfl) (wq hw 158 rfl) (wq hw 158 rfl) (wq hw 157 rfl) (wq hw 11 rfl) (wq hw 159 rfl) (Hp.exa (mS mp2)) (c50_getBytes hw hs (hx1 := hx1) (mp1 := mp2) (mp3 := mp4)) (by decide) pd__BIB_V rfl rfl rfl rfl (by decide) (fun v D' h => ?_)
  obtain ⟨rfl, rfl⟩ := h
  show W _ _ _ _ _ _ _ _ _ _ _ _ 18 _ []
  exact W.return_ d27_18 rfl (by decide) ⟨rfl, rfl⟩
theorem pd_ILjava_lang_String__V : parseMethodDescriptor "(ILjava/lang/String;)V" = some ⟨[.int, (.object "java/lang/String")], none⟩ := by decide +kernel
theorem d25_33 : decode jdk_68_method_22_code 33 = .ok (.aload_n 0, 1) := by decide +kernel
theorem d25_34 : decode jdk_68_method_22_code 34 = .ok (.dup, 1) := by decide +kernel
theorem d25_35 : decode jdk_68_method_22_code 35 = .ok (.getfield 79, 3) := by decide +kernel
theorem d25_38 : decode jdk_68_method_22_code 38 = .ok (.iload_n 2, 1) := by decide +kernel
theorem d25_39 : decode jdk_68_method_22_code 39 = .ok (.iadd, 1) := by decide +kernel
theorem d25_40 : decode jdk_68_method_22_code 40 = .ok (.putfield 79, 3) := by decide +kernel
theorem pfI : parseFieldDescriptor "I" = some .int := by decide
theorem d25_43 : decode jdk_68_method_22_code 43 = .ok (.aload_n 0, 1) := by decide +kernel
theorem d25_44 : decode jdk_68_method_22_code 44 = .ok (.areturn, 1) := by decide +kernel
abbrev y33 : MethodName := ⟨"java/lang/AbstractStringBuilder", "append", "(Ljava/lang/String;)Ljava/lang/AbstractStringBuilder;"⟩
abbrev y33b : ByteArray := jdk_68_method_22_code
abbrev y33r : Option Jvm.ClassFile.FieldType := (Option.some (Jvm.ClassFile.FieldType.object "java/lang/AbstractStringBuilder"))
theorem c46_append {Z a0} (hw : HW a0 Z) (hs : SF Z) {p1 p2 p3 p4 : Addr} {x1 : Int32} (hx1 : (45 ≤ x1.toInt ∧ x1.toInt ≤ 46) ∨ (48 ≤ x1.toInt ∧ x1.toInt ≤ 57) ∨ (65 ≤ x1.toInt ∧ x1.toInt ≤ 90) ∨ x1.toInt = 95 ∨ (97 ≤ x1.toInt ∧ x1.toInt ≤ 122)) {e_p3_1 e_p3_2 e_p3_3 e_p3_4 e_p3_5 e_p3_6 e_p3_7 e_p3_8 e_p3_9 e_p3_10 e_p3_11 e_p3_12 e_p3_13 e_p3_14 e_p3_15 : Value} {ad_p3 : String} {w_p2 : Bool} {w_p4 : Bool} {ad_p4 : String} {F : List Ent} (mp2 : (p2, w_p2, oString (vr p4) (vi 0)) ∈ F) (mp4 : (p4, w_p4, ar ad_p4 .byte [(vi x1)]) ∈ F) : Con Z EL y33 y33b 3 y33r (rmm 3 0 0 77) [(vr p1), (vr p2)] ((p3, true, ar ad_p3 .byte [(vi 0), e_p3_1, e_p3_2, e_p3_3, e_p3_4, e_p3_5, e_p3_6, e_p3_7, e_p3_8, e_p3_9, e_p3_10, e_p3_11, e_p3_12, e_p3_13, e_p3_14, e_p3_15]) :: (p1, true, oStringBuilder (vr p3) (vi 0) (vi 0)) :: F) (fun v D' => (v = some (vr p1) ∧ (p3, true, ar ad_p3 .byte [(vi x1), e_p3_1, e_p3_2, e_p3_3, e_p3_4, e_p3_5, e_p3_6, e_p3_7, e_p3_8, e_p3_9, e_p3_10, e_p3_11, e_p3_12, e_p3_13, e_p3_14, e_p3_15]) :: (p1, true, oStringBuilder (vr p3) (vi 0) (vi 1)) :: F = D')) := by
  refine Con.of (ls := #[rv p1, rv p2, uu]) (by decide +kernel) rfl ?_
  refine W.aloadN d25_0 rfl rfl ?_
  refine W.ifnonnullY 9 d25_1 (by decide) ?_
  refine W.aloadN d25_9 rfl rfl ?_
  refine W.callV (as := []) 0 [] d25_10 (wq hw 136 rfl) (wq hw 59 rfl) (wq hw 61 rfl) (wq hw 61 rfl) (wq hw 60 rfl) (wq hw 11 rfl) (wq hw 62 rfl) (Hp.exa (mS (mS mp2))) (c14_length hw hs (hvs_p2 := rfl) (mp1 := (mS (mS mp2))) (mp2 := (mS (mS mp4)))) (by decide) pd__I rfl rfl rfl rfl (by decide) (fun v D' h => ?_)
  obtain ⟨rfl, rfl⟩ := h
  show W _ _ _ _ _ _ _ _ _ _ _ _ 13 _ [(vi 1)]
  refine W.istoreN (ls' := #[rv p1, rv p2, iv 1]) d25_13 rfl ?_
  refine W.aloadN d25_14 rfl rfl ?_
  refine W.aloadN d25_15 rfl rfl ?_
  refine W.getf d25_16 (wq hw 137 rfl) Via.refl m1 m2 ?_
  refine W.iloadN d25_19 rfl ?_
  refine W.iaddK (1 : Int32) d25_20 (by decide) ?_
  refine W.callP (as := [(vi 1)]) 0 [] d25_21 (wq hw 139 rfl) (wq hw 140 rfl) (wq hw 142 rfl) (wq hw 141 rfl) (wq hw 118 rfl) (wq hw 143 rfl) (Hp.exa m1) (c47_ensureCapacityInternal hw hs (hvs_p2 := rfl) (mp1 := m1) (mp2 := m0)) (by decide) pd_I_V rfl rfl rfl rfl (by decide) (fun v D' h => ?_)
  obtain ⟨rfl, rfl⟩ := h
  show W _ _ _ _ _ _ _ _ _ _ _ _ 24 _ []
  refine W.aloadN d25_24 rfl rfl ?_
  refine W.aloadN d25_25 rfl rfl ?_
  refine W.getf d25_26 (wq hw 137 rfl) Via.refl m1 m2 ?_
  refine W.aloadN d25_29 rfl rfl ?_
  refine W.callP (as := [(vi 0), (vr p2)]) 0 [] d25_30 (wq hw 144 rfl) (wq hw 145 rfl) (wq hw 147 rfl) (wq hw 146 rfl) (wq hw 118 rfl) (wq hw 148 rfl) (Hp.exa m1) (c48_putStringAt hw hs (hx1 := hx1) (mp1 := m0) (mp2 := (mS mp2)) (mp4 := (mS mp4))) (by decide) pd_ILjava_lang_String__V rfl rfl rfl rfl (by decide) (fun v D' h => ?_)
  obtain ⟨rfl, rfl⟩ := h
  show W _ _ _ _ _ _ _ _ _ _ _ _ 33 _ []
  refine W.aloadN d25_33 rfl rfl ?_
  refine W.dup d25_34 rfl ?_
  refine W.getf d25_35 (wq hw 137 rfl) Via.refl m1 m2 ?_
  refine W.iloadN d25_38 rfl ?_
  refine W.iaddK (1 : Int32) d25_39 (by decide) ?_
  refine W.putf (D' := (p3, true, ar ad_p3 .byte [(vi x1), e_p3_1, e_p3_2, e_p3_3, e_p3_4, e_p3_5, e_p3_6, e_p3_7, e_p3_8, e_p3_9, e_p3_10, e_p3_11, e_p3_12, e_p3_13, e_p3_14, e_p3_15]) :: (p1, true, oStringBuilder (vr p3) (vi 0) (vi 1)) :: F) 1 2 d25_40 (wq hw 137 rfl) Via.refl rfl rfl (Or.inl (wq hw 138 rfl)) (wq hw 109 rfl) pfI rfl rfl rfl ?_
  refine W.aloadN d25_43 rfl rfl ?_
  exact W.areturn d25_44 rfl rfl rfl (by decide) ⟨rfl, rfl⟩
theorem pd_Ljava_lang_String__Ljava_lang_AbstractStringBuilder_ : parseMethodDescriptor "(Ljava/lang/String;)Ljava/lang/AbstractStringBuilder;" = some ⟨[(.object "java/lang/String")], some (.object "java/lang/AbstractStringBuilder")⟩ := by decide +kernel
theorem d24_5 : decode jdk_67_method_7_code 5 = .ok (.pop, 1) := by decide +kernel
theorem d24_6 : decode jdk_67_method_7_code 6 = .ok (.aload_n 0, 1) := by decide +kernel
theorem d24_7 : decode jdk_67_method_7_code 7 = .ok (.areturn, 1) := by decide +kernel
abbrev y34 : MethodName := ⟨"java/lang/StringBuilder", "append", "(Ljava/lang/String;)Ljava/lang/StringBuilder;"⟩
abbrev y34b : ByteArray := jdk_67_method_7_code
abbrev y34r : Option Jvm.ClassFile.FieldType := (Option.some (Jvm.ClassFile.FieldType.object "java/lang/StringBuilder"))
theorem c45_append {Z a0} (hw : HW a0 Z) (hs : SF Z) {p1 p2 p3 p4 : Addr} {x1 : Int32} (hx1 : (45 ≤ x1.toInt ∧ x1.toInt ≤ 46) ∨ (48 ≤ x1.toInt ∧ x1.toInt ≤ 57) ∨ (65 ≤ x1.toInt ∧ x1.toInt ≤ 90) ∨ x1.toInt = 95 ∨ (97 ≤ x1.toInt ∧ x1.toInt ≤ 122)) {e_p3_1 e_p3_2 e_p3_3 e_p3_4 e_p3_5 e_p3_6 e_p3_7 e_p3_8 e_p3_9 e_p3_10 e_p3_11 e_p3_12 e_p3_13 e_p3_14 e_p3_15 : Value} {ad_p3 : String} {w_p2 : Bool} {w_p4 : Bool} {ad_p4 : String} {F : List Ent} (mp2 : (p2, w_p2, oString (vr p4) (vi 0)) ∈ F) (mp4 : (p4, w_p4, ar ad_p4 .byte [(vi x1)]) ∈ F) : Con Z EL y34 y34b 2 y34r (rmm 4 0 0 91) [(vr p1), (vr p2)] ((p3, true, ar ad_p3 .byte [(vi 0), e_p3_1, e_p3_2, e_p3_3, e_p3_4, e_p3_5, e_p3_6, e_p3_7, e_p3_8, e_p3_9, e_p3_10, e_p3_11, e_p3_12, e_p3_13, e_p3_14, e_p3_15]) :: (p1, true, oStringBuilder (vr p3) (vi 0) (vi 0)) :: F) (fun v D' => (v = some (vr p1) ∧ (p3, true, ar ad_p3 .byte [(vi x1), e_p3_1, e_p3_2, e_p3_3, e_p3_4, e_p3_5, e_p3_6, e_p3_7, e_p3_8, e_p3_9, e_p3_10, e_p3_11, e_p3_12, e_p3_13, e_p3_14, e_p3_15]) :: (p1, true, oStringBuilder (vr p3) (vi 0) (vi 1)) :: F = D')) := by
  refine Con.of (ls := #[rv p1, rv p2]) (by decide +kernel) rfl ?_
  refine W.aloadN d24_0 rfl rfl ?_
  refine W.aloadN d24_1 rfl rfl ?_
  refine W.callUp (as := [(vr p2)]) 0 [] d24_2 (wq hw 131 rfl) (same_self (by rfl) (by decide) (wq hw 132 rfl) (wq hw 140 rfl) (wq hw 142 rfl)) (wq hw 132 rfl) (wq hw 133 rfl) (by decide) (wq hw 118 rfl) (wq hw 135 rfl) (Hp.ins m1) (c46_append hw hs (hx1 := hx1) (mp2 := mp2) (mp4 := mp4)) pd_Ljava_lang_String__Ljava_lang_AbstractStringBuilder_ rfl rfl rfl rfl (by decide) (fun v D' h => ?_)
  obtain ⟨rfl, rfl⟩ := h
  show W _ _ _ _ _ _ _ _ _ _ _ _ 5 _ [(vr p1)]
  refine W.popv d24_5 rfl ?_
  refine W.aloadN d24_6 rfl rfl ?_
  exact W.areturn d24_7 rfl rfl rfl (by decide) ⟨rfl, rfl⟩
theorem pd_Ljava_lang_String__Ljava_lang_StringBuilder_ : parseMethodDescriptor "(Ljava/lang/String;)Ljava/lang/StringBuilder;" = some ⟨[(.object "java/lang/String")], some (.object "java/lang/StringBuilder")⟩ := by decide +kernel
theorem d21_14 : decode prog_8_method_8_code 14 = .ok (.ldc 52, 2) := by decide +kernel
theorem tx_2f : (∀ c ∈ ("/" : String).toList, c.toNat < 256) ∧ ("/" : String).toList.map (fun c => Value.int (Jvm.Lit.byteI c.toNat.toUInt16)) = [(.int (47 : Int32))] := by decide
theorem wS {Z a0} (hw : HW a0 Z) : ∀ a ∈ Bundle.stringAtoms, a.before a0 Z = true := wS_of (wq hw 11 rfl) (wq hw 19 rfl) (wq hw 23 rfl) (wq hw 32 rfl) (wq hw 34 rfl) (wq hw 165 rfl) (wq hw 166 rfl)
theorem d21_16 : decode prog_8_method_8_code 16 = .ok (.invokevirtual 48, 3) := by decide +kernel
theorem c53_ensureCapacityInternal {Z a0} (hw : HW a0 Z) (hs : SF Z) {p1 p2 : Addr} {f_p1_2 : Value} {vs_p2 : List Value} (hvs_p2 : vs_p2.length = 16) {w_p1 : Bool} {w_p2 : Bool} {ad_p2 : String} {F : List Ent} (mp1 : (p1, w_p1, oStringBuilder (vr p2) (vi 0) f_p1_2) ∈ F) (mp2 : (p2, w_p2, ar ad_p2 .byte vs_p2) ∈ F) : Con Z EL y29 y29b 3 y29r (rmm 0 0 0 0) [(vr p1), (vi 2)] (F) (fun v D' => (v = none ∧ F = D')) := by
  refine Con.of (ls := #[rv p1, iv 2, uu]) (by decide +kernel) rfl ?_
  refine W.aloadN d26_0 rfl rfl ?_
  refine W.getf d26_1 (wq hw 122 rfl) Via.refl mp1 m0 ?_
  refine W.alen (16) d26_4 mp2 (by rw [hvs_p2]; rfl) ?_
  refine W.aloadN d26_5 rfl rfl ?_
  refine W.getf d26_6 (wq hw 124 rfl) Via.refl mp1 m1 ?_
  refine W.ishrK (16 : Int32) d26_9 (by decide) ?_
  refine W.istoreN (ls' := #[rv p1, iv 2, iv 16]) d26_10 rfl ?_
  refine W.iloadN d26_11 rfl ?_
  refine W.iloadN d26_12 rfl ?_
  refine W.isubK (-14 : Int32) d26_13 (by decide) ?_
  refine W.ifY 38 d26_14 (y_le (by decide)) (by decide) ?_
  exact W.return_ d26_38 rfl (by decide) ⟨rfl, rfl⟩
theorem c55_getBytes {Z a0} (hw : HW a0 Z) (hs : SF Z) {p1 p2 p3 : Addr} {x1 : Int32} (hx1 : (45 ≤ x1.toInt ∧ x1.toInt ≤ 46) ∨ (48 ≤ x1.toInt ∧ x1.toInt ≤ 57) ∨ (65 ≤ x1.toInt ∧ x1.toInt ≤ 90) ∨ x1.toInt = 95 ∨ (97 ≤ x1.toInt ∧ x1.toInt ≤ 122)) {e_p2_2 e_p2_3 e_p2_4 e_p2_5 e_p2_6 e_p2_7 e_p2_8 e_p2_9 e_p2_10 e_p2_11 e_p2_12 e_p2_13 e_p2_14 e_p2_15 : Value} {ad_p2 : String} {w_p1 : Bool} {w_p3 : Bool} {ad_p3 : String} {F : List Ent} (mp1 : (p1, w_p1, oString (vr p3) (vi 0)) ∈ F) (mp3 : (p3, w_p3, ar ad_p3 .byte [(vi 47)]) ∈ F) : Con Z EL y31 y31b 4 y31r (rmm 1 0 0 48) [(vr p1), (vr p2), (vi 1), (vi 0)] ((p2, true, ar ad_p2 .byte [(vi x1), (vi 0), e_p2_2, e_p2_3, e_p2_4, e_p2_5, e_p2_6, e_p2_7, e_p2_8, e_p2_9, e_p2_10, e_p2_11, e_p2_12, e_p2_13, e_p2_14, e_p2_15]) :: F) (fun v D' => (v = none ∧ (p2, true, ar ad_p2 .byte [(vi x1), (vi 47), e_p2_2, e_p2_3, e_p2_4, e_p2_5, e_p2_6, e_p2_7, e_p2_8, e_p2_9, e_p2_10, e_p2_11, e_p2_12, e_p2_13, e_p2_14, e_p2_15]) :: F = D')) := by
  refine Con.of (ls := #[rv p1, rv p2, iv 1, iv 0]) (by decide +kernel) rfl ?_
  refine W.aloadN d29_0 rfl rfl ?_
  refine W.callV (as := []) 0 [] d29_1 (wq hw 63 rfl) (wq hw 64 rfl) (wq hw 66 rfl) (wq hw 66 rfl) (wq hw 65 rfl) (wq hw 11 rfl) (wq hw 67 rfl) (Hp.exa (mS mp1)) (c15_coder hw hs (mp1 := (mS mp1))) (by decide) pd__B rfl rfl rfl rfl (by decide) (fun v D' h => ?_)
  obtain ⟨rfl, rfl⟩ := h
  show W _ _ _ _ _ _ _ _ _ _ _ _ 4 _ [(vi 0)]
  refine W.iloadN d29_4 rfl ?_
  refine W.icmpN d29_5 (n_ne (by decide)) ?_
  refine W.aloadN d29_8 rfl rfl ?_
  refine W.getf d29_9 (wq hw 31 rfl) Via.refl (mS mp1) m0 ?_
  refine W.iconst (0) d29_12 (by decide) ?_
  refine W.aloadN d29_13 rfl rfl ?_
  refine W.iloadN d29_14 rfl ?_
  refine W.iloadN d29_15 rfl ?_
  refine W.ishlK (1 : Int32) d29_16 (by decide) ?_
  refine W.aloadN d29_17 rfl rfl ?_
  refine W.getf d29_18 (wq hw 31 rfl) Via.refl (mS mp1) m0 ?_
  refine W.alen (1) d29_21 (mS mp3) rfl ?_
  refine W.cpy (D' := (p2, true, ar ad_p2 .byte [(vi x1), (vi 47), e_p2_2, e_p2_3, e_p2_4, e_p2_5, e_p2_6, e_p2_7, e_p2_8, e_p2_9, e_p2_10, e_p2_11, e_p2_12, e_p2_13, e_p2_14, e_p2_15]) :: F) 0 0 1 1 0 d29_22 (wq hw 160 rfl) (wq hw 163 rfl) (wq hw 161 rfl) (wq hw 162 rfl) (mS mp3) rfl rfl ix0 ix1 ix1 ⟨Nat.le_of_ble_eq_true rfl, Nat.le_of_ble_eq_true rfl⟩ rfl rfl (by decide) rfl ?_
  refine W.goto 43 d29_25 (by decide) ?_
  exact W.return_ d29_43 rfl (by decide) ⟨rfl, rfl⟩
theorem c54_putStringAt {Z a0} (hw : HW a0 Z) (hs : SF Z) {p1 p2 p3 p4 : Addr} {x1 : Int32} (hx1 : (45 ≤ x1.toInt ∧ x1.toInt ≤ 46) ∨ (48 ≤ x1.toInt ∧ x1.toInt ≤ 57) ∨ (65 ≤ x1.toInt ∧ x1.toInt ≤ 90) ∨ x1.toInt = 95 ∨ (97 ≤ x1.toInt ∧ x1.toInt ≤ 122)) {e_p3_2 e_p3_3 e_p3_4 e_p3_5 e_p3_6 e_p3_7 e_p3_8 e_p3_9 e_p3_10 e_p3_11 e_p3_12 e_p3_13 e_p3_14 e_p3_15 f_p1_2 : Value} {ad_p3 : String} {w_p1 : Bool} {w_p2 : Bool} {w_p4 : Bool} {ad_p4 : String} {F : List Ent} (mp1 : (p1, w_p1, oStringBuilder (vr p3) (vi 0) f_p1_2) ∈ F) (mp2 : (p2, w_p2, oString (vr p4) (vi 0)) ∈ F) (mp4 : (p4, w_p4, ar ad_p4 .byte [(vi 47)]) ∈ F) : Con Z EL y32 y32b 3 y32r (rmm 2 0 0 63) [(vr p1), (vi 1), (vr p2)] ((p3, true, ar ad_p3 .byte [(vi x1), (vi 0), e_p3_2, e_p3_3, e_p3_4, e_p3_5, e_p3_6, e_p3_7, e_p3_8, e_p3_9, e_p3_10, e_p3_11, e_p3_12, e_p3_13, e_p3_14, e_p3_15]) :: F) (fun v D' => (v = none ∧ (p3, true, ar ad_p3 .byte [(vi x1), (vi 47), e_p3_2, e_p3_3, e_p3_4, e_p3_5, e_p3_6, e_p3_7, e_p3_8, e_p3_9, e_p3_10, e_p3_11, e_p3_12, e_p3_13, e_p3_14, e_p3_15]) :: F = D')) := by
  refine Con.of (ls := #[rv p1, iv 1, rv p2]) (by decide +kernel) rfl ?_
  refine W.aloadN d27_0 rfl rfl ?_
  refine W.aloadN d27_1 rfl rfl ?_
  refine W.callP (as := [(vr p2)]) 0 [] d27_2 (wq hw 149 rfl) (wq hw 150 rfl) (wq hw 152 rfl) (wq hw 151 rfl) (wq hw 118 rfl) (wq hw 153 rfl) (Hp.exa (mS mp1)) (c49_inflateIfNeededFor hw hs (mp1 := (mS mp1)) (mp2 := (mS mp2))) (by decide) pd_Ljava_lang_String__V rfl rfl rfl rfl (by decide) (fun v D' h => ?_)
  obtain ⟨rfl, rfl⟩ := h
  show W _ _ _ _ _ _ _ _ _ _ _ _ 5 _ []
  refine W.aloadN d27_5 rfl rfl ?_
  refine W.aloadN d27_6 rfl rfl ?_
  refine W.getf d27_7 (wq hw 122 rfl) Via.refl (mS mp1) m0 ?_
  refine W.iloadN d27_10 rfl ?_
  refine W.aloadN d27_11 rfl rfl ?_
  refine W.getf d27_12 (wq hw 124 rfl) Via.refl (mS mp1) m1 ?_
  refine W.callV (as := [(vr p3), (vi 1), (vi 0)]) 0 [] d27_15 (wq hw 155 rfl) (wq hw 156 rfl) (wq hw 158 rfl) (wq hw 158 rfl) (wq hw 157 rfl) (wq hw 11 rfl) (wq hw 159 rfl) (Hp.exa (mS mp2)) (c55_getBytes hw hs (hx1 := hx1) (mp1 := mp2) (mp3 := mp4)) (by decide) pd__BIB_V rfl rfl rfl rfl (by decide) (fun v D' h => ?_)
  obtain ⟨rfl, rfl⟩ := h
  show W _ _ _ _ _ _ _ _ _ _ _ _ 18 _ []
  exact W.return_ d27_18 rfl (by decide) ⟨rfl, rfl⟩
theorem c52_append {Z a0} (hw : HW a0 Z) (hs : SF Z) {p1 p2 p3 p4 : Addr} {x1 : Int32} (hx1 : (45 ≤ x1.toInt ∧ x1.toInt ≤ 46) ∨ (48 ≤ x1.toInt ∧ x1.toInt ≤ 57) ∨ (65 ≤ x1.toInt ∧ x1.toInt ≤ 90) ∨ x1.toInt = 95 ∨ (97 ≤ x1.toInt ∧ x1.toInt ≤ 122)) {e_p3_2 e_p3_3 e_p3_4 e_p3_5 e_p3_6 e_p3_7 e_p3_8 e_p3_9 e_p3_10 e_p3_11 e_p3_12 e_p3_13 e_p3_14 e_p3_15 : Value} {ad_p3 : String} {w_p2 : Bool} {w_p4 : Bool} {ad_p4 : String} {F : List Ent} (mp2 : (p2, w_p2, oString (vr p4) (vi 0)) ∈ F) (mp4 : (p4, w_p4, ar ad_p4 .byte [(vi 47)]) ∈ F) : Con Z EL y33 y33b 3 y33r (rmm 3 0 0 77) [(vr p1), (vr p2)] ((p3, true, ar ad_p3 .byte [(vi x1), (vi 0), e_p3_2, e_p3_3, e_p3_4, e_p3_5, e_p3_6, e_p3_7, e_p3_8, e_p3_9, e_p3_10, e_p3_11, e_p3_12, e_p3_13, e_p3_14, e_p3_15]) :: (p1, true, oStringBuilder (vr p3) (vi 0) (vi 1)) :: F) (fun v D' => (v = some (vr p1) ∧ (p3, true, ar ad_p3 .byte [(vi x1), (vi 47), e_p3_2, e_p3_3, e_p3_4, e_p3_5, e_p3_6, e_p3_7, e_p3_8, e_p3_9, e_p3_10, e_p3_11, e_p3_12, e_p3_13, e_p3_14, e_p3_15]) :: (p1, true, oStringBuilder (vr p3) (vi 0) (vi 2)) :: F = D')) := by
  refine Con.of (ls := #[rv p1, rv p2, uu]) (by decide +kernel) rfl ?_
  refine W.aloadN d25_0 rfl rfl ?_
  refine W.ifnonnullY 9 d25_1 (by decide) ?_
  refine W.aloadN d25_9 rfl rfl ?_
  refine W.callV (as := []) 0 [] d25_10 (wq hw 136 rfl) (wq hw 59 rfl) (wq hw 61 rfl) (wq hw 61 rfl) (wq hw 60 rfl) (wq hw 11 rfl) (wq hw 62 rfl) (Hp.exa (mS (mS mp2))) (c14_length hw hs (hvs_p2 := rfl) (mp1 := (mS (mS mp2))) (mp2 := (mS (mS mp4)))) (by decide) pd__I rfl rfl rfl rfl (by decide) (fun v D' h => ?_)
  obtain ⟨rfl, rfl⟩ := h
  show W _ _ _ _ _ _ _ _ _ _ _ _ 13 _ [(vi 1)]
  refine W.istoreN (ls' := #[rv p1, rv p2, iv 1]) d25_13 rfl ?_
  refine W.aloadN d25_14 rfl rfl ?_
  refine W.aloadN d25_15 rfl rfl ?_
  refine W.getf d25_16 (wq hw 137 rfl) Via.refl m1 m2 ?_
  refine W.iloadN d25_19 rfl ?_
  refine W.iaddK (2 : Int32) d25_20 (by decide) ?_
  refine W.callP (as := [(vi 2)]) 0 [] d25_21 (wq hw 139 rfl) (wq hw 140 rfl) (wq hw 142 rfl) (wq hw 141 rfl) (wq hw 118 rfl) (wq hw 143 rfl) (Hp.exa m1) (c53_ensureCapacityInternal hw hs (hvs_p2 := rfl) (mp1 := m1) (mp2 := m0)) (by decide) pd_I_V rfl rfl rfl rfl (by decide) (fun v D' h => ?_)
  obtain ⟨rfl, rfl⟩ := h
  show W _ _ _ _ _ _ _ _ _ _ _ _ 24 _ []
  refine W.aloadN d25_24 rfl rfl ?_
  refine W.aloadN d25_25 rfl rfl ?_
  refine W.getf d25_26 (wq hw 137 rfl) Via.refl m1 m2 ?_
  refine W.aloadN d25_29 rfl rfl ?_
  refine W.callP (as := [(vi 1), (vr p2)]) 0 [] d25_30 (wq hw 144 rfl) (wq hw 145 rfl) (wq hw 147 rfl) (wq hw 146 rfl) (wq hw 118 rfl) (wq hw 148 rfl) (Hp.exa m1) (c54_putStringAt hw hs (hx1 := hx1) (mp1 := m0) (mp2 := (mS mp2)) (mp4 := (mS mp4))) (by decide) pd_ILjava_lang_String__V rfl rfl rfl rfl (by decide) (fun v D' h => ?_)
  obtain ⟨rfl, rfl⟩ := h
  show W _ _ _ _ _ _ _ _ _ _ _ _ 33 _ []
  refine W.aloadN d25_33 rfl rfl ?_
  refine W.dup d25_34 rfl ?_
  refine W.getf d25_35 (wq hw 137 rfl) Via.refl m1 m2 ?_
  refine W.iloadN d25_38 rfl ?_
  refine W.iaddK (2 : Int32) d25_39 (by decide) ?_
  refine W.putf (D' := (p3, true, ar ad_p3 .byte [(vi x1), (vi 47), e_p3_2, e_p3_3, e_p3_4, e_p3_5, e_p3_6, e_p3_7, e_p3_8, e_p3_9, e_p3_10, e_p3_11, e_p3_12, e_p3_13, e_p3_14, e_p3_15]) :: (p1, true, oStringBuilder (vr p3) (vi 0) (vi 2)) :: F) 1 2 d25_40 (wq hw 137 rfl) Via.refl rfl rfl (Or.inl (wq hw 138 rfl)) (wq hw 109 rfl) pfI rfl rfl rfl ?_
  refine W.aloadN d25_43 rfl rfl ?_
  exact W.areturn d25_44 rfl rfl rfl (by decide) ⟨rfl, rfl⟩
theorem c51_append {Z a0} (hw : HW a0 Z) (hs : SF Z) {p1 p2 p3 p4 : Addr} {x1 : Int32} (hx1 : (45 ≤ x1.toInt ∧ x1.toInt ≤ 46) ∨ (48 ≤ x1.toInt ∧ x1.toInt ≤ 57) ∨ (65 ≤ x1.toInt ∧ x1.toInt ≤ 90) ∨ x1.toInt = 95 ∨ (97 ≤ x1.toInt ∧ x1.toInt ≤ 122)) {e_p3_2 e_p3_3 e_p3_4 e_p3_5 e_p3_6 e_p3_7 e_p3_8 e_p3_9 e_p3_10 e_p3_11 e_p3_12 e_p3_13 e_p3_14 e_p3_15 : Value} {ad_p3 : String} {w_p2 : Bool} {w_p4 : Bool} {ad_p4 : String} {F : List Ent} (mp2 : (p2, w_p2, oString (vr p4) (vi 0)) ∈ F) (mp4 : (p4, w_p4, ar ad_p4 .byte [(vi 47)]) ∈ F) : Con Z EL y34 y34b 2 y34r (rmm 4 0 0 91) [(vr p1), (vr p2)] ((p3, true, ar ad_p3 .byte [(vi x1), (vi 0), e_p3_2, e_p3_3, e_p3_4, e_p3_5, e_p3_6, e_p3_7, e_p3_8, e_p3_9, e_p3_10, e_p3_11, e_p3_12, e_p3_13, e_p3_14, e_p3_15]) :: (p1, true, oStringBuilder (vr p3) (vi 0) (vi 1)) :: F) (fun v D' => (v = some (vr p1) ∧ (p3, true, ar ad_p3 .byte [(vi x1), (vi 47), e_p3_2, e_p3_3, e_p3_4, e_p3_5, e_p3_6, e_p3_7, e_p3_8, e_p3_9, e_p3_10, e_p3_11, e_p3_12, e_p3_13, e_p3_14, e_p3_15]) :: (p1, true, oStringBuilder (vr p3) (vi 0) (vi 2)) :: F = D')) := by
  refine Con.of (ls := #[rv p1, rv p2]) (by decide +kernel) rfl ?_
  refine W.aloadN d24_0 rfl rfl ?_
  refine W.aloadN d24_1 rfl rfl ?_
  refine W.callUp (as := [(vr p2)]) 0 [] d24_2 (wq hw 131 rfl) (same_self (by rfl) (by decide) (wq hw 132 rfl) (wq hw 140 rfl) (wq hw 142 rfl)) (wq hw 132 rfl) (wq hw 133 rfl) (by decide) (wq hw 118 rfl) (wq hw 135 rfl) (Hp.ins m1) (c52_append hw hs (hx1 := hx1) (mp2 := mp2) (mp4 := mp4)) pd_Ljava_lang_String__Ljava_lang_AbstractStringBuilder_ rfl rfl rfl rfl (by decide) (fun v D' h => ?_)
  obtain ⟨rfl, rfl⟩ := h
  show W _ _ _ _ _ _ _ _ _ _ _ _ 5 _ [(vr p1)]
  refine W.popv d24_5 rfl ?_
  refine W.aloadN d24_6 rfl rfl ?_
  exact W.areturn d24_7 rfl rfl rfl (by decide) ⟨rfl, rfl⟩
theorem d21_19 : decode prog_8_method_8_code 19 = .ok (.aload_n 0, 1) := by decide +kernel
theorem d21_20 : decode prog_8_method_8_code 20 = .ok (.getfield 20, 3) := by decide +kernel
theorem d21_23 : decode prog_8_method_8_code 23 = .ok (.invokevirtual 48, 3) := by decide +kernel
theorem c58_ensureCapacityInternal {Z a0} (hw : HW a0 Z) (hs : SF Z) {p1 p2 : Addr} {f_p1_2 : Value} {vs_p2 : List Value} (hvs_p2 : vs_p2.length = 16) {w_p1 : Bool} {w_p2 : Bool} {ad_p2 : String} {F : List Ent} (mp1 : (p1, w_p1, oStringBuilder (vr p2) (vi 0) f_p1_2) ∈ F) (mp2 : (p2, w_p2, ar ad_p2 .byte vs_p2) ∈ F) : Con Z EL y29 y29b 3 y29r (rmm 0 0 0 0) [(vr p1), (vi 3)] (F) (fun v D' => (v = none ∧ F = D')) := by
  refine Con.of (ls := #[rv p1, iv 3, uu]) (by decide +kernel) rfl ?_
  refine W.aloadN d26_0 rfl rfl ?_
  refine W.getf d26_1 (wq hw 122 rfl) Via.refl mp1 m0 ?_
  refine W.alen (16) d26_4 mp2 (by rw [hvs_p2]; rfl) ?_
  refine W.aloadN d26_5 rfl rfl ?_
  refine W.getf d26_6 (wq hw 124 rfl) Via.refl mp1 m1 ?_
  refine W.ishrK (16 : Int32) d26_9 (by decide) ?_
  refine W.istoreN (ls' := #[rv p1, iv 3, iv 16]) d26_10 rfl ?_
  refine W.iloadN d26_11 rfl ?_
  refine W.iloadN d26_12 rfl ?_
  refine W.isubK (-13 : Int32) d26_13 (by decide) ?_
  refine W.ifY 38 d26_14 (y_le (by decide)) (by decide) ?_
  exact W.return_ d26_38 rfl (by decide) ⟨rfl, rfl⟩
theorem c60_getBytes {Z a0} (hw : HW a0 Z) (hs : SF Z) {p1 p2 p3 : Addr} {x1 : Int32} (hx1 : (45 ≤ x1.toInt ∧ x1.toInt ≤ 46) ∨ (48 ≤ x1.toInt ∧ x1.toInt ≤ 57) ∨ (65 ≤ x1.toInt ∧ x1.toInt ≤ 90) ∨ x1.toInt = 95 ∨ (97 ≤ x1.toInt ∧ x1.toInt ≤ 122)) {x2 : Int32} (hx2 : (45 ≤ x2.toInt ∧ x2.toInt ≤ 46) ∨ (48 ≤ x2.toInt ∧ x2.toInt ≤ 58) ∨ (65 ≤ x2.toInt ∧ x2.toInt ≤ 90) ∨ x2.toInt = 95 ∨ (97 ≤ x2.toInt ∧ x2.toInt ≤ 122)) {e_p2_1 e_p2_3 e_p2_4 e_p2_5 e_p2_6 e_p2_7 e_p2_8 e_p2_9 e_p2_10 e_p2_11 e_p2_12 e_p2_13 e_p2_14 e_p2_15 : Value} {ad_p2 : String} {w_p1 : Bool} {w_p3 : Bool} {ad_p3 : String} {F : List Ent} (mp1 : (p1, w_p1, oString (vr p3) (vi 0)) ∈ F) (mp3 : (p3, w_p3, ar ad_p3 .byte [(vi x2)]) ∈ F) : Con Z EL y31 y31b 4 y31r (rmm 1 0 0 48) [(vr p1), (vr p2), (vi 2), (vi 0)] ((p2, true, ar ad_p2 .byte [(vi x1), e_p2_1, (vi 0), e_p2_3, e_p2_4, e_p2_5, e_p2_6, e_p2_7, e_p2_8, e_p2_9, e_p2_10, e_p2_11, e_p2_12, e_p2_13, e_p2_14, e_p2_15]) :: F) (fun v D' => (v = none ∧ (p2, true, ar ad_p2 .byte [(vi x1), e_p2_1, (vi x2), e_p2_3, e_p2_4, e_p2_5, e_p2_6, e_p2_7, e_p2_8, e_p2_9, e_p2_10, e_p2_11, e_p2_12, e_p2_13, e_p2_14, e_p2_15]) :: F = D')) := by
  refine Con.of (ls := #[rv p1, rv p2, iv 2, iv 0]) (by decide +kernel) rfl ?_
  refine W.aloadN d29_0 rfl rfl ?_
  refine W.callV (as := []) 0 [] d29_1 (wq hw 63 rfl) (wq hw 64 rfl) (wq hw 66 rfl) (wq hw 66 rfl) (wq hw 65 rfl) (wq hw 11 rfl) (wq hw 67 rfl) (Hp.exa (mS mp1)) (c15_coder hw hs (mp1 := (mS mp1))) (by decide) pd__B rfl rfl rfl rfl (by decide) (fun v D' h => ?_)
  obtain ⟨rfl, rfl⟩ := h
  show W _ _ _ _ _ _ _ _ _ _ _ _ 4 _ [(vi 0)]
  refine W.iloadN d29_4 rfl ?_
  refine W.icmpN d29_5 (n_ne (by decide)) ?_
  refine W.aloadN d29_8 rfl rfl ?_
  refine W.getf d29_9 (wq hw 31 rfl) Via.refl (mS mp1) m0 ?_
  refine W.iconst (0) d29_12 (by decide) ?_
  refine W.aloadN d29_13 rfl rfl ?_
  refine W.iloadN d29_14 rfl ?_
  refine W.iloadN d29_15 rfl ?_
  refine W.ishlK (2 : Int32) d29_16 (by decide) ?_
  refine W.aloadN d29_17 rfl rfl ?_
  refine W.getf d29_18 (wq hw 31 rfl) Via.refl (mS mp1) m0 ?_
  refine W.alen (1) d29_21 (mS mp3) rfl ?_
  refine W.cpy (D' := (p2, true, ar ad_p2 .byte [(vi x1), e_p2_1, (vi x2), e_p2_3, e_p2_4, e_p2_5, e_p2_6, e_p2_7, e_p2_8, e_p2_9, e_p2_10, e_p2_11, e_p2_12, e_p2_13, e_p2_14, e_p2_15]) :: F) 0 0 2 1 0 d29_22 (wq hw 160 rfl) (wq hw 163 rfl) (wq hw 161 rfl) (wq hw 162 rfl) (mS mp3) rfl rfl ix0 ix2 ix1 ⟨Nat.le_of_ble_eq_true rfl, Nat.le_of_ble_eq_true rfl⟩ rfl rfl (by decide) rfl ?_
  refine W.goto 43 d29_25 (by decide) ?_
  exact W.return_ d29_43 rfl (by decide) ⟨rfl, rfl⟩
theorem c59_putStringAt {Z a0} (hw : HW a0 Z) (hs : SF Z) {p1 p2 p3 p4 : Addr} {x1 : Int32} (hx1 : (45 ≤ x1.toInt ∧ x1.toInt ≤ 46) ∨ (48 ≤ x1.toInt ∧ x1.toInt ≤ 57) ∨ (65 ≤ x1.toInt ∧ x1.toInt ≤ 90) ∨ x1.toInt = 95 ∨ (97 ≤ x1.toInt ∧ x1.toInt ≤ 122)) {x2 : Int32} (hx2 : (45 ≤ x2.toInt ∧ x2.toInt ≤ 46) ∨ (48 ≤ x2.toInt ∧ x2.toInt ≤ 58) ∨ (65 ≤ x2.toInt ∧ x2.toInt ≤ 90) ∨ x2.toInt = 95 ∨ (97 ≤ x2.toInt ∧ x2.toInt ≤ 122)) {e_p3_1 e_p3_3 e_p3_4 e_p3_5 e_p3_6 e_p3_7 e_p3_8 e_p3_9 e_p3_10 e_p3_11 e_p3_12 e_p3_13 e_p3_14 e_p3_15 f_p1_2 : Value} {ad_p3 : String} {w_p1 : Bool} {w_p2 : Bool} {w_p4 : Bool} {ad_p4 : String} {F : List Ent} (mp1 : (p1, w_p1, oStringBuilder (vr p3) (vi 0) f_p1_2) ∈ F) (mp2 : (p2, w_p2, oString (vr p4) (vi 0)) ∈ F) (mp4 : (p4, w_p4, ar ad_p4 .byte [(vi x2)]) ∈ F) : Con Z EL y32 y32b 3 y32r (rmm 2 0 0 63) [(vr p1), (vi 2), (vr p2)] ((p3, true, ar ad_p3 .byte [(vi x1), e_p3_1, (vi 0), e_p3_3, e_p3_4, e_p3_5, e_p3_6, e_p3_7, e_p3_8, e_p3_9, e_p3_10, e_p3_11, e_p3_12, e_p3_13, e_p3_14, e_p3_15]) :: F) (fun v D' => (v = none ∧ (p3, true, ar ad_p3 .byte [(vi x1), e_p3_1, (vi x2), e_p3_3, e_p3_4, e_p3_5, e_p3_6, e_p3_7, e_p3_8, e_p3_9, e_p3_10, e_p3_11, e_p3_12, e_p3_13, e_p3_14, e_p3_15]) :: F = D')) := by
  refine Con.of (ls := #[rv p1, iv 2, rv p2]) (by decide +kernel) rfl ?_
  refine W.aloadN d27_0 rfl rfl ?_
  refine W.aloadN d27_1 rfl rfl ?_
  refine W.callP (as := [(vr p2)]) 0 [] d27_2 (wq hw 149 rfl) (wq hw 150 rfl) (wq hw 152 rfl) (wq hw 151 rfl) (wq hw 118 rfl) (wq hw 153 rfl) (Hp.exa (mS mp1)) (c49_inflateIfNeededFor hw hs (mp1 := (mS mp1)) (mp2 := (mS mp2))) (by decide) pd_Ljava_lang_String__V rfl rfl rfl rfl (by decide) (fun v D' h => ?_)
  obtain ⟨rfl, rfl⟩ := h
  show W _ _ _ _ _ _ _ _ _ _ _ _ 5 _ []
  refine W.aloadN d27_5 rfl rfl ?_
  refine W.aloadN d27_6 rfl rfl ?_
  refine W.getf d27_7 (wq hw 122 rfl) Via.refl (mS mp1) m0 ?_
  refine W.iloadN d27_10 rfl ?_
  refine W.aloadN d27_11 rfl rfl ?_
  refine W.getf d27_12 (wq hw 124 rfl) Via.refl (mS mp1) m1 ?_
  refine W.callV (as := [(vr p3), (vi 2), (vi 0)]) 0 [] d27_15 (wq hw 155 rfl) (wq hw 156 rfl) (wq hw 158 rfl) (wq hw 158 rfl) (wq hw 157 rfl) (wq hw 11 rfl) (wq hw 159 rfl) (Hp.exa (mS mp2)) (c60_getBytes hw hs (hx1 := hx1) (hx2 := hx2) (mp1 := mp2) (mp3 := mp4)) (by decide) pd__BIB_V rfl rfl rfl rfl (by decide) (fun v D' h => ?_)
  obtain ⟨rfl, rfl⟩ := h
  show W _ _ _ _ _ _ _ _ _ _ _ _ 18 _ []
  exact W.return_ d27_18 rfl (by decide) ⟨rfl, rfl⟩
theorem c57_append {Z a0} (hw : HW a0 Z) (hs : SF Z) {p1 p2 p3 p4 : Addr} {x1 : Int32} (hx1 : (45 ≤ x1.toInt ∧ x1.toInt ≤ 46) ∨ (48 ≤ x1.toInt ∧ x1.toInt ≤ 57) ∨ (65 ≤ x1.toInt ∧ x1.toInt ≤ 90) ∨ x1.toInt = 95 ∨ (97 ≤ x1.toInt ∧ x1.toInt ≤ 122)) {x2 : Int32} (hx2 : (45 ≤ x2.toInt ∧ x2.toInt ≤ 46) ∨ (48 ≤ x2.toInt ∧ x2.toInt ≤ 58) ∨ (65 ≤ x2.toInt ∧ x2.toInt ≤ 90) ∨ x2.toInt = 95 ∨ (97 ≤ x2.toInt ∧ x2.toInt ≤ 122)) {e_p3_1 e_p3_3 e_p3_4 e_p3_5 e_p3_6 e_p3_7 e_p3_8 e_p3_9 e_p3_10 e_p3_11 e_p3_12 e_p3_13 e_p3_14 e_p3_15 : Value} {ad_p3 : String} {w_p2 : Bool} {w_p4 : Bool} {ad_p4 : String} {F : List Ent} (mp2 : (p2, w_p2, oString (vr p4) (vi 0)) ∈ F) (mp4 : (p4, w_p4, ar ad_p4 .byte [(vi x2)]) ∈ F) : Con Z EL y33 y33b 3 y33r (rmm 3 0 0 77) [(vr p1), (vr p2)] ((p3, true, ar ad_p3 .byte [(vi x1), e_p3_1, (vi 0), e_p3_3, e_p3_4, e_p3_5, e_p3_6, e_p3_7, e_p3_8, e_p3_9, e_p3_10, e_p3_11, e_p3_12, e_p3_13, e_p3_14, e_p3_15]) :: (p1, true, oStringBuilder (vr p3) (vi 0) (vi 2)) :: F) (fun v D' => (v = some (vr p1) ∧ (p3, true, ar ad_p3 .byte [(vi x1), e_p3_1, (vi x2), e_p3_3, e_p3_4, e_p3_5, e_p3_6, e_p3_7, e_p3_8, e_p3_9, e_p3_10, e_p3_11, e_p3_12, e_p3_13, e_p3_14, e_p3_15]) :: (p1, true, oStringBuilder (vr p3) (vi 0) (vi 3)) :: F = D')) := by
  refine Con.of (ls := #[rv p1, rv p2, uu]) (by decide +kernel) rfl ?_
  refine W.aloadN d25_0 rfl rfl ?_
  refine W.ifnonnullY 9 d25_1 (by decide) ?_
  refine W.aloadN d25_9 rfl rfl ?_
  refine W.callV (as := []) 0 [] d25_10 (wq hw 136 rfl) (wq hw 59 rfl) (wq hw 61 rfl) (wq hw 61 rfl) (wq hw 60 rfl) (wq hw 11 rfl) (wq hw 62 rfl) (Hp.exa (mS (mS mp2))) (c14_length hw hs (hvs_p2 := rfl) (mp1 := (mS (mS mp2))) (mp2 := (mS (mS mp4)))) (by decide) pd__I rfl rfl rfl rfl (by decide) (fun v D' h => ?_)
  obtain ⟨rfl, rfl⟩ := h
  show W _ _ _ _ _ _ _ _ _ _ _ _ 13 _ [(vi 1)]
  refine W.istoreN (ls' := #[rv p1, rv p2, iv 1]) d25_13 rfl ?_
  refine W.aloadN d25_14 rfl rfl ?_
  refine W.aloadN d25_15 rfl rfl ?_
  refine W.getf d25_16 (wq hw 137 rfl) Via.refl m1 m2 ?_
  refine W.iloadN d25_19 rfl ?_
  refine W.iaddK (3 : Int32) d25_20 (by decide) ?_
  refine W.callP (as := [(vi 3)]) 0 [] d25_21 (wq hw 139 rfl) (wq hw 140 rfl) (wq hw 142 rfl) (wq hw 141 rfl) (wq hw 118 rfl) (wq hw 143 rfl) (Hp.exa m1) (c58_ensureCapacityInternal hw hs (hvs_p2 := rfl) (mp1 := m1) (mp2 := m0)) (by decide) pd_I_V rfl rfl rfl rfl (by decide) (fun v D' h => ?_)
  obtain ⟨rfl, rfl⟩ := h
  show W _ _ _ _ _ _ _ _ _ _ _ _ 24 _ []
  refine W.aloadN d25_24 rfl rfl ?_
  refine W.aloadN d25_25 rfl rfl ?_
  refine W.getf d25_26 (wq hw 137 rfl) Via.refl m1 m2 ?_
  refine W.aloadN d25_29 rfl rfl ?_
  refine W.callP (as := [(vi 2), (vr p2)]) 0 [] d25_30 (wq hw 144 rfl) (wq hw 145 rfl) (wq hw 147 rfl) (wq hw 146 rfl) (wq hw 118 rfl) (wq hw 148 rfl) (Hp.exa m1) (c59_putStringAt hw hs (hx1 := hx1) (hx2 := hx2) (mp1 := m0) (mp2 := (mS mp2)) (mp4 := (mS mp4))) (by decide) pd_ILjava_lang_String__V rfl rfl rfl rfl (by decide) (fun v D' h => ?_)
  obtain ⟨rfl, rfl⟩ := h
  show W _ _ _ _ _ _ _ _ _ _ _ _ 33 _ []
  refine W.aloadN d25_33 rfl rfl ?_
  refine W.dup d25_34 rfl ?_
  refine W.getf d25_35 (wq hw 137 rfl) Via.refl m1 m2 ?_
  refine W.iloadN d25_38 rfl ?_
  refine W.iaddK (3 : Int32) d25_39 (by decide) ?_
  refine W.putf (D' := (p3, true, ar ad_p3 .byte [(vi x1), e_p3_1, (vi x2), e_p3_3, e_p3_4, e_p3_5, e_p3_6, e_p3_7, e_p3_8, e_p3_9, e_p3_10, e_p3_11, e_p3_12, e_p3_13, e_p3_14, e_p3_15]) :: (p1, true, oStringBuilder (vr p3) (vi 0) (vi 3)) :: F) 1 2 d25_40 (wq hw 137 rfl) Via.refl rfl rfl (Or.inl (wq hw 138 rfl)) (wq hw 109 rfl) pfI rfl rfl rfl ?_
  refine W.aloadN d25_43 rfl rfl ?_
  exact W.areturn d25_44 rfl rfl rfl (by decide) ⟨rfl, rfl⟩
theorem c56_append {Z a0} (hw : HW a0 Z) (hs : SF Z) {p1 p2 p3 p4 : Addr} {x1 : Int32} (hx1 : (45 ≤ x1.toInt ∧ x1.toInt ≤ 46) ∨ (48 ≤ x1.toInt ∧ x1.toInt ≤ 57) ∨ (65 ≤ x1.toInt ∧ x1.toInt ≤ 90) ∨ x1.toInt = 95 ∨ (97 ≤ x1.toInt ∧ x1.toInt ≤ 122)) {x2 : Int32} (hx2 : (45 ≤ x2.toInt ∧ x2.toInt ≤ 46) ∨ (48 ≤ x2.toInt ∧ x2.toInt ≤ 58) ∨ (65 ≤ x2.toInt ∧ x2.toInt ≤ 90) ∨ x2.toInt = 95 ∨ (97 ≤ x2.toInt ∧ x2.toInt ≤ 122)) {e_p3_1 e_p3_3 e_p3_4 e_p3_5 e_p3_6 e_p3_7 e_p3_8 e_p3_9 e_p3_10 e_p3_11 e_p3_12 e_p3_13 e_p3_14 e_p3_15 : Value} {ad_p3 : String} {w_p2 : Bool} {w_p4 : Bool} {ad_p4 : String} {F : List Ent} (mp2 : (p2, w_p2, oString (vr p4) (vi 0)) ∈ F) (mp4 : (p4, w_p4, ar ad_p4 .byte [(vi x2)]) ∈ F) : Con Z EL y34 y34b 2 y34r (rmm 4 0 0 91) [(vr p1), (vr p2)] ((p3, true, ar ad_p3 .byte [(vi x1), e_p3_1, (vi 0), e_p3_3, e_p3_4, e_p3_5, e_p3_6, e_p3_7, e_p3_8, e_p3_9, e_p3_10, e_p3_11, e_p3_12, e_p3_13, e_p3_14, e_p3_15]) :: (p1, true, oStringBuilder (vr p3) (vi 0) (vi 2)) :: F) (fun v D' => (v = some (vr p1) ∧ (p3, true, ar ad_p3 .byte [(vi x1), e_p3_1, (vi x2), e_p3_3, e_p3_4, e_p3_5, e_p3_6, e_p3_7, e_p3_8, e_p3_9, e_p3_10, e_p3_11, e_p3_12, e_p3_13, e_p3_14, e_p3_15]) :: (p1, true, oStringBuilder (vr p3) (vi 0) (vi 3)) :: F = D')) := by
  refine Con.of (ls := #[rv p1, rv p2]) (by decide +kernel) rfl ?_
  refine W.aloadN d24_0 rfl rfl ?_
  refine W.aloadN d24_1 rfl rfl ?_
  refine W.callUp (as := [(vr p2)]) 0 [] d24_2 (wq hw 131 rfl) (same_self (by rfl) (by decide) (wq hw 132 rfl) (wq hw 140 rfl) (wq hw 142 rfl)) (wq hw 132 rfl) (wq hw 133 rfl) (by decide) (wq hw 118 rfl) (wq hw 135 rfl) (Hp.ins m1) (c57_append hw hs (hx1 := hx1) (hx2 := hx2) (mp2 := mp2) (mp4 := mp4)) pd_Ljava_lang_String__Ljava_lang_AbstractStringBuilder_ rfl rfl rfl rfl (by decide) (fun v D' h => ?_)
  obtain ⟨rfl, rfl⟩ := h
  show W _ _ _ _ _ _ _ _ _ _ _ _ 5 _ [(vr p1)]
  refine W.popv d24_5 rfl ?_
  refine W.aloadN d24_6 rfl rfl ?_
  exact W.areturn d24_7 rfl rfl rfl (by decide) ⟨rfl, rfl⟩
theorem d21_26 : decode prog_8_method_8_code 26 = .ok (.invokevirtual 54, 3) := by decide +kernel
theorem d30_0 : decode jdk_67_method_42_code 0 = .ok (.new 18, 3) := by decide +kernel
theorem d30_3 : decode jdk_67_method_42_code 3 = .ok (.dup, 1) := by decide +kernel
theorem d30_4 : decode jdk_67_method_42_code 4 = .ok (.aload_n 0, 1) := by decide +kernel
theorem d30_5 : decode jdk_67_method_42_code 5 = .ok (.invokespecial 137, 3) := by decide +kernel
theorem d31_0 : decode jdk_42_method_53_code 0 = .ok (.aload_n 0, 1) := by decide +kernel
theorem d31_1 : decode jdk_42_method_53_code 1 = .ok (.aload_n 1, 1) := by decide +kernel
theorem d31_2 : decode jdk_42_method_53_code 2 = .ok (.aconst_null, 1) := by decide +kernel
theorem d31_3 : decode jdk_42_method_53_code 3 = .ok (.invokespecial 489, 3) := by decide +kernel
theorem d32_0 : decode jdk_42_method_150_code 0 = .ok (.aload_n 0, 1) := by decide +kernel
theorem d32_1 : decode jdk_42_method_150_code 1 = .ok (.invokespecial 1, 3) := by decide +kernel
theorem d32_4 : decode jdk_42_method_150_code 4 = .ok (.aload_n 1, 1) := by decide +kernel
theorem d32_5 : decode jdk_42_method_150_code 5 = .ok (.invokevirtual 552, 3) := by decide +kernel
theorem d33_0 : decode jdk_68_method_64_code 0 = .ok (.aload_n 0, 1) := by decide +kernel
theorem d33_1 : decode jdk_68_method_64_code 1 = .ok (.getfield 15, 3) := by decide +kernel
theorem d33_4 : decode jdk_68_method_64_code 4 = .ok (.areturn, 1) := by decide +kernel
abbrev y35 : MethodName := ⟨"java/lang/AbstractStringBuilder", "getValue", "()[B"⟩
abbrev y35b : ByteArray := jdk_68_method_64_code
abbrev y35r : Option Jvm.ClassFile.FieldType := (Option.some (Jvm.ClassFile.FieldType.array Jvm.ClassFile.FieldType.byte))
theorem c64_getValue {Z a0} (hw : HW a0 Z) (hs : SF Z) {p1 p2 : Addr} {f_p1_1 f_p1_2 : Value} {w_p1 : Bool} {F : List Ent} (mp1 : (p1, w_p1, oStringBuilder (vr p2) f_p1_1 f_p1_2) ∈ F) : Con Z EL y35 y35b 1 y35r (rmm 0 0 0 0) [(vr p1)] (F) (fun v D' => (v = some (vr p2) ∧ F = D')) := by
  refine Con.of (ls := #[rv p1]) (by decide +kernel) rfl ?_
  refine W.aloadN d33_0 rfl rfl ?_
  refine W.getf d33_1 (wq hw 122 rfl) Via.refl mp1 m0 ?_
  exact W.areturn d33_4 rfl rfl rfl (by decide) ⟨rfl, rfl⟩
theorem pd___B : parseMethodDescriptor "()[B" = some ⟨[], some (.array .byte)⟩ := by decide +kernel
theorem d32_8 : decode jdk_42_method_150_code 8 = .ok (.astore_n 3, 1) := by decide +kernel
theorem d32_9 : decode jdk_42_method_150_code 9 = .ok (.aload_n 1, 1) := by decide +kernel
theorem d32_10 : decode jdk_42_method_150_code 10 = .ok (.invokevirtual 549, 3) := by decide +kernel
theorem d34_0 : decode jdk_67_method_93_code 0 = .ok (.aload_n 0, 1) := by decide +kernel
theorem d34_1 : decode jdk_67_method_93_code 1 = .ok (.invokespecial 343, 3) := by decide +kernel
theorem d35_0 : decode jdk_68_method_6_code 0 = .ok (.aload_n 0, 1) := by decide +kernel
theorem d35_1 : decode jdk_68_method_6_code 1 = .ok (.getfield 79, 3) := by decide +kernel
theorem d35_4 : decode jdk_68_method_6_code 4 = .ok (.ireturn, 1) := by decide +kernel
abbrev y36 : MethodName := ⟨"java/lang/AbstractStringBuilder", "length", "()I"⟩
abbrev y36b : ByteArray := jdk_68_method_6_code
abbrev y36r : Option Jvm.ClassFile.FieldType := (Option.some Jvm.ClassFile.FieldType.int)
theorem c66_length {Z a0} (hw : HW a0 Z) (hs : SF Z) {p1 : Addr} {f_p1_0 f_p1_1 : Value} {w_p1 : Bool} {F : List Ent} (mp1 : (p1, w_p1, oStringBuilder f_p1_0 f_p1_1 (vi 3)) ∈ F) : Con Z EL y36 y36b 1 y36r (rmm 0 0 0 0) [(vr p1)] (F) (fun v D' => (v = some (vi 3) ∧ F = D')) := by
  refine Con.of (ls := #[rv p1]) (by decide +kernel) rfl ?_
  refine W.aloadN d35_0 rfl rfl ?_
  refine W.getf d35_1 (wq hw 137 rfl) Via.refl mp1 m2 ?_
  exact W.ireturn d35_4 rfl (Or.inl rfl) rfl (by decide) ⟨rfl, rfl⟩
theorem d34_4 : decode jdk_67_method_93_code 4 = .ok (.ireturn, 1) := by decide +kernel
abbrev y37 : MethodName := ⟨"java/lang/StringBuilder", "length", "()I"⟩
abbrev y37b : ByteArray := jdk_67_method_93_code
abbrev y37r : Option Jvm.ClassFile.FieldType := (Option.some Jvm.ClassFile.FieldType.int)
theorem c65_length {Z a0} (hw : HW a0 Z) (hs : SF Z) {p1 : Addr} {f_p1_0 f_p1_1 : Value} {w_p1 : Bool} {F : List Ent} (mp1 : (p1, w_p1, oStringBuilder f_p1_0 f_p1_1 (vi 3)) ∈ F) : Con Z EL y37 y37b 1 y37r (rmm 1 0 0 12) [(vr p1)] (F) (fun v D' => (v = some (vi 3) ∧ F = D')) := by
  refine Con.of (ls := #[rv p1]) (by decide +kernel) rfl ?_
  refine W.aloadN d34_0 rfl rfl ?_
  refine W.callUp (as := []) 0 [] d34_1 (wq hw 190 rfl) (same_self (by rfl) (by decide) (wq hw 186 rfl) (wq hw 140 rfl) (wq hw 142 rfl)) (wq hw 186 rfl) (wq hw 133 rfl) (by decide) (wq hw 118 rfl) (wq hw 191 rfl) (Hp.ins mp1) (c66_length hw hs (mp1 := mp1)) pd__I rfl rfl rfl rfl (by decide) (fun v D' h => ?_)
  obtain ⟨rfl, rfl⟩ := h
  show W _ _ _ _ _ _ _ _ _ _ _ _ 4 _ [(vi 3)]
  exact W.ireturn d34_4 rfl (Or.inl rfl) rfl (by decide) ⟨rfl, rfl⟩
theorem d32_13 : decode jdk_42_method_150_code 13 = .ok (.istore 4, 2) := by decide +kernel
theorem d32_15 : decode jdk_42_method_150_code 15 = .ok (.aload_n 1, 1) := by decide +kernel
theorem d32_16 : decode jdk_42_method_150_code 16 = .ok (.invokevirtual 1047, 3) := by decide +kernel
theorem d36_0 : decode jdk_68_method_68_code 0 = .ok (.getstatic 18, 3) := by decide +kernel
theorem d36_3 : decode jdk_68_method_68_code 3 = .ok (.ifCond .eq 14, 3) := by decide +kernel
theorem d36_6 : decode jdk_68_method_68_code 6 = .ok (.aload_n 0, 1) := by decide +kernel
theorem d36_7 : decode jdk_68_method_68_code 7 = .ok (.getfield 22, 3) := by decide +kernel
theorem d36_10 : decode jdk_68_method_68_code 10 = .ok (.ifCond .ne 7, 3) := by decide +kernel
theorem d36_13 : decode jdk_68_method_68_code 13 = .ok (.iconst 1, 1) := by decide +kernel
theorem d36_14 : decode jdk_68_method_68_code 14 = .ok (.goto 4, 3) := by decide +kernel
theorem d36_18 : decode jdk_68_method_68_code 18 = .ok (.ireturn, 1) := by decide +kernel
abbrev y38 : MethodName := ⟨"java/lang/AbstractStringBuilder", "isLatin1", "()Z"⟩
abbrev y38b : ByteArray := jdk_68_method_68_code
abbrev y38r : Option Jvm.ClassFile.FieldType := (Option.some Jvm.ClassFile.FieldType.boolean)
theorem c67_isLatin1 {Z a0} (hw : HW a0 Z) (hs : SF Z) {p1 : Addr} {f_p1_0 f_p1_2 : Value} {w_p1 : Bool} {F : List Ent} (mp1 : (p1, w_p1, oStringBuilder f_p1_0 (vi 0) f_p1_2) ∈ F) : Con Z EL y38 y38b 1 y38r (rmm 0 0 0 0) [(vr p1)] (F) (fun v D' => (v = some (vi 1) ∧ F = D')) := by
  refine Con.of (ls := #[rv p1]) (by decide +kernel) rfl ?_
  refine W.gets d36_0 (wq hw 121 rfl) Via.refl hs.1 ?_
  refine W.ifN d36_3 (n_eq (by have := hs.2.1; have := q0; omega)) ?_
  refine W.aloadN d36_6 rfl rfl ?_
  refine W.getf d36_7 (wq hw 124 rfl) Via.refl mp1 m1 ?_
  refine W.ifN d36_10 (n_ne (by decide)) ?_
  refine W.iconst (1) d36_13 (by decide) ?_
  refine W.goto 18 d36_14 (by decide) ?_
  exact W.ireturn d36_18 rfl (Or.inr (Or.inl rfl)) (nw_bool (by decide)) (by decide) ⟨rfl, rfl⟩
theorem d32_19 : decode jdk_42_method_150_code 19 = .ok (.ifCond .eq 22, 3) := by decide +kernel
theorem d32_22 : decode jdk_42_method_150_code 22 = .ok (.aload_n 0, 1) := by decide +kernel
theorem d32_23 : decode jdk_42_method_150_code 23 = .ok (.iconst 0, 1) := by decide +kernel
theorem d32_24 : decode jdk_42_method_150_code 24 = .ok (.putfield 15, 3) := by decide +kernel
theorem d32_27 : decode jdk_42_method_150_code 27 = .ok (.aload_n 0, 1) := by decide +kernel
theorem d32_28 : decode jdk_42_method_150_code 28 = .ok (.aload_n 3, 1) := by decide +kernel
theorem d32_29 : decode jdk_42_method_150_code 29 = .ok (.iconst 0, 1) := by decide +kernel
theorem d32_30 : decode jdk_42_method_150_code 30 = .ok (.iload 4, 2) := by decide +kernel
theorem d32_32 : decode jdk_42_method_150_code 32 = .ok (.invokestatic 54, 3) := by decide +kernel
theorem d37_0 : decode jdk_65_method_132_code 0 = .ok (.iload_n 1, 1) := by decide +kernel
theorem d37_1 : decode jdk_65_method_132_code 1 = .ok (.ifCond .ne 9, 3) := by decide +kernel
theorem d37_4 : decode jdk_65_method_132_code 4 = .ok (.iload_n 2, 1) := by decide +kernel
theorem d37_5 : decode jdk_65_method_132_code 5 = .ok (.aload_n 0, 1) := by decide +kernel
theorem d37_6 : decode jdk_65_method_132_code 6 = .ok (.arraylength, 1) := by decide +kernel
theorem d37_7 : decode jdk_65_method_132_code 7 = .ok (.if_icmp .eq 10, 3) := by decide +kernel
theorem d37_10 : decode jdk_65_method_132_code 10 = .ok (.aload_n 0, 1) := by decide +kernel
theorem d37_11 : decode jdk_65_method_132_code 11 = .ok (.iload_n 1, 1) := by decide +kernel
theorem d37_12 : decode jdk_65_method_132_code 12 = .ok (.iload_n 2, 1) := by decide +kernel
theorem d37_13 : decode jdk_65_method_132_code 13 = .ok (.invokestatic 339, 3) := by decide +kernel
theorem d38_0 : decode jdk_65_method_133_code 0 = .ok (.iload_n 1, 1) := by decide +kernel
theorem d38_1 : decode jdk_65_method_133_code 1 = .ok (.iload_n 2, 1) := by decide +kernel
theorem d38_2 : decode jdk_65_method_133_code 2 = .ok (.invokestatic 343, 3) := by decide +kernel
theorem d39_0 : decode jdk_65_method_131_code 0 = .ok (.iload_n 1, 1) := by decide +kernel
theorem d39_1 : decode jdk_65_method_131_code 1 = .ok (.iload_n 0, 1) := by decide +kernel
theorem d39_2 : decode jdk_65_method_131_code 2 = .ok (.if_icmp .ge 35, 3) := by decide +kernel
theorem d39_37 : decode jdk_65_method_131_code 37 = .ok (.return_, 1) := by decide +kernel
abbrev y39 : MethodName := ⟨"java/util/Arrays", "checkLength", "(II)V"⟩
abbrev y39b : ByteArray := jdk_65_method_131_code
abbrev y39r : Option Jvm.ClassFile.FieldType := (Option.none : Option Jvm.ClassFile.FieldType)
theorem c70_checkLength {Z a0} (hw : HW a0 Z) (hs : SF Z) {F : List Ent} : Con Z EL y39 y39b 2 y39r (rmm 0 0 0 0) [(vi 0), (vi 3)] (F) (fun v D' => (v = none ∧ F = D')) := by
  refine Con.of (ls := #[iv 0, iv 3]) (by decide +kernel) rfl ?_
  refine W.iloadN d39_0 rfl ?_
  refine W.iloadN d39_1 rfl ?_
  refine W.icmpY 37 d39_2 (y_ge (by decide)) (by decide) ?_
  exact W.return_ d39_37 rfl (by decide) ⟨rfl, rfl⟩
theorem d38_5 : decode jdk_65_method_133_code 5 = .ok (.iload_n 2, 1) := by decide +kernel
theorem d38_6 : decode jdk_65_method_133_code 6 = .ok (.iload_n 1, 1) := by decide +kernel
theorem d38_7 : decode jdk_65_method_133_code 7 = .ok (.isub, 1) := by decide +kernel
theorem d38_8 : decode jdk_65_method_133_code 8 = .ok (.istore_n 3, 1) := by decide +kernel
theorem d38_9 : decode jdk_65_method_133_code 9 = .ok (.iload_n 3, 1) := by decide +kernel
theorem d38_10 : decode jdk_65_method_133_code 10 = .ok (.newarray .byte, 2) := by decide +kernel
theorem d38_12 : decode jdk_65_method_133_code 12 = .ok (.astore 4, 2) := by decide +kernel
theorem d38_14 : decode jdk_65_method_133_code 14 = .ok (.aload_n 0, 1) := by decide +kernel
theorem d38_15 : decode jdk_65_method_133_code 15 = .ok (.iload_n 1, 1) := by decide +kernel
theorem d38_16 : decode jdk_65_method_133_code 16 = .ok (.aload 4, 2) := by decide +kernel
theorem d38_18 : decode jdk_65_method_133_code 18 = .ok (.iconst 0, 1) := by decide +kernel
theorem d38_19 : decode jdk_65_method_133_code 19 = .ok (.aload_n 0, 1) := by decide +kernel
theorem d38_20 : decode jdk_65_method_133_code 20 = .ok (.arraylength, 1) := by decide +kernel
theorem d38_21 : decode jdk_65_method_133_code 21 = .ok (.iload_n 1, 1) := by decide +kernel
theorem d38_22 : decode jdk_65_method_133_code 22 = .ok (.isub, 1) := by decide +kernel
theorem d38_23 : decode jdk_65_method_133_code 23 = .ok (.iload_n 3, 1) := by decide +kernel
theorem d38_24 : decode jdk_65_method_133_code 24 = .ok (.invokestatic 304, 3) := by decide +kernel
theorem d40_9 : decode jdk_29_method_69_code 9 = .ok (.iload_n 1, 1) := by decide +kernel
theorem c71_min {Z a0} (hw : HW a0 Z) (hs : SF Z) {F : List Ent} : Con Z EL y18 y18b 2 y18r (rmm 0 0 0 0) [(vi 16), (vi 3)] (F) (fun v D' => (v = some (vi 3) ∧ F = D')) := by
  refine Con.of (ls := #[iv 16, iv 3]) (by decide +kernel) rfl ?_
  refine W.iloadN d40_0 rfl ?_
  refine W.iloadN d40_1 rfl ?_
  refine W.icmpY 9 d40_2 (y_gt (by decide)) (by decide) ?_
  refine W.iloadN d40_9 rfl ?_
  exact W.ireturn d40_10 rfl (Or.inl rfl) rfl (by decide) ⟨rfl, rfl⟩
theorem d38_27 : decode jdk_65_method_133_code 27 = .ok (.invokestatic 150, 3) := by decide +kernel
theorem d38_30 : decode jdk_65_method_133_code 30 = .ok (.aload 4, 2) := by decide +kernel
theorem d38_32 : decode jdk_65_method_133_code 32 = .ok (.areturn, 1) := by decide +kernel
abbrev y40 : MethodName := ⟨"java/util/Arrays", "copyOfRangeByte", "([BII)[B"⟩
abbrev y40b : ByteArray := jdk_65_method_133_code
abbrev y40r : Option Jvm.ClassFile.FieldType := (Option.some (Jvm.ClassFile.FieldType.array Jvm.ClassFile.FieldType.byte))
theorem c69_copyOfRangeByte {Z a0} (hw : HW a0 Z) (hs : SF Z) {p1 : Addr} {x1 : Int32} (hx1 : (45 ≤ x1.toInt ∧ x1.toInt ≤ 46) ∨ (48 ≤ x1.toInt ∧ x1.toInt ≤ 57) ∨ (65 ≤ x1.toInt ∧ x1.toInt ≤ 90) ∨ x1.toInt = 95 ∨ (97 ≤ x1.toInt ∧ x1.toInt ≤ 122)) {x2 : Int32} (hx2 : (45 ≤ x2.toInt ∧ x2.toInt ≤ 46) ∨ (48 ≤ x2.toInt ∧ x2.toInt ≤ 58) ∨ (65 ≤ x2.toInt ∧ x2.toInt ≤ 90) ∨ x2.toInt = 95 ∨ (97 ≤ x2.toInt ∧ x2.toInt ≤ 122)) {e_p1_3 e_p1_4 e_p1_5 e_p1_6 e_p1_7 e_p1_8 e_p1_9 e_p1_10 e_p1_11 e_p1_12 e_p1_13 e_p1_14 e_p1_15 : Value} {w_p1 : Bool} {ad_p1 : String} {F : List Ent} (mp1 : (p1, w_p1, ar ad_p1 .byte [(vi x1), (vi 47), (vi x2), e_p1_3, e_p1_4, e_p1_5, e_p1_6, e_p1_7, e_p1_8, e_p1_9, e_p1_10, e_p1_11, e_p1_12, e_p1_13, e_p1_14, e_p1_15]) ∈ F) : Con Z EL y40 y40b 5 y40r (rmm 1 1 3 48) [(vr p1), (vi 0), (vi 3)] (F) (fun v D' => (∃ a1 : Addr, v = some (vr a1) ∧ (a1, true, ar "[B" .byte [(vi x1), (vi 47), (vi x2)]) :: F = D')) := by
  refine Con.of (ls := #[rv p1, iv 0, iv 3, uu, uu]) (by decide +kernel) rfl ?_
  refine W.iloadN d38_0 rfl ?_
  refine W.iloadN d38_1 rfl ?_
  refine W.callS (as := [(vi 0), (vi 3)]) 0 [] d38_2 (wq hw 204 rfl) (wq hw 205 rfl) (wq hw 199 rfl) (wq hw 206 rfl) (c70_checkLength hw hs) (by decide) pd_II_V rfl rfl rfl rfl (by decide) (fun v D' h => ?_)
  obtain ⟨rfl, rfl⟩ := h
  show W _ _ _ _ _ _ _ _ _ _ _ _ 5 _ []
  refine W.iloadN d38_5 rfl ?_
  refine W.iloadN d38_6 rfl ?_
  refine W.isubK (3 : Int32) d38_7 (by decide) ?_
  refine W.istoreN (ls' := #[rv p1, iv 0, iv 3, iv 3, uu]) d38_8 rfl ?_
  refine W.iloadN d38_9 rfl ?_
  refine W.newarr 3 (ad := "[B") (ty := .byte) d38_10 rfl (wq hw 23 rfl) ix3 rfl (by decide) (by decide) (fun a1 => ?_)
  show W _ _ _ _ _ _ _ _ _ _ _ _ 12 _ [(vr a1)]
  refine W.astore (ls' := #[rv p1, iv 0, iv 3, iv 3, rv a1]) d38_12 rfl rfl ?_
  refine W.aloadN d38_14 rfl rfl ?_
  refine W.iloadN d38_15 rfl ?_
  refine W.aload 4 d38_16 rfl rfl ?_
  refine W.iconst (0) d38_18 (by decide) ?_
  refine W.aloadN d38_19 rfl rfl ?_
  refine W.alen (16) d38_20 (mS mp1) rfl ?_
  refine W.iloadN d38_21 rfl ?_
  refine W.isubK (16 : Int32) d38_22 (by decide) ?_
  refine W.iloadN d38_23 rfl ?_
  refine W.callS (as := [(vi 16), (vi 3)]) 4 [(vi 0), (vr a1), (vi 0), (vr p1)] d38_24 (wq hw 207 rfl) (wq hw 208 rfl) (wq hw 209 rfl) (wq hw 210 rfl) (c71_min hw hs) (by decide) pd_II_I rfl rfl rfl rfl (by decide) (fun v D' h => ?_)
  obtain ⟨rfl, rfl⟩ := h
  show W _ _ _ _ _ _ _ _ _ _ _ _ 27 _ [(vi 3), (vi 0), (vr a1), (vi 0), (vr p1)]
  refine W.cpy (D' := (a1, true, ar "[B" .byte [(vi x1), (vi 47), (vi x2)]) :: F) 0 0 0 3 0 d38_27 (wq hw 211 rfl) (wq hw 163 rfl) (wq hw 161 rfl) (wq hw 162 rfl) (mS mp1) rfl rfl ix0 ix0 ix3 ⟨Nat.le_of_ble_eq_true rfl, Nat.le_of_ble_eq_true rfl⟩ rfl rfl (by decide) rfl ?_
  refine W.aload 4 d38_30 rfl rfl ?_
  exact W.areturn d38_32 rfl rfl rfl (by decide) ⟨a1, rfl, rfl⟩
theorem pd__BII__B : parseMethodDescriptor "([BII)[B" = some ⟨[(.array .byte), .int, .int], some (.array .byte)⟩ := by decide +kernel
theorem d37_16 : decode jdk_65_method_132_code 16 = .ok (.areturn, 1) := by decide +kernel
abbrev y41 : MethodName := ⟨"java/util/Arrays", "copyOfRange", "([BII)[B"⟩
abbrev y41b : ByteArray := jdk_65_method_132_code
abbrev y41r : Option Jvm.ClassFile.FieldType := (Option.some (Jvm.ClassFile.FieldType.array Jvm.ClassFile.FieldType.byte))
theorem c68_copyOfRange {Z a0} (hw : HW a0 Z) (hs : SF Z) {p1 : Addr} {x1 : Int32} (hx1 : (45 ≤ x1.toInt ∧ x1.toInt ≤ 46) ∨ (48 ≤ x1.toInt ∧ x1.toInt ≤ 57) ∨ (65 ≤ x1.toInt ∧ x1.toInt ≤ 90) ∨ x1.toInt = 95 ∨ (97 ≤ x1.toInt ∧ x1.toInt ≤ 122)) {x2 : Int32} (hx2 : (45 ≤ x2.toInt ∧ x2.toInt ≤ 46) ∨ (48 ≤ x2.toInt ∧ x2.toInt ≤ 58) ∨ (65 ≤ x2.toInt ∧ x2.toInt ≤ 90) ∨ x2.toInt = 95 ∨ (97 ≤ x2.toInt ∧ x2.toInt ≤ 122)) {e_p1_3 e_p1_4 e_p1_5 e_p1_6 e_p1_7 e_p1_8 e_p1_9 e_p1_10 e_p1_11 e_p1_12 e_p1_13 e_p1_14 e_p1_15 : Value} {w_p1 : Bool} {ad_p1 : String} {F : List Ent} (mp1 : (p1, w_p1, ar ad_p1 .byte [(vi x1), (vi 47), (vi x2), e_p1_3, e_p1_4, e_p1_5, e_p1_6, e_p1_7, e_p1_8, e_p1_9, e_p1_10, e_p1_11, e_p1_12, e_p1_13, e_p1_14, e_p1_15]) ∈ F) : Con Z EL y41 y41b 3 y41r (rmm 2 1 3 64) [(vr p1), (vi 0), (vi 3)] (F) (fun v D' => (∃ a1 : Addr, v = some (vr a1) ∧ (a1, true, ar "[B" .byte [(vi x1), (vi 47), (vi x2)]) :: F = D')) := by
  refine Con.of (ls := #[rv p1, iv 0, iv 3]) (by decide +kernel) rfl ?_
  refine W.iloadN d37_0 rfl ?_
  refine W.ifN d37_1 (n_ne (by decide)) ?_
  refine W.iloadN d37_4 rfl ?_
  refine W.aloadN d37_5 rfl rfl ?_
  refine W.alen (16) d37_6 mp1 rfl ?_
  refine W.icmpN d37_7 (n_eq (by decide)) ?_
  refine W.aloadN d37_10 rfl rfl ?_
  refine W.iloadN d37_11 rfl ?_
  refine W.iloadN d37_12 rfl ?_
  refine W.callS (as := [(vr p1), (vi 0), (vi 3)]) 0 [] d37_13 (wq hw 201 rfl) (wq hw 202 rfl) (wq hw 199 rfl) (wq hw 203 rfl) (c69_copyOfRangeByte hw hs (hx1 := hx1) (hx2 := hx2) (mp1 := mp1)) (by decide) pd__BII__B rfl rfl rfl rfl (by decide) (fun v D' h => ?_)
  obtain ⟨a1, rfl, rfl⟩ := h
  show W _ _ _ _ _ _ _ _ _ _ _ _ 16 _ [(vr a1)]
  exact W.areturn d37_16 rfl rfl rfl (by decide) ⟨a1, rfl, rfl⟩
theorem d32_35 : decode jdk_42_method_150_code 35 = .ok (.putfield 9, 3) := by decide +kernel
theorem d32_38 : decode jdk_42_method_150_code 38 = .ok (.goto 59, 3) := by decide +kernel
theorem d32_97 : decode jdk_42_method_150_code 97 = .ok (.return_, 1) := by decide +kernel
abbrev y42 : MethodName := ⟨"java/lang/String", "<init>", "(Ljava/lang/AbstractStringBuilder;Ljava/lang/Void;)V"⟩
abbrev y42b : ByteArray := jdk_42_method_150_code
abbrev y42r : Option Jvm.ClassFile.FieldType := (Option.none : Option Jvm.ClassFile.FieldType)
theorem c63_init {Z a0} (hw : HW a0 Z) (hs : SF Z) {p1 p2 p3 : Addr} {x1 : Int32} (hx1 : (45 ≤ x1.toInt ∧ x1.toInt ≤ 46) ∨ (48 ≤ x1.toInt ∧ x1.toInt ≤ 57) ∨ (65 ≤ x1.toInt ∧ x1.toInt ≤ 90) ∨ x1.toInt = 95 ∨ (97 ≤ x1.toInt ∧ x1.toInt ≤ 122)) {x2 : Int32} (hx2 : (45 ≤ x2.toInt ∧ x2.toInt ≤ 46) ∨ (48 ≤ x2.toInt ∧ x2.toInt ≤ 58) ∨ (65 ≤ x2.toInt ∧ x2.toInt ≤ 90) ∨ x2.toInt = 95 ∨ (97 ≤ x2.toInt ∧ x2.toInt ≤ 122)) {e_p3_3 e_p3_4 e_p3_5 e_p3_6 e_p3_7 e_p3_8 e_p3_9 e_p3_10 e_p3_11 e_p3_12 e_p3_13 e_p3_14 e_p3_15 : Value} {w_p2 : Bool} {w_p3 : Bool} {ad_p3 : String} {F : List Ent} (mp2 : (p2, w_p2, oStringBuilder (vr p3) (vi 0) (vi 3)) ∈ F) (mp3 : (p3, w_p3, ar ad_p3 .byte [(vi x1), (vi 47), (vi x2), e_p3_3, e_p3_4, e_p3_5, e_p3_6, e_p3_7, e_p3_8, e_p3_9, e_p3_10, e_p3_11, e_p3_12, e_p3_13, e_p3_14, e_p3_15]) ∈ F) : Con Z EL y42 y42b 5 y42r (rmm 3 1 3 79) [(vr p1), (vr p2), .null] ((p1, true, oString .null (vi 0)) :: F) (fun v D' => (∃ a1 : Addr, v = none ∧ (a1, true, ar "[B" .byte [(vi x1), (vi 47), (vi x2)]) :: (p1, true, oString (vr a1) (vi 0)) :: F = D')) := by
  refine Con.of (ls := #[rv p1, rv p2, .val .null, uu, uu]) (by decide +kernel) rfl ?_
  refine W.aloadN d32_0 rfl rfl ?_
  refine W.initO 0 d32_1 (wq hw 28 rfl) (wq hw 29 rfl) (wq hw 30 rfl) rfl rfl (by decide) ?_
  refine W.aloadN d32_4 rfl rfl ?_
  refine W.callV (as := []) 0 [] d32_5 (wq hw 179 rfl) (wq hw 180 rfl) (wq hw 182 rfl) (wq hw 182 rfl) (wq hw 181 rfl) (wq hw 118 rfl) (wq hw 183 rfl) (Hp.exa (mS mp2)) (c64_getValue hw hs (mp1 := (mS mp2))) (by decide) pd___B rfl rfl rfl rfl (by decide) (fun v D' h => ?_)
  obtain ⟨rfl, rfl⟩ := h
  show W _ _ _ _ _ _ _ _ _ _ _ _ 8 _ [(vr p3)]
  refine W.astoreN (ls' := #[rv p1, rv p2, .val .null, rv p3, uu]) d32_8 rfl rfl ?_
  refine W.aloadN d32_9 rfl rfl ?_
  refine W.callVN (as := []) 0 [] d32_10 (wq hw 184 rfl) (wq hw 185 rfl) (by rfl) (wq hw 140 rfl) (wq hw 142 rfl) (wq hw 187 rfl) (wq hw 188 rfl) (wq hw 110 rfl) (wq hw 189 rfl) (Hp.exa (mS mp2)) (c65_length hw hs (mp1 := (mS mp2))) (by decide) pd__I rfl rfl rfl rfl (by decide) (fun v D' h => ?_)
  obtain ⟨rfl, rfl⟩ := h
  show W _ _ _ _ _ _ _ _ _ _ _ _ 13 _ [(vi 3)]
  refine W.istore (ls' := #[rv p1, rv p2, .val .null, rv p3, iv 3]) d32_13 rfl ?_
  refine W.aloadN d32_15 rfl rfl ?_
  refine W.callV (as := []) 0 [] d32_16 (wq hw 192 rfl) (wq hw 193 rfl) (wq hw 195 rfl) (wq hw 195 rfl) (wq hw 194 rfl) (wq hw 118 rfl) (wq hw 196 rfl) (Hp.exa (mS mp2)) (c67_isLatin1 hw hs (mp1 := (mS mp2))) (by decide) pd__Z rfl rfl rfl rfl (by decide) (fun v D' h => ?_)
  obtain ⟨rfl, rfl⟩ := h
  show W _ _ _ _ _ _ _ _ _ _ _ _ 19 _ [(vi 1)]
  refine W.ifN d32_19 (n_eq (by decide)) ?_
  refine W.aloadN d32_22 rfl rfl ?_
  refine W.iconst (0) d32_23 (by decide) ?_
  refine W.putf (D' := (p1, true, oString .null (vi 0)) :: F) 0 1 d32_24 (wq hw 33 rfl) Via.refl rfl rfl (Or.inr ⟨(wq hw 34 rfl), rfl, rfl⟩) (wq hw 19 rfl) pfB (nw_byte (by decide)) (ft_byte (by decide)) rfl ?_
  refine W.aloadN d32_27 rfl rfl ?_
  refine W.aloadN d32_28 rfl rfl ?_
  refine W.iconst (0) d32_29 (by decide) ?_
  refine W.iload d32_30 rfl ?_
  refine W.callS (as := [(vr p3), (vi 0), (vi 3)]) 1 [(vr p1)] d32_32 (wq hw 197 rfl) (wq hw 198 rfl) (wq hw 199 rfl) (wq hw 200 rfl) (c68_copyOfRange hw hs (hx1 := hx1) (hx2 := hx2) (mp1 := (mS mp3))) (by decide) pd__BII__B rfl rfl rfl rfl (by decide) (fun v D' h => ?_)
  obtain ⟨a1, rfl, rfl⟩ := h
  show W _ _ _ _ _ _ _ _ _ _ _ _ 35 _ [(vr a1), (vr p1)]
  refine W.putf (D' := (a1, true, ar "[B" .byte [(vi x1), (vi 47), (vi x2)]) :: (p1, true, oString (vr a1) (vi 0)) :: F) 1 0 d32_35 (wq hw 31 rfl) Via.refl rfl rfl (Or.inr ⟨(wq hw 32 rfl), rfl, rfl⟩) (wq hw 19 rfl) pf_B rfl rfl rfl ?_
  refine W.goto 97 d32_38 (by decide) ?_
  exact W.return_ d32_97 rfl (by decide) ⟨a1, rfl, rfl⟩
theorem pd_Ljava_lang_AbstractStringBuilder_Ljava_lang_Void__V : parseMethodDescriptor "(Ljava/lang/AbstractStringBuilder;Ljava/lang/Void;)V" = some ⟨[(.object "java/lang/AbstractStringBuilder"), (.object "java/lang/Void")], none⟩ := by decide +kernel
theorem d31_6 : decode jdk_42_method_53_code 6 = .ok (.return_, 1) := by decide +kernel
abbrev y43 : MethodName := ⟨"java/lang/String", "<init>", "(Ljava/lang/StringBuilder;)V"⟩
abbrev y43b : ByteArray := jdk_42_method_53_code
abbrev y43r : Option Jvm.ClassFile.FieldType := (Option.none : Option Jvm.ClassFile.FieldType)
theorem c62_init {Z a0} (hw : HW a0 Z) (hs : SF Z) {p1 p2 p3 : Addr} {x1 : Int32} (hx1 : (45 ≤ x1.toInt ∧ x1.toInt ≤ 46) ∨ (48 ≤ x1.toInt ∧ x1.toInt ≤ 57) ∨ (65 ≤ x1.toInt ∧ x1.toInt ≤ 90) ∨ x1.toInt = 95 ∨ (97 ≤ x1.toInt ∧ x1.toInt ≤ 122)) {x2 : Int32} (hx2 : (45 ≤ x2.toInt ∧ x2.toInt ≤ 46) ∨ (48 ≤ x2.toInt ∧ x2.toInt ≤ 58) ∨ (65 ≤ x2.toInt ∧ x2.toInt ≤ 90) ∨ x2.toInt = 95 ∨ (97 ≤ x2.toInt ∧ x2.toInt ≤ 122)) {e_p3_3 e_p3_4 e_p3_5 e_p3_6 e_p3_7 e_p3_8 e_p3_9 e_p3_10 e_p3_11 e_p3_12 e_p3_13 e_p3_14 e_p3_15 : Value} {w_p2 : Bool} {w_p3 : Bool} {ad_p3 : String} {F : List Ent} (mp2 : (p2, w_p2, oStringBuilder (vr p3) (vi 0) (vi 3)) ∈ F) (mp3 : (p3, w_p3, ar ad_p3 .byte [(vi x1), (vi 47), (vi x2), e_p3_3, e_p3_4, e_p3_5, e_p3_6, e_p3_7, e_p3_8, e_p3_9, e_p3_10, e_p3_11, e_p3_12, e_p3_13, e_p3_14, e_p3_15]) ∈ F) : Con Z EL y43 y43b 2 y43r (rmm 4 1 3 95) [(vr p1), (vr p2)] ((p1, true, oString .null (vi 0)) :: F) (fun v D' => (∃ a1 : Addr, v = none ∧ (a1, true, ar "[B" .byte [(vi x1), (vi 47), (vi x2)]) :: (p1, true, oString (vr a1) (vi 0)) :: F = D')) := by
  refine Con.of (ls := #[rv p1, rv p2]) (by decide +kernel) rfl ?_
  refine W.aloadN d31_0 rfl rfl ?_
  refine W.aloadN d31_1 rfl rfl ?_
  refine W.aconstNull d31_2 ?_
  refine W.callI (as := [(vr p2), .null]) 0 [] d31_3 rfl (wq hw 176 rfl) (wq hw 177 rfl) (wq hw 11 rfl) (wq hw 178 rfl) (c63_init hw hs (hx1 := hx1) (hx2 := hx2) (mp2 := mp2) (mp3 := mp3)) (by decide) pd_Ljava_lang_AbstractStringBuilder_Ljava_lang_Void__V rfl rfl rfl rfl (by decide) (fun v D' h => ?_)
  obtain ⟨a1, rfl, rfl⟩ := h
  show W _ _ _ _ _ _ _ _ _ _ _ _ 6 _ []
  exact W.return_ d31_6 rfl (by decide) ⟨a1, rfl, rfl⟩
theorem pd_Ljava_lang_StringBuilder__V : parseMethodDescriptor "(Ljava/lang/StringBuilder;)V" = some ⟨[(.object "java/lang/StringBuilder")], none⟩ := by decide +kernel
theorem d30_8 : decode jdk_67_method_42_code 8 = .ok (.areturn, 1) := by decide +kernel
abbrev y44 : MethodName := ⟨"java/lang/StringBuilder", "toString", "()Ljava/lang/String;"⟩
abbrev y44b : ByteArray := jdk_67_method_42_code
abbrev y44r : Option Jvm.ClassFile.FieldType := (Option.some (Jvm.ClassFile.FieldType.object "java/lang/String"))
theorem c61_toString {Z a0} (hw : HW a0 Z) (hs : SF Z) {p1 p2 : Addr} {x1 : Int32} (hx1 : (45 ≤ x1.toInt ∧ x1.toInt ≤ 46) ∨ (48 ≤ x1.toInt ∧ x1.toInt ≤ 57) ∨ (65 ≤ x1.toInt ∧ x1.toInt ≤ 90) ∨ x1.toInt = 95 ∨ (97 ≤ x1.toInt ∧ x1.toInt ≤ 122)) {x2 : Int32} (hx2 : (45 ≤ x2.toInt ∧ x2.toInt ≤ 46) ∨ (48 ≤ x2.toInt ∧ x2.toInt ≤ 58) ∨ (65 ≤ x2.toInt ∧ x2.toInt ≤ 90) ∨ x2.toInt = 95 ∨ (97 ≤ x2.toInt ∧ x2.toInt ≤ 122)) {e_p2_3 e_p2_4 e_p2_5 e_p2_6 e_p2_7 e_p2_8 e_p2_9 e_p2_10 e_p2_11 e_p2_12 e_p2_13 e_p2_14 e_p2_15 : Value} {w_p1 : Bool} {w_p2 : Bool} {ad_p2 : String} {F : List Ent} (mp1 : (p1, w_p1, oStringBuilder (vr p2) (vi 0) (vi 3)) ∈ F) (mp2 : (p2, w_p2, ar ad_p2 .byte [(vi x1), (vi 47), (vi x2), e_p2_3, e_p2_4, e_p2_5, e_p2_6, e_p2_7, e_p2_8, e_p2_9, e_p2_10, e_p2_11, e_p2_12, e_p2_13, e_p2_14, e_p2_15]) ∈ F) : Con Z EL y44 y44b 1 y44r (rmm 5 2 7 109) [(vr p1)] (F) (fun v D' => (∃ a1 a2 : Addr, v = some (vr a1) ∧ (a2, true, ar "[B" .byte [(vi x1), (vi 47), (vi x2)]) :: (a1, true, oString (vr a2) (vi 0)) :: F = D')) := by
  refine Con.of (ls := #[rv p1]) (by decide +kernel) rfl ?_
  refine W.new d30_0 (wq hw 172 rfl) (wq hw 19 rfl) (wq hw 11 rfl) (laString hw) (by decide) (by decide) (fun a1 => ?_)
  show W _ _ _ _ _ _ _ _ _ _ _ _ 3 _ [(vr a1)]
  refine W.dup d30_3 rfl ?_
  refine W.aloadN d30_4 rfl rfl ?_
  refine W.callI (as := [(vr p1)]) 1 [(vr a1)] d30_5 rfl (wq hw 173 rfl) (wq hw 174 rfl) (wq hw 11 rfl) (wq hw 175 rfl) (c62_init hw hs (hx1 := hx1) (hx2 := hx2) (mp2 := mp1) (mp3 := mp2)) (by decide) pd_Ljava_lang_StringBuilder__V rfl rfl rfl rfl (by decide) (fun v D' h => ?_)
  obtain ⟨a2, rfl, rfl⟩ := h
  show W _ _ _ _ _ _ _ _ _ _ _ _ 8 _ [(vr a1)]
  exact W.areturn d30_8 rfl rfl rfl (by decide) ⟨a1, a2, rfl, rfl⟩
theorem pd__Ljava_lang_String_ : parseMethodDescriptor "()Ljava/lang/String;" = some ⟨[], some (.object "java/lang/String")⟩ := by decide +kernel
theorem d21_29 : decode prog_8_method_8_code 29 = .ok (.areturn, 1) := by decide +kernel
abbrev y45 : MethodName := ⟨"com/example/cunctator/cunctator/JobKey", "toString", "()Ljava/lang/String;"⟩
abbrev y45b : ByteArray := prog_8_method_8_code
abbrev y45r : Option Jvm.ClassFile.FieldType := (Option.some (Jvm.ClassFile.FieldType.object "java/lang/String"))
theorem c42_toString {Z a0} (hw : HW a0 Z) (hs : SF Z) {p1 p2 p3 p4 p5 : Addr} {x1 : Int32} (hx1 : (45 ≤ x1.toInt ∧ x1.toInt ≤ 46) ∨ (48 ≤ x1.toInt ∧ x1.toInt ≤ 57) ∨ (65 ≤ x1.toInt ∧ x1.toInt ≤ 90) ∨ x1.toInt = 95 ∨ (97 ≤ x1.toInt ∧ x1.toInt ≤ 122)) {x2 : Int32} (hx2 : (45 ≤ x2.toInt ∧ x2.toInt ≤ 46) ∨ (48 ≤ x2.toInt ∧ x2.toInt ≤ 58) ∨ (65 ≤ x2.toInt ∧ x2.toInt ≤ 90) ∨ x2.toInt = 95 ∨ (97 ≤ x2.toInt ∧ x2.toInt ≤ 122)) {w_p1 : Bool} {w_p2 : Bool} {w_p4 : Bool} {ad_p4 : String} {w_p3 : Bool} {w_p5 : Bool} {ad_p5 : String} {F : List Ent} (mp1 : (p1, w_p1, oJobKey (vr p2) (vr p3)) ∈ F) (mp2 : (p2, w_p2, oString (vr p4) (vi 0)) ∈ F) (mp4 : (p4, w_p4, ar ad_p4 .byte [(vi x1)]) ∈ F) (mp3 : (p3, w_p3, oString (vr p5) (vi 0)) ∈ F) (mp5 : (p5, w_p5, ar ad_p5 .byte [(vi x2)]) ∈ F) : Con Z EL y45 y45b 1 y45r (rmm 6 6 35 121) [(vr p1)] (F) (fun v D' => (∃ a5 a6 : Addr, v = some (vr a5) ∧ (a6, true, ar "[B" .byte [(vi x1), (vi 47), (vi x2)]) :: (a5, true, oString (vr a6) (vi 0)) :: F = D')) := by
  refine Con.of (ls := #[rv p1]) (by decide +kernel) rfl ?_
  refine W.new d21_0 (wq hw 108 rfl) (wq hw 109 rfl) (wq hw 110 rfl) (laStringBuilder hw) (by decide) (by decide) (fun a1 => ?_)
  show W _ _ _ _ _ _ _ _ _ _ _ _ 3 _ [(vr a1)]
  refine W.dup d21_3 rfl ?_
  refine W.callI (as := []) 1 [(vr a1)] d21_4 rfl (wq hw 111 rfl) (wq hw 112 rfl) (wq hw 110 rfl) (wq hw 113 rfl) (c43_init hw hs) (by decide) pd__V rfl rfl rfl rfl (by decide) (fun v D' h => ?_)
  obtain ⟨a2, rfl, rfl⟩ := h
  show W _ _ _ _ _ _ _ _ _ _ _ _ 7 _ [(vr a1)]
  refine W.aloadN d21_7 rfl rfl ?_
  refine W.getf d21_8 (wq hw 94 rfl) Via.refl (mS (mS mp1)) m0 ?_
  refine W.callV (as := [(vr p2)]) 0 [] d21_11 (wq hw 126 rfl) (wq hw 127 rfl) (wq hw 129 rfl) (wq hw 129 rfl) (wq hw 128 rfl) (wq hw 110 rfl) (wq hw 130 rfl) (Hp.exa m1) (c45_append hw hs (hx1 := hx1) (mp2 := mp2) (mp4 := mp4)) (by decide) pd_Ljava_lang_String__Ljava_lang_StringBuilder_ rfl rfl rfl rfl (by decide) (fun v D' h => ?_)
  obtain ⟨rfl, rfl⟩ := h
  show W _ _ _ _ _ _ _ _ _ _ _ _ 14 _ [(vr a1)]
  refine W.ldcT 4 (vs := [(vi 47)]) rfl d21_14 (wq hw 164 rfl) (wS hw) m0 tx_2f (by decide) (by decide) (by decide) (fun a3 a4 => ?_)
  show W _ _ _ _ _ _ _ _ _ _ _ _ 16 _ [(vr a3), (vr a1)]
  refine W.front 3 (D' := (a1, true, oStringBuilder (vr a2) (vi 0) (vi 1)) :: (a3, false, oString (vr a4) (vi 0)) :: (a4, false, ar "" .byte [(vi 47)]) :: (a2, true, ar "[B" .byte [(vi x1), (vi 0), (vi 0), (vi 0), (vi 0), (vi 0), (vi 0), (vi 0), (vi 0), (vi 0), (vi 0), (vi 0), (vi 0), (vi 0), (vi 0), (vi 0)]) :: F) rfl rfl ?_
  refine W.front 3 (D' := (a2, true, ar "[B" .byte [(vi x1), (vi 0), (vi 0), (vi 0), (vi 0), (vi 0), (vi 0), (vi 0), (vi 0), (vi 0), (vi 0), (vi 0), (vi 0), (vi 0), (vi 0), (vi 0)]) :: (a1, true, oStringBuilder (vr a2) (vi 0) (vi 1)) :: (a3, false, oString (vr a4) (vi 0)) :: (a4, false, ar "" .byte [(vi 47)]) :: F) rfl rfl ?_
  refine W.callV (as := [(vr a3)]) 0 [] d21_16 (wq hw 126 rfl) (wq hw 127 rfl) (wq hw 129 rfl) (wq hw 129 rfl) (wq hw 128 rfl) (wq hw 110 rfl) (wq hw 130 rfl) (Hp.exa m1) (c51_append hw hs (hx1 := hx1) (mp2 := m0) (mp4 := m1)) (by decide) pd_Ljava_lang_String__Ljava_lang_StringBuilder_ rfl rfl rfl rfl (by decide) (fun v D' h => ?_)
  obtain ⟨rfl, rfl⟩ := h
  show W _ _ _ _ _ _ _ _ _ _ _ _ 19 _ [(vr a1)]
  refine W.aloadN d21_19 rfl rfl ?_
  refine W.getf d21_20 (wq hw 101 rfl) Via.refl (mS (mS (mS (mS mp1)))) m1 ?_
  refine W.callV (as := [(vr p3)]) 0 [] d21_23 (wq hw 126 rfl) (wq hw 127 rfl) (wq hw 129 rfl) (wq hw 129 rfl) (wq hw 128 rfl) (wq hw 110 rfl) (wq hw 130 rfl) (Hp.exa m1) (c56_append hw hs (hx1 := hx1) (hx2 := hx2) (mp2 := (mS (mS mp3))) (mp4 := (mS (mS mp5)))) (by decide) pd_Ljava_lang_String__Ljava_lang_StringBuilder_ rfl rfl rfl rfl (by decide) (fun v D' h => ?_)
  obtain ⟨rfl, rfl⟩ := h
  show W _ _ _ _ _ _ _ _ _ _ _ _ 26 _ [(vr a1)]
  refine W.callV (as := []) 0 [] d21_26 (wq hw 167 rfl) (wq hw 168 rfl) (wq hw 170 rfl) (wq hw 170 rfl) (wq hw 169 rfl) (wq hw 110 rfl) (wq hw 171 rfl) (Hp.exa m1) (c61_toString hw hs (hx1 := hx1) (hx2 := hx2) (mp1 := m1) (mp2 := m0)) (by decide) pd__Ljava_lang_String_ rfl rfl rfl rfl (by decide) (fun v D' h => ?_)
  obtain ⟨a5, a6, rfl, rfl⟩ := h
  show W _ _ _ _ _ _ _ _ _ _ _ _ 29 _ [(vr a5)]
  refine W.dropAt 2 (D' := (a6, true, ar "[B" .byte [(vi x1), (vi 47), (vi x2)]) :: (a5, true, oString (vr a6) (vi 0)) :: (a1, true, oStringBuilder (vr a2) (vi 0) (vi 3)) :: (a3, false, oString (vr a4) (vi 0)) :: (a4, false, ar "" .byte [(vi 47)]) :: F) rfl ?_
  refine W.dropAt 2 (D' := (a6, true, ar "[B" .byte [(vi x1), (vi 47), (vi x2)]) :: (a5, true, oString (vr a6) (vi 0)) :: (a3, false, oString (vr a4) (vi 0)) :: (a4, false, ar "" .byte [(vi 47)]) :: F) rfl ?_
  refine W.dropAt 2 (D' := (a6, true, ar "[B" .byte [(vi x1), (vi 47), (vi x2)]) :: (a5, true, oString (vr a6) (vi 0)) :: (a4, false, ar "" .byte [(vi 47)]) :: F) rfl ?_
  refine W.dropAt 2 (D' := (a6, true, ar "[B" .byte [(vi x1), (vi 47), (vi x2)]) :: (a5, true, oString (vr a6) (vi 0)) :: F) rfl ?_
  exact W.areturn d21_29 rfl rfl rfl (by decide) ⟨a5, a6, rfl, rfl⟩
theorem c72_length {Z a0} (hw : HW a0 Z) (hs : SF Z) {p1 p2 : Addr} {vs_p2 : List Value} (hvs_p2 : vs_p2.length = 3) {w_p1 : Bool} {w_p2 : Bool} {ad_p2 : String} {F : List Ent} (mp1 : (p1, w_p1, oString (vr p2) (vi 0)) ∈ F) (mp2 : (p2, w_p2, ar ad_p2 .byte vs_p2) ∈ F) : Con Z EL y9 y9b 1 y9r (rmm 1 0 0 13) [(vr p1)] (F) (fun v D' => (v = some (vi 3) ∧ F = D')) := by
  refine Con.of (ls := #[rv p1]) (by decide +kernel) rfl ?_
  refine W.aloadN d12_0 rfl rfl ?_
  refine W.getf d12_1 (wq hw 31 rfl) Via.refl mp1 m0 ?_
  refine W.alen (3) d12_4 mp2 (by rw [hvs_p2]; rfl) ?_
  refine W.aloadN d12_5 rfl rfl ?_
  refine W.callV (as := []) 1 [(vi 3)] d12_6 (wq hw 63 rfl) (wq hw 64 rfl) (wq hw 66 rfl) (wq hw 66 rfl) (wq hw 65 rfl) (wq hw 11 rfl) (wq hw 67 rfl) (Hp.exa mp1) (c15_coder hw hs (mp1 := mp1)) (by decide) pd__B rfl rfl rfl rfl (by decide) (fun v D' h => ?_)
  obtain ⟨rfl, rfl⟩ := h
  show W _ _ _ _ _ _ _ _ _ _ _ _ 9 _ [(vi 0), (vi 3)]
  refine W.ishrK (3 : Int32) d12_9 (by decide) ?_
  exact W.ireturn d12_10 rfl (Or.inl rfl) rfl (by decide) ⟨rfl, rfl⟩
theorem c76_checkIndex {Z a0} (hw : HW a0 Z) (hs : SF Z) {F : List Ent} : Con Z EL y11 y11b 3 y11r (rmm 0 0 0 0) [(vi 0), (vi 3), (sfv Z)] (F) (fun v D' => (v = some (vi 0) ∧ F = D')) := by
  refine Con.of (ls := #[iv 0, iv 3, .val (sfv Z)]) (by decide +kernel) (hent_of (ld1 rfl (ld1 rfl (ld1 (XT.cat1 hs.2.2.1) ld0))) rfl) ?_
  refine W.iloadN d18_0 rfl ?_
  refine W.ifN d18_1 (n_lt (by decide)) ?_
  refine W.iloadN d18_4 rfl ?_
  refine W.iloadN d18_5 rfl ?_
  refine W.icmpY 16 d18_6 (y_lt (by decide)) (by decide) ?_
  refine W.iloadN d18_16 rfl ?_
  exact W.ireturn d18_17 rfl (Or.inl rfl) rfl (by decide) ⟨rfl, rfl⟩
theorem c75_checkIndex {Z a0} (hw : HW a0 Z) (hs : SF Z) {F : List Ent} : Con Z EL y12 y12b 2 y12r (rmm 1 0 0 14) [(vi 0), (vi 3)] (F) (fun v D' => (v = none ∧ F = D')) := by
  refine Con.of (ls := #[iv 0, iv 3]) (by decide +kernel) rfl ?_
  refine W.iloadN d17_0 rfl ?_
  refine W.iloadN d17_1 rfl ?_
  refine W.gets d17_2 (wq hw 84 rfl) Via.refl hs.2.2.2.1 ?_
  refine W.callS (as := [(vi 0), (vi 3), (sfv Z)]) 0 [] d17_5 (wq hw 86 rfl) (wq hw 87 rfl) (wq hw 85 rfl) (wq hw 88 rfl) (c76_checkIndex hw hs) (by decide) pd_IILjava_util_function_BiFunction__I rfl rfl rfl rfl (by decide) (fun v D' h => ?_)
  obtain ⟨rfl, rfl⟩ := h
  show W _ _ _ _ _ _ _ _ _ _ _ _ 8 _ [(vi 0)]
  refine W.popv d17_8 rfl ?_
  exact W.return_ d17_9 rfl (by decide) ⟨rfl, rfl⟩
theorem c74_charAt {Z a0} (hw : HW a0 Z) (hs : SF Z) {p1 : Addr} {x1 : Int32} (hx1 : (45 ≤ x1.toInt ∧ x1.toInt ≤ 46) ∨ (48 ≤ x1.toInt ∧ x1.toInt ≤ 57) ∨ (65 ≤ x1.toInt ∧ x1.toInt ≤ 90) ∨ x1.toInt = 95 ∨ (97 ≤ x1.toInt ∧ x1.toInt ≤ 122)) {e_p1_1 e_p1_2 : Value} {w_p1 : Bool} {ad_p1 : String} {F : List Ent} (mp1 : (p1, w_p1, ar ad_p1 .byte [(vi x1), e_p1_1, e_p1_2]) ∈ F) : Con Z EL y13 y13b 2 y13r (rmm 2 0 0 27) [(vr p1), (vi 0)] (F) (fun v D' => (v = some (vi x1) ∧ F = D')) := by
  refine Con.of (ls := #[rv p1, iv 0]) (by decide +kernel) rfl ?_
  refine W.iloadN d16_0 rfl ?_
  refine W.aloadN d16_1 rfl rfl ?_
  refine W.alen (3) d16_2 mp1 rfl ?_
  refine W.callS (as := [(vi 0), (vi 3)]) 0 [] d16_3 (wq hw 81 rfl) (wq hw 82 rfl) (wq hw 11 rfl) (wq hw 83 rfl) (c75_checkIndex hw hs) (by decide) pd_II_V rfl rfl rfl rfl (by decide) (fun v D' h => ?_)
  obtain ⟨rfl, rfl⟩ := h
  show W _ _ _ _ _ _ _ _ _ _ _ _ 6 _ []
  refine W.aloadN d16_6 rfl rfl ?_
  refine W.iloadN d16_7 rfl ?_
  refine W.baload 0 d16_8 mp1 ix0 rfl ?_
  refine W.sipush (255) d16_9 (by decide) ?_
  refine W.iandK x1 d16_12 (z_and 8 256 (by decide) (by decide) (by decide) (by omega)) ?_
  refine W.i2cK x1 d16_13 (z_i2c (by omega)) ?_
  exact W.ireturn d16_14 rfl (Or.inr (Or.inr (Or.inr (Or.inl rfl)))) (nw_char (by omega)) (by decide) ⟨rfl, rfl⟩
theorem c73_charAt {Z a0} (hw : HW a0 Z) (hs : SF Z) {p1 p2 : Addr} {x1 : Int32} (hx1 : (45 ≤ x1.toInt ∧ x1.toInt ≤ 46) ∨ (48 ≤ x1.toInt ∧ x1.toInt ≤ 57) ∨ (65 ≤ x1.toInt ∧ x1.toInt ≤ 90) ∨ x1.toInt = 95 ∨ (97 ≤ x1.toInt ∧ x1.toInt ≤ 122)) {e_p2_1 e_p2_2 : Value} {w_p1 : Bool} {w_p2 : Bool} {ad_p2 : String} {F : List Ent} (mp1 : (p1, w_p1, oString (vr p2) (vi 0)) ∈ F) (mp2 : (p2, w_p2, ar ad_p2 .byte [(vi x1), e_p2_1, e_p2_2]) ∈ F) : Con Z EL y14 y14b 2 y14r (rmm 3 0 0 40) [(vr p1), (vi 0)] (F) (fun v D' => (v = some (vi x1) ∧ F = D')) := by
  refine Con.of (ls := #[rv p1, iv 0]) (by decide +kernel) rfl ?_
  refine W.aloadN d14_0 rfl rfl ?_
  refine W.callV (as := []) 0 [] d14_1 (wq hw 73 rfl) (wq hw 74 rfl) (wq hw 76 rfl) (wq hw 76 rfl) (wq hw 75 rfl) (wq hw 11 rfl) (wq hw 77 rfl) (Hp.exa mp1) (c17_isLatin1 hw hs (mp1 := mp1)) (by decide) pd__Z rfl rfl rfl rfl (by decide) (fun v D' h => ?_)
  obtain ⟨rfl, rfl⟩ := h
  show W _ _ _ _ _ _ _ _ _ _ _ _ 4 _ [(vi 1)]
  refine W.ifN d14_4 (n_eq (by decide)) ?_
  refine W.aloadN d14_7 rfl rfl ?_
  refine W.getf d14_8 (wq hw 31 rfl) Via.refl mp1 m0 ?_
  refine W.iloadN d14_11 rfl ?_
  refine W.callS (as := [(vr p2), (vi 0)]) 0 [] d14_12 (wq hw 78 rfl) (wq hw 79 rfl) (wq hw 16 rfl) (wq hw 80 rfl) (c74_charAt hw hs (hx1 := hx1) (mp1 := mp2)) (by decide) pd__BI_C rfl rfl rfl rfl (by decide) (fun v D' h => ?_)
  obtain ⟨rfl, rfl⟩ := h
  show W _ _ _ _ _ _ _ _ _ _ _ _ 15 _ [(vi x1)]
  exact W.ireturn d14_15 rfl (Or.inr (Or.inr (Or.inr (Or.inl rfl)))) (nw_char (by omega)) (by decide) ⟨rfl, rfl⟩
theorem c80_checkIndex {Z a0} (hw : HW a0 Z) (hs : SF Z) {F : List Ent} : Con Z EL y11 y11b 3 y11r (rmm 0 0 0 0) [(vi 1), (vi 3), (sfv Z)] (F) (fun v D' => (v = some (vi 1) ∧ F = D')) := by
  refine Con.of (ls := #[iv 1, iv 3, .val (sfv Z)]) (by decide +kernel) (hent_of (ld1 rfl (ld1 rfl (ld1 (XT.cat1 hs.2.2.1) ld0))) rfl) ?_
  refine W.iloadN d18_0 rfl ?_
  refine W.ifN d18_1 (n_lt (by decide)) ?_
  refine W.iloadN d18_4 rfl ?_
  refine W.iloadN d18_5 rfl ?_
  refine W.icmpY 16 d18_6 (y_lt (by decide)) (by decide) ?_
  refine W.iloadN d18_16 rfl ?_
  exact W.ireturn d18_17 rfl (Or.inl rfl) rfl (by decide) ⟨rfl, rfl⟩
theorem c79_checkIndex {Z a0} (hw : HW a0 Z) (hs : SF Z) {F : List Ent} : Con Z EL y12 y12b 2 y12r (rmm 1 0 0 14) [(vi 1), (vi 3)] (F) (fun v D' => (v = none ∧ F = D')) := by
  refine Con.of (ls := #[iv 1, iv 3]) (by decide +kernel) rfl ?_
  refine W.iloadN d17_0 rfl ?_
  refine W.iloadN d17_1 rfl ?_
  refine W.gets d17_2 (wq hw 84 rfl) Via.refl hs.2.2.2.1 ?_
  refine W.callS (as := [(vi 1), (vi 3), (sfv Z)]) 0 [] d17_5 (wq hw 86 rfl) (wq hw 87 rfl) (wq hw 85 rfl) (wq hw 88 rfl) (c80_checkIndex hw hs) (by decide) pd_IILjava_util_function_BiFunction__I rfl rfl rfl rfl (by decide) (fun v D' h => ?_)
  obtain ⟨rfl, rfl⟩ := h
  show W _ _ _ _ _ _ _ _ _ _ _ _ 8 _ [(vi 1)]
  refine W.popv d17_8 rfl ?_
  exact W.return_ d17_9 rfl (by decide) ⟨rfl, rfl⟩
theorem c78_charAt {Z a0} (hw : HW a0 Z) (hs : SF Z) {p1 : Addr} {e_p1_0 e_p1_2 : Value} {w_p1 : Bool} {ad_p1 : String} {F : List Ent} (mp1 : (p1, w_p1, ar ad_p1 .byte [e_p1_0, (vi 47), e_p1_2]) ∈ F) : Con Z EL y13 y13b 2 y13r (rmm 2 0 0 27) [(vr p1), (vi 1)] (F) (fun v D' => (v = some (vi 47) ∧ F = D')) := by
  refine Con.of (ls := #[rv p1, iv 1]) (by decide +kernel) rfl ?_
  refine W.iloadN d16_0 rfl ?_
  refine W.aloadN d16_1 rfl rfl ?_
  refine W.alen (3) d16_2 mp1 rfl ?_
  refine W.callS (as := [(vi 1), (vi 3)]) 0 [] d16_3 (wq hw 81 rfl) (wq hw 82 rfl) (wq hw 11 rfl) (wq hw 83 rfl) (c79_checkIndex hw hs) (by decide) pd_II_V rfl rfl rfl rfl (by decide) (fun v D' h => ?_)
  obtain ⟨rfl, rfl⟩ := h
  show W _ _ _ _ _ _ _ _ _ _ _ _ 6 _ []
  refine W.aloadN d16_6 rfl rfl ?_
  refine W.iloadN d16_7 rfl ?_
  refine W.baload 1 d16_8 mp1 ix1 rfl ?_
  refine W.sipush (255) d16_9 (by decide) ?_
  refine W.iandK (47 : Int32) d16_12 (by decide) ?_
  refine W.i2cK (47 : Int32) d16_13 (by decide) ?_
  exact W.ireturn d16_14 rfl (Or.inr (Or.inr (Or.inr (Or.inl rfl)))) (nw_char (by decide)) (by decide) ⟨rfl, rfl⟩
theorem c77_charAt {Z a0} (hw : HW a0 Z) (hs : SF Z) {p1 p2 : Addr} {e_p2_0 e_p2_2 : Value} {w_p1 : Bool} {w_p2 : Bool} {ad_p2 : String} {F : List Ent} (mp1 : (p1, w_p1, oString (vr p2) (vi 0)) ∈ F) (mp2 : (p2, w_p2, ar ad_p2 .byte [e_p2_0, (vi 47), e_p2_2]) ∈ F) : Con Z EL y14 y14b 2 y14r (rmm 3 0 0 40) [(vr p1), (vi 1)] (F) (fun v D' => (v = some (vi 47) ∧ F = D')) := by
  refine Con.of (ls := #[rv p1, iv 1]) (by decide +kernel) rfl ?_
  refine W.aloadN d14_0 rfl rfl ?_
  refine W.callV (as := []) 0 [] d14_1 (wq hw 73 rfl) (wq hw 74 rfl) (wq hw 76 rfl) (wq hw 76 rfl) (wq hw 75 rfl) (wq hw 11 rfl) (wq hw 77 rfl) (Hp.exa mp1) (c17_isLatin1 hw hs (mp1 := mp1)) (by decide) pd__Z rfl rfl rfl rfl (by decide) (fun v D' h => ?_)
  obtain ⟨rfl, rfl⟩ := h
  show W _ _ _ _ _ _ _ _ _ _ _ _ 4 _ [(vi 1)]
  refine W.ifN d14_4 (n_eq (by decide)) ?_
  refine W.aloadN d14_7 rfl rfl ?_
  refine W.getf d14_8 (wq hw 31 rfl) Via.refl mp1 m0 ?_
  refine W.iloadN d14_11 rfl ?_
  refine W.callS (as := [(vr p2), (vi 1)]) 0 [] d14_12 (wq hw 78 rfl) (wq hw 79 rfl) (wq hw 16 rfl) (wq hw 80 rfl) (c78_charAt hw hs (mp1 := mp2)) (by decide) pd__BI_C rfl rfl rfl rfl (by decide) (fun v D' h => ?_)
  obtain ⟨rfl, rfl⟩ := h
  show W _ _ _ _ _ _ _ _ _ _ _ _ 15 _ [(vi 47)]
  exact W.ireturn d14_15 rfl (Or.inr (Or.inr (Or.inr (Or.inl rfl)))) (nw_char (by decide)) (by decide) ⟨rfl, rfl⟩
theorem c84_checkIndex {Z a0} (hw : HW a0 Z) (hs : SF Z) {F : List Ent} : Con Z EL y11 y11b 3 y11r (rmm 0 0 0 0) [(vi 2), (vi 3), (sfv Z)] (F) (fun v D' => (v = some (vi 2) ∧ F = D')) := by
  refine Con.of (ls := #[iv 2, iv 3, .val (sfv Z)]) (by decide +kernel) (hent_of (ld1 rfl (ld1 rfl (ld1 (XT.cat1 hs.2.2.1) ld0))) rfl) ?_
  refine W.iloadN d18_0 rfl ?_
  refine W.ifN d18_1 (n_lt (by decide)) ?_
  refine W.iloadN d18_4 rfl ?_
  refine W.iloadN d18_5 rfl ?_
  refine W.icmpY 16 d18_6 (y_lt (by decide)) (by decide) ?_
  refine W.iloadN d18_16 rfl ?_
  exact W.ireturn d18_17 rfl (Or.inl rfl) rfl (by decide) ⟨rfl, rfl⟩
theorem c83_checkIndex {Z a0} (hw : HW a0 Z) (hs : SF Z) {F : List Ent} : Con Z EL y12 y12b 2 y12r (rmm 1 0 0 14) [(vi 2), (vi 3)] (F) (fun v D' => (v = none ∧ F = D')) := by
  refine Con.of (ls := #[iv 2, iv 3]) (by decide +kernel) rfl ?_
  refine W.iloadN d17_0 rfl ?_
  refine W.iloadN d17_1 rfl ?_
  refine W.gets d17_2 (wq hw 84 rfl) Via.refl hs.2.2.2.1 ?_
  refine W.callS (as := [(vi 2), (vi 3), (sfv Z)]) 0 [] d17_5 (wq hw 86 rfl) (wq hw 87 rfl) (wq hw 85 rfl) (wq hw 88 rfl) (c84_checkIndex hw hs) (by decide) pd_IILjava_util_function_BiFunction__I rfl rfl rfl rfl (by decide) (fun v D' h => ?_)
  obtain ⟨rfl, rfl⟩ := h
  show W _ _ _ _ _ _ _ _ _ _ _ _ 8 _ [(vi 2)]
  refine W.popv d17_8 rfl ?_
  exact W.return_ d17_9 rfl (by decide) ⟨rfl, rfl⟩
theorem c82_charAt {Z a0} (hw : HW a0 Z) (hs : SF Z) {p1 : Addr} {x2 : Int32} (hx2 : (45 ≤ x2.toInt ∧ x2.toInt ≤ 46) ∨ (48 ≤ x2.toInt ∧ x2.toInt ≤ 58) ∨ (65 ≤ x2.toInt ∧ x2.toInt ≤ 90) ∨ x2.toInt = 95 ∨ (97 ≤ x2.toInt ∧ x2.toInt ≤ 122)) {e_p1_0 e_p1_1 : Value} {w_p1 : Bool} {ad_p1 : String} {F : List Ent} (mp1 : (p1, w_p1, ar ad_p1 .byte [e_p1_0, e_p1_1, (vi x2)]) ∈ F) : Con Z EL y13 y13b 2 y13r (rmm 2 0 0 27) [(vr p1), (vi 2)] (F) (fun v D' => (v = some (vi x2) ∧ F = D')) := by
  refine Con.of (ls := #[rv p1, iv 2]) (by decide +kernel) rfl ?_
  refine W.iloadN d16_0 rfl ?_
  refine W.aloadN d16_1 rfl rfl ?_
  refine W.alen (3) d16_2 mp1 rfl ?_
  refine W.callS (as := [(vi 2), (vi 3)]) 0 [] d16_3 (wq hw 81 rfl) (wq hw 82 rfl) (wq hw 11 rfl) (wq hw 83 rfl) (c83_checkIndex hw hs) (by decide) pd_II_V rfl rfl rfl rfl (by decide) (fun v D' h => ?_)
  obtain ⟨rfl, rfl⟩ := h
  show W _ _ _ _ _ _ _ _ _ _ _ _ 6 _ []
  refine W.aloadN d16_6 rfl rfl ?_
  refine W.iloadN d16_7 rfl ?_
  refine W.baload 2 d16_8 mp1 ix2 rfl ?_
  refine W.sipush (255) d16_9 (by decide) ?_
  refine W.iandK x2 d16_12 (z_and 8 256 (by decide) (by decide) (by decide) (by omega)) ?_
  refine W.i2cK x2 d16_13 (z_i2c (by omega)) ?_
  exact W.ireturn d16_14 rfl (Or.inr (Or.inr (Or.inr (Or.inl rfl)))) (nw_char (by omega)) (by decide) ⟨rfl, rfl⟩
theorem c81_charAt {Z a0} (hw : HW a0 Z) (hs : SF Z) {p1 p2 : Addr} {x2 : Int32} (hx2 : (45 ≤ x2.toInt ∧ x2.toInt ≤ 46) ∨ (48 ≤ x2.toInt ∧ x2.toInt ≤ 58) ∨ (65 ≤ x2.toInt ∧ x2.toInt ≤ 90) ∨ x2.toInt = 95 ∨ (97 ≤ x2.toInt ∧ x2.toInt ≤ 122)) {e_p2_0 e_p2_1 : Value} {w_p1 : Bool} {w_p2 : Bool} {ad_p2 : String} {F : List Ent} (mp1 : (p1, w_p1, oString (vr p2) (vi 0)) ∈ F) (mp2 : (p2, w_p2, ar ad_p2 .byte [e_p2_0, e_p2_1, (vi x2)]) ∈ F) : Con Z EL y14 y14b 2 y14r (rmm 3 0 0 40) [(vr p1), (vi 2)] (F) (fun v D' => (v = some (vi x2) ∧ F = D')) := by
  refine Con.of (ls := #[rv p1, iv 2]) (by decide +kernel) rfl ?_
  refine W.aloadN d14_0 rfl rfl ?_
  refine W.callV (as := []) 0 [] d14_1 (wq hw 73 rfl) (wq hw 74 rfl) (wq hw 76 rfl) (wq hw 76 rfl) (wq hw 75 rfl) (wq hw 11 rfl) (wq hw 77 rfl) (Hp.exa mp1) (c17_isLatin1 hw hs (mp1 := mp1)) (by decide) pd__Z rfl rfl rfl rfl (by decide) (fun v D' h => ?_)
  obtain ⟨rfl, rfl⟩ := h
  show W _ _ _ _ _ _ _ _ _ _ _ _ 4 _ [(vi 1)]
  refine W.ifN d14_4 (n_eq (by decide)) ?_
  refine W.aloadN d14_7 rfl rfl ?_
  refine W.getf d14_8 (wq hw 31 rfl) Via.refl mp1 m0 ?_
  refine W.iloadN d14_11 rfl ?_
  refine W.callS (as := [(vr p2), (vi 2)]) 0 [] d14_12 (wq hw 78 rfl) (wq hw 79 rfl) (wq hw 16 rfl) (wq hw 80 rfl) (c82_charAt hw hs (hx2 := hx2) (mp1 := mp2)) (by decide) pd__BI_C rfl rfl rfl rfl (by decide) (fun v D' h => ?_)
  obtain ⟨rfl, rfl⟩ := h
  show W _ _ _ _ _ _ _ _ _ _ _ _ 15 _ [(vi x2)]
  exact W.ireturn d14_15 rfl (Or.inr (Or.inr (Or.inr (Or.inl rfl)))) (nw_char (by omega)) (by decide) ⟨rfl, rfl⟩
theorem d41_0 : decode jdk_42_method_3_code 0 = .ok (.aload_n 0, 1) := by decide +kernel
theorem d41_1 : decode jdk_42_method_3_code 1 = .ok (.aload_n 1, 1) := by decide +kernel
theorem d41_2 : decode jdk_42_method_3_code 2 = .ok (.iconst 0, 1) := by decide +kernel
theorem d41_3 : decode jdk_42_method_3_code 3 = .ok (.aload_n 1, 1) := by decide +kernel
theorem d41_4 : decode jdk_42_method_3_code 4 = .ok (.arraylength, 1) := by decide +kernel
theorem d41_5 : decode jdk_42_method_3_code 5 = .ok (.aconst_null, 1) := by decide +kernel
theorem d41_6 : decode jdk_42_method_3_code 6 = .ok (.invokespecial 27, 3) := by decide +kernel
theorem d42_0 : decode jdk_42_method_149_code 0 = .ok (.aload_n 0, 1) := by decide +kernel
theorem d42_1 : decode jdk_42_method_149_code 1 = .ok (.invokespecial 1, 3) := by decide +kernel
theorem d42_4 : decode jdk_42_method_149_code 4 = .ok (.iload_n 3, 1) := by decide +kernel
theorem d42_5 : decode jdk_42_method_149_code 5 = .ok (.ifCond .ne 22, 3) := by decide +kernel
theorem d42_27 : decode jdk_42_method_149_code 27 = .ok (.getstatic 38, 3) := by decide +kernel
theorem d42_30 : decode jdk_42_method_149_code 30 = .ok (.ifCond .eq 28, 3) := by decide +kernel
theorem d42_33 : decode jdk_42_method_149_code 33 = .ok (.aload_n 1, 1) := by decide +kernel
theorem d42_34 : decode jdk_42_method_149_code 34 = .ok (.iload_n 2, 1) := by decide +kernel
theorem d42_35 : decode jdk_42_method_149_code 35 = .ok (.iload_n 3, 1) := by decide +kernel
theorem d42_36 : decode jdk_42_method_149_code 36 = .ok (.invokestatic 177, 3) := by decide +kernel
theorem d43_0 : decode jdk_52_method_16_code 0 = .ok (.iload_n 2, 1) := by decide +kernel
theorem d43_1 : decode jdk_52_method_16_code 1 = .ok (.newarray .byte, 2) := by decide +kernel
theorem d43_3 : decode jdk_52_method_16_code 3 = .ok (.astore_n 3, 1) := by decide +kernel
theorem d43_4 : decode jdk_52_method_16_code 4 = .ok (.aload_n 0, 1) := by decide +kernel
theorem d43_5 : decode jdk_52_method_16_code 5 = .ok (.iload_n 1, 1) := by decide +kernel
theorem d43_6 : decode jdk_52_method_16_code 6 = .ok (.aload_n 3, 1) := by decide +kernel
theorem d43_7 : decode jdk_52_method_16_code 7 = .ok (.iconst 0, 1) := by decide +kernel
theorem d43_8 : decode jdk_52_method_16_code 8 = .ok (.iload_n 2, 1) := by decide +kernel
theorem d43_9 : decode jdk_52_method_16_code 9 = .ok (.invokestatic 115, 3) := by decide +kernel
theorem d44_0 : decode jdk_52_method_21_code 0 = .ok (.iconst 0, 1) := by decide +kernel
theorem d44_1 : decode jdk_52_method_21_code 1 = .ok (.istore 5, 2) := by decide +kernel
theorem d44_3 : decode jdk_52_method_21_code 3 = .ok (.iload 5, 2) := by decide +kernel
theorem d44_5 : decode jdk_52_method_21_code 5 = .ok (.iload 4, 2) := by decide +kernel
theorem d44_7 : decode jdk_52_method_21_code 7 = .ok (.if_icmp .ge 37, 3) := by decide +kernel
theorem d44_10 : decode jdk_52_method_21_code 10 = .ok (.aload_n 0, 1) := by decide +kernel
theorem d44_11 : decode jdk_52_method_21_code 11 = .ok (.iload_n 1, 1) := by decide +kernel
theorem d44_12 : decode jdk_52_method_21_code 12 = .ok (.caload, 1) := by decide +kernel
theorem d44_13 : decode jdk_52_method_21_code 13 = .ok (.istore 6, 2) := by decide +kernel
theorem d44_15 : decode jdk_52_method_21_code 15 = .ok (.iload 6, 2) := by decide +kernel
theorem d44_17 : decode jdk_52_method_21_code 17 = .ok (.sipush 255, 3) := by decide +kernel
theorem d44_20 : decode jdk_52_method_21_code 20 = .ok (.if_icmp .le 6, 3) := by decide +kernel
theorem d44_26 : decode jdk_52_method_21_code 26 = .ok (.aload_n 2, 1) := by decide +kernel
theorem d44_27 : decode jdk_52_method_21_code 27 = .ok (.iload_n 3, 1) := by decide +kernel
theorem d44_28 : decode jdk_52_method_21_code 28 = .ok (.iload 6, 2) := by decide +kernel
theorem d44_30 : decode jdk_52_method_21_code 30 = .ok (.i2b, 1) := by decide +kernel
theorem d44_31 : decode jdk_52_method_21_code 31 = .ok (.bastore, 1) := by decide +kernel
theorem d44_32 : decode jdk_52_method_21_code 32 = .ok (.iinc 1 1, 3) := by decide +kernel
theorem d44_35 : decode jdk_52_method_21_code 35 = .ok (.iinc 3 1, 3) := by decide +kernel
theorem d44_38 : decode jdk_52_method_21_code 38 = .ok (.iinc 5 1, 3) := by decide +kernel
theorem d44_41 : decode jdk_52_method_21_code 41 = .ok (.goto (-38), 3) := by decide +kernel
theorem d44_44 : decode jdk_52_method_21_code 44 = .ok (.iload 4, 2) := by decide +kernel
theorem d44_46 : decode jdk_52_method_21_code 46 = .ok (.ireturn, 1) := by decide +kernel
abbrev y46 : MethodName := ⟨"java/lang/StringUTF16", "compress", "([CI[BII)I"⟩
abbrev y46b : ByteArray := jdk_52_method_21_code
abbrev y46r : Option Jvm.ClassFile.FieldType := (Option.some Jvm.ClassFile.FieldType.int)
theorem c88_compress {Z a0} (hw : HW a0 Z) (hs : SF Z) {p1 p2 : Addr} {x1 : Int32} (hx1 : (45 ≤ x1.toInt ∧ x1.toInt ≤ 46) ∨ (48 ≤ x1.toInt ∧ x1.toInt ≤ 58) ∨ (65 ≤ x1.toInt ∧ x1.toInt ≤ 90) ∨ x1.toInt = 95 ∨ (97 ≤ x1.toInt ∧ x1.toInt ≤ 122)) {x2 : Int32} (hx2 : (45 ≤ x2.toInt ∧ x2.toInt ≤ 46) ∨ (48 ≤ x2.toInt ∧ x2.toInt ≤ 58) ∨ (65 ≤ x2.toInt ∧ x2.toInt ≤ 90) ∨ x2.toInt = 95 ∨ (97 ≤ x2.toInt ∧ x2.toInt ≤ 122)) {ad_p2 : String} {w_p1 : Bool} {ad_p1 : String} {F : List Ent} (mp1 : (p1, w_p1, ar ad_p1 .char [(vi x1), (vi x2)]) ∈ F) : Con Z EL y46 y46b 7 y46r (rmm 0 0 0 0) [(vr p1), (vi 0), (vr p2), (vi 0), (vi 2)] ((p2, true, ar ad_p2 .byte [(vi 0), (vi 0)]) :: F) (fun v D' => (v = some (vi 2) ∧ (p2, true, ar ad_p2 .byte [(vi x1), (vi x2)]) :: F = D')) := by
  refine Con.of (ls := #[rv p1, iv 0, rv p2, iv 0, iv 2, uu, uu]) (by decide +kernel) rfl ?_
  refine W.iconst (0) d44_0 (by decide) ?_
  refine W.istore (ls' := #[rv p1, iv 0, rv p2, iv 0, iv 2, iv 0, uu]) d44_1 rfl ?_
  refine W.iload d44_3 rfl ?_
  refine W.iload d44_5 rfl ?_
  refine W.icmpN d44_7 (n_ge (by decide)) ?_
  refine W.aloadN d44_10 rfl rfl ?_
  refine W.iloadN d44_11 rfl ?_
  refine W.caload 0 d44_12 (mS mp1) ix0 rfl ?_
  refine W.istore (ls' := #[rv p1, iv 0, rv p2, iv 0, iv 2, iv 0, iv x1]) d44_13 rfl ?_
  refine W.iload d44_15 rfl ?_
  refine W.sipush (255) d44_17 (by decide) ?_
  refine W.icmpY 26 d44_20 (y_le (by have := q255; omega)) (by decide) ?_
  refine W.aloadN d44_26 rfl rfl ?_
  refine W.iloadN d44_27 rfl ?_
  refine W.iload d44_28 rfl ?_
  refine W.i2bK x1 d44_30 (z_i2b (by omega)) ?_
  refine W.bastore (D' := (p2, true, ar ad_p2 .byte [(vi x1), (vi 0)]) :: F) 0 0 d44_31 rfl ix0 (Nat.le_of_ble_eq_true rfl) (z_narB (by omega)) rfl ?_
  refine W.iincK (ls' := #[rv p1, iv 1, rv p2, iv 0, iv 2, iv 0, iv x1]) (1) (1 : Int32) d44_32 (by decide) rfl (by decide) rfl ?_
  refine W.iincK (ls' := #[rv p1, iv 1, rv p2, iv 1, iv 2, iv 0, iv x1]) (1) (1 : Int32) d44_35 (by decide) rfl (by decide) rfl ?_
  refine W.iincK (ls' := #[rv p1, iv 1, rv p2, iv 1, iv 2, iv 1, iv x1]) (1) (1 : Int32) d44_38 (by decide) rfl (by decide) rfl ?_
  refine W.goto 3 d44_41 (by decide) ?_
  refine W.iload d44_3 rfl ?_
  refine W.iload d44_5 rfl ?_
  refine W.icmpN d44_7 (n_ge (by decide)) ?_
  refine W.aloadN d44_10 rfl rfl ?_
  refine W.iloadN d44_11 rfl ?_
  refine W.caload 1 d44_12 (mS mp1) ix1 rfl ?_
  refine W.istore (ls' := #[rv p1, iv 1, rv p2, iv 1, iv 2, iv 1, iv x2]) d44_13 rfl ?_
  refine W.iload d44_15 rfl ?_
  refine W.sipush (255) d44_17 (by decide) ?_
  refine W.icmpY 26 d44_20 (y_le (by have := q255; omega)) (by decide) ?_
  refine W.aloadN d44_26 rfl rfl ?_
  refine W.iloadN d44_27 rfl ?_
  refine W.iload d44_28 rfl ?_
  refine W.i2bK x2 d44_30 (z_i2b (by omega)) ?_
  refine W.bastore (D' := (p2, true, ar ad_p2 .byte [(vi x1), (vi x2)]) :: F) 0 1 d44_31 rfl ix1 (Nat.le_of_ble_eq_true rfl) (z_narB (by omega)) rfl ?_
  refine W.iincK (ls' := #[rv p1, iv 2, rv p2, iv 1, iv 2, iv 1, iv x2]) (1) (2 : Int32) d44_32 (by decide) rfl (by decide) rfl ?_
  refine W.iincK (ls' := #[rv p1, iv 2, rv p2, iv 2, iv 2, iv 1, iv x2]) (1) (2 : Int32) d44_35 (by decide) rfl (by decide) rfl ?_
  refine W.iincK (ls' := #[rv p1, iv 2, rv p2, iv 2, iv 2, iv 2, iv x2]) (1) (2 : Int32) d44_38 (by decide) rfl (by decide) rfl ?_
  refine W.goto 3 d44_41 (by decide) ?_
  refine W.iload d44_3 rfl ?_
  refine W.iload d44_5 rfl ?_
  refine W.icmpY 44 d44_7 (y_ge (by decide)) (by decide) ?_
  refine W.iload d44_44 rfl ?_
  exact W.ireturn d44_46 rfl (Or.inl rfl) rfl (by decide) ⟨rfl, rfl⟩
theorem pd__CI_BII_I : parseMethodDescriptor "([CI[BII)I" = some ⟨[(.array .char), .int, (.array .byte), .int, .int], some .int⟩ := by decide +kernel
theorem d43_12 : decode jdk_52_method_16_code 12 = .ok (.istore 4, 2) := by decide +kernel
theorem d43_14 : decode jdk_52_method_16_code 14 = .ok (.iload 4, 2) := by decide +kernel
theorem d43_16 : decode jdk_52_method_16_code 16 = .ok (.iload_n 2, 1) := by decide +kernel
theorem d43_17 : decode jdk_52_method_16_code 17 = .ok (.if_icmp .eq 40, 3) := by decide +kernel
theorem d43_57 : decode jdk_52_method_16_code 57 = .ok (.aload_n 3, 1) := by decide +kernel
theorem d43_58 : decode jdk_52_method_16_code 58 = .ok (.areturn, 1) := by decide +kernel
abbrev y47 : MethodName := ⟨"java/lang/StringUTF16", "compress", "([CII)[B"⟩
abbrev y47b : ByteArray := jdk_52_method_16_code
abbrev y47r : Option Jvm.ClassFile.FieldType := (Option.some (Jvm.ClassFile.FieldType.array Jvm.ClassFile.FieldType.byte))
theorem c87_compress {Z a0} (hw : HW a0 Z) (hs : SF Z) {p1 : Addr} {x1 : Int32} (hx1 : (45 ≤ x1.toInt ∧ x1.toInt ≤ 46) ∨ (48 ≤ x1.toInt ∧ x1.toInt ≤ 58) ∨ (65 ≤ x1.toInt ∧ x1.toInt ≤ 90) ∨ x1.toInt = 95 ∨ (97 ≤ x1.toInt ∧ x1.toInt ≤ 122)) {x2 : Int32} (hx2 : (45 ≤ x2.toInt ∧ x2.toInt ≤ 46) ∨ (48 ≤ x2.toInt ∧ x2.toInt ≤ 58) ∨ (65 ≤ x2.toInt ∧ x2.toInt ≤ 90) ∨ x2.toInt = 95 ∨ (97 ≤ x2.toInt ∧ x2.toInt ≤ 122)) {w_p1 : Bool} {ad_p1 : String} {F : List Ent} (mp1 : (p1, w_p1, ar ad_p1 .char [(vi x1), (vi x2)]) ∈ F) : Con Z EL y47 y47b 6 y47r (rmm 1 1 2 18) [(vr p1), (vi 0), (vi 2)] (F) (fun v D' => (∃ a1 : Addr, v = some (vr a1) ∧ (a1, true, ar "[B" .byte [(vi x1), (vi x2)]) :: F = D')) := by
  refine Con.of (ls := #[rv p1, iv 0, iv 2, uu, uu, uu]) (by decide +kernel) rfl ?_
  refine W.iloadN d43_0 rfl ?_
  refine W.newarr 2 (ad := "[B") (ty := .byte) d43_1 rfl (wq hw 23 rfl) ix2 rfl (by decide) (by decide) (fun a1 => ?_)
  show W _ _ _ _ _ _ _ _ _ _ _ _ 3 _ [(vr a1)]
  refine W.astoreN (ls' := #[rv p1, iv 0, iv 2, rv a1, uu, uu]) d43_3 rfl rfl ?_
  refine W.aloadN d43_4 rfl rfl ?_
  refine W.iloadN d43_5 rfl ?_
  refine W.aloadN d43_6 rfl rfl ?_
  refine W.iconst (0) d43_7 (by decide) ?_
  refine W.iloadN d43_8 rfl ?_
  refine W.callS (as := [(vr p1), (vi 0), (vr a1), (vi 0), (vi 2)]) 0 [] d43_9 (wq hw 225 rfl) (wq hw 226 rfl) (wq hw 223 rfl) (wq hw 227 rfl) (c88_compress hw hs (hx1 := hx1) (hx2 := hx2) (mp1 := mp1)) (by decide) pd__CI_BII_I rfl rfl rfl rfl (by decide) (fun v D' h => ?_)
  obtain ⟨rfl, rfl⟩ := h
  show W _ _ _ _ _ _ _ _ _ _ _ _ 12 _ [(vi 2)]
  refine W.istore (ls' := #[rv p1, iv 0, iv 2, rv a1, iv 2, uu]) d43_12 rfl ?_
  refine W.iload d43_14 rfl ?_
  refine W.iloadN d43_16 rfl ?_
  refine W.icmpY 57 d43_17 (y_eq (by decide)) (by decide) ?_
  refine W.aloadN d43_57 rfl rfl ?_
  exact W.areturn d43_58 rfl rfl rfl (by decide) ⟨a1, rfl, rfl⟩
theorem pd__CII__B : parseMethodDescriptor "([CII)[B" = some ⟨[(.array .char), .int, .int], some (.array .byte)⟩ := by decide +kernel
theorem d42_39 : decode jdk_42_method_149_code 39 = .ok (.astore 5, 2) := by decide +kernel
theorem d42_41 : decode jdk_42_method_149_code 41 = .ok (.aload_n 0, 1) := by decide +kernel
theorem d42_42 : decode jdk_42_method_149_code 42 = .ok (.aload 5, 2) := by decide +kernel
theorem d42_44 : decode jdk_42_method_149_code 44 = .ok (.iload_n 3, 1) := by decide +kernel
theorem d42_45 : decode jdk_42_method_149_code 45 = .ok (.invokestatic 47, 3) := by decide +kernel
theorem d45_0 : decode jdk_52_method_15_code 0 = .ok (.iload_n 1, 1) := by decide +kernel
theorem d45_1 : decode jdk_52_method_15_code 1 = .ok (.aload_n 0, 1) := by decide +kernel
theorem d45_2 : decode jdk_52_method_15_code 2 = .ok (.arraylength, 1) := by decide +kernel
theorem d45_3 : decode jdk_52_method_15_code 3 = .ok (.isub, 1) := by decide +kernel
theorem d45_4 : decode jdk_52_method_15_code 4 = .ok (.bipush 31, 2) := by decide +kernel
theorem d45_6 : decode jdk_52_method_15_code 6 = .ok (.iushr, 1) := by decide +kernel
theorem d45_7 : decode jdk_52_method_15_code 7 = .ok (.i2b, 1) := by decide +kernel
theorem d45_8 : decode jdk_52_method_15_code 8 = .ok (.ireturn, 1) := by decide +kernel
abbrev y48 : MethodName := ⟨"java/lang/StringUTF16", "coderFromArrayLen", "([BI)B"⟩
abbrev y48b : ByteArray := jdk_52_method_15_code
abbrev y48r : Option Jvm.ClassFile.FieldType := (Option.some Jvm.ClassFile.FieldType.byte)
theorem c89_coderFromArrayLen {Z a0} (hw : HW a0 Z) (hs : SF Z) {p1 : Addr} {vs_p1 : List Value} (hvs_p1 : vs_p1.length = 2) {w_p1 : Bool} {ad_p1 : String} {F : List Ent} (mp1 : (p1, w_p1, ar ad_p1 .byte vs_p1) ∈ F) : Con Z EL y48 y48b 2 y48r (rmm 0 0 0 0) [(vr p1), (vi 2)] (F) (fun v D' => (v = some (vi 0) ∧ F = D')) := by
  refine Con.of (ls := #[rv p1, iv 2]) (by decide +kernel) rfl ?_
  refine W.iloadN d45_0 rfl ?_
  refine W.aloadN d45_1 rfl rfl ?_
  refine W.alen (2) d45_2 mp1 (by rw [hvs_p1]; rfl) ?_
  refine W.isubK (0 : Int32) d45_3 (by decide) ?_
  refine W.bipush (31) d45_4 (by decide) ?_
  refine W.iushrK (0 : Int32) d45_6 (by decide) ?_
  refine W.i2bK (0 : Int32) d45_7 (by decide) ?_
  exact W.ireturn d45_8 rfl (Or.inr (Or.inr (Or.inl rfl))) (nw_byte (by decide)) (by decide) ⟨rfl, rfl⟩
theorem pd__BI_B : parseMethodDescriptor "([BI)B" = some ⟨[(.array .byte), .int], some .byte⟩ := by decide +kernel
theorem d42_48 : decode jdk_42_method_149_code 48 = .ok (.putfield 15, 3) := by decide +kernel
theorem d42_51 : decode jdk_42_method_149_code 51 = .ok (.aload_n 0, 1) := by decide +kernel
theorem d42_52 : decode jdk_42_method_149_code 52 = .ok (.aload 5, 2) := by decide +kernel
theorem d42_54 : decode jdk_42_method_149_code 54 = .ok (.putfield 9, 3) := by decide +kernel
theorem d42_57 : decode jdk_42_method_149_code 57 = .ok (.return_, 1) := by decide +kernel
abbrev y49 : MethodName := ⟨"java/lang/String", "<init>", "([CIILjava/lang/Void;)V"⟩
abbrev y49b : ByteArray := jdk_42_method_149_code
abbrev y49r : Option Jvm.ClassFile.FieldType := (Option.none : Option Jvm.ClassFile.FieldType)
theorem c86_init {Z a0} (hw : HW a0 Z) (hs : SF Z) {p1 p2 : Addr} {x1 : Int32} (hx1 : (45 ≤ x1.toInt ∧ x1.toInt ≤ 46) ∨ (48 ≤ x1.toInt ∧ x1.toInt ≤ 58) ∨ (65 ≤ x1.toInt ∧ x1.toInt ≤ 90) ∨ x1.toInt = 95 ∨ (97 ≤ x1.toInt ∧ x1.toInt ≤ 122)) {x2 : Int32} (hx2 : (45 ≤ x2.toInt ∧ x2.toInt ≤ 46) ∨ (48 ≤ x2.toInt ∧ x2.toInt ≤ 58) ∨ (65 ≤ x2.toInt ∧ x2.toInt ≤ 90) ∨ x2.toInt = 95 ∨ (97 ≤ x2.toInt ∧ x2.toInt ≤ 122)) {w_p2 : Bool} {ad_p2 : String} {F : List Ent} (mp2 : (p2, w_p2, ar ad_p2 .char [(vi x1), (vi x2)]) ∈ F) : Con Z EL y49 y49b 6 y49r (rmm 2 1 2 35) [(vr p1), (vr p2), (vi 0), (vi 2), .null] ((p1, true, oString .null (vi 0)) :: F) (fun v D' => (∃ a1 : Addr, v = none ∧ (a1, true, ar "[B" .byte [(vi x1), (vi x2)]) :: (p1, true, oString (vr a1) (vi 0)) :: F = D')) := by
  refine Con.of (ls := #[rv p1, rv p2, iv 0, iv 2, .val .null, uu]) (by decide +kernel) rfl ?_
  refine W.aloadN d42_0 rfl rfl ?_
  refine W.initO 0 d42_1 (wq hw 28 rfl) (wq hw 29 rfl) (wq hw 30 rfl) rfl rfl (by decide) ?_
  refine W.iloadN d42_4 rfl ?_
  refine W.ifY 27 d42_5 (y_ne (by decide)) (by decide) ?_
  refine W.gets d42_27 (wq hw 13 rfl) Via.refl hs.1 ?_
  refine W.ifN d42_30 (n_eq (by have := hs.2.1; have := q0; omega)) ?_
  refine W.aloadN d42_33 rfl rfl ?_
  refine W.iloadN d42_34 rfl ?_
  refine W.iloadN d42_35 rfl ?_
  refine W.callS (as := [(vr p2), (vi 0), (vi 2)]) 0 [] d42_36 (wq hw 221 rfl) (wq hw 222 rfl) (wq hw 223 rfl) (wq hw 224 rfl) (c87_compress hw hs (hx1 := hx1) (hx2 := hx2) (mp1 := (mS mp2))) (by decide) pd__CII__B rfl rfl rfl rfl (by decide) (fun v D' h => ?_)
  obtain ⟨a1, rfl, rfl⟩ := h
  show W _ _ _ _ _ _ _ _ _ _ _ _ 39 _ [(vr a1)]
  refine W.astore (ls' := #[rv p1, rv p2, iv 0, iv 2, .val .null, rv a1]) d42_39 rfl rfl ?_
  refine W.aloadN d42_41 rfl rfl ?_
  refine W.aload 5 d42_42 rfl rfl ?_
  refine W.iloadN d42_44 rfl ?_
  refine W.callS (as := [(vr a1), (vi 2)]) 1 [(vr p1)] d42_45 (wq hw 228 rfl) (wq hw 229 rfl) (wq hw 223 rfl) (wq hw 230 rfl) (c89_coderFromArrayLen hw hs (hvs_p1 := rfl) (mp1 := m0)) (by decide) pd__BI_B rfl rfl rfl rfl (by decide) (fun v D' h => ?_)
  obtain ⟨rfl, rfl⟩ := h
  show W _ _ _ _ _ _ _ _ _ _ _ _ 48 _ [(vi 0), (vr p1)]
  refine W.putf (D' := (a1, true, ar "[B" .byte [(vi x1), (vi x2)]) :: (p1, true, oString .null (vi 0)) :: F) 1 1 d42_48 (wq hw 33 rfl) Via.refl rfl rfl (Or.inr ⟨(wq hw 34 rfl), rfl, rfl⟩) (wq hw 19 rfl) pfB (nw_byte (by decide)) (ft_byte (by decide)) rfl ?_
  refine W.aloadN d42_51 rfl rfl ?_
  refine W.aload 5 d42_52 rfl rfl ?_
  refine W.putf (D' := (a1, true, ar "[B" .byte [(vi x1), (vi x2)]) :: (p1, true, oString (vr a1) (vi 0)) :: F) 1 0 d42_54 (wq hw 31 rfl) Via.refl rfl rfl (Or.inr ⟨(wq hw 32 rfl), rfl, rfl⟩) (wq hw 19 rfl) pf_B rfl rfl rfl ?_
  exact W.return_ d42_57 rfl (by decide) ⟨a1, rfl, rfl⟩
theorem pd__CIILjava_lang_Void__V : parseMethodDescriptor "([CIILjava/lang/Void;)V" = some ⟨[(.array .char), .int, .int, (.object "java/lang/Void")], none⟩ := by decide +kernel
theorem d41_9 : decode jdk_42_method_3_code 9 = .ok (.return_, 1) := by decide +kernel
abbrev y50 : MethodName := ⟨"java/lang/String", "<init>", "([C)V"⟩
abbrev y50b : ByteArray := jdk_42_method_3_code
abbrev y50r : Option Jvm.ClassFile.FieldType := (Option.none : Option Jvm.ClassFile.FieldType)
theorem c85_init {Z a0} (hw : HW a0 Z) (hs : SF Z) {p1 p2 : Addr} {x1 : Int32} (hx1 : (45 ≤ x1.toInt ∧ x1.toInt ≤ 46) ∨ (48 ≤ x1.toInt ∧ x1.toInt ≤ 58) ∨ (65 ≤ x1.toInt ∧ x1.toInt ≤ 90) ∨ x1.toInt = 95 ∨ (97 ≤ x1.toInt ∧ x1.toInt ≤ 122)) {x2 : Int32} (hx2 : (45 ≤ x2.toInt ∧ x2.toInt ≤ 46) ∨ (48 ≤ x2.toInt ∧ x2.toInt ≤ 58) ∨ (65 ≤ x2.toInt ∧ x2.toInt ≤ 90) ∨ x2.toInt = 95 ∨ (97 ≤ x2.toInt ∧ x2.toInt ≤ 122)) {w_p2 : Bool} {ad_p2 : String} {F : List Ent} (mp2 : (p2, w_p2, ar ad_p2 .char [(vi x1), (vi x2)]) ∈ F) : Con Z EL y50 y50b 2 y50r (rmm 3 1 2 52) [(vr p1), (vr p2)] ((p1, true, oString .null (vi 0)) :: F) (fun v D' => (∃ a1 : Addr, v = none ∧ (a1, true, ar "[B" .byte [(vi x1), (vi x2)]) :: (p1, true, oString (vr a1) (vi 0)) :: F = D')) := by
  refine Con.of (ls := #[rv p1, rv p2]) (by decide +kernel) rfl ?_
  refine W.aloadN d41_0 rfl rfl ?_
  refine W.aloadN d41_1 rfl rfl ?_
  refine W.iconst (0) d41_2 (by decide) ?_
  refine W.aloadN d41_3 rfl rfl ?_
  refine W.alen (2) d41_4 (mS mp2) rfl ?_
  refine W.aconstNull d41_5 ?_
  refine W.callI (as := [(vr p2), (vi 0), (vi 2), .null]) 0 [] d41_6 rfl (wq hw 218 rfl) (wq hw 219 rfl) (wq hw 11 rfl) (wq hw 220 rfl) (c86_init hw hs (hx1 := hx1) (hx2 := hx2) (mp2 := mp2)) (by decide) pd__CIILjava_lang_Void__V rfl rfl rfl rfl (by decide) (fun v D' h => ?_)
  obtain ⟨a1, rfl, rfl⟩ := h
  show W _ _ _ _ _ _ _ _ _ _ _ _ 9 _ []
  exact W.return_ d41_9 rfl (by decide) ⟨a1, rfl, rfl⟩
theorem pd__C_V : parseMethodDescriptor "([C)V" = some ⟨[(.array .char)], none⟩ := by decide +kernel
theorem c93_isEmpty {Z a0} (hw : HW a0 Z) (hs : SF Z) {p1 p2 : Addr} {f_p1_1 : Value} {vs_p2 : List Value} (hvs_p2 : vs_p2.length = 2) {w_p1 : Bool} {w_p2 : Bool} {ad_p2 : String} {F : List Ent} (mp1 : (p1, w_p1, oString (vr p2) f_p1_1) ∈ F) (mp2 : (p2, w_p2, ar ad_p2 .byte vs_p2) ∈ F) : Con Z EL y7 y7b 1 y7r (rmm 0 0 0 0) [(vr p1)] (F) (fun v D' => (v = some (vi 0) ∧ F = D')) := by
  refine Con.of (ls := #[rv p1]) (by decide +kernel) rfl ?_
  refine W.aloadN d11_0 rfl rfl ?_
  refine W.getf d11_1 (wq hw 31 rfl) Via.refl mp1 m0 ?_
  refine W.alen (2) d11_4 mp2 (by rw [hvs_p2]; rfl) ?_
  refine W.ifY 12 d11_5 (y_ne (by decide)) (by decide) ?_
  refine W.iconst (0) d11_12 (by decide) ?_
  exact W.ireturn d11_13 rfl (Or.inr (Or.inl rfl)) (nw_bool (by decide)) (by decide) ⟨rfl, rfl⟩
theorem c94_length {Z a0} (hw : HW a0 Z) (hs : SF Z) {p1 p2 : Addr} {vs_p2 : List Value} (hvs_p2 : vs_p2.length = 2) {w_p1 : Bool} {w_p2 : Bool} {ad_p2 : String} {F : List Ent} (mp1 : (p1, w_p1, oString (vr p2) (vi 0)) ∈ F) (mp2 : (p2, w_p2, ar ad_p2 .byte vs_p2) ∈ F) : Con Z EL y9 y9b 1 y9r (rmm 1 0 0 13) [(vr p1)] (F) (fun v D' => (v = some (vi 2) ∧ F = D')) := by
  refine Con.of (ls := #[rv p1]) (by decide +kernel) rfl ?_
  refine W.aloadN d12_0 rfl rfl ?_
  refine W.getf d12_1 (wq hw 31 rfl) Via.refl mp1 m0 ?_
  refine W.alen (2) d12_4 mp2 (by rw [hvs_p2]; rfl) ?_
  refine W.aloadN d12_5 rfl rfl ?_
  refine W.callV (as := []) 1 [(vi 2)] d12_6 (wq hw 63 rfl) (wq hw 64 rfl) (wq hw 66 rfl) (wq hw 66 rfl) (wq hw 65 rfl) (wq hw 11 rfl) (wq hw 67 rfl) (Hp.exa mp1) (c15_coder hw hs (mp1 := mp1)) (by decide) pd__B rfl rfl rfl rfl (by decide) (fun v D' h => ?_)
  obtain ⟨rfl, rfl⟩ := h
  show W _ _ _ _ _ _ _ _ _ _ _ _ 9 _ [(vi 0), (vi 2)]
  refine W.ishrK (2 : Int32) d12_9 (by decide) ?_
  exact W.ireturn d12_10 rfl (Or.inl rfl) rfl (by decide) ⟨rfl, rfl⟩
theorem c98_checkIndex {Z a0} (hw : HW a0 Z) (hs : SF Z) {F : List Ent} : Con Z EL y11 y11b 3 y11r (rmm 0 0 0 0) [(vi 0), (vi 2), (sfv Z)] (F) (fun v D' => (v = some (vi 0) ∧ F = D')) := by
  refine Con.of (ls := #[iv 0, iv 2, .val (sfv Z)]) (by decide +kernel) (hent_of (ld1 rfl (ld1 rfl (ld1 (XT.cat1 hs.2.2.1) ld0))) rfl) ?_
  refine W.iloadN d18_0 rfl ?_
  refine W.ifN d18_1 (n_lt (by decide)) ?_
  refine W.iloadN d18_4 rfl ?_
  refine W.iloadN d18_5 rfl ?_
  refine W.icmpY 16 d18_6 (y_lt (by decide)) (by decide) ?_
  refine W.iloadN d18_16 rfl ?_
  exact W.ireturn d18_17 rfl (Or.inl rfl) rfl (by decide) ⟨rfl, rfl⟩
theorem c97_checkIndex {Z a0} (hw : HW a0 Z) (hs : SF Z) {F : List Ent} : Con Z EL y12 y12b 2 y12r (rmm 1 0 0 14) [(vi 0), (vi 2)] (F) (fun v D' => (v = none ∧ F = D')) := by
  refine Con.of (ls := #[iv 0, iv 2]) (by decide +kernel) rfl ?_
  refine W.iloadN d17_0 rfl ?_
  refine W.iloadN d17_1 rfl ?_
  refine W.gets d17_2 (wq hw 84 rfl) Via.refl hs.2.2.2.1 ?_
  refine W.callS (as := [(vi 0), (vi 2), (sfv Z)]) 0 [] d17_5 (wq hw 86 rfl) (wq hw 87 rfl) (wq hw 85 rfl) (wq hw 88 rfl) (c98_checkIndex hw hs) (by decide) pd_IILjava_util_function_BiFunction__I rfl rfl rfl rfl (by decide) (fun v D' h => ?_)
  obtain ⟨rfl, rfl⟩ := h
  show W _ _ _ _ _ _ _ _ _ _ _ _ 8 _ [(vi 0)]
  refine W.popv d17_8 rfl ?_
  exact W.return_ d17_9 rfl (by decide) ⟨rfl, rfl⟩
theorem c96_charAt {Z a0} (hw : HW a0 Z) (hs : SF Z) {p1 : Addr} {x1 : Int32} (hx1 : (45 ≤ x1.toInt ∧ x1.toInt ≤ 46) ∨ (48 ≤ x1.toInt ∧ x1.toInt ≤ 58) ∨ (65 ≤ x1.toInt ∧ x1.toInt ≤ 90) ∨ x1.toInt = 95 ∨ (97 ≤ x1.toInt ∧ x1.toInt ≤ 122)) {e_p1_1 : Value} {w_p1 : Bool} {ad_p1 : String} {F : List Ent} (mp1 : (p1, w_p1, ar ad_p1 .byte [(vi x1), e_p1_1]) ∈ F) : Con Z EL y13 y13b 2 y13r (rmm 2 0 0 27) [(vr p1), (vi 0)] (F) (fun v D' => (v = some (vi x1) ∧ F = D')) := by
  refine Con.of (ls := #[rv p1, iv 0]) (by decide +kernel) rfl ?_
  refine W.iloadN d16_0 rfl ?_
  refine W.aloadN d16_1 rfl rfl ?_
  refine W.alen (2) d16_2 mp1 rfl ?_
  refine W.callS (as := [(vi 0), (vi 2)]) 0 [] d16_3 (wq hw 81 rfl) (wq hw 82 rfl) (wq hw 11 rfl) (wq hw 83 rfl) (c97_checkIndex hw hs) (by decide) pd_II_V rfl rfl rfl rfl (by decide) (fun v D' h => ?_)
  obtain ⟨rfl, rfl⟩ := h
  show W _ _ _ _ _ _ _ _ _ _ _ _ 6 _ []
  refine W.aloadN d16_6 rfl rfl ?_
  refine W.iloadN d16_7 rfl ?_
  refine W.baload 0 d16_8 mp1 ix0 rfl ?_
  refine W.sipush (255) d16_9 (by decide) ?_
  refine W.iandK x1 d16_12 (z_and 8 256 (by decide) (by decide) (by decide) (by omega)) ?_
  refine W.i2cK x1 d16_13 (z_i2c (by omega)) ?_
  exact W.ireturn d16_14 rfl (Or.inr (Or.inr (Or.inr (Or.inl rfl)))) (nw_char (by omega)) (by decide) ⟨rfl, rfl⟩
theorem c95_charAt {Z a0} (hw : HW a0 Z) (hs : SF Z) {p1 p2 : Addr} {x1 : Int32} (hx1 : (45 ≤ x1.toInt ∧ x1.toInt ≤ 46) ∨ (48 ≤ x1.toInt ∧ x1.toInt ≤ 58) ∨ (65 ≤ x1.toInt ∧ x1.toInt ≤ 90) ∨ x1.toInt = 95 ∨ (97 ≤ x1.toInt ∧ x1.toInt ≤ 122)) {e_p2_1 : Value} {w_p1 : Bool} {w_p2 : Bool} {ad_p2 : String} {F : List Ent} (mp1 : (p1, w_p1, oString (vr p2) (vi 0)) ∈ F) (mp2 : (p2, w_p2, ar ad_p2 .byte [(vi x1), e_p2_1]) ∈ F) : Con Z EL y14 y14b 2 y14r (rmm 3 0 0 40) [(vr p1), (vi 0)] (F) (fun v D' => (v = some (vi x1) ∧ F = D')) := by
  refine Con.of (ls := #[rv p1, iv 0]) (by decide +kernel) rfl ?_
  refine W.aloadN d14_0 rfl rfl ?_
  refine W.callV (as := []) 0 [] d14_1 (wq hw 73 rfl) (wq hw 74 rfl) (wq hw 76 rfl) (wq hw 76 rfl) (wq hw 75 rfl) (wq hw 11 rfl) (wq hw 77 rfl) (Hp.exa mp1) (c17_isLatin1 hw hs (mp1 := mp1)) (by decide) pd__Z rfl rfl rfl rfl (by decide) (fun v D' h => ?_)
  obtain ⟨rfl, rfl⟩ := h
  show W _ _ _ _ _ _ _ _ _ _ _ _ 4 _ [(vi 1)]
  refine W.ifN d14_4 (n_eq (by decide)) ?_
  refine W.aloadN d14_7 rfl rfl ?_
  refine W.getf d14_8 (wq hw 31 rfl) Via.refl mp1 m0 ?_
  refine W.iloadN d14_11 rfl ?_
  refine W.callS (as := [(vr p2), (vi 0)]) 0 [] d14_12 (wq hw 78 rfl) (wq hw 79 rfl) (wq hw 16 rfl) (wq hw 80 rfl) (c96_charAt hw hs (hx1 := hx1) (mp1 := mp2)) (by decide) pd__BI_C rfl rfl rfl rfl (by decide) (fun v D' h => ?_)
  obtain ⟨rfl, rfl⟩ := h
  show W _ _ _ _ _ _ _ _ _ _ _ _ 15 _ [(vi x1)]
  exact W.ireturn d14_15 rfl (Or.inr (Or.inr (Or.inr (Or.inl rfl)))) (nw_char (by omega)) (by decide) ⟨rfl, rfl⟩
theorem c102_checkIndex {Z a0} (hw : HW a0 Z) (hs : SF Z) {F : List Ent} : Con Z EL y11 y11b 3 y11r (rmm 0 0 0 0) [(vi 1), (vi 2), (sfv Z)] (F) (fun v D' => (v = some (vi 1) ∧ F = D')) := by
  refine Con.of (ls := #[iv 1, iv 2, .val (sfv Z)]) (by decide +kernel) (hent_of (ld1 rfl (ld1 rfl (ld1 (XT.cat1 hs.2.2.1) ld0))) rfl) ?_
  refine W.iloadN d18_0 rfl ?_
  refine W.ifN d18_1 (n_lt (by decide)) ?_
  refine W.iloadN d18_4 rfl ?_
  refine W.iloadN d18_5 rfl ?_
  refine W.icmpY 16 d18_6 (y_lt (by decide)) (by decide) ?_
  refine W.iloadN d18_16 rfl ?_
  exact W.ireturn d18_17 rfl (Or.inl rfl) rfl (by decide) ⟨rfl, rfl⟩
theorem c101_checkIndex {Z a0} (hw : HW a0 Z) (hs : SF Z) {F : List Ent} : Con Z EL y12 y12b 2 y12r (rmm 1 0 0 14) [(vi 1), (vi 2)] (F) (fun v D' => (v = none ∧ F = D')) := by
  refine Con.of (ls := #[iv 1, iv 2]) (by decide +kernel) rfl ?_
  refine W.iloadN d17_0 rfl ?_
  refine W.iloadN d17_1 rfl ?_
  refine W.gets d17_2 (wq hw 84 rfl) Via.refl hs.2.2.2.1 ?_
  refine W.callS (as := [(vi 1), (vi 2), (sfv Z)]) 0 [] d17_5 (wq hw 86 rfl) (wq hw 87 rfl) (wq hw 85 rfl) (wq hw 88 rfl) (c102_checkIndex hw hs) (by decide) pd_IILjava_util_function_BiFunction__I rfl rfl rfl rfl (by decide) (fun v D' h => ?_)
  obtain ⟨rfl, rfl⟩ := h
  show W _ _ _ _ _ _ _ _ _ _ _ _ 8 _ [(vi 1)]
  refine W.popv d17_8 rfl ?_
  exact W.return_ d17_9 rfl (by decide) ⟨rfl, rfl⟩
theorem c100_charAt {Z a0} (hw : HW a0 Z) (hs : SF Z) {p1 : Addr} {x2 : Int32} (hx2 : (45 ≤ x2.toInt ∧ x2.toInt ≤ 46) ∨ (48 ≤ x2.toInt ∧ x2.toInt ≤ 58) ∨ (65 ≤ x2.toInt ∧ x2.toInt ≤ 90) ∨ x2.toInt = 95 ∨ (97 ≤ x2.toInt ∧ x2.toInt ≤ 122)) {e_p1_0 : Value} {w_p1 : Bool} {ad_p1 : String} {F : List Ent} (mp1 : (p1, w_p1, ar ad_p1 .byte [e_p1_0, (vi x2)]) ∈ F) : Con Z EL y13 y13b 2 y13r (rmm 2 0 0 27) [(vr p1), (vi 1)] (F) (fun v D' => (v = some (vi x2) ∧ F = D')) := by
  refine Con.of (ls := #[rv p1, iv 1]) (by decide +kernel) rfl ?_
  refine W.iloadN d16_0 rfl ?_
  refine W.aloadN d16_1 rfl rfl ?_
  refine W.alen (2) d16_2 mp1 rfl ?_
  refine W.callS (as := [(vi 1), (vi 2)]) 0 [] d16_3 (wq hw 81 rfl) (wq hw 82 rfl) (wq hw 11 rfl) (wq hw 83 rfl) (c101_checkIndex hw hs) (by decide) pd_II_V rfl rfl rfl rfl (by decide) (fun v D' h => ?_)
  obtain ⟨rfl, rfl⟩ := h
  show W _ _ _ _ _ _ _ _ _ _ _ _ 6 _ []
  refine W.aloadN d16_6 rfl rfl ?_
  refine W.iloadN d16_7 rfl ?_
  refine W.baload 1 d16_8 mp1 ix1 rfl ?_
  refine W.sipush (255) d16_9 (by decide) ?_
  refine W.iandK x2 d16_12 (z_and 8 256 (by decide) (by decide) (by decide) (by omega)) ?_
  refine W.i2cK x2 d16_13 (z_i2c (by omega)) ?_
  exact W.ireturn d16_14 rfl (Or.inr (Or.inr (Or.inr (Or.inl rfl)))) (nw_char (by omega)) (by decide) ⟨rfl, rfl⟩
theorem c99_charAt {Z a0} (hw : HW a0 Z) (hs : SF Z) {p1 p2 : Addr} {x2 : Int32} (hx2 : (45 ≤ x2.toInt ∧ x2.toInt ≤ 46) ∨ (48 ≤ x2.toInt ∧ x2.toInt ≤ 58) ∨ (65 ≤ x2.toInt ∧ x2.toInt ≤ 90) ∨ x2.toInt = 95 ∨ (97 ≤ x2.toInt ∧ x2.toInt ≤ 122)) {e_p2_0 : Value} {w_p1 : Bool} {w_p2 : Bool} {ad_p2 : String} {F : List Ent} (mp1 : (p1, w_p1, oString (vr p2) (vi 0)) ∈ F) (mp2 : (p2, w_p2, ar ad_p2 .byte [e_p2_0, (vi x2)]) ∈ F) : Con Z EL y14 y14b 2 y14r (rmm 3 0 0 40) [(vr p1), (vi 1)] (F) (fun v D' => (v = some (vi x2) ∧ F = D')) := by
  refine Con.of (ls := #[rv p1, iv 1]) (by decide +kernel) rfl ?_
  refine W.aloadN d14_0 rfl rfl ?_
  refine W.callV (as := []) 0 [] d14_1 (wq hw 73 rfl) (wq hw 74 rfl) (wq hw 76 rfl) (wq hw 76 rfl) (wq hw 75 rfl) (wq hw 11 rfl) (wq hw 77 rfl) (Hp.exa mp1) (c17_isLatin1 hw hs (mp1 := mp1)) (by decide) pd__Z rfl rfl rfl rfl (by decide) (fun v D' h => ?_)
  obtain ⟨rfl, rfl⟩ := h
  show W _ _ _ _ _ _ _ _ _ _ _ _ 4 _ [(vi 1)]
  refine W.ifN d14_4 (n_eq (by decide)) ?_
  refine W.aloadN d14_7 rfl rfl ?_
  refine W.getf d14_8 (wq hw 31 rfl) Via.refl mp1 m0 ?_
  refine W.iloadN d14_11 rfl ?_
  refine W.callS (as := [(vr p2), (vi 1)]) 0 [] d14_12 (wq hw 78 rfl) (wq hw 79 rfl) (wq hw 16 rfl) (wq hw 80 rfl) (c100_charAt hw hs (hx2 := hx2) (mp1 := mp2)) (by decide) pd__BI_C rfl rfl rfl rfl (by decide) (fun v D' h => ?_)
  obtain ⟨rfl, rfl⟩ := h
  show W _ _ _ _ _ _ _ _ _ _ _ _ 15 _ [(vi x2)]
  exact W.ireturn d14_15 rfl (Or.inr (Or.inr (Or.inr (Or.inl rfl)))) (nw_char (by omega)) (by decide) ⟨rfl, rfl⟩
theorem c92_check {Z a0} (hw : HW a0 Z) (hs : SF Z) {p1 p2 : Addr} {x1 : Int32} (hx1 : (45 ≤ x1.toInt ∧ x1.toInt ≤ 46) ∨ (48 ≤ x1.toInt ∧ x1.toInt ≤ 58) ∨ (65 ≤ x1.toInt ∧ x1.toInt ≤ 90) ∨ x1.toInt = 95 ∨ (97 ≤ x1.toInt ∧ x1.toInt ≤ 122)) {x2 : Int32} (hx2 : (45 ≤ x2.toInt ∧ x2.toInt ≤ 46) ∨ (48 ≤ x2.toInt ∧ x2.toInt ≤ 58) ∨ (65 ≤ x2.toInt ∧ x2.toInt ≤ 90) ∨ x2.toInt = 95 ∨ (97 ≤ x2.toInt ∧ x2.toInt ≤ 122)) {w_p1 : Bool} {w_p2 : Bool} {ad_p2 : String} {w_og4Z : Bool} {w_og5Z : Bool} {w_og6Z : Bool} {ad_og6Z : String} {F : List Ent} (mp1 : (p1, w_p1, oString (vr p2) (vi 0)) ∈ F) (mp2 : (p2, w_p2, ar ad_p2 .byte [(vi x1), (vi x2)]) ∈ F) (mog4Z : ((og4 Z), w_og4Z, oJobKey_NameRule (vi 128) (vr (og5 Z))) ∈ F) (mog5Z : ((og5 Z), w_og5Z, oString (vr (og6 Z)) (vi 0)) ∈ F) (mog6Z : ((og6 Z), w_og6Z, ar ad_og6Z .byte [(vi 46), (vi 95), (vi 58), (vi 45)]) ∈ F) : Con Z EL y23 y23b 4 y23r (rmm 4 0 0 59) [(vr (og4 Z)), (vr p1)] (F) (fun v D' => (v = some (vr p1) ∧ F = D')) := by
  refine Con.of (ls := #[rv (og4 Z), rv p1, uu, uu]) (by decide +kernel) rfl ?_
  refine W.aloadN d10_0 rfl rfl ?_
  refine W.ifnonnullY 11 d10_1 (by decide) ?_
  refine W.aloadN d10_11 rfl rfl ?_
  refine W.callV (as := []) 0 [] d10_12 (wq hw 53 rfl) (wq hw 54 rfl) (wq hw 56 rfl) (wq hw 56 rfl) (wq hw 55 rfl) (wq hw 11 rfl) (wq hw 57 rfl) (Hp.exa mp1) (c93_isEmpty hw hs (hvs_p2 := rfl) (mp1 := mp1) (mp2 := mp2)) (by decide) pd__Z rfl rfl rfl rfl (by decide) (fun v D' h => ?_)
  obtain ⟨rfl, rfl⟩ := h
  show W _ _ _ _ _ _ _ _ _ _ _ _ 15 _ [(vi 0)]
  refine W.ifY 25 d10_15 (y_eq (by decide)) (by decide) ?_
  refine W.iconst (0) d10_25 (by decide) ?_
  refine W.istoreN (ls' := #[rv (og4 Z), rv p1, iv 0, uu]) d10_26 rfl ?_
  refine W.iloadN d10_27 rfl ?_
  refine W.aloadN d10_28 rfl rfl ?_
  refine W.callV (as := []) 1 [(vi 0)] d10_29 (wq hw 58 rfl) (wq hw 59 rfl) (wq hw 61 rfl) (wq hw 61 rfl) (wq hw 60 rfl) (wq hw 11 rfl) (wq hw 62 rfl) (Hp.exa mp1) (c94_length hw hs (hvs_p2 := rfl) (mp1 := mp1) (mp2 := mp2)) (by decide) pd__I rfl rfl rfl rfl (by decide) (fun v D' h => ?_)
  obtain ⟨rfl, rfl⟩ := h
  show W _ _ _ _ _ _ _ _ _ _ _ _ 32 _ [(vi 2), (vi 0)]
  refine W.icmpN d10_32 (n_ge (by decide)) ?_
  have K2 : W Z EL (rmm 4 0 0 59) "com/example/cunctator/cunctator/JobKey$NameRule" "check" prog_9_method_2_code 4 (Option.some (Jvm.ClassFile.FieldType.object "java/lang/String")) (fun v D' => (v = some (vr p1) ∧ F = D')) (F) 0 0 84 #[rv (og4 Z), rv p1, iv 0, iv x1] [] := by
   refine W.iincK (ls' := #[rv (og4 Z), rv p1, iv 1, iv x1]) (1) (1 : Int32) d10_84 (by decide) rfl (by decide) rfl ?_
   refine W.goto 27 d10_87 (by decide) ?_
   refine W.iloadN d10_27 rfl ?_
   refine W.aloadN d10_28 rfl rfl ?_
   refine W.callV (as := []) 1 [(vi 1)] d10_29 (wq hw 58 rfl) (wq hw 59 rfl) (wq hw 61 rfl) (wq hw 61 rfl) (wq hw 60 rfl) (wq hw 11 rfl) (wq hw 62 rfl) (Hp.exa mp1) (c94_length hw hs (hvs_p2 := rfl) (mp1 := mp1) (mp2 := mp2)) (by decide) pd__I rfl rfl rfl rfl (by decide) (fun v D' h => ?_)
   obtain ⟨rfl, rfl⟩ := h
   show W _ _ _ _ _ _ _ _ _ _ _ _ 32 _ [(vi 2), (vi 1)]
   refine W.icmpN d10_32 (n_ge (by decide)) ?_
   have K4 : W Z EL (rmm 4 0 0 59) "com/example/cunctator/cunctator/JobKey$NameRule" "check" prog_9_method_2_code 4 (Option.some (Jvm.ClassFile.FieldType.object "java/lang/String")) (fun v D' => (v = some (vr p1) ∧ F = D')) (F) 0 0 84 #[rv (og4 Z), rv p1, iv 1, iv x2] [] := by
    refine W.iincK (ls' := #[rv (og4 Z), rv p1, iv 2, iv x2]) (1) (2 : Int32) d10_84 (by decide) rfl (by decide) rfl ?_
    refine W.goto 27 d10_87 (by decide) ?_
    refine W.iloadN d10_27 rfl ?_
    refine W.aloadN d10_28 rfl rfl ?_
    refine W.callV (as := []) 1 [(vi 2)] d10_29 (wq hw 58 rfl) (wq hw 59 rfl) (wq hw 61 rfl) (wq hw 61 rfl) (wq hw 60 rfl) (wq hw 11 rfl) (wq hw 62 rfl) (Hp.exa mp1) (c94_length hw hs (hvs_p2 := rfl) (mp1 := mp1) (mp2 := mp2)) (by decide) pd__I rfl rfl rfl rfl (by decide) (fun v D' h => ?_)
    obtain ⟨rfl, rfl⟩ := h
    show W _ _ _ _ _ _ _ _ _ _ _ _ 32 _ [(vi 2), (vi 2)]
    refine W.icmpY 90 d10_32 (y_ge (by decide)) (by decide) ?_
    refine W.aloadN d10_90 rfl rfl ?_
    refine W.callV (as := []) 0 [] d10_91 (wq hw 58 rfl) (wq hw 59 rfl) (wq hw 61 rfl) (wq hw 61 rfl) (wq hw 60 rfl) (wq hw 11 rfl) (wq hw 62 rfl) (Hp.exa mp1) (c94_length hw hs (hvs_p2 := rfl) (mp1 := mp1) (mp2 := mp2)) (by decide) pd__I rfl rfl rfl rfl (by decide) (fun v D' h => ?_)
    obtain ⟨rfl, rfl⟩ := h
    show W _ _ _ _ _ _ _ _ _ _ _ _ 94 _ [(vi 2)]
    refine W.aloadN d10_94 rfl rfl ?_
    refine W.getf d10_95 (wq hw 92 rfl) Via.refl mog4Z m0 ?_
    refine W.icmpY 133 d10_98 (y_le (by decide)) (by decide) ?_
    refine W.aloadN d10_133 rfl rfl ?_
    exact W.areturn d10_134 rfl rfl rfl (by decide) ⟨rfl, rfl⟩
   refine W.aloadN d10_35 rfl rfl ?_
   refine W.iloadN d10_36 rfl ?_
   refine W.callV (as := [(vi 1)]) 0 [] d10_37 (wq hw 68 rfl) (wq hw 69 rfl) (wq hw 71 rfl) (wq hw 71 rfl) (wq hw 70 rfl) (wq hw 11 rfl) (wq hw 72 rfl) (Hp.exa mp1) (c99_charAt hw hs (hx2 := hx2) (mp1 := mp1) (mp2 := mp2)) (by decide) pd_I_C rfl rfl rfl rfl (by decide) (fun v D' h => ?_)
   obtain ⟨rfl, rfl⟩ := h
   show W _ _ _ _ _ _ _ _ _ _ _ _ 40 _ [(vi x2)]
   refine W.istoreN (ls' := #[rv (og4 Z), rv p1, iv 1, iv x2]) d10_40 rfl ?_
   refine W.iloadN d10_41 rfl ?_
   refine W.callSN (as := [(vi x2)]) 0 [] d10_42 (wq hw 89 rfl) (wq hw 90 rfl) (wq hw 37 rfl) (wq hw 91 rfl) (c34_isAsciiLetterOrDigit hw hs (hx1 := hx2)) (by decide) pd_C_Z rfl rfl rfl rfl (by decide) (fun v D' h => ?_)
   rcases h with ⟨h1, h2, rfl, rfl⟩ | ⟨h3, h4, h5, rfl, rfl⟩ | ⟨h6, h7, h8, rfl, rfl⟩ | ⟨h9, h10, rfl, rfl⟩ | ⟨h11, h12, h13, rfl, rfl⟩ | ⟨h14, h15, h16, rfl, rfl⟩
   ·
    have ih1 := t_lt h1
    have ih2 := t_lt h2
    show W _ _ _ _ _ _ _ _ _ _ _ _ 45 _ [(vi 0)]
    refine W.ifN d10_45 (n_ne (by decide)) ?_
    refine W.aloadN d10_48 rfl rfl ?_
    refine W.getf d10_49 (wq hw 231 rfl) Via.refl mog4Z m1 ?_
    refine W.iloadN d10_52 rfl ?_
    refine W.callV (as := [(vi x2)]) 0 [] d10_53 (wq hw 233 rfl) (wq hw 234 rfl) (wq hw 236 rfl) (wq hw 236 rfl) (wq hw 235 rfl) (wq hw 11 rfl) (wq hw 237 rfl) (Hp.exa mog5Z) (c35_indexOf hw hs (hx1 := hx2) (mog5Z := mog5Z) (mog6Z := mog6Z)) (by decide) pd_I_I rfl rfl rfl rfl (by decide) (fun v D' h => ?_)
    rcases h with ⟨h17, h18, h19, h20, rfl, rfl⟩ | ⟨h21, h22, h23, h24, rfl, rfl⟩ | ⟨h25, h26, h27, rfl, rfl⟩ | ⟨h28, h29, rfl, rfl⟩ | ⟨h30, rfl, rfl⟩
    ·
     have ih17 := t_ne h17
     have ih18 := t_ne h18
     have ih19 := t_ne h19
     exact absurd h20 (n_ne (by have := q45; have := q65; have := q48; have := q46; have := q95; have := q58; omega))
    ·
     have ih21 := t_ne h21
     have ih22 := t_ne h22
     have ih23 := t_ne h23
     have ih24 := f_ne h24
     show W _ _ _ _ _ _ _ _ _ _ _ _ 56 _ [(vi 3)]
     refine W.ifY 84 d10_56 (y_ge (by decide)) (by decide) ?_
     exact W.mono (by decide) (by decide) (K4  )
    ·
     have ih25 := t_ne h25
     have ih26 := t_ne h26
     exact absurd h27 (Classical.not_not.mpr (y_ne (by have := q58; have := q65; have := q48; have := q46; have := q95; omega)))
    ·
     have ih28 := t_ne h28
     exact absurd h29 (Classical.not_not.mpr (y_ne (by have := q95; have := q65; have := q48; have := q46; omega)))
    ·
     have ih30 := f_ne h30
     show W _ _ _ _ _ _ _ _ _ _ _ _ 56 _ [(vi 0)]
     refine W.ifY 84 d10_56 (y_ge (by decide)) (by decide) ?_
     exact W.mono (by decide) (by decide) (K4  )
   ·
    have ih3 := t_lt h3
    have ih4 := f_lt h4
    have ih5 := t_gt h5
    show W _ _ _ _ _ _ _ _ _ _ _ _ 45 _ [(vi 0)]
    refine W.ifN d10_45 (n_ne (by decide)) ?_
    refine W.aloadN d10_48 rfl rfl ?_
    refine W.getf d10_49 (wq hw 231 rfl) Via.refl mog4Z m1 ?_
    refine W.iloadN d10_52 rfl ?_
    refine W.callV (as := [(vi x2)]) 0 [] d10_53 (wq hw 233 rfl) (wq hw 234 rfl) (wq hw 236 rfl) (wq hw 236 rfl) (wq hw 235 rfl) (wq hw 11 rfl) (wq hw 237 rfl) (Hp.exa mog5Z) (c35_indexOf hw hs (hx1 := hx2) (mog5Z := mog5Z) (mog6Z := mog6Z)) (by decide) pd_I_I rfl rfl rfl rfl (by decide) (fun v D' h => ?_)
    rcases h with ⟨h31, h32, h33, h34, rfl, rfl⟩ | ⟨h35, h36, h37, h38, rfl, rfl⟩ | ⟨h39, h40, h41, rfl, rfl⟩ | ⟨h42, h43, rfl, rfl⟩ | ⟨h44, rfl, rfl⟩
    ·
     have ih31 := t_ne h31
     have ih32 := t_ne h32
     exact absurd h33 (n_ne (by have := q58; have := q65; have := q48; have := q57; have := q46; have := q95; omega))
    ·
     have ih35 := t_ne h35
     have ih36 := t_ne h36
     exact absurd h37 (n_ne (by have := q58; have := q65; have := q48; have := q57; have := q46; have := q95; omega))
    ·
     have ih39 := t_ne h39
     have ih40 := t_ne h40
     have ih41 := f_ne h41
     show W _ _ _ _ _ _ _ _ _ _ _ _ 56 _ [(vi 2)]
     refine W.ifY 84 d10_56 (y_ge (by decide)) (by decide) ?_
     exact W.mono (by decide) (by decide) (K4  )
    ·
     have ih42 := t_ne h42
     exact absurd h43 (Classical.not_not.mpr (y_ne (by have := q95; have := q65; have := q48; have := q57; have := q46; omega)))
    ·
     exact absurd h44 (Classical.not_not.mpr (y_ne (by have := q46; have := q65; have := q48; have := q57; omega)))
   ·
    have ih6 := t_lt h6
    have ih7 := f_lt h7
    have ih8 := f_gt h8
    show W _ _ _ _ _ _ _ _ _ _ _ _ 45 _ [(vi 1)]
    refine W.ifY 84 d10_45 (y_ne (by decide)) (by decide) ?_
    exact W.mono (by decide) (by decide) (K4  )
   ·
    have ih9 := f_lt h9
    have ih10 := t_le h10
    show W _ _ _ _ _ _ _ _ _ _ _ _ 45 _ [(vi 1)]
    refine W.ifY 84 d10_45 (y_ne (by decide)) (by decide) ?_
    exact W.mono (by decide) (by decide) (K4  )
   ·
    have ih11 := f_lt h11
    have ih12 := f_le h12
    have ih13 := t_lt h13
    show W _ _ _ _ _ _ _ _ _ _ _ _ 45 _ [(vi 0)]
    refine W.ifN d10_45 (n_ne (by decide)) ?_
    refine W.aloadN d10_48 rfl rfl ?_
    refine W.getf d10_49 (wq hw 231 rfl) Via.refl mog4Z m1 ?_
    refine W.iloadN d10_52 rfl ?_
    refine W.callV (as := [(vi x2)]) 0 [] d10_53 (wq hw 233 rfl) (wq hw 234 rfl) (wq hw 236 rfl) (wq hw 236 rfl) (wq hw 235 rfl) (wq hw 11 rfl) (wq hw 237 rfl) (Hp.exa mog5Z) (c35_indexOf hw hs (hx1 := hx2) (mog5Z := mog5Z) (mog6Z := mog6Z)) (by decide) pd_I_I rfl rfl rfl rfl (by decide) (fun v D' h => ?_)
    rcases h with ⟨h45, h46, h47, h48, rfl, rfl⟩ | ⟨h49, h50, h51, h52, rfl, rfl⟩ | ⟨h53, h54, h55, rfl, rfl⟩ | ⟨h56, h57, rfl, rfl⟩ | ⟨h58, rfl, rfl⟩
    ·
     have ih45 := t_ne h45
     exact absurd h46 (n_ne (by have := q95; have := q65; have := q90; have := q97; have := q46; omega))
    ·
     have ih49 := t_ne h49
     exact absurd h50 (n_ne (by have := q95; have := q65; have := q90; have := q97; have := q46; omega))
    ·
     have ih53 := t_ne h53
     exact absurd h54 (n_ne (by have := q95; have := q65; have := q90; have := q97; have := q46; omega))
    ·
     have ih56 := t_ne h56
     have ih57 := f_ne h57
     show W _ _ _ _ _ _ _ _ _ _ _ _ 56 _ [(vi 1)]
     refine W.ifY 84 d10_56 (y_ge (by decide)) (by decide) ?_
     exact W.mono (by decide) (by decide) (K4  )
    ·
     exact absurd h58 (Classical.not_not.mpr (y_ne (by have := q46; have := q65; have := q90; have := q97; omega)))
   ·
    have ih14 := f_lt h14
    have ih15 := f_le h15
    have ih16 := f_lt h16
    show W _ _ _ _ _ _ _ _ _ _ _ _ 45 _ [(vi 1)]
    refine W.ifY 84 d10_45 (y_ne (by decide)) (by decide) ?_
    exact W.mono (by decide) (by decide) (K4  )
  refine W.aloadN d10_35 rfl rfl ?_
  refine W.iloadN d10_36 rfl ?_
  refine W.callV (as := [(vi 0)]) 0 [] d10_37 (wq hw 68 rfl) (wq hw 69 rfl) (wq hw 71 rfl) (wq hw 71 rfl) (wq hw 70 rfl) (wq hw 11 rfl) (wq hw 72 rfl) (Hp.exa mp1) (c95_charAt hw hs (hx1 := hx1) (mp1 := mp1) (mp2 := mp2)) (by decide) pd_I_C rfl rfl rfl rfl (by decide) (fun v D' h => ?_)
  obtain ⟨rfl, rfl⟩ := h
  show W _ _ _ _ _ _ _ _ _ _ _ _ 40 _ [(vi x1)]
  refine W.istoreN (ls' := #[rv (og4 Z), rv p1, iv 0, iv x1]) d10_40 rfl ?_
  refine W.iloadN d10_41 rfl ?_
  refine W.callSN (as := [(vi x1)]) 0 [] d10_42 (wq hw 89 rfl) (wq hw 90 rfl) (wq hw 37 rfl) (wq hw 91 rfl) (c34_isAsciiLetterOrDigit hw hs (hx1 := hx1)) (by decide) pd_C_Z rfl rfl rfl rfl (by decide) (fun v D' h => ?_)
  rcases h with ⟨h59, h60, rfl, rfl⟩ | ⟨h61, h62, h63, rfl, rfl⟩ | ⟨h64, h65, h66, rfl, rfl⟩ | ⟨h67, h68, rfl, rfl⟩ | ⟨h69, h70, h71, rfl, rfl⟩ | ⟨h72, h73, h74, rfl, rfl⟩
  ·
   have ih59 := t_lt h59
   have ih60 := t_lt h60
   show W _ _ _ _ _ _ _ _ _ _ _ _ 45 _ [(vi 0)]
   refine W.ifN d10_45 (n_ne (by decide)) ?_
   refine W.aloadN d10_48 rfl rfl ?_
   refine W.getf d10_49 (wq hw 231 rfl) Via.refl mog4Z m1 ?_
   refine W.iloadN d10_52 rfl ?_
   refine W.callV (as := [(vi x1)]) 0 [] d10_53 (wq hw 233 rfl) (wq hw 234 rfl) (wq hw 236 rfl) (wq hw 236 rfl) (wq hw 235 rfl) (wq hw 11 rfl) (wq hw 237 rfl) (Hp.exa mog5Z) (c35_indexOf hw hs (hx1 := hx1) (mog5Z := mog5Z) (mog6Z := mog6Z)) (by decide) pd_I_I rfl rfl rfl rfl (by decide) (fun v D' h => ?_)
   rcases h with ⟨h75, h76, h77, h78, rfl, rfl⟩ | ⟨h79, h80, h81, h82, rfl, rfl⟩ | ⟨h83, h84, h85, rfl, rfl⟩ | ⟨h86, h87, rfl, rfl⟩ | ⟨h88, rfl, rfl⟩
   ·
    have ih75 := t_ne h75
    have ih76 := t_ne h76
    have ih77 := t_ne h77
    exact absurd h78 (n_ne (by have := q45; have := q65; have := q48; have := q46; have := q95; have := q58; omega))
   ·
    have ih79 := t_ne h79
    have ih80 := t_ne h80
    have ih81 := t_ne h81
    have ih82 := f_ne h82
    show W _ _ _ _ _ _ _ _ _ _ _ _ 56 _ [(vi 3)]
    refine W.ifY 84 d10_56 (y_ge (by decide)) (by decide) ?_
    exact W.mono (by decide) (by decide) (K2  )
   ·
    have ih83 := t_ne h83
    have ih84 := t_ne h84
    exact absurd h85 (Classical.not_not.mpr (y_ne (by have := q58; have := q65; have := q48; have := q46; have := q95; omega)))
   ·
    have ih86 := t_ne h86
    exact absurd h87 (Classical.not_not.mpr (y_ne (by have := q95; have := q65; have := q48; have := q46; omega)))
   ·
    have ih88 := f_ne h88
    show W _ _ _ _ _ _ _ _ _ _ _ _ 56 _ [(vi 0)]
    refine W.ifY 84 d10_56 (y_ge (by decide)) (by decide) ?_
    exact W.mono (by decide) (by decide) (K2  )
  ·
   have ih61 := t_lt h61
   have ih62 := f_lt h62
   have ih63 := t_gt h63
   show W _ _ _ _ _ _ _ _ _ _ _ _ 45 _ [(vi 0)]
   refine W.ifN d10_45 (n_ne (by decide)) ?_
   refine W.aloadN d10_48 rfl rfl ?_
   refine W.getf d10_49 (wq hw 231 rfl) Via.refl mog4Z m1 ?_
   refine W.iloadN d10_52 rfl ?_
   refine W.callV (as := [(vi x1)]) 0 [] d10_53 (wq hw 233 rfl) (wq hw 234 rfl) (wq hw 236 rfl) (wq hw 236 rfl) (wq hw 235 rfl) (wq hw 11 rfl) (wq hw 237 rfl) (Hp.exa mog5Z) (c35_indexOf hw hs (hx1 := hx1) (mog5Z := mog5Z) (mog6Z := mog6Z)) (by decide) pd_I_I rfl rfl rfl rfl (by decide) (fun v D' h => ?_)
   rcases h with ⟨h89, h90, h91, h92, rfl, rfl⟩ | ⟨h93, h94, h95, h96, rfl, rfl⟩ | ⟨h97, h98, h99, rfl, rfl⟩ | ⟨h100, h101, rfl, rfl⟩ | ⟨h102, rfl, rfl⟩
   ·
    have ih89 := t_ne h89
    have ih90 := t_ne h90
    exact absurd h91 (n_ne (by have := q58; have := q65; have := q48; have := q57; have := q46; have := q95; omega))
   ·
    have ih93 := t_ne h93
    have ih94 := t_ne h94
    exact absurd h95 (n_ne (by have := q58; have := q65; have := q48; have := q57; have := q46; have := q95; omega))
   ·
    have ih97 := t_ne h97
    have ih98 := t_ne h98
    have ih99 := f_ne h99
    show W _ _ _ _ _ _ _ _ _ _ _ _ 56 _ [(vi 2)]
    refine W.ifY 84 d10_56 (y_ge (by decide)) (by decide) ?_
    exact W.mono (by decide) (by decide) (K2  )
   ·
    have ih100 := t_ne h100
    exact absurd h101 (Classical.not_not.mpr (y_ne (by have := q95; have := q65; have := q48; have := q57; have := q46; omega)))
   ·
    exact absurd h102 (Classical.not_not.mpr (y_ne (by have := q46; have := q65; have := q48; have := q57; omega)))
  ·
   have ih64 := t_lt h64
   have ih65 := f_lt h65
   have ih66 := f_gt h66
   show W _ _ _ _ _ _ _ _ _ _ _ _ 45 _ [(vi 1)]
   refine W.ifY 84 d10_45 (y_ne (by decide)) (by decide) ?_
   exact W.mono (by decide) (by decide) (K2  )
  ·
   have ih67 := f_lt h67
   have ih68 := t_le h68
   show W _ _ _ _ _ _ _ _ _ _ _ _ 45 _ [(vi 1)]
   refine W.ifY 84 d10_45 (y_ne (by decide)) (by decide) ?_
   exact W.mono (by decide) (by decide) (K2  )
  ·
   have ih69 := f_lt h69
   have ih70 := f_le h70
   have ih71 := t_lt h71
   show W _ _ _ _ _ _ _ _ _ _ _ _ 45 _ [(vi 0)]
   refine W.ifN d10_45 (n_ne (by decide)) ?_
   refine W.aloadN d10_48 rfl rfl ?_
   refine W.getf d10_49 (wq hw 231 rfl) Via.refl mog4Z m1 ?_
   refine W.iloadN d10_52 rfl ?_
   refine W.callV (as := [(vi x1)]) 0 [] d10_53 (wq hw 233 rfl) (wq hw 234 rfl) (wq hw 236 rfl) (wq hw 236 rfl) (wq hw 235 rfl) (wq hw 11 rfl) (wq hw 237 rfl) (Hp.exa mog5Z) (c35_indexOf hw hs (hx1 := hx1) (mog5Z := mog5Z) (mog6Z := mog6Z)) (by decide) pd_I_I rfl rfl rfl rfl (by decide) (fun v D' h => ?_)
   rcases h with ⟨h103, h104, h105, h106, rfl, rfl⟩ | ⟨h107, h108, h109, h110, rfl, rfl⟩ | ⟨h111, h112, h113, rfl, rfl⟩ | ⟨h114, h115, rfl, rfl⟩ | ⟨h116, rfl, rfl⟩
   ·
    have ih103 := t_ne h103
    exact absurd h104 (n_ne (by have := q95; have := q65; have := q90; have := q97; have := q46; omega))
   ·
    have ih107 := t_ne h107
    exact absurd h108 (n_ne (by have := q95; have := q65; have := q90; have := q97; have := q46; omega))
   ·
    have ih111 := t_ne h111
    exact absurd h112 (n_ne (by have := q95; have := q65; have := q90; have := q97; have := q46; omega))
   ·
    have ih114 := t_ne h114
    have ih115 := f_ne h115
    show W _ _ _ _ _ _ _ _ _ _ _ _ 56 _ [(vi 1)]
    refine W.ifY 84 d10_56 (y_ge (by decide)) (by decide) ?_
    exact W.mono (by decide) (by decide) (K2  )
   ·
    exact absurd h116 (Classical.not_not.mpr (y_ne (by have := q46; have := q65; have := q90; have := q97; omega)))
  ·
   have ih72 := f_lt h72
   have ih73 := f_le h73
   have ih74 := f_lt h74
   show W _ _ _ _ _ _ _ _ _ _ _ _ 45 _ [(vi 1)]
   refine W.ifY 84 d10_45 (y_ne (by decide)) (by decide) ?_
   exact W.mono (by decide) (by decide) (K2  )
theorem c91_checkId {Z a0} (hw : HW a0 Z) (hs : SF Z) {p1 p2 : Addr} {x1 : Int32} (hx1 : (45 ≤ x1.toInt ∧ x1.toInt ≤ 46) ∨ (48 ≤ x1.toInt ∧ x1.toInt ≤ 58) ∨ (65 ≤ x1.toInt ∧ x1.toInt ≤ 90) ∨ x1.toInt = 95 ∨ (97 ≤ x1.toInt ∧ x1.toInt ≤ 122)) {x2 : Int32} (hx2 : (45 ≤ x2.toInt ∧ x2.toInt ≤ 46) ∨ (48 ≤ x2.toInt ∧ x2.toInt ≤ 58) ∨ (65 ≤ x2.toInt ∧ x2.toInt ≤ 90) ∨ x2.toInt = 95 ∨ (97 ≤ x2.toInt ∧ x2.toInt ≤ 122)) {w_og4Z : Bool} {w_p1 : Bool} {w_p2 : Bool} {ad_p2 : String} {w_og5Z : Bool} {w_og6Z : Bool} {ad_og6Z : String} {F : List Ent} (mog4Z : ((og4 Z), w_og4Z, oJobKey_NameRule (vi 128) (vr (og5 Z))) ∈ F) (mp1 : (p1, w_p1, oString (vr p2) (vi 0)) ∈ F) (mp2 : (p2, w_p2, ar ad_p2 .byte [(vi x1), (vi x2)]) ∈ F) (mog5Z : ((og5 Z), w_og5Z, oString (vr (og6 Z)) (vi 0)) ∈ F) (mog6Z : ((og6 Z), w_og6Z, ar ad_og6Z .byte [(vi 46), (vi 95), (vi 58), (vi 45)]) ∈ F) : Con Z EL y25 y25b 1 y25r (rmm 5 0 0 74) [(vr p1)] (F) (fun v D' => (v = some (vr p1) ∧ F = D')) := by
  refine Con.of (ls := #[rv p1]) (by decide +kernel) rfl ?_
  refine W.gets d20_0 (wq hw 99 rfl) Via.refl hs.2.2.2.2.2.1 ?_
  refine W.aloadN d20_3 rfl rfl ?_
  refine W.callV (as := [(vr p1)]) 0 [] d20_4 (wq hw 47 rfl) (wq hw 48 rfl) (wq hw 50 rfl) (wq hw 50 rfl) (wq hw 49 rfl) (wq hw 51 rfl) (wq hw 52 rfl) (Hp.exa mog4Z) (c92_check hw hs (hx1 := hx1) (hx2 := hx2) (mp1 := mp1) (mp2 := mp2) (mog4Z := mog4Z) (mog5Z := mog5Z) (mog6Z := mog6Z)) (by decide) pd_Ljava_lang_String__Ljava_lang_String_ rfl rfl rfl rfl (by decide) (fun v D' h => ?_)
  obtain ⟨rfl, rfl⟩ := h
  show W _ _ _ _ _ _ _ _ _ _ _ _ 7 _ [(vr p1)]
  exact W.areturn d20_7 rfl rfl rfl (by decide) ⟨rfl, rfl⟩
theorem c90_init {Z a0} (hw : HW a0 Z) (hs : SF Z) {p1 p2 p3 p4 p5 : Addr} {x1 : Int32} (hx1 : (45 ≤ x1.toInt ∧ x1.toInt ≤ 46) ∨ (48 ≤ x1.toInt ∧ x1.toInt ≤ 57) ∨ (65 ≤ x1.toInt ∧ x1.toInt ≤ 90) ∨ x1.toInt = 95 ∨ (97 ≤ x1.toInt ∧ x1.toInt ≤ 122)) {x2 : Int32} (hx2 : (45 ≤ x2.toInt ∧ x2.toInt ≤ 46) ∨ (48 ≤ x2.toInt ∧ x2.toInt ≤ 58) ∨ (65 ≤ x2.toInt ∧ x2.toInt ≤ 90) ∨ x2.toInt = 95 ∨ (97 ≤ x2.toInt ∧ x2.toInt ≤ 122)) {x3 : Int32} (hx3 : (45 ≤ x3.toInt ∧ x3.toInt ≤ 46) ∨ (48 ≤ x3.toInt ∧ x3.toInt ≤ 58) ∨ (65 ≤ x3.toInt ∧ x3.toInt ≤ 90) ∨ x3.toInt = 95 ∨ (97 ≤ x3.toInt ∧ x3.toInt ≤ 122)) {w_og1Z : Bool} {w_p2 : Bool} {w_p4 : Bool} {ad_p4 : String} {w_og2Z : Bool} {w_og3Z : Bool} {ad_og3Z : String} {w_og4Z : Bool} {w_p3 : Bool} {w_p5 : Bool} {ad_p5 : String} {w_og5Z : Bool} {w_og6Z : Bool} {ad_og6Z : String} {F : List Ent} (mog1Z : ((og1 Z), w_og1Z, oJobKey_NameRule (vi 64) (vr (og2 Z))) ∈ F) (mp2 : (p2, w_p2, oString (vr p4) (vi 0)) ∈ F) (mp4 : (p4, w_p4, ar ad_p4 .byte [(vi x1)]) ∈ F) (mog2Z : ((og2 Z), w_og2Z, oString (vr (og3 Z)) (vi 0)) ∈ F) (mog3Z : ((og3 Z), w_og3Z, ar ad_og3Z .byte [(vi 46), (vi 95), (vi 45)]) ∈ F) (mog4Z : ((og4 Z), w_og4Z, oJobKey_NameRule (vi 128) (vr (og5 Z))) ∈ F) (mp3 : (p3, w_p3, oString (vr p5) (vi 0)) ∈ F) (mp5 : (p5, w_p5, ar ad_p5 .byte [(vi x2), (vi x3)]) ∈ F) (mog5Z : ((og5 Z), w_og5Z, oString (vr (og6 Z)) (vi 0)) ∈ F) (mog6Z : ((og6 Z), w_og6Z, ar ad_og6Z .byte [(vi 46), (vi 95), (vi 58), (vi 45)]) ∈ F) : Con Z EL y26 y26b 3 y26r (rmm 6 0 0 87) [(vr p1), (vr p2), (vr p3)] ((p1, true, oJobKey .null .null) :: F) (fun v D' => (v = none ∧ (p1, true, oJobKey (vr p2) (vr p3)) :: F = D')) := by
  refine Con.of (ls := #[rv p1, rv p2, rv p3]) (by decide +kernel) rfl ?_
  refine W.aloadN d8_0 rfl rfl ?_
  refine W.initO 0 d8_1 (wq hw 41 rfl) (wq hw 29 rfl) (wq hw 30 rfl) rfl rfl (by decide) ?_
  refine W.aloadN d8_4 rfl rfl ?_
  refine W.aloadN d8_5 rfl rfl ?_
  refine W.callS (as := [(vr p2)]) 1 [(vr p1)] d8_6 (wq hw 42 rfl) (wq hw 43 rfl) (wq hw 37 rfl) (wq hw 44 rfl) (c11_checkTopic hw hs (hx1 := hx1) (mog1Z := (mS mog1Z)) (mp1 := (mS mp2)) (mp2 := (mS mp4)) (mog2Z := (mS mog2Z)) (mog3Z := (mS mog3Z))) (by decide) pd_Ljava_lang_String__Ljava_lang_String_ rfl rfl rfl rfl (by decide) (fun v D' h => ?_)
  obtain ⟨rfl, rfl⟩ := h
  show W _ _ _ _ _ _ _ _ _ _ _ _ 9 _ [(vr p2), (vr p1)]
  refine W.putf (D' := (p1, true, oJobKey (vr p2) .null) :: F) 0 0 d8_9 (wq hw 94 rfl) Via.refl rfl rfl (Or.inr ⟨(wq hw 95 rfl), rfl, rfl⟩) (wq hw 36 rfl) pfLjava_lang_String_ rfl rfl rfl ?_
  refine W.aloadN d8_12 rfl rfl ?_
  refine W.aloadN d8_13 rfl rfl ?_
  refine W.callS (as := [(vr p3)]) 1 [(vr p1)] d8_14 (wq hw 96 rfl) (wq hw 97 rfl) (wq hw 37 rfl) (wq hw 98 rfl) (c91_checkId hw hs (hx1 := hx2) (hx2 := hx3) (mog4Z := (mS mog4Z)) (mp1 := (mS mp3)) (mp2 := (mS mp5)) (mog5Z := (mS mog5Z)) (mog6Z := (mS mog6Z))) (by decide) pd_Ljava_lang_String__Ljava_lang_String_ rfl rfl rfl rfl (by decide) (fun v D' h => ?_)
  obtain ⟨rfl, rfl⟩ := h
  show W _ _ _ _ _ _ _ _ _ _ _ _ 17 _ [(vr p3), (vr p1)]
  refine W.putf (D' := (p1, true, oJobKey (vr p2) (vr p3)) :: F) 0 1 d8_17 (wq hw 101 rfl) Via.refl rfl rfl (Or.inr ⟨(wq hw 102 rfl), rfl, rfl⟩) (wq hw 36 rfl) pfLjava_lang_String_ rfl rfl rfl ?_
  exact W.return_ d8_20 rfl (by decide) ⟨rfl, rfl⟩
theorem c106_ensureCapacityInternal {Z a0} (hw : HW a0 Z) (hs : SF Z) {p1 p2 : Addr} {f_p1_2 : Value} {vs_p2 : List Value} (hvs_p2 : vs_p2.length = 16) {w_p1 : Bool} {w_p2 : Bool} {ad_p2 : String} {F : List Ent} (mp1 : (p1, w_p1, oStringBuilder (vr p2) (vi 0) f_p1_2) ∈ F) (mp2 : (p2, w_p2, ar ad_p2 .byte vs_p2) ∈ F) : Con Z EL y29 y29b 3 y29r (rmm 0 0 0 0) [(vr p1), (vi 4)] (F) (fun v D' => (v = none ∧ F = D')) := by
  refine Con.of (ls := #[rv p1, iv 4, uu]) (by decide +kernel) rfl ?_
  refine W.aloadN d26_0 rfl rfl ?_
  refine W.getf d26_1 (wq hw 122 rfl) Via.refl mp1 m0 ?_
  refine W.alen (16) d26_4 mp2 (by rw [hvs_p2]; rfl) ?_
  refine W.aloadN d26_5 rfl rfl ?_
  refine W.getf d26_6 (wq hw 124 rfl) Via.refl mp1 m1 ?_
  refine W.ishrK (16 : Int32) d26_9 (by decide) ?_
  refine W.istoreN (ls' := #[rv p1, iv 4, iv 16]) d26_10 rfl ?_
  refine W.iloadN d26_11 rfl ?_
  refine W.iloadN d26_12 rfl ?_
  refine W.isubK (-12 : Int32) d26_13 (by decide) ?_
  refine W.ifY 38 d26_14 (y_le (by decide)) (by decide) ?_
  exact W.return_ d26_38 rfl (by decide) ⟨rfl, rfl⟩
theorem c108_getBytes {Z a0} (hw : HW a0 Z) (hs : SF Z) {p1 p2 p3 : Addr} {x1 : Int32} (hx1 : (45 ≤ x1.toInt ∧ x1.toInt ≤ 46) ∨ (48 ≤ x1.toInt ∧ x1.toInt ≤ 57) ∨ (65 ≤ x1.toInt ∧ x1.toInt ≤ 90) ∨ x1.toInt = 95 ∨ (97 ≤ x1.toInt ∧ x1.toInt ≤ 122)) {x2 : Int32} (hx2 : (45 ≤ x2.toInt ∧ x2.toInt ≤ 46) ∨ (48 ≤ x2.toInt ∧ x2.toInt ≤ 58) ∨ (65 ≤ x2.toInt ∧ x2.toInt ≤ 90) ∨ x2.toInt = 95 ∨ (97 ≤ x2.toInt ∧ x2.toInt ≤ 122)) {x3 : Int32} (hx3 : (45 ≤ x3.toInt ∧ x3.toInt ≤ 46) ∨ (48 ≤ x3.toInt ∧ x3.toInt ≤ 58) ∨ (65 ≤ x3.toInt ∧ x3.toInt ≤ 90) ∨ x3.toInt = 95 ∨ (97 ≤ x3.toInt ∧ x3.toInt ≤ 122)) {e_p2_1 e_p2_4 e_p2_5 e_p2_6 e_p2_7 e_p2_8 e_p2_9 e_p2_10 e_p2_11 e_p2_12 e_p2_13 e_p2_14 e_p2_15 : Value} {ad_p2 : String} {w_p1 : Bool} {w_p3 : Bool} {ad_p3 : String} {F : List Ent} (mp1 : (p1, w_p1, oString (vr p3) (vi 0)) ∈ F) (mp3 : (p3, w_p3, ar ad_p3 .byte [(vi x2), (vi x3)]) ∈ F) : Con Z EL y31 y31b 4 y31r (rmm 1 0 0 48) [(vr p1), (vr p2), (vi 2), (vi 0)] ((p2, true, ar ad_p2 .byte [(vi x1), e_p2_1, (vi 0), (vi 0), e_p2_4, e_p2_5, e_p2_6, e_p2_7, e_p2_8, e_p2_9, e_p2_10, e_p2_11, e_p2_12, e_p2_13, e_p2_14, e_p2_15]) :: F) (fun v D' => (v = none ∧ (p2, true, ar ad_p2 .byte [(vi x1), e_p2_1, (vi x2), (vi x3), e_p2_4, e_p2_5, e_p2_6, e_p2_7, e_p2_8, e_p2_9, e_p2_10, e_p2_11, e_p2_12, e_p2_13, e_p2_14, e_p2_15]) :: F = D')) := by
  refine Con.of (ls := #[rv p1, rv p2, iv 2, iv 0]) (by decide +kernel) rfl ?_
  refine W.aloadN d29_0 rfl rfl ?_
  refine W.callV (as := []) 0 [] d29_1 (wq hw 63 rfl) (wq hw 64 rfl) (wq hw 66 rfl) (wq hw 66 rfl) (wq hw 65 rfl) (wq hw 11 rfl) (wq hw 67 rfl) (Hp.exa (mS mp1)) (c15_coder hw hs (mp1 := (mS mp1))) (by decide) pd__B rfl rfl rfl rfl (by decide) (fun v D' h => ?_)
  obtain ⟨rfl, rfl⟩ := h
  show W _ _ _ _ _ _ _ _ _ _ _ _ 4 _ [(vi 0)]
  refine W.iloadN d29_4 rfl ?_
  refine W.icmpN d29_5 (n_ne (by decide)) ?_
  refine W.aloadN d29_8 rfl rfl ?_
  refine W.getf d29_9 (wq hw 31 rfl) Via.refl (mS mp1) m0 ?_
  refine W.iconst (0) d29_12 (by decide) ?_
  refine W.aloadN d29_13 rfl rfl ?_
  refine W.iloadN d29_14 rfl ?_
  refine W.iloadN d29_15 rfl ?_
  refine W.ishlK (2 : Int32) d29_16 (by decide) ?_
  refine W.aloadN d29_17 rfl rfl ?_
  refine W.getf d29_18 (wq hw 31 rfl) Via.refl (mS mp1) m0 ?_
  refine W.alen (2) d29_21 (mS mp3) rfl ?_
  refine W.cpy (D' := (p2, true, ar ad_p2 .byte [(vi x1), e_p2_1, (vi x2), (vi x3), e_p2_4, e_p2_5, e_p2_6, e_p2_7, e_p2_8, e_p2_9, e_p2_10, e_p2_11, e_p2_12, e_p2_13, e_p2_14, e_p2_15]) :: F) 0 0 2 2 0 d29_22 (wq hw 160 rfl) (wq hw 163 rfl) (wq hw 161 rfl) (wq hw 162 rfl) (mS mp3) rfl rfl ix0 ix2 ix2 ⟨Nat.le_of_ble_eq_true rfl, Nat.le_of_ble_eq_true rfl⟩ rfl rfl (by decide) rfl ?_
  refine W.goto 43 d29_25 (by decide) ?_
  exact W.return_ d29_43 rfl (by decide) ⟨rfl, rfl⟩
theorem c107_putStringAt {Z a0} (hw : HW a0 Z) (hs : SF Z) {p1 p2 p3 p4 : Addr} {x1 : Int32} (hx1 : (45 ≤ x1.toInt ∧ x1.toInt ≤ 46) ∨ (48 ≤ x1.toInt ∧ x1.toInt ≤ 57) ∨ (65 ≤ x1.toInt ∧ x1.toInt ≤ 90) ∨ x1.toInt = 95 ∨ (97 ≤ x1.toInt ∧ x1.toInt ≤ 122)) {x2 : Int32} (hx2 : (45 ≤ x2.toInt ∧ x2.toInt ≤ 46) ∨ (48 ≤ x2.toInt ∧ x2.toInt ≤ 58) ∨ (65 ≤ x2.toInt ∧ x2.toInt ≤ 90) ∨ x2.toInt = 95 ∨ (97 ≤ x2.toInt ∧ x2.toInt ≤ 122)) {x3 : Int32} (hx3 : (45 ≤ x3.toInt ∧ x3.toInt ≤ 46) ∨ (48 ≤ x3.toInt ∧ x3.toInt ≤ 58) ∨ (65 ≤ x3.toInt ∧ x3.toInt ≤ 90) ∨ x3.toInt = 95 ∨ (97 ≤ x3.toInt ∧ x3.toInt ≤ 122)) {e_p3_1 e_p3_4 e_p3_5 e_p3_6 e_p3_7 e_p3_8 e_p3_9 e_p3_10 e_p3_11 e_p3_12 e_p3_13 e_p3_14 e_p3_15 f_p1_2 : Value} {ad_p3 : String} {w_p1 : Bool} {w_p2 : Bool} {w_p4 : Bool} {ad_p4 : String} {F : List Ent} (mp1 : (p1, w_p1, oStringBuilder (vr p3) (vi 0) f_p1_2) ∈ F) (mp2 : (p2, w_p2, oString (vr p4) (vi 0)) ∈ F) (mp4 : (p4, w_p4, ar ad_p4 .byte [(vi x2), (vi x3)]) ∈ F) : Con Z EL y32 y32b 3 y32r (rmm 2 0 0 63) [(vr p1), (vi 2), (vr p2)] ((p3, true, ar ad_p3 .byte [(vi x1), e_p3_1, (vi 0), (vi 0), e_p3_4, e_p3_5, e_p3_6, e_p3_7, e_p3_8, e_p3_9, e_p3_10, e_p3_11, e_p3_12, e_p3_13, e_p3_14, e_p3_15]) :: F) (fun v D' => (v = none ∧ (p3, true, ar ad_p3 .byte [(vi x1), e_p3_1, (vi x2), (vi x3), e_p3_4, e_p3_5, e_p3_6, e_p3_7, e_p3_8, e_p3_9, e_p3_10, e_p3_11, e_p3_12, e_p3_13, e_p3_14, e_p3_15]) :: F = D')) := by
  refine Con.of (ls := #[rv p1, iv 2, rv p2]) (by decide +kernel) rfl ?_
  refine W.aloadN d27_0 rfl rfl ?_
  refine W.aloadN d27_1 rfl rfl ?_
  refine W.callP (as := [(vr p2)]) 0 [] d27_2 (wq hw 149 rfl) (wq hw 150 rfl) (wq hw 152 rfl) (wq hw 151 rfl) (wq hw 118 rfl) (wq hw 153 rfl) (Hp.exa (mS mp1)) (c49_inflateIfNeededFor hw hs (mp1 := (mS mp1)) (mp2 := (mS mp2))) (by decide) pd_Ljava_lang_String__V rfl rfl rfl rfl (by decide) (fun v D' h => ?_)
  obtain ⟨rfl, rfl⟩ := h
  show W _ _ _ _ _ _ _ _ _ _ _ _ 5 _ []
  refine W.aloadN d27_5 rfl rfl ?_
  refine W.aloadN d27_6 rfl rfl ?_
  refine W.getf d27_7 (wq hw 122 rfl) Via.refl (mS mp1) m0 ?_
  refine W.iloadN d27_10 rfl ?_
  refine W.aloadN d27_11 rfl rfl ?_
  refine W.getf d27_12 (wq hw 124 rfl) Via.refl (mS mp1) m1 ?_
  refine W.callV (as := [(vr p3), (vi 2), (vi 0)]) 0 [] d27_15 (wq hw 155 rfl) (wq hw 156 rfl) (wq hw 158 rfl) (wq hw 158 rfl) (wq hw 157 rfl) (wq hw 11 rfl) (wq hw 159 rfl) (Hp.exa (mS mp2)) (c108_getBytes hw hs (hx1 := hx1) (hx2 := hx2) (hx3 := hx3) (mp1 := mp2) (mp3 := mp4)) (by decide) pd__BIB_V rfl rfl rfl rfl (by decide) (fun v D' h => ?_)
  obtain ⟨rfl, rfl⟩ := h
  show W _ _ _ _ _ _ _ _ _ _ _ _ 18 _ []
  exact W.return_ d27_18 rfl (by decide) ⟨rfl, rfl⟩
theorem c105_append {Z a0} (hw : HW a0 Z) (hs : SF Z) {p1 p2 p3 p4 : Addr} {x1 : Int32} (hx1 : (45 ≤ x1.toInt ∧ x1.toInt ≤ 46) ∨ (48 ≤ x1.toInt ∧ x1.toInt ≤ 57) ∨ (65 ≤ x1.toInt ∧ x1.toInt ≤ 90) ∨ x1.toInt = 95 ∨ (97 ≤ x1.toInt ∧ x1.toInt ≤ 122)) {x2 : Int32} (hx2 : (45 ≤ x2.toInt ∧ x2.toInt ≤ 46) ∨ (48 ≤ x2.toInt ∧ x2.toInt ≤ 58) ∨ (65 ≤ x2.toInt ∧ x2.toInt ≤ 90) ∨ x2.toInt = 95 ∨ (97 ≤ x2.toInt ∧ x2.toInt ≤ 122)) {x3 : Int32} (hx3 : (45 ≤ x3.toInt ∧ x3.toInt ≤ 46) ∨ (48 ≤ x3.toInt ∧ x3.toInt ≤ 58) ∨ (65 ≤ x3.toInt ∧ x3.toInt ≤ 90) ∨ x3.toInt = 95 ∨ (97 ≤ x3.toInt ∧ x3.toInt ≤ 122)) {e_p3_1 e_p3_4 e_p3_5 e_p3_6 e_p3_7 e_p3_8 e_p3_9 e_p3_10 e_p3_11 e_p3_12 e_p3_13 e_p3_14 e_p3_15 : Value} {ad_p3 : String} {w_p2 : Bool} {w_p4 : Bool} {ad_p4 : String} {F : List Ent} (mp2 : (p2, w_p2, oString (vr p4) (vi 0)) ∈ F) (mp4 : (p4, w_p4, ar ad_p4 .byte [(vi x2), (vi x3)]) ∈ F) : Con Z EL y33 y33b 3 y33r (rmm 3 0 0 77) [(vr p1), (vr p2)] ((p3, true, ar ad_p3 .byte [(vi x1), e_p3_1, (vi 0), (vi 0), e_p3_4, e_p3_5, e_p3_6, e_p3_7, e_p3_8, e_p3_9, e_p3_10, e_p3_11, e_p3_12, e_p3_13, e_p3_14, e_p3_15]) :: (p1, true, oStringBuilder (vr p3) (vi 0) (vi 2)) :: F) (fun v D' => (v = some (vr p1) ∧ (p3, true, ar ad_p3 .byte [(vi x1), e_p3_1, (vi x2), (vi x3), e_p3_4, e_p3_5, e_p3_6, e_p3_7, e_p3_8, e_p3_9, e_p3_10, e_p3_11, e_p3_12, e_p3_13, e_p3_14, e_p3_15]) :: (p1, true, oStringBuilder (vr p3) (vi 0) (vi 4)) :: F = D')) := by
  refine Con.of (ls := #[rv p1, rv p2, uu]) (by decide +kernel) rfl ?_
  refine W.aloadN d25_0 rfl rfl ?_
  refine W.ifnonnullY 9 d25_1 (by decide) ?_
  refine W.aloadN d25_9 rfl rfl ?_
  refine W.callV (as := []) 0 [] d25_10 (wq hw 136 rfl) (wq hw 59 rfl) (wq hw 61 rfl) (wq hw 61 rfl) (wq hw 60 rfl) (wq hw 11 rfl) (wq hw 62 rfl) (Hp.exa (mS (mS mp2))) (c94_length hw hs (hvs_p2 := rfl) (mp1 := (mS (mS mp2))) (mp2 := (mS (mS mp4)))) (by decide) pd__I rfl rfl rfl rfl (by decide) (fun v D' h => ?_)
  obtain ⟨rfl, rfl⟩ := h
  show W _ _ _ _ _ _ _ _ _ _ _ _ 13 _ [(vi 2)]
  refine W.istoreN (ls' := #[rv p1, rv p2, iv 2]) d25_13 rfl ?_
  refine W.aloadN d25_14 rfl rfl ?_
  refine W.aloadN d25_15 rfl rfl ?_
  refine W.getf d25_16 (wq hw 137 rfl) Via.refl m1 m2 ?_
  refine W.iloadN d25_19 rfl ?_
  refine W.iaddK (4 : Int32) d25_20 (by decide) ?_
  refine W.callP (as := [(vi 4)]) 0 [] d25_21 (wq hw 139 rfl) (wq hw 140 rfl) (wq hw 142 rfl) (wq hw 141 rfl) (wq hw 118 rfl) (wq hw 143 rfl) (Hp.exa m1) (c106_ensureCapacityInternal hw hs (hvs_p2 := rfl) (mp1 := m1) (mp2 := m0)) (by decide) pd_I_V rfl rfl rfl rfl (by decide) (fun v D' h => ?_)
  obtain ⟨rfl, rfl⟩ := h
  show W _ _ _ _ _ _ _ _ _ _ _ _ 24 _ []
  refine W.aloadN d25_24 rfl rfl ?_
  refine W.aloadN d25_25 rfl rfl ?_
  refine W.getf d25_26 (wq hw 137 rfl) Via.refl m1 m2 ?_
  refine W.aloadN d25_29 rfl rfl ?_
  refine W.callP (as := [(vi 2), (vr p2)]) 0 [] d25_30 (wq hw 144 rfl) (wq hw 145 rfl) (wq hw 147 rfl) (wq hw 146 rfl) (wq hw 118 rfl) (wq hw 148 rfl) (Hp.exa m1) (c107_putStringAt hw hs (hx1 := hx1) (hx2 := hx2) (hx3 := hx3) (mp1 := m0) (mp2 := (mS mp2)) (mp4 := (mS mp4))) (by decide) pd_ILjava_lang_String__V rfl rfl rfl rfl (by decide) (fun v D' h => ?_)
  obtain ⟨rfl, rfl⟩ := h
  show W _ _ _ _ _ _ _ _ _ _ _ _ 33 _ []
  refine W.aloadN d25_33 rfl rfl ?_
  refine W.dup d25_34 rfl ?_
  refine W.getf d25_35 (wq hw 137 rfl) Via.refl m1 m2 ?_
  refine W.iloadN d25_38 rfl ?_
  refine W.iaddK (4 : Int32) d25_39 (by decide) ?_
  refine W.putf (D' := (p3, true, ar ad_p3 .byte [(vi x1), e_p3_1, (vi x2), (vi x3), e_p3_4, e_p3_5, e_p3_6, e_p3_7, e_p3_8, e_p3_9, e_p3_10, e_p3_11, e_p3_12, e_p3_13, e_p3_14, e_p3_15]) :: (p1, true, oStringBuilder (vr p3) (vi 0) (vi 4)) :: F) 1 2 d25_40 (wq hw 137 rfl) Via.refl rfl rfl (Or.inl (wq hw 138 rfl)) (wq hw 109 rfl) pfI rfl rfl rfl ?_
  refine W.aloadN d25_43 rfl rfl ?_
  exact W.areturn d25_44 rfl rfl rfl (by decide) ⟨rfl, rfl⟩
theorem c104_append {Z a0} (hw : HW a0 Z) (hs : SF Z) {p1 p2 p3 p4 : Addr} {x1 : Int32} (hx1 : (45 ≤ x1.toInt ∧ x1.toInt ≤ 46) ∨ (48 ≤ x1.toInt ∧ x1.toInt ≤ 57) ∨ (65 ≤ x1.toInt ∧ x1.toInt ≤ 90) ∨ x1.toInt = 95 ∨ (97 ≤ x1.toInt ∧ x1.toInt ≤ 122)) {x2 : Int32} (hx2 : (45 ≤ x2.toInt ∧ x2.toInt ≤ 46) ∨ (48 ≤ x2.toInt ∧ x2.toInt ≤ 58) ∨ (65 ≤ x2.toInt ∧ x2.toInt ≤ 90) ∨ x2.toInt = 95 ∨ (97 ≤ x2.toInt ∧ x2.toInt ≤ 122)) {x3 : Int32} (hx3 : (45 ≤ x3.toInt ∧ x3.toInt ≤ 46) ∨ (48 ≤ x3.toInt ∧ x3.toInt ≤ 58) ∨ (65 ≤ x3.toInt ∧ x3.toInt ≤ 90) ∨ x3.toInt = 95 ∨ (97 ≤ x3.toInt ∧ x3.toInt ≤ 122)) {e_p3_1 e_p3_4 e_p3_5 e_p3_6 e_p3_7 e_p3_8 e_p3_9 e_p3_10 e_p3_11 e_p3_12 e_p3_13 e_p3_14 e_p3_15 : Value} {ad_p3 : String} {w_p2 : Bool} {w_p4 : Bool} {ad_p4 : String} {F : List Ent} (mp2 : (p2, w_p2, oString (vr p4) (vi 0)) ∈ F) (mp4 : (p4, w_p4, ar ad_p4 .byte [(vi x2), (vi x3)]) ∈ F) : Con Z EL y34 y34b 2 y34r (rmm 4 0 0 91) [(vr p1), (vr p2)] ((p3, true, ar ad_p3 .byte [(vi x1), e_p3_1, (vi 0), (vi 0), e_p3_4, e_p3_5, e_p3_6, e_p3_7, e_p3_8, e_p3_9, e_p3_10, e_p3_11, e_p3_12, e_p3_13, e_p3_14, e_p3_15]) :: (p1, true, oStringBuilder (vr p3) (vi 0) (vi 2)) :: F) (fun v D' => (v = some (vr p1) ∧ (p3, true, ar ad_p3 .byte [(vi x1), e_p3_1, (vi x2), (vi x3), e_p3_4, e_p3_5, e_p3_6, e_p3_7, e_p3_8, e_p3_9, e_p3_10, e_p3_11, e_p3_12, e_p3_13, e_p3_14, e_p3_15]) :: (p1, true, oStringBuilder (vr p3) (vi 0) (vi 4)) :: F = D')) := by
  refine Con.of (ls := #[rv p1, rv p2]) (by decide +kernel) rfl ?_
  refine W.aloadN d24_0 rfl rfl ?_
  refine W.aloadN d24_1 rfl rfl ?_
  refine W.callUp (as := [(vr p2)]) 0 [] d24_2 (wq hw 131 rfl) (same_self (by rfl) (by decide) (wq hw 132 rfl) (wq hw 140 rfl) (wq hw 142 rfl)) (wq hw 132 rfl) (wq hw 133 rfl) (by decide) (wq hw 118 rfl) (wq hw 135 rfl) (Hp.ins m1) (c105_append hw hs (hx1 := hx1) (hx2 := hx2) (hx3 := hx3) (mp2 := mp2) (mp4 := mp4)) pd_Ljava_lang_String__Ljava_lang_AbstractStringBuilder_ rfl rfl rfl rfl (by decide) (fun v D' h => ?_)
  obtain ⟨rfl, rfl⟩ := h
  show W _ _ _ _ _ _ _ _ _ _ _ _ 5 _ [(vr p1)]
  refine W.popv d24_5 rfl ?_
  refine W.aloadN d24_6 rfl rfl ?_
  exact W.areturn d24_7 rfl rfl rfl (by decide) ⟨rfl, rfl⟩
theorem c113_length {Z a0} (hw : HW a0 Z) (hs : SF Z) {p1 : Addr} {f_p1_0 f_p1_1 : Value} {w_p1 : Bool} {F : List Ent} (mp1 : (p1, w_p1, oStringBuilder f_p1_0 f_p1_1 (vi 4)) ∈ F) : Con Z EL y36 y36b 1 y36r (rmm 0 0 0 0) [(vr p1)] (F) (fun v D' => (v = some (vi 4) ∧ F = D')) := by
  refine Con.of (ls := #[rv p1]) (by decide +kernel) rfl ?_
  refine W.aloadN d35_0 rfl rfl ?_
  refine W.getf d35_1 (wq hw 137 rfl) Via.refl mp1 m2 ?_
  exact W.ireturn d35_4 rfl (Or.inl rfl) rfl (by decide) ⟨rfl, rfl⟩
theorem c112_length {Z a0} (hw : HW a0 Z) (hs : SF Z) {p1 : Addr} {f_p1_0 f_p1_1 : Value} {w_p1 : Bool} {F : List Ent} (mp1 : (p1, w_p1, oStringBuilder f_p1_0 f_p1_1 (vi 4)) ∈ F) : Con Z EL y37 y37b 1 y37r (rmm 1 0 0 12) [(vr p1)] (F) (fun v D' => (v = some (vi 4) ∧ F = D')) := by
  refine Con.of (ls := #[rv p1]) (by decide +kernel) rfl ?_
  refine W.aloadN d34_0 rfl rfl ?_
  refine W.callUp (as := []) 0 [] d34_1 (wq hw 190 rfl) (same_self (by rfl) (by decide) (wq hw 186 rfl) (wq hw 140 rfl) (wq hw 142 rfl)) (wq hw 186 rfl) (wq hw 133 rfl) (by decide) (wq hw 118 rfl) (wq hw 191 rfl) (Hp.ins mp1) (c113_length hw hs (mp1 := mp1)) pd__I rfl rfl rfl rfl (by decide) (fun v D' h => ?_)
  obtain ⟨rfl, rfl⟩ := h
  show W _ _ _ _ _ _ _ _ _ _ _ _ 4 _ [(vi 4)]
  exact W.ireturn d34_4 rfl (Or.inl rfl) rfl (by decide) ⟨rfl, rfl⟩
theorem c116_checkLength {Z a0} (hw : HW a0 Z) (hs : SF Z) {F : List Ent} : Con Z EL y39 y39b 2 y39r (rmm 0 0 0 0) [(vi 0), (vi 4)] (F) (fun v D' => (v = none ∧ F = D')) := by
  refine Con.of (ls := #[iv 0, iv 4]) (by decide +kernel) rfl ?_
  refine W.iloadN d39_0 rfl ?_
  refine W.iloadN d39_1 rfl ?_
  refine W.icmpY 37 d39_2 (y_ge (by decide)) (by decide) ?_
  exact W.return_ d39_37 rfl (by decide) ⟨rfl, rfl⟩
theorem ix4 : Idx (4 : Int32) 4 := by unfold Idx; decide
theorem c117_min {Z a0} (hw : HW a0 Z) (hs : SF Z) {F : List Ent} : Con Z EL y18 y18b 2 y18r (rmm 0 0 0 0) [(vi 16), (vi 4)] (F) (fun v D' => (v = some (vi 4) ∧ F = D')) := by
  refine Con.of (ls := #[iv 16, iv 4]) (by decide +kernel) rfl ?_
  refine W.iloadN d40_0 rfl ?_
  refine W.iloadN d40_1 rfl ?_
  refine W.icmpY 9 d40_2 (y_gt (by decide)) (by decide) ?_
  refine W.iloadN d40_9 rfl ?_
  exact W.ireturn d40_10 rfl (Or.inl rfl) rfl (by decide) ⟨rfl, rfl⟩
theorem c115_copyOfRangeByte {Z a0} (hw : HW a0 Z) (hs : SF Z) {p1 : Addr} {x1 : Int32} (hx1 : (45 ≤ x1.toInt ∧ x1.toInt ≤ 46) ∨ (48 ≤ x1.toInt ∧ x1.toInt ≤ 57) ∨ (65 ≤ x1.toInt ∧ x1.toInt ≤ 90) ∨ x1.toInt = 95 ∨ (97 ≤ x1.toInt ∧ x1.toInt ≤ 122)) {x2 : Int32} (hx2 : (45 ≤ x2.toInt ∧ x2.toInt ≤ 46) ∨ (48 ≤ x2.toInt ∧ x2.toInt ≤ 58) ∨ (65 ≤ x2.toInt ∧ x2.toInt ≤ 90) ∨ x2.toInt = 95 ∨ (97 ≤ x2.toInt ∧ x2.toInt ≤ 122)) {x3 : Int32} (hx3 : (45 ≤ x3.toInt ∧ x3.toInt ≤ 46) ∨ (48 ≤ x3.toInt ∧ x3.toInt ≤ 58) ∨ (65 ≤ x3.toInt ∧ x3.toInt ≤ 90) ∨ x3.toInt = 95 ∨ (97 ≤ x3.toInt ∧ x3.toInt ≤ 122)) {e_p1_4 e_p1_5 e_p1_6 e_p1_7 e_p1_8 e_p1_9 e_p1_10 e_p1_11 e_p1_12 e_p1_13 e_p1_14 e_p1_15 : Value} {w_p1 : Bool} {ad_p1 : String} {F : List Ent} (mp1 : (p1, w_p1, ar ad_p1 .byte [(vi x1), (vi 47), (vi x2), (vi x3), e_p1_4, e_p1_5, e_p1_6, e_p1_7, e_p1_8, e_p1_9, e_p1_10, e_p1_11, e_p1_12, e_p1_13, e_p1_14, e_p1_15]) ∈ F) : Con Z EL y40 y40b 5 y40r (rmm 1 1 4 48) [(vr p1), (vi 0), (vi 4)] (F) (fun v D' => (∃ a1 : Addr, v = some (vr a1) ∧ (a1, true, ar "[B" .byte [(vi x1), (vi 47), (vi x2), (vi x3)]) :: F = D')) := by
  refine Con.of (ls := #[rv p1, iv 0, iv 4, uu, uu]) (by decide +kernel) rfl ?_
  refine W.iloadN d38_0 rfl ?_
  refine W.iloadN d38_1 rfl ?_
  refine W.callS (as := [(vi 0), (vi 4)]) 0 [] d38_2 (wq hw 204 rfl) (wq hw 205 rfl) (wq hw 199 rfl) (wq hw 206 rfl) (c116_checkLength hw hs) (by decide) pd_II_V rfl rfl rfl rfl (by decide) (fun v D' h => ?_)
  obtain ⟨rfl, rfl⟩ := h
  show W _ _ _ _ _ _ _ _ _ _ _ _ 5 _ []
  refine W.iloadN d38_5 rfl ?_
  refine W.iloadN d38_6 rfl ?_
  refine W.isubK (4 : Int32) d38_7 (by decide) ?_
  refine W.istoreN (ls' := #[rv p1, iv 0, iv 4, iv 4, uu]) d38_8 rfl ?_
  refine W.iloadN d38_9 rfl ?_
  refine W.newarr 4 (ad := "[B") (ty := .byte) d38_10 rfl (wq hw 23 rfl) ix4 rfl (by decide) (by decide) (fun a1 => ?_)
  show W _ _ _ _ _ _ _ _ _ _ _ _ 12 _ [(vr a1)]
  refine W.astore (ls' := #[rv p1, iv 0, iv 4, iv 4, rv a1]) d38_12 rfl rfl ?_
  refine W.aloadN d38_14 rfl rfl ?_
  refine W.iloadN d38_15 rfl ?_
  refine W.aload 4 d38_16 rfl rfl ?_
  refine W.iconst (0) d38_18 (by decide) ?_
  refine W.aloadN d38_19 rfl rfl ?_
  refine W.alen (16) d38_20 (mS mp1) rfl ?_
  refine W.iloadN d38_21 rfl ?_
  refine W.isubK (16 : Int32) d38_22 (by decide) ?_
  refine W.iloadN d38_23 rfl ?_
  refine W.callS (as := [(vi 16), (vi 4)]) 4 [(vi 0), (vr a1), (vi 0), (vr p1)] d38_24 (wq hw 207 rfl) (wq hw 208 rfl) (wq hw 209 rfl) (wq hw 210 rfl) (c117_min hw hs) (by decide) pd_II_I rfl rfl rfl rfl (by decide) (fun v D' h => ?_)
  obtain ⟨rfl, rfl⟩ := h
  show W _ _ _ _ _ _ _ _ _ _ _ _ 27 _ [(vi 4), (vi 0), (vr a1), (vi 0), (vr p1)]
  refine W.cpy (D' := (a1, true, ar "[B" .byte [(vi x1), (vi 47), (vi x2), (vi x3)]) :: F) 0 0 0 4 0 d38_27 (wq hw 211 rfl) (wq hw 163 rfl) (wq hw 161 rfl) (wq hw 162 rfl) (mS mp1) rfl rfl ix0 ix0 ix4 ⟨Nat.le_of_ble_eq_true rfl, Nat.le_of_ble_eq_true rfl⟩ rfl rfl (by decide) rfl ?_
  refine W.aload 4 d38_30 rfl rfl ?_
  exact W.areturn d38_32 rfl rfl rfl (by decide) ⟨a1, rfl, rfl⟩
theorem c114_copyOfRange {Z a0} (hw : HW a0 Z) (hs : SF Z) {p1 : Addr} {x1 : Int32} (hx1 : (45 ≤ x1.toInt ∧ x1.toInt ≤ 46) ∨ (48 ≤ x1.toInt ∧ x1.toInt ≤ 57) ∨ (65 ≤ x1.toInt ∧ x1.toInt ≤ 90) ∨ x1.toInt = 95 ∨ (97 ≤ x1.toInt ∧ x1.toInt ≤ 122)) {x2 : Int32} (hx2 : (45 ≤ x2.toInt ∧ x2.toInt ≤ 46) ∨ (48 ≤ x2.toInt ∧ x2.toInt ≤ 58) ∨ (65 ≤ x2.toInt ∧ x2.toInt ≤ 90) ∨ x2.toInt = 95 ∨ (97 ≤ x2.toInt ∧ x2.toInt ≤ 122)) {x3 : Int32} (hx3 : (45 ≤ x3.toInt ∧ x3.toInt ≤ 46) ∨ (48 ≤ x3.toInt ∧ x3.toInt ≤ 58) ∨ (65 ≤ x3.toInt ∧ x3.toInt ≤ 90) ∨ x3.toInt = 95 ∨ (97 ≤ x3.toInt ∧ x3.toInt ≤ 122)) {e_p1_4 e_p1_5 e_p1_6 e_p1_7 e_p1_8 e_p1_9 e_p1_10 e_p1_11 e_p1_12 e_p1_13 e_p1_14 e_p1_15 : Value} {w_p1 : Bool} {ad_p1 : String} {F : List Ent} (mp1 : (p1, w_p1, ar ad_p1 .byte [(vi x1), (vi 47), (vi x2), (vi x3), e_p1_4, e_p1_5, e_p1_6, e_p1_7, e_p1_8, e_p1_9, e_p1_10, e_p1_11, e_p1_12, e_p1_13, e_p1_14, e_p1_15]) ∈ F) : Con Z EL y41 y41b 3 y41r (rmm 2 1 4 64) [(vr p1), (vi 0), (vi 4)] (F) (fun v D' => (∃ a1 : Addr, v = some (vr a1) ∧ (a1, true, ar "[B" .byte [(vi x1), (vi 47), (vi x2), (vi x3)]) :: F = D')) := by
  refine Con.of (ls := #[rv p1, iv 0, iv 4]) (by decide +kernel) rfl ?_
  refine W.iloadN d37_0 rfl ?_
  refine W.ifN d37_1 (n_ne (by decide)) ?_
  refine W.iloadN d37_4 rfl ?_
  refine W.aloadN d37_5 rfl rfl ?_
  refine W.alen (16) d37_6 mp1 rfl ?_
  refine W.icmpN d37_7 (n_eq (by decide)) ?_
  refine W.aloadN d37_10 rfl rfl ?_
  refine W.iloadN d37_11 rfl ?_
  refine W.iloadN d37_12 rfl ?_
  refine W.callS (as := [(vr p1), (vi 0), (vi 4)]) 0 [] d37_13 (wq hw 201 rfl) (wq hw 202 rfl) (wq hw 199 rfl) (wq hw 203 rfl) (c115_copyOfRangeByte hw hs (hx1 := hx1) (hx2 := hx2) (hx3 := hx3) (mp1 := mp1)) (by decide) pd__BII__B rfl rfl rfl rfl (by decide) (fun v D' h => ?_)
  obtain ⟨a1, rfl, rfl⟩ := h
  show W _ _ _ _ _ _ _ _ _ _ _ _ 16 _ [(vr a1)]
  exact W.areturn d37_16 rfl rfl rfl (by decide) ⟨a1, rfl, rfl⟩
theorem c111_init {Z a0} (hw : HW a0 Z) (hs : SF Z) {p1 p2 p3 : Addr} {x1 : Int32} (hx1 : (45 ≤ x1.toInt ∧ x1.toInt ≤ 46) ∨ (48 ≤ x1.toInt ∧ x1.toInt ≤ 57) ∨ (65 ≤ x1.toInt ∧ x1.toInt ≤ 90) ∨ x1.toInt = 95 ∨ (97 ≤ x1.toInt ∧ x1.toInt ≤ 122)) {x2 : Int32} (hx2 : (45 ≤ x2.toInt ∧ x2.toInt ≤ 46) ∨ (48 ≤ x2.toInt ∧ x2.toInt ≤ 58) ∨ (65 ≤ x2.toInt ∧ x2.toInt ≤ 90) ∨ x2.toInt = 95 ∨ (97 ≤ x2.toInt ∧ x2.toInt ≤ 122)) {x3 : Int32} (hx3 : (45 ≤ x3.toInt ∧ x3.toInt ≤ 46) ∨ (48 ≤ x3.toInt ∧ x3.toInt ≤ 58) ∨ (65 ≤ x3.toInt ∧ x3.toInt ≤ 90) ∨ x3.toInt = 95 ∨ (97 ≤ x3.toInt ∧ x3.toInt ≤ 122)) {e_p3_4 e_p3_5 e_p3_6 e_p3_7 e_p3_8 e_p3_9 e_p3_10 e_p3_11 e_p3_12 e_p3_13 e_p3_14 e_p3_15 : Value} {w_p2 : Bool} {w_p3 : Bool} {ad_p3 : String} {F : List Ent} (mp2 : (p2, w_p2, oStringBuilder (vr p3) (vi 0) (vi 4)) ∈ F) (mp3 : (p3, w_p3, ar ad_p3 .byte [(vi x1), (vi 47), (vi x2), (vi x3), e_p3_4, e_p3_5, e_p3_6, e_p3_7, e_p3_8, e_p3_9, e_p3_10, e_p3_11, e_p3_12, e_p3_13, e_p3_14, e_p3_15]) ∈ F) : Con Z EL y42 y42b 5 y42r (rmm 3 1 4 79) [(vr p1), (vr p2), .null] ((p1, true, oString .null (vi 0)) :: F) (fun v D' => (∃ a1 : Addr, v = none ∧ (a1, true, ar "[B" .byte [(vi x1), (vi 47), (vi x2), (vi x3)]) :: (p1, true, oString (vr a1) (vi 0)) :: F = D')) := by
  refine Con.of (ls := #[rv p1, rv p2, .val .null, uu, uu]) (by decide +kernel) rfl ?_
  refine W.aloadN d32_0 rfl rfl ?_
  refine W.initO 0 d32_1 (wq hw 28 rfl) (wq hw 29 rfl) (wq hw 30 rfl) rfl rfl (by decide) ?_
  refine W.aloadN d32_4 rfl rfl ?_
  refine W.callV (as := []) 0 [] d32_5 (wq hw 179 rfl) (wq hw 180 rfl) (wq hw 182 rfl) (wq hw 182 rfl) (wq hw 181 rfl) (wq hw 118 rfl) (wq hw 183 rfl) (Hp.exa (mS mp2)) (c64_getValue hw hs (mp1 := (mS mp2))) (by decide) pd___B rfl rfl rfl rfl (by decide) (fun v D' h => ?_)
  obtain ⟨rfl, rfl⟩ := h
  show W _ _ _ _ _ _ _ _ _ _ _ _ 8 _ [(vr p3)]
  refine W.astoreN (ls' := #[rv p1, rv p2, .val .null, rv p3, uu]) d32_8 rfl rfl ?_
  refine W.aloadN d32_9 rfl rfl ?_
  refine W.callVN (as := []) 0 [] d32_10 (wq hw 184 rfl) (wq hw 185 rfl) (by rfl) (wq hw 140 rfl) (wq hw 142 rfl) (wq hw 187 rfl) (wq hw 188 rfl) (wq hw 110 rfl) (wq hw 189 rfl) (Hp.exa (mS mp2)) (c112_length hw hs (mp1 := (mS mp2))) (by decide) pd__I rfl rfl rfl rfl (by decide) (fun v D' h => ?_)
  obtain ⟨rfl, rfl⟩ := h
  show W _ _ _ _ _ _ _ _ _ _ _ _ 13 _ [(vi 4)]
  refine W.istore (ls' := #[rv p1, rv p2, .val .null, rv p3, iv 4]) d32_13 rfl ?_
  refine W.aloadN d32_15 rfl rfl ?_
  refine W.callV (as := []) 0 [] d32_16 (wq hw 192 rfl) (wq hw 193 rfl) (wq hw 195 rfl) (wq hw 195 rfl) (wq hw 194 rfl) (wq hw 118 rfl) (wq hw 196 rfl) (Hp.exa (mS mp2)) (c67_isLatin1 hw hs (mp1 := (mS mp2))) (by decide) pd__Z rfl rfl rfl rfl (by decide) (fun v D' h => ?_)
  obtain ⟨rfl, rfl⟩ := h
  show W _ _ _ _ _ _ _ _ _ _ _ _ 19 _ [(vi 1)]
  refine W.ifN d32_19 (n_eq (by decide)) ?_
  refine W.aloadN d32_22 rfl rfl ?_
  refine W.iconst (0) d32_23 (by decide) ?_
  refine W.putf (D' := (p1, true, oString .null (vi 0)) :: F) 0 1 d32_24 (wq hw 33 rfl) Via.refl rfl rfl (Or.inr ⟨(wq hw 34 rfl), rfl, rfl⟩) (wq hw 19 rfl) pfB (nw_byte (by decide)) (ft_byte (by decide)) rfl ?_
  refine W.aloadN d32_27 rfl rfl ?_
  refine W.aloadN d32_28 rfl rfl ?_
  refine W.iconst (0) d32_29 (by decide) ?_
  refine W.iload d32_30 rfl ?_
  refine W.callS (as := [(vr p3), (vi 0), (vi 4)]) 1 [(vr p1)] d32_32 (wq hw 197 rfl) (wq hw 198 rfl) (wq hw 199 rfl) (wq hw 200 rfl) (c114_copyOfRange hw hs (hx1 := hx1) (hx2 := hx2) (hx3 := hx3) (mp1 := (mS mp3))) (by decide) pd__BII__B rfl rfl rfl rfl (by decide) (fun v D' h => ?_)
  obtain ⟨a1, rfl, rfl⟩ := h
  show W _ _ _ _ _ _ _ _ _ _ _ _ 35 _ [(vr a1), (vr p1)]
  refine W.putf (D' := (a1, true, ar "[B" .byte [(vi x1), (vi 47), (vi x2), (vi x3)]) :: (p1, true, oString (vr a1) (vi 0)) :: F) 1 0 d32_35 (wq hw 31 rfl) Via.refl rfl rfl (Or.inr ⟨(wq hw 32 rfl), rfl, rfl⟩) (wq hw 19 rfl) pf_B rfl rfl rfl ?_
  refine W.goto 97 d32_38 (by decide) ?_
  exact W.return_ d32_97 rfl (by decide) ⟨a1, rfl, rfl⟩
theorem c110_init {Z a0} (hw : HW a0 Z) (hs : SF Z) {p1 p2 p3 : Addr} {x1 : Int32} (hx1 : (45 ≤ x1.toInt ∧ x1.toInt ≤ 46) ∨ (48 ≤ x1.toInt ∧ x1.toInt ≤ 57) ∨ (65 ≤ x1.toInt ∧ x1.toInt ≤ 90) ∨ x1.toInt = 95 ∨ (97 ≤ x1.toInt ∧ x1.toInt ≤ 122)) {x2 : Int32} (hx2 : (45 ≤ x2.toInt ∧ x2.toInt ≤ 46) ∨ (48 ≤ x2.toInt ∧ x2.toInt ≤ 58) ∨ (65 ≤ x2.toInt ∧ x2.toInt ≤ 90) ∨ x2.toInt = 95 ∨ (97 ≤ x2.toInt ∧ x2.toInt ≤ 122)) {x3 : Int32} (hx3 : (45 ≤ x3.toInt ∧ x3.toInt ≤ 46) ∨ (48 ≤ x3.toInt ∧ x3.toInt ≤ 58) ∨ (65 ≤ x3.toInt ∧ x3.toInt ≤ 90) ∨ x3.toInt = 95 ∨ (97 ≤ x3.toInt ∧ x3.toInt ≤ 122)) {e_p3_4 e_p3_5 e_p3_6 e_p3_7 e_p3_8 e_p3_9 e_p3_10 e_p3_11 e_p3_12 e_p3_13 e_p3_14 e_p3_15 : Value} {w_p2 : Bool} {w_p3 : Bool} {ad_p3 : String} {F : List Ent} (mp2 : (p2, w_p2, oStringBuilder (vr p3) (vi 0) (vi 4)) ∈ F) (mp3 : (p3, w_p3, ar ad_p3 .byte [(vi x1), (vi 47), (vi x2), (vi x3), e_p3_4, e_p3_5, e_p3_6, e_p3_7, e_p3_8, e_p3_9, e_p3_10, e_p3_11, e_p3_12, e_p3_13, e_p3_14, e_p3_15]) ∈ F) : Con Z EL y43 y43b 2 y43r (rmm 4 1 4 95) [(vr p1), (vr p2)] ((p1, true, oString .null (vi 0)) :: F) (fun v D' => (∃ a1 : Addr, v = none ∧ (a1, true, ar "[B" .byte [(vi x1), (vi 47), (vi x2), (vi x3)]) :: (p1, true, oString (vr a1) (vi 0)) :: F = D')) := by
  refine Con.of (ls := #[rv p1, rv p2]) (by decide +kernel) rfl ?_
  refine W.aloadN d31_0 rfl rfl ?_
  refine W.aloadN d31_1 rfl rfl ?_
  refine W.aconstNull d31_2 ?_
  refine W.callI (as := [(vr p2), .null]) 0 [] d31_3 rfl (wq hw 176 rfl) (wq hw 177 rfl) (wq hw 11 rfl) (wq hw 178 rfl) (c111_init hw hs (hx1 := hx1) (hx2 := hx2) (hx3 := hx3) (mp2 := mp2) (mp3 := mp3)) (by decide) pd_Ljava_lang_AbstractStringBuilder_Ljava_lang_Void__V rfl rfl rfl rfl (by decide) (fun v D' h => ?_)
  obtain ⟨a1, rfl, rfl⟩ := h
  show W _ _ _ _ _ _ _ _ _ _ _ _ 6 _ []
  exact W.return_ d31_6 rfl (by decide) ⟨a1, rfl, rfl⟩
theorem c109_toString {Z a0} (hw : HW a0 Z) (hs : SF Z) {p1 p2 : Addr} {x1 : Int32} (hx1 : (45 ≤ x1.toInt ∧ x1.toInt ≤ 46) ∨ (48 ≤ x1.toInt ∧ x1.toInt ≤ 57) ∨ (65 ≤ x1.toInt ∧ x1.toInt ≤ 90) ∨ x1.toInt = 95 ∨ (97 ≤ x1.toInt ∧ x1.toInt ≤ 122)) {x2 : Int32} (hx2 : (45 ≤ x2.toInt ∧ x2.toInt ≤ 46) ∨ (48 ≤ x2.toInt ∧ x2.toInt ≤ 58) ∨ (65 ≤ x2.toInt ∧ x2.toInt ≤ 90) ∨ x2.toInt = 95 ∨ (97 ≤ x2.toInt ∧ x2.toInt ≤ 122)) {x3 : Int32} (hx3 : (45 ≤ x3.toInt ∧ x3.toInt ≤ 46) ∨ (48 ≤ x3.toInt ∧ x3.toInt ≤ 58) ∨ (65 ≤ x3.toInt ∧ x3.toInt ≤ 90) ∨ x3.toInt = 95 ∨ (97 ≤ x3.toInt ∧ x3.toInt ≤ 122)) {e_p2_4 e_p2_5 e_p2_6 e_p2_7 e_p2_8 e_p2_9 e_p2_10 e_p2_11 e_p2_12 e_p2_13 e_p2_14 e_p2_15 : Value} {w_p1 : Bool} {w_p2 : Bool} {ad_p2 : String} {F : List Ent} (mp1 : (p1, w_p1, oStringBuilder (vr p2) (vi 0) (vi 4)) ∈ F) (mp2 : (p2, w_p2, ar ad_p2 .byte [(vi x1), (vi 47), (vi x2), (vi x3), e_p2_4, e_p2_5, e_p2_6, e_p2_7, e_p2_8, e_p2_9, e_p2_10, e_p2_11, e_p2_12, e_p2_13, e_p2_14, e_p2_15]) ∈ F) : Con Z EL y44 y44b 1 y44r (rmm 5 2 8 109) [(vr p1)] (F) (fun v D' => (∃ a1 a2 : Addr, v = some (vr a1) ∧ (a2, true, ar "[B" .byte [(vi x1), (vi 47), (vi x2), (vi x3)]) :: (a1, true, oString (vr a2) (vi 0)) :: F = D')) := by
  refine Con.of (ls := #[rv p1]) (by decide +kernel) rfl ?_
  refine W.new d30_0 (wq hw 172 rfl) (wq hw 19 rfl) (wq hw 11 rfl) (laString hw) (by decide) (by decide) (fun a1 => ?_)
  show W _ _ _ _ _ _ _ _ _ _ _ _ 3 _ [(vr a1)]
  refine W.dup d30_3 rfl ?_
  refine W.aloadN d30_4 rfl rfl ?_
  refine W.callI (as := [(vr p1)]) 1 [(vr a1)] d30_5 rfl (wq hw 173 rfl) (wq hw 174 rfl) (wq hw 11 rfl) (wq hw 175 rfl) (c110_init hw hs (hx1 := hx1) (hx2 := hx2) (hx3 := hx3) (mp2 := mp1) (mp3 := mp2)) (by decide) pd_Ljava_lang_StringBuilder__V rfl rfl rfl rfl (by decide) (fun v D' h => ?_)
  obtain ⟨a2, rfl, rfl⟩ := h
  show W _ _ _ _ _ _ _ _ _ _ _ _ 8 _ [(vr a1)]
  exact W.areturn d30_8 rfl rfl rfl (by decide) ⟨a1, a2, rfl, rfl⟩
theorem c103_toString {Z a0} (hw : HW a0 Z) (hs : SF Z) {p1 p2 p3 p4 p5 : Addr} {x1 : Int32} (hx1 : (45 ≤ x1.toInt ∧ x1.toInt ≤ 46) ∨ (48 ≤ x1.toInt ∧ x1.toInt ≤ 57) ∨ (65 ≤ x1.toInt ∧ x1.toInt ≤ 90) ∨ x1.toInt = 95 ∨ (97 ≤ x1.toInt ∧ x1.toInt ≤ 122)) {x2 : Int32} (hx2 : (45 ≤ x2.toInt ∧ x2.toInt ≤ 46) ∨ (48 ≤ x2.toInt ∧ x2.toInt ≤ 58) ∨ (65 ≤ x2.toInt ∧ x2.toInt ≤ 90) ∨ x2.toInt = 95 ∨ (97 ≤ x2.toInt ∧ x2.toInt ≤ 122)) {x3 : Int32} (hx3 : (45 ≤ x3.toInt ∧ x3.toInt ≤ 46) ∨ (48 ≤ x3.toInt ∧ x3.toInt ≤ 58) ∨ (65 ≤ x3.toInt ∧ x3.toInt ≤ 90) ∨ x3.toInt = 95 ∨ (97 ≤ x3.toInt ∧ x3.toInt ≤ 122)) {w_p1 : Bool} {w_p2 : Bool} {w_p4 : Bool} {ad_p4 : String} {w_p3 : Bool} {w_p5 : Bool} {ad_p5 : String} {F : List Ent} (mp1 : (p1, w_p1, oJobKey (vr p2) (vr p3)) ∈ F) (mp2 : (p2, w_p2, oString (vr p4) (vi 0)) ∈ F) (mp4 : (p4, w_p4, ar ad_p4 .byte [(vi x1)]) ∈ F) (mp3 : (p3, w_p3, oString (vr p5) (vi 0)) ∈ F) (mp5 : (p5, w_p5, ar ad_p5 .byte [(vi x2), (vi x3)]) ∈ F) : Con Z EL y45 y45b 1 y45r (rmm 6 6 36 121) [(vr p1)] (F) (fun v D' => (∃ a5 a6 : Addr, v = some (vr a5) ∧ (a6, true, ar "[B" .byte [(vi x1), (vi 47), (vi x2), (vi x3)]) :: (a5, true, oString (vr a6) (vi 0)) :: F = D')) := by
  refine Con.of (ls := #[rv p1]) (by decide +kernel) rfl ?_
  refine W.new d21_0 (wq hw 108 rfl) (wq hw 109 rfl) (wq hw 110 rfl) (laStringBuilder hw) (by decide) (by decide) (fun a1 => ?_)
  show W _ _ _ _ _ _ _ _ _ _ _ _ 3 _ [(vr a1)]
  refine W.dup d21_3 rfl ?_
  refine W.callI (as := []) 1 [(vr a1)] d21_4 rfl (wq hw 111 rfl) (wq hw 112 rfl) (wq hw 110 rfl) (wq hw 113 rfl) (c43_init hw hs) (by decide) pd__V rfl rfl rfl rfl (by decide) (fun v D' h => ?_)
  obtain ⟨a2, rfl, rfl⟩ := h
  show W _ _ _ _ _ _ _ _ _ _ _ _ 7 _ [(vr a1)]
  refine W.aloadN d21_7 rfl rfl ?_
  refine W.getf d21_8 (wq hw 94 rfl) Via.refl (mS (mS mp1)) m0 ?_
  refine W.callV (as := [(vr p2)]) 0 [] d21_11 (wq hw 126 rfl) (wq hw 127 rfl) (wq hw 129 rfl) (wq hw 129 rfl) (wq hw 128 rfl) (wq hw 110 rfl) (wq hw 130 rfl) (Hp.exa m1) (c45_append hw hs (hx1 := hx1) (mp2 := mp2) (mp4 := mp4)) (by decide) pd_Ljava_lang_String__Ljava_lang_StringBuilder_ rfl rfl rfl rfl (by decide) (fun v D' h => ?_)
  obtain ⟨rfl, rfl⟩ := h
  show W _ _ _ _ _ _ _ _ _ _ _ _ 14 _ [(vr a1)]
  refine W.ldcT 4 (vs := [(vi 47)]) rfl d21_14 (wq hw 164 rfl) (wS hw) m0 tx_2f (by decide) (by decide) (by decide) (fun a3 a4 => ?_)
  show W _ _ _ _ _ _ _ _ _ _ _ _ 16 _ [(vr a3), (vr a1)]
  refine W.front 3 (D' := (a1, true, oStringBuilder (vr a2) (vi 0) (vi 1)) :: (a3, false, oString (vr a4) (vi 0)) :: (a4, false, ar "" .byte [(vi 47)]) :: (a2, true, ar "[B" .byte [(vi x1), (vi 0), (vi 0), (vi 0), (vi 0), (vi 0), (vi 0), (vi 0), (vi 0), (vi 0), (vi 0), (vi 0), (vi 0), (vi 0), (vi 0), (vi 0)]) :: F) rfl rfl ?_
  refine W.front 3 (D' := (a2, true, ar "[B" .byte [(vi x1), (vi 0), (vi 0), (vi 0), (vi 0), (vi 0), (vi 0), (vi 0), (vi 0), (vi 0), (vi 0), (vi 0), (vi 0), (vi 0), (vi 0), (vi 0)]) :: (a1, true, oStringBuilder (vr a2) (vi 0) (vi 1)) :: (a3, false, oString (vr a4) (vi 0)) :: (a4, false, ar "" .byte [(vi 47)]) :: F) rfl rfl ?_
  refine W.callV (as := [(vr a3)]) 0 [] d21_16 (wq hw 126 rfl) (wq hw 127 rfl) (wq hw 129 rfl) (wq hw 129 rfl) (wq hw 128 rfl) (wq hw 110 rfl) (wq hw 130 rfl) (Hp.exa m1) (c51_append hw hs (hx1 := hx1) (mp2 := m0) (mp4 := m1)) (by decide) pd_Ljava_lang_String__Ljava_lang_StringBuilder_ rfl rfl rfl rfl (by decide) (fun v D' h => ?_)
  obtain ⟨rfl, rfl⟩ := h
  show W _ _ _ _ _ _ _ _ _ _ _ _ 19 _ [(vr a1)]
  refine W.aloadN d21_19 rfl rfl ?_
  refine W.getf d21_20 (wq hw 101 rfl) Via.refl (mS (mS (mS (mS mp1)))) m1 ?_
  refine W.callV (as := [(vr p3)]) 0 [] d21_23 (wq hw 126 rfl) (wq hw 127 rfl) (wq hw 129 rfl) (wq hw 129 rfl) (wq hw 128 rfl) (wq hw 110 rfl) (wq hw 130 rfl) (Hp.exa m1) (c104_append hw hs (hx1 := hx1) (hx2 := hx2) (hx3 := hx3) (mp2 := (mS (mS mp3))) (mp4 := (mS (mS mp5)))) (by decide) pd_Ljava_lang_String__Ljava_lang_StringBuilder_ rfl rfl rfl rfl (by decide) (fun v D' h => ?_)
  obtain ⟨rfl, rfl⟩ := h
  show W _ _ _ _ _ _ _ _ _ _ _ _ 26 _ [(vr a1)]
  refine W.callV (as := []) 0 [] d21_26 (wq hw 167 rfl) (wq hw 168 rfl) (wq hw 170 rfl) (wq hw 170 rfl) (wq hw 169 rfl) (wq hw 110 rfl) (wq hw 171 rfl) (Hp.exa m1) (c109_toString hw hs (hx1 := hx1) (hx2 := hx2) (hx3 := hx3) (mp1 := m1) (mp2 := m0)) (by decide) pd__Ljava_lang_String_ rfl rfl rfl rfl (by decide) (fun v D' h => ?_)
  obtain ⟨a5, a6, rfl, rfl⟩ := h
  show W _ _ _ _ _ _ _ _ _ _ _ _ 29 _ [(vr a5)]
  refine W.dropAt 2 (D' := (a6, true, ar "[B" .byte [(vi x1), (vi 47), (vi x2), (vi x3)]) :: (a5, true, oString (vr a6) (vi 0)) :: (a1, true, oStringBuilder (vr a2) (vi 0) (vi 4)) :: (a3, false, oString (vr a4) (vi 0)) :: (a4, false, ar "" .byte [(vi 47)]) :: F) rfl ?_
  refine W.dropAt 2 (D' := (a6, true, ar "[B" .byte [(vi x1), (vi 47), (vi x2), (vi x3)]) :: (a5, true, oString (vr a6) (vi 0)) :: (a3, false, oString (vr a4) (vi 0)) :: (a4, false, ar "" .byte [(vi 47)]) :: F) rfl ?_
  refine W.dropAt 2 (D' := (a6, true, ar "[B" .byte [(vi x1), (vi 47), (vi x2), (vi x3)]) :: (a5, true, oString (vr a6) (vi 0)) :: (a4, false, ar "" .byte [(vi 47)]) :: F) rfl ?_
  refine W.dropAt 2 (D' := (a6, true, ar "[B" .byte [(vi x1), (vi 47), (vi x2), (vi x3)]) :: (a5, true, oString (vr a6) (vi 0)) :: F) rfl ?_
  exact W.areturn d21_29 rfl rfl rfl (by decide) ⟨a5, a6, rfl, rfl⟩
theorem c118_length {Z a0} (hw : HW a0 Z) (hs : SF Z) {p1 p2 : Addr} {vs_p2 : List Value} (hvs_p2 : vs_p2.length = 4) {w_p1 : Bool} {w_p2 : Bool} {ad_p2 : String} {F : List Ent} (mp1 : (p1, w_p1, oString (vr p2) (vi 0)) ∈ F) (mp2 : (p2, w_p2, ar ad_p2 .byte vs_p2) ∈ F) : Con Z EL y9 y9b 1 y9r (rmm 1 0 0 13) [(vr p1)] (F) (fun v D' => (v = some (vi 4) ∧ F = D')) := by
  refine Con.of (ls := #[rv p1]) (by decide +kernel) rfl ?_
  refine W.aloadN d12_0 rfl rfl ?_
  refine W.getf d12_1 (wq hw 31 rfl) Via.refl mp1 m0 ?_
  refine W.alen (4) d12_4 mp2 (by rw [hvs_p2]; rfl) ?_
  refine W.aloadN d12_5 rfl rfl ?_
  refine W.callV (as := []) 1 [(vi 4)] d12_6 (wq hw 63 rfl) (wq hw 64 rfl) (wq hw 66 rfl) (wq hw 66 rfl) (wq hw 65 rfl) (wq hw 11 rfl) (wq hw 67 rfl) (Hp.exa mp1) (c15_coder hw hs (mp1 := mp1)) (by decide) pd__B rfl rfl rfl rfl (by decide) (fun v D' h => ?_)
  obtain ⟨rfl, rfl⟩ := h
  show W _ _ _ _ _ _ _ _ _ _ _ _ 9 _ [(vi 0), (vi 4)]
  refine W.ishrK (4 : Int32) d12_9 (by decide) ?_
  exact W.ireturn d12_10 rfl (Or.inl rfl) rfl (by decide) ⟨rfl, rfl⟩
theorem c122_checkIndex {Z a0} (hw : HW a0 Z) (hs : SF Z) {F : List Ent} : Con Z EL y11 y11b 3 y11r (rmm 0 0 0 0) [(vi 0), (vi 4), (sfv Z)] (F) (fun v D' => (v = some (vi 0) ∧ F = D')) := by
  refine Con.of (ls := #[iv 0, iv 4, .val (sfv Z)]) (by decide +kernel) (hent_of (ld1 rfl (ld1 rfl (ld1 (XT.cat1 hs.2.2.1) ld0))) rfl) ?_
  refine W.iloadN d18_0 rfl ?_
  refine W.ifN d18_1 (n_lt (by decide)) ?_
  refine W.iloadN d18_4 rfl ?_
  refine W.iloadN d18_5 rfl ?_
  refine W.icmpY 16 d18_6 (y_lt (by decide)) (by decide) ?_
  refine W.iloadN d18_16 rfl ?_
  exact W.ireturn d18_17 rfl (Or.inl rfl) rfl (by decide) ⟨rfl, rfl⟩
theorem c121_checkIndex {Z a0} (hw : HW a0 Z) (hs : SF Z) {F : List Ent} : Con Z EL y12 y12b 2 y12r (rmm 1 0 0 14) [(vi 0), (vi 4)] (F) (fun v D' => (v = none ∧ F = D')) := by
  refine Con.of (ls := #[iv 0, iv 4]) (by decide +kernel) rfl ?_
  refine W.iloadN d17_0 rfl ?_
  refine W.iloadN d17_1 rfl ?_
  refine W.gets d17_2 (wq hw 84 rfl) Via.refl hs.2.2.2.1 ?_
  refine W.callS (as := [(vi 0), (vi 4), (sfv Z)]) 0 [] d17_5 (wq hw 86 rfl) (wq hw 87 rfl) (wq hw 85 rfl) (wq hw 88 rfl) (c122_checkIndex hw hs) (by decide) pd_IILjava_util_function_BiFunction__I rfl rfl rfl rfl (by decide) (fun v D' h => ?_)
  obtain ⟨rfl, rfl⟩ := h
  show W _ _ _ _ _ _ _ _ _ _ _ _ 8 _ [(vi 0)]
  refine W.popv d17_8 rfl ?_
  exact W.return_ d17_9 rfl (by decide) ⟨rfl, rfl⟩
theorem c120_charAt {Z a0} (hw : HW a0 Z) (hs : SF Z) {p1 : Addr} {x1 : Int32} (hx1 : (45 ≤ x1.toInt ∧ x1.toInt ≤ 46) ∨ (48 ≤ x1.toInt ∧ x1.toInt ≤ 57) ∨ (65 ≤ x1.toInt ∧ x1.toInt ≤ 90) ∨ x1.toInt = 95 ∨ (97 ≤ x1.toInt ∧ x1.toInt ≤ 122)) {e_p1_1 e_p1_2 e_p1_3 : Value} {w_p1 : Bool} {ad_p1 : String} {F : List Ent} (mp1 : (p1, w_p1, ar ad_p1 .byte [(vi x1), e_p1_1, e_p1_2, e_p1_3]) ∈ F) : Con Z EL y13 y13b 2 y13r (rmm 2 0 0 27) [(vr p1), (vi 0)] (F) (fun v D' => (v = some (vi x1) ∧ F = D')) := by
  refine Con.of (ls := #[rv p1, iv 0]) (by decide +kernel) rfl ?_
  refine W.iloadN d16_0 rfl ?_
  refine W.aloadN d16_1 rfl rfl ?_
  refine W.alen (4) d16_2 mp1 rfl ?_
  refine W.callS (as := [(vi 0), (vi 4)]) 0 [] d16_3 (wq hw 81 rfl) (wq hw 82 rfl) (wq hw 11 rfl) (wq hw 83 rfl) (c121_checkIndex hw hs) (by decide) pd_II_V rfl rfl rfl rfl (by decide) (fun v D' h => ?_)
  obtain ⟨rfl, rfl⟩ := h
  show W _ _ _ _ _ _ _ _ _ _ _ _ 6 _ []
  refine W.aloadN d16_6 rfl rfl ?_
  refine W.iloadN d16_7 rfl ?_
  refine W.baload 0 d16_8 mp1 ix0 rfl ?_
  refine W.sipush (255) d16_9 (by decide) ?_
  refine W.iandK x1 d16_12 (z_and 8 256 (by decide) (by decide) (by decide) (by omega)) ?_
  refine W.i2cK x1 d16_13 (z_i2c (by omega)) ?_
  exact W.ireturn d16_14 rfl (Or.inr (Or.inr (Or.inr (Or.inl rfl)))) (nw_char (by omega)) (by decide) ⟨rfl, rfl⟩
theorem c119_charAt {Z a0} (hw : HW a0 Z) (hs : SF Z) {p1 p2 : Addr} {x1 : Int32} (hx1 : (45 ≤ x1.toInt ∧ x1.toInt ≤ 46) ∨ (48 ≤ x1.toInt ∧ x1.toInt ≤ 57) ∨ (65 ≤ x1.toInt ∧ x1.toInt ≤ 90) ∨ x1.toInt = 95 ∨ (97 ≤ x1.toInt ∧ x1.toInt ≤ 122)) {e_p2_1 e_p2_2 e_p2_3 : Value} {w_p1 : Bool} {w_p2 : Bool} {ad_p2 : String} {F : List Ent} (mp1 : (p1, w_p1, oString (vr p2) (vi 0)) ∈ F) (mp2 : (p2, w_p2, ar ad_p2 .byte [(vi x1), e_p2_1, e_p2_2, e_p2_3]) ∈ F) : Con Z EL y14 y14b 2 y14r (rmm 3 0 0 40) [(vr p1), (vi 0)] (F) (fun v D' => (v = some (vi x1) ∧ F = D')) := by
  refine Con.of (ls := #[rv p1, iv 0]) (by decide +kernel) rfl ?_
  refine W.aloadN d14_0 rfl rfl ?_
  refine W.callV (as := []) 0 [] d14_1 (wq hw 73 rfl) (wq hw 74 rfl) (wq hw 76 rfl) (wq hw 76 rfl) (wq hw 75 rfl) (wq hw 11 rfl) (wq hw 77 rfl) (Hp.exa mp1) (c17_isLatin1 hw hs (mp1 := mp1)) (by decide) pd__Z rfl rfl rfl rfl (by decide) (fun v D' h => ?_)
  obtain ⟨rfl, rfl⟩ := h
  show W _ _ _ _ _ _ _ _ _ _ _ _ 4 _ [(vi 1)]
  refine W.ifN d14_4 (n_eq (by decide)) ?_
  refine W.aloadN d14_7 rfl rfl ?_
  refine W.getf d14_8 (wq hw 31 rfl) Via.refl mp1 m0 ?_
  refine W.iloadN d14_11 rfl ?_
  refine W.callS (as := [(vr p2), (vi 0)]) 0 [] d14_12 (wq hw 78 rfl) (wq hw 79 rfl) (wq hw 16 rfl) (wq hw 80 rfl) (c120_charAt hw hs (hx1 := hx1) (mp1 := mp2)) (by decide) pd__BI_C rfl rfl rfl rfl (by decide) (fun v D' h => ?_)
  obtain ⟨rfl, rfl⟩ := h
  show W _ _ _ _ _ _ _ _ _ _ _ _ 15 _ [(vi x1)]
  exact W.ireturn d14_15 rfl (Or.inr (Or.inr (Or.inr (Or.inl rfl)))) (nw_char (by omega)) (by decide) ⟨rfl, rfl⟩
theorem c126_checkIndex {Z a0} (hw : HW a0 Z) (hs : SF Z) {F : List Ent} : Con Z EL y11 y11b 3 y11r (rmm 0 0 0 0) [(vi 1), (vi 4), (sfv Z)] (F) (fun v D' => (v = some (vi 1) ∧ F = D')) := by
  refine Con.of (ls := #[iv 1, iv 4, .val (sfv Z)]) (by decide +kernel) (hent_of (ld1 rfl (ld1 rfl (ld1 (XT.cat1 hs.2.2.1) ld0))) rfl) ?_
  refine W.iloadN d18_0 rfl ?_
  refine W.ifN d18_1 (n_lt (by decide)) ?_
  refine W.iloadN d18_4 rfl ?_
  refine W.iloadN d18_5 rfl ?_
  refine W.icmpY 16 d18_6 (y_lt (by decide)) (by decide) ?_
  refine W.iloadN d18_16 rfl ?_
  exact W.ireturn d18_17 rfl (Or.inl rfl) rfl (by decide) ⟨rfl, rfl⟩
theorem c125_checkIndex {Z a0} (hw : HW a0 Z) (hs : SF Z) {F : List Ent} : Con Z EL y12 y12b 2 y12r (rmm 1 0 0 14) [(vi 1), (vi 4)] (F) (fun v D' => (v = none ∧ F = D')) := by
  refine Con.of (ls := #[iv 1, iv 4]) (by decide +kernel) rfl ?_
  refine W.iloadN d17_0 rfl ?_
  refine W.iloadN d17_1 rfl ?_
  refine W.gets d17_2 (wq hw 84 rfl) Via.refl hs.2.2.2.1 ?_
  refine W.callS (as := [(vi 1), (vi 4), (sfv Z)]) 0 [] d17_5 (wq hw 86 rfl) (wq hw 87 rfl) (wq hw 85 rfl) (wq hw 88 rfl) (c126_checkIndex hw hs) (by decide) pd_IILjava_util_function_BiFunction__I rfl rfl rfl rfl (by decide) (fun v D' h => ?_)
  obtain ⟨rfl, rfl⟩ := h
  show W _ _ _ _ _ _ _ _ _ _ _ _ 8 _ [(vi 1)]
  refine W.popv d17_8 rfl ?_
  exact W.return_ d17_9 rfl (by decide) ⟨rfl, rfl⟩
theorem c124_charAt {Z a0} (hw : HW a0 Z) (hs : SF Z) {p1 : Addr} {e_p1_0 e_p1_2 e_p1_3 : Value} {w_p1 : Bool} {ad_p1 : String} {F : List Ent} (mp1 : (p1, w_p1, ar ad_p1 .byte [e_p1_0, (vi 47), e_p1_2, e_p1_3]) ∈ F) : Con Z EL y13 y13b 2 y13r (rmm 2 0 0 27) [(vr p1), (vi 1)] (F) (fun v D' => (v = some (vi 47) ∧ F = D')) := by
  refine Con.of (ls := #[rv p1, iv 1]) (by decide +kernel) rfl ?_
  refine W.iloadN d16_0 rfl ?_
  refine W.aloadN d16_1 rfl rfl ?_
  refine W.alen (4) d16_2 mp1 rfl ?_
  refine W.callS (as := [(vi 1), (vi 4)]) 0 [] d16_3 (wq hw 81 rfl) (wq hw 82 rfl) (wq hw 11 rfl) (wq hw 83 rfl) (c125_checkIndex hw hs) (by decide) pd_II_V rfl rfl rfl rfl (by decide) (fun v D' h => ?_)
  obtain ⟨rfl, rfl⟩ := h
  show W _ _ _ _ _ _ _ _ _ _ _ _ 6 _ []
  refine W.aloadN d16_6 rfl rfl ?_
  refine W.iloadN d16_7 rfl ?_
  refine W.baload 1 d16_8 mp1 ix1 rfl ?_
  refine W.sipush (255) d16_9 (by decide) ?_
  refine W.iandK (47 : Int32) d16_12 (by decide) ?_
  refine W.i2cK (47 : Int32) d16_13 (by decide) ?_
  exact W.ireturn d16_14 rfl (Or.inr (Or.inr (Or.inr (Or.inl rfl)))) (nw_char (by decide)) (by decide) ⟨rfl, rfl⟩
theorem c123_charAt {Z a0} (hw : HW a0 Z) (hs : SF Z) {p1 p2 : Addr} {e_p2_0 e_p2_2 e_p2_3 : Value} {w_p1 : Bool} {w_p2 : Bool} {ad_p2 : String} {F : List Ent} (mp1 : (p1, w_p1, oString (vr p2) (vi 0)) ∈ F) (mp2 : (p2, w_p2, ar ad_p2 .byte [e_p2_0, (vi 47), e_p2_2, e_p2_3]) ∈ F) : Con Z EL y14 y14b 2 y14r (rmm 3 0 0 40) [(vr p1), (vi 1)] (F) (fun v D' => (v = some (vi 47) ∧ F = D')) := by
  refine Con.of (ls := #[rv p1, iv 1]) (by decide +kernel) rfl ?_
  refine W.aloadN d14_0 rfl rfl ?_
  refine W.callV (as := []) 0 [] d14_1 (wq hw 73 rfl) (wq hw 74 rfl) (wq hw 76 rfl) (wq hw 76 rfl) (wq hw 75 rfl) (wq hw 11 rfl) (wq hw 77 rfl) (Hp.exa mp1) (c17_isLatin1 hw hs (mp1 := mp1)) (by decide) pd__Z rfl rfl rfl rfl (by decide) (fun v D' h => ?_)
  obtain ⟨rfl, rfl⟩ := h
  show W _ _ _ _ _ _ _ _ _ _ _ _ 4 _ [(vi 1)]
  refine W.ifN d14_4 (n_eq (by decide)) ?_
  refine W.aloadN d14_7 rfl rfl ?_
  refine W.getf d14_8 (wq hw 31 rfl) Via.refl mp1 m0 ?_
  refine W.iloadN d14_11 rfl ?_
  refine W.callS (as := [(vr p2), (vi 1)]) 0 [] d14_12 (wq hw 78 rfl) (wq hw 79 rfl) (wq hw 16 rfl) (wq hw 80 rfl) (c124_charAt hw hs (mp1 := mp2)) (by decide) pd__BI_C rfl rfl rfl rfl (by decide) (fun v D' h => ?_)
  obtain ⟨rfl, rfl⟩ := h
  show W _ _ _ _ _ _ _ _ _ _ _ _ 15 _ [(vi 47)]
  exact W.ireturn d14_15 rfl (Or.inr (Or.inr (Or.inr (Or.inl rfl)))) (nw_char (by decide)) (by decide) ⟨rfl, rfl⟩
theorem c130_checkIndex {Z a0} (hw : HW a0 Z) (hs : SF Z) {F : List Ent} : Con Z EL y11 y11b 3 y11r (rmm 0 0 0 0) [(vi 2), (vi 4), (sfv Z)] (F) (fun v D' => (v = some (vi 2) ∧ F = D')) := by
  refine Con.of (ls := #[iv 2, iv 4, .val (sfv Z)]) (by decide +kernel) (hent_of (ld1 rfl (ld1 rfl (ld1 (XT.cat1 hs.2.2.1) ld0))) rfl) ?_
  refine W.iloadN d18_0 rfl ?_
  refine W.ifN d18_1 (n_lt (by decide)) ?_
  refine W.iloadN d18_4 rfl ?_
  refine W.iloadN d18_5 rfl ?_
  refine W.icmpY 16 d18_6 (y_lt (by decide)) (by decide) ?_
  refine W.iloadN d18_16 rfl ?_
  exact W.ireturn d18_17 rfl (Or.inl rfl) rfl (by decide) ⟨rfl, rfl⟩
theorem c129_checkIndex {Z a0} (hw : HW a0 Z) (hs : SF Z) {F : List Ent} : Con Z EL y12 y12b 2 y12r (rmm 1 0 0 14) [(vi 2), (vi 4)] (F) (fun v D' => (v = none ∧ F = D')) := by
  refine Con.of (ls := #[iv 2, iv 4]) (by decide +kernel) rfl ?_
  refine W.iloadN d17_0 rfl ?_
  refine W.iloadN d17_1 rfl ?_
  refine W.gets d17_2 (wq hw 84 rfl) Via.refl hs.2.2.2.1 ?_
  refine W.callS (as := [(vi 2), (vi 4), (sfv Z)]) 0 [] d17_5 (wq hw 86 rfl) (wq hw 87 rfl) (wq hw 85 rfl) (wq hw 88 rfl) (c130_checkIndex hw hs) (by decide) pd_IILjava_util_function_BiFunction__I rfl rfl rfl rfl (by decide) (fun v D' h => ?_)
  obtain ⟨rfl, rfl⟩ := h
  show W _ _ _ _ _ _ _ _ _ _ _ _ 8 _ [(vi 2)]
  refine W.popv d17_8 rfl ?_
  exact W.return_ d17_9 rfl (by decide) ⟨rfl, rfl⟩
theorem c128_charAt {Z a0} (hw : HW a0 Z) (hs : SF Z) {p1 : Addr} {x2 : Int32} (hx2 : (45 ≤ x2.toInt ∧ x2.toInt ≤ 46) ∨ (48 ≤ x2.toInt ∧ x2.toInt ≤ 58) ∨ (65 ≤ x2.toInt ∧ x2.toInt ≤ 90) ∨ x2.toInt = 95 ∨ (97 ≤ x2.toInt ∧ x2.toInt ≤ 122)) {e_p1_0 e_p1_1 e_p1_3 : Value} {w_p1 : Bool} {ad_p1 : String} {F : List Ent} (mp1 : (p1, w_p1, ar ad_p1 .byte [e_p1_0, e_p1_1, (vi x2), e_p1_3]) ∈ F) : Con Z EL y13 y13b 2 y13r (rmm 2 0 0 27) [(vr p1), (vi 2)] (F) (fun v D' => (v = some (vi x2) ∧ F = D')) := by
  refine Con.of (ls := #[rv p1, iv 2]) (by decide +kernel) rfl ?_
  refine W.iloadN d16_0 rfl ?_
  refine W.aloadN d16_1 rfl rfl ?_
  refine W.alen (4) d16_2 mp1 rfl ?_
  refine W.callS (as := [(vi 2), (vi 4)]) 0 [] d16_3 (wq hw 81 rfl) (wq hw 82 rfl) (wq hw 11 rfl) (wq hw 83 rfl) (c129_checkIndex hw hs) (by decide) pd_II_V rfl rfl rfl rfl (by decide) (fun v D' h => ?_)
  obtain ⟨rfl, rfl⟩ := h
  show W _ _ _ _ _ _ _ _ _ _ _ _ 6 _ []
  refine W.aloadN d16_6 rfl rfl ?_
  refine W.iloadN d16_7 rfl ?_
  refine W.baload 2 d16_8 mp1 ix2 rfl ?_
  refine W.sipush (255) d16_9 (by decide) ?_
  refine W.iandK x2 d16_12 (z_and 8 256 (by decide) (by decide) (by decide) (by omega)) ?_
  refine W.i2cK x2 d16_13 (z_i2c (by omega)) ?_
  exact W.ireturn d16_14 rfl (Or.inr (Or.inr (Or.inr (Or.inl rfl)))) (nw_char (by omega)) (by decide) ⟨rfl, rfl⟩
theorem c127_charAt {Z a0} (hw : HW a0 Z) (hs : SF Z) {p1 p2 : Addr} {x2 : Int32} (hx2 : (45 ≤ x2.toInt ∧ x2.toInt ≤ 46) ∨ (48 ≤ x2.toInt ∧ x2.toInt ≤ 58) ∨ (65 ≤ x2.toInt ∧ x2.toInt ≤ 90) ∨ x2.toInt = 95 ∨ (97 ≤ x2.toInt ∧ x2.toInt ≤ 122)) {e_p2_0 e_p2_1 e_p2_3 : Value} {w_p1 : Bool} {w_p2 : Bool} {ad_p2 : String} {F : List Ent} (mp1 : (p1, w_p1, oString (vr p2) (vi 0)) ∈ F) (mp2 : (p2, w_p2, ar ad_p2 .byte [e_p2_0, e_p2_1, (vi x2), e_p2_3]) ∈ F) : Con Z EL y14 y14b 2 y14r (rmm 3 0 0 40) [(vr p1), (vi 2)] (F) (fun v D' => (v = some (vi x2) ∧ F = D')) := by
  refine Con.of (ls := #[rv p1, iv 2]) (by decide +kernel) rfl ?_
  refine W.aloadN d14_0 rfl rfl ?_
  refine W.callV (as := []) 0 [] d14_1 (wq hw 73 rfl) (wq hw 74 rfl) (wq hw 76 rfl) (wq hw 76 rfl) (wq hw 75 rfl) (wq hw 11 rfl) (wq hw 77 rfl) (Hp.exa mp1) (c17_isLatin1 hw hs (mp1 := mp1)) (by decide) pd__Z rfl rfl rfl rfl (by decide) (fun v D' h => ?_)
  obtain ⟨rfl, rfl⟩ := h
  show W _ _ _ _ _ _ _ _ _ _ _ _ 4 _ [(vi 1)]
  refine W.ifN d14_4 (n_eq (by decide)) ?_
  refine W.aloadN d14_7 rfl rfl ?_
  refine W.getf d14_8 (wq hw 31 rfl) Via.refl mp1 m0 ?_
  refine W.iloadN d14_11 rfl ?_
  refine W.callS (as := [(vr p2), (vi 2)]) 0 [] d14_12 (wq hw 78 rfl) (wq hw 79 rfl) (wq hw 16 rfl) (wq hw 80 rfl) (c128_charAt hw hs (hx2 := hx2) (mp1 := mp2)) (by decide) pd__BI_C rfl rfl rfl rfl (by decide) (fun v D' h => ?_)
  obtain ⟨rfl, rfl⟩ := h
  show W _ _ _ _ _ _ _ _ _ _ _ _ 15 _ [(vi x2)]
  exact W.ireturn d14_15 rfl (Or.inr (Or.inr (Or.inr (Or.inl rfl)))) (nw_char (by omega)) (by decide) ⟨rfl, rfl⟩
theorem c134_checkIndex {Z a0} (hw : HW a0 Z) (hs : SF Z) {F : List Ent} : Con Z EL y11 y11b 3 y11r (rmm 0 0 0 0) [(vi 3), (vi 4), (sfv Z)] (F) (fun v D' => (v = some (vi 3) ∧ F = D')) := by
  refine Con.of (ls := #[iv 3, iv 4, .val (sfv Z)]) (by decide +kernel) (hent_of (ld1 rfl (ld1 rfl (ld1 (XT.cat1 hs.2.2.1) ld0))) rfl) ?_
  refine W.iloadN d18_0 rfl ?_
  refine W.ifN d18_1 (n_lt (by decide)) ?_
  refine W.iloadN d18_4 rfl ?_
  refine W.iloadN d18_5 rfl ?_
  refine W.icmpY 16 d18_6 (y_lt (by decide)) (by decide) ?_
  refine W.iloadN d18_16 rfl ?_
  exact W.ireturn d18_17 rfl (Or.inl rfl) rfl (by decide) ⟨rfl, rfl⟩
theorem c133_checkIndex {Z a0} (hw : HW a0 Z) (hs : SF Z) {F : List Ent} : Con Z EL y12 y12b 2 y12r (rmm 1 0 0 14) [(vi 3), (vi 4)] (F) (fun v D' => (v = none ∧ F = D')) := by
  refine Con.of (ls := #[iv 3, iv 4]) (by decide +kernel) rfl ?_
  refine W.iloadN d17_0 rfl ?_
  refine W.iloadN d17_1 rfl ?_
  refine W.gets d17_2 (wq hw 84 rfl) Via.refl hs.2.2.2.1 ?_
  refine W.callS (as := [(vi 3), (vi 4), (sfv Z)]) 0 [] d17_5 (wq hw 86 rfl) (wq hw 87 rfl) (wq hw 85 rfl) (wq hw 88 rfl) (c134_checkIndex hw hs) (by decide) pd_IILjava_util_function_BiFunction__I rfl rfl rfl rfl (by decide) (fun v D' h => ?_)
  obtain ⟨rfl, rfl⟩ := h
  show W _ _ _ _ _ _ _ _ _ _ _ _ 8 _ [(vi 3)]
  refine W.popv d17_8 rfl ?_
  exact W.return_ d17_9 rfl (by decide) ⟨rfl, rfl⟩
theorem c132_charAt {Z a0} (hw : HW a0 Z) (hs : SF Z) {p1 : Addr} {x3 : Int32} (hx3 : (45 ≤ x3.toInt ∧ x3.toInt ≤ 46) ∨ (48 ≤ x3.toInt ∧ x3.toInt ≤ 58) ∨ (65 ≤ x3.toInt ∧ x3.toInt ≤ 90) ∨ x3.toInt = 95 ∨ (97 ≤ x3.toInt ∧ x3.toInt ≤ 122)) {e_p1_0 e_p1_1 e_p1_2 : Value} {w_p1 : Bool} {ad_p1 : String} {F : List Ent} (mp1 : (p1, w_p1, ar ad_p1 .byte [e_p1_0, e_p1_1, e_p1_2, (vi x3)]) ∈ F) : Con Z EL y13 y13b 2 y13r (rmm 2 0 0 27) [(vr p1), (vi 3)] (F) (fun v D' => (v = some (vi x3) ∧ F = D')) := by
  refine Con.of (ls := #[rv p1, iv 3]) (by decide +kernel) rfl ?_
  refine W.iloadN d16_0 rfl ?_
  refine W.aloadN d16_1 rfl rfl ?_
  refine W.alen (4) d16_2 mp1 rfl ?_
  refine W.callS (as := [(vi 3), (vi 4)]) 0 [] d16_3 (wq hw 81 rfl) (wq hw 82 rfl) (wq hw 11 rfl) (wq hw 83 rfl) (c133_checkIndex hw hs) (by decide) pd_II_V rfl rfl rfl rfl (by decide) (fun v D' h => ?_)
  obtain ⟨rfl, rfl⟩ := h
  show W _ _ _ _ _ _ _ _ _ _ _ _ 6 _ []
  refine W.aloadN d16_6 rfl rfl ?_
  refine W.iloadN d16_7 rfl ?_
  refine W.baload 3 d16_8 mp1 ix3 rfl ?_
  refine W.sipush (255) d16_9 (by decide) ?_
  refine W.iandK x3 d16_12 (z_and 8 256 (by decide) (by decide) (by decide) (by omega)) ?_
  refine W.i2cK x3 d16_13 (z_i2c (by omega)) ?_
  exact W.ireturn d16_14 rfl (Or.inr (Or.inr (Or.inr (Or.inl rfl)))) (nw_char (by omega)) (by decide) ⟨rfl, rfl⟩
theorem c131_charAt {Z a0} (hw : HW a0 Z) (hs : SF Z) {p1 p2 : Addr} {x3 : Int32} (hx3 : (45 ≤ x3.toInt ∧ x3.toInt ≤ 46) ∨ (48 ≤ x3.toInt ∧ x3.toInt ≤ 58) ∨ (65 ≤ x3.toInt ∧ x3.toInt ≤ 90) ∨ x3.toInt = 95 ∨ (97 ≤ x3.toInt ∧ x3.toInt ≤ 122)) {e_p2_0 e_p2_1 e_p2_2 : Value} {w_p1 : Bool} {w_p2 : Bool} {ad_p2 : String} {F : List Ent} (mp1 : (p1, w_p1, oString (vr p2) (vi 0)) ∈ F) (mp2 : (p2, w_p2, ar ad_p2 .byte [e_p2_0, e_p2_1, e_p2_2, (vi x3)]) ∈ F) : Con Z EL y14 y14b 2 y14r (rmm 3 0 0 40) [(vr p1), (vi 3)] (F) (fun v D' => (v = some (vi x3) ∧ F = D')) := by
  refine Con.of (ls := #[rv p1, iv 3]) (by decide +kernel) rfl ?_
  refine W.aloadN d14_0 rfl rfl ?_
  refine W.callV (as := []) 0 [] d14_1 (wq hw 73 rfl) (wq hw 74 rfl) (wq hw 76 rfl) (wq hw 76 rfl) (wq hw 75 rfl) (wq hw 11 rfl) (wq hw 77 rfl) (Hp.exa mp1) (c17_isLatin1 hw hs (mp1 := mp1)) (by decide) pd__Z rfl rfl rfl rfl (by decide) (fun v D' h => ?_)
  obtain ⟨rfl, rfl⟩ := h
  show W _ _ _ _ _ _ _ _ _ _ _ _ 4 _ [(vi 1)]
  refine W.ifN d14_4 (n_eq (by decide)) ?_
  refine W.aloadN d14_7 rfl rfl ?_
  refine W.getf d14_8 (wq hw 31 rfl) Via.refl mp1 m0 ?_
  refine W.iloadN d14_11 rfl ?_
  refine W.callS (as := [(vr p2), (vi 3)]) 0 [] d14_12 (wq hw 78 rfl) (wq hw 79 rfl) (wq hw 16 rfl) (wq hw 80 rfl) (c132_charAt hw hs (hx3 := hx3) (mp1 := mp2)) (by decide) pd__BI_C rfl rfl rfl rfl (by decide) (fun v D' h => ?_)
  obtain ⟨rfl, rfl⟩ := h
  show W _ _ _ _ _ _ _ _ _ _ _ _ 15 _ [(vi x3)]
  exact W.ireturn d14_15 rfl (Or.inr (Or.inr (Or.inr (Or.inl rfl)))) (nw_char (by omega)) (by decide) ⟨rfl, rfl⟩
theorem c138_compress {Z a0} (hw : HW a0 Z) (hs : SF Z) {p1 p2 : Addr} {x1 : Int32} (hx1 : (45 ≤ x1.toInt ∧ x1.toInt ≤ 46) ∨ (48 ≤ x1.toInt ∧ x1.toInt ≤ 57) ∨ (65 ≤ x1.toInt ∧ x1.toInt ≤ 90) ∨ x1.toInt = 95 ∨ (97 ≤ x1.toInt ∧ x1.toInt ≤ 122)) {x2 : Int32} (hx2 : (45 ≤ x2.toInt ∧ x2.toInt ≤ 46) ∨ (48 ≤ x2.toInt ∧ x2.toInt ≤ 57) ∨ (65 ≤ x2.toInt ∧ x2.toInt ≤ 90) ∨ x2.toInt = 95 ∨ (97 ≤ x2.toInt ∧ x2.toInt ≤ 122)) {ad_p2 : String} {w_p1 : Bool} {ad_p1 : String} {F : List Ent} (mp1 : (p1, w_p1, ar ad_p1 .char [(vi x1), (vi x2)]) ∈ F) : Con Z EL y46 y46b 7 y46r (rmm 0 0 0 0) [(vr p1), (vi 0), (vr p2), (vi 0), (vi 2)] ((p2, true, ar ad_p2 .byte [(vi 0), (vi 0)]) :: F) (fun v D' => (v = some (vi 2) ∧ (p2, true, ar ad_p2 .byte [(vi x1), (vi x2)]) :: F = D')) := by
  refine Con.of (ls := #[rv p1, iv 0, rv p2, iv 0, iv 2, uu, uu]) (by decide +kernel) rfl ?_
  refine W.iconst (0) d44_0 (by decide) ?_
  refine W.istore (ls' := #[rv p1, iv 0, rv p2, iv 0, iv 2, iv 0, uu]) d44_1 rfl ?_
  refine W.iload d44_3 rfl ?_
  refine W.iload d44_5 rfl ?_
  refine W.icmpN d44_7 (n_ge (by decide)) ?_
  refine W.aloadN d44_10 rfl rfl ?_
  refine W.iloadN d44_11 rfl ?_
  refine W.caload 0 d44_12 (mS mp1) ix0 rfl ?_
  refine W.istore (ls' := #[rv p1, iv 0, rv p2, iv 0, iv 2, iv 0, iv x1]) d44_13 rfl ?_
  refine W.iload d44_15 rfl ?_
  refine W.sipush (255) d44_17 (by decide) ?_
  refine W.icmpY 26 d44_20 (y_le (by have := q255; omega)) (by decide) ?_
  refine W.aloadN d44_26 rfl rfl ?_
  refine W.iloadN d44_27 rfl ?_
  refine W.iload d44_28 rfl ?_
  refine W.i2bK x1 d44_30 (z_i2b (by omega)) ?_
  refine W.bastore (D' := (p2, true, ar ad_p2 .byte [(vi x1), (vi 0)]) :: F) 0 0 d44_31 rfl ix0 (Nat.le_of_ble_eq_true rfl) (z_narB (by omega)) rfl ?_
  refine W.iincK (ls' := #[rv p1, iv 1, rv p2, iv 0, iv 2, iv 0, iv x1]) (1) (1 : Int32) d44_32 (by decide) rfl (by decide) rfl ?_
  refine W.iincK (ls' := #[rv p1, iv 1, rv p2, iv 1, iv 2, iv 0, iv x1]) (1) (1 : Int32) d44_35 (by decide) rfl (by decide) rfl ?_
  refine W.iincK (ls' := #[rv p1, iv 1, rv p2, iv 1, iv 2, iv 1, iv x1]) (1) (1 : Int32) d44_38 (by decide) rfl (by decide) rfl ?_
  refine W.goto 3 d44_41 (by decide) ?_
  refine W.iload d44_3 rfl ?_
  refine W.iload d44_5 rfl ?_
  refine W.icmpN d44_7 (n_ge (by decide)) ?_
  refine W.aloadN d44_10 rfl rfl ?_
  refine W.iloadN d44_11 rfl ?_
  refine W.caload 1 d44_12 (mS mp1) ix1 rfl ?_
  refine W.istore (ls' := #[rv p1, iv 1, rv p2, iv 1, iv 2, iv 1, iv x2]) d44_13 rfl ?_
  refine W.iload d44_15 rfl ?_
  refine W.sipush (255) d44_17 (by decide) ?_
  refine W.icmpY 26 d44_20 (y_le (by have := q255; omega)) (by decide) ?_
  refine W.aloadN d44_26 rfl rfl ?_
  refine W.iloadN d44_27 rfl ?_
  refine W.iload d44_28 rfl ?_
  refine W.i2bK x2 d44_30 (z_i2b (by omega)) ?_
  refine W.bastore (D' := (p2, true, ar ad_p2 .byte [(vi x1), (vi x2)]) :: F) 0 1 d44_31 rfl ix1 (Nat.le_of_ble_eq_true rfl) (z_narB (by omega)) rfl ?_
  refine W.iincK (ls' := #[rv p1, iv 2, rv p2, iv 1, iv 2, iv 1, iv x2]) (1) (2 : Int32) d44_32 (by decide) rfl (by decide) rfl ?_
  refine W.iincK (ls' := #[rv p1, iv 2, rv p2, iv 2, iv 2, iv 1, iv x2]) (1) (2 : Int32) d44_35 (by decide) rfl (by decide) rfl ?_
  refine W.iincK (ls' := #[rv p1, iv 2, rv p2, iv 2, iv 2, iv 2, iv x2]) (1) (2 : Int32) d44_38 (by decide) rfl (by decide) rfl ?_
  refine W.goto 3 d44_41 (by decide) ?_
  refine W.iload d44_3 rfl ?_
  refine W.iload d44_5 rfl ?_
  refine W.icmpY 44 d44_7 (y_ge (by decide)) (by decide) ?_
  refine W.iload d44_44 rfl ?_
  exact W.ireturn d44_46 rfl (Or.inl rfl) rfl (by decide) ⟨rfl, rfl⟩
theorem c137_compress {Z a0} (hw : HW a0 Z) (hs : SF Z) {p1 : Addr} {x1 : Int32} (hx1 : (45 ≤ x1.toInt ∧ x1.toInt ≤ 46) ∨ (48 ≤ x1.toInt ∧ x1.toInt ≤ 57) ∨ (65 ≤ x1.toInt ∧ x1.toInt ≤ 90) ∨ x1.toInt = 95 ∨ (97 ≤ x1.toInt ∧ x1.toInt ≤ 122)) {x2 : Int32} (hx2 : (45 ≤ x2.toInt ∧ x2.toInt ≤ 46) ∨ (48 ≤ x2.toInt ∧ x2.toInt ≤ 57) ∨ (65 ≤ x2.toInt ∧ x2.toInt ≤ 90) ∨ x2.toInt = 95 ∨ (97 ≤ x2.toInt ∧ x2.toInt ≤ 122)) {w_p1 : Bool} {ad_p1 : String} {F : List Ent} (mp1 : (p1, w_p1, ar ad_p1 .char [(vi x1), (vi x2)]) ∈ F) : Con Z EL y47 y47b 6 y47r (rmm 1 1 2 18) [(vr p1), (vi 0), (vi 2)] (F) (fun v D' => (∃ a1 : Addr, v = some (vr a1) ∧ (a1, true, ar "[B" .byte [(vi x1), (vi x2)]) :: F = D')) := by
  refine Con.of (ls := #[rv p1, iv 0, iv 2, uu, uu, uu]) (by decide +kernel) rfl ?_
  refine W.iloadN d43_0 rfl ?_
  refine W.newarr 2 (ad := "[B") (ty := .byte) d43_1 rfl (wq hw 23 rfl) ix2 rfl (by decide) (by decide) (fun a1 => ?_)
  show W _ _ _ _ _ _ _ _ _ _ _ _ 3 _ [(vr a1)]
  refine W.astoreN (ls' := #[rv p1, iv 0, iv 2, rv a1, uu, uu]) d43_3 rfl rfl ?_
  refine W.aloadN d43_4 rfl rfl ?_
  refine W.iloadN d43_5 rfl ?_
  refine W.aloadN d43_6 rfl rfl ?_
  refine W.iconst (0) d43_7 (by decide) ?_
  refine W.iloadN d43_8 rfl ?_
  refine W.callS (as := [(vr p1), (vi 0), (vr a1), (vi 0), (vi 2)]) 0 [] d43_9 (wq hw 225 rfl) (wq hw 226 rfl) (wq hw 223 rfl) (wq hw 227 rfl) (c138_compress hw hs (hx1 := hx1) (hx2 := hx2) (mp1 := mp1)) (by decide) pd__CI_BII_I rfl rfl rfl rfl (by decide) (fun v D' h => ?_)
  obtain ⟨rfl, rfl⟩ := h
  show W _ _ _ _ _ _ _ _ _ _ _ _ 12 _ [(vi 2)]
  refine W.istore (ls' := #[rv p1, iv 0, iv 2, rv a1, iv 2, uu]) d43_12 rfl ?_
  refine W.iload d43_14 rfl ?_
  refine W.iloadN d43_16 rfl ?_
  refine W.icmpY 57 d43_17 (y_eq (by decide)) (by decide) ?_
  refine W.aloadN d43_57 rfl rfl ?_
  exact W.areturn d43_58 rfl rfl rfl (by decide) ⟨a1, rfl, rfl⟩
theorem c136_init {Z a0} (hw : HW a0 Z) (hs : SF Z) {p1 p2 : Addr} {x1 : Int32} (hx1 : (45 ≤ x1.toInt ∧ x1.toInt ≤ 46) ∨ (48 ≤ x1.toInt ∧ x1.toInt ≤ 57) ∨ (65 ≤ x1.toInt ∧ x1.toInt ≤ 90) ∨ x1.toInt = 95 ∨ (97 ≤ x1.toInt ∧ x1.toInt ≤ 122)) {x2 : Int32} (hx2 : (45 ≤ x2.toInt ∧ x2.toInt ≤ 46) ∨ (48 ≤ x2.toInt ∧ x2.toInt ≤ 57) ∨ (65 ≤ x2.toInt ∧ x2.toInt ≤ 90) ∨ x2.toInt = 95 ∨ (97 ≤ x2.toInt ∧ x2.toInt ≤ 122)) {w_p2 : Bool} {ad_p2 : String} {F : List Ent} (mp2 : (p2, w_p2, ar ad_p2 .char [(vi x1), (vi x2)]) ∈ F) : Con Z EL y49 y49b 6 y49r (rmm 2 1 2 35) [(vr p1), (vr p2), (vi 0), (vi 2), .null] ((p1, true, oString .null (vi 0)) :: F) (fun v D' => (∃ a1 : Addr, v = none ∧ (a1, true, ar "[B" .byte [(vi x1), (vi x2)]) :: (p1, true, oString (vr a1) (vi 0)) :: F = D')) := by
  refine Con.of (ls := #[rv p1, rv p2, iv 0, iv 2, .val .null, uu]) (by decide +kernel) rfl ?_
  refine W.aloadN d42_0 rfl rfl ?_
  refine W.initO 0 d42_1 (wq hw 28 rfl) (wq hw 29 rfl) (wq hw 30 rfl) rfl rfl (by decide) ?_
  refine W.iloadN d42_4 rfl ?_
  refine W.ifY 27 d42_5 (y_ne (by decide)) (by decide) ?_
  refine W.gets d42_27 (wq hw 13 rfl) Via.refl hs.1 ?_
  refine W.ifN d42_30 (n_eq (by have := hs.2.1; have := q0; omega)) ?_
  refine W.aloadN d42_33 rfl rfl ?_
  refine W.iloadN d42_34 rfl ?_
  refine W.iloadN d42_35 rfl ?_
  refine W.callS (as := [(vr p2), (vi 0), (vi 2)]) 0 [] d42_36 (wq hw 221 rfl) (wq hw 222 rfl) (wq hw 223 rfl) (wq hw 224 rfl) (c137_compress hw hs (hx1 := hx1) (hx2 := hx2) (mp1 := (mS mp2))) (by decide) pd__CII__B rfl rfl rfl rfl (by decide) (fun v D' h => ?_)
  obtain ⟨a1, rfl, rfl⟩ := h
  show W _ _ _ _ _ _ _ _ _ _ _ _ 39 _ [(vr a1)]
  refine W.astore (ls' := #[rv p1, rv p2, iv 0, iv 2, .val .null, rv a1]) d42_39 rfl rfl ?_
  refine W.aloadN d42_41 rfl rfl ?_
  refine W.aload 5 d42_42 rfl rfl ?_
  refine W.iloadN d42_44 rfl ?_
  refine W.callS (as := [(vr a1), (vi 2)]) 1 [(vr p1)] d42_45 (wq hw 228 rfl) (wq hw 229 rfl) (wq hw 223 rfl) (wq hw 230 rfl) (c89_coderFromArrayLen hw hs (hvs_p1 := rfl) (mp1 := m0)) (by decide) pd__BI_B rfl rfl rfl rfl (by decide) (fun v D' h => ?_)
  obtain ⟨rfl, rfl⟩ := h
  show W _ _ _ _ _ _ _ _ _ _ _ _ 48 _ [(vi 0), (vr p1)]
  refine W.putf (D' := (a1, true, ar "[B" .byte [(vi x1), (vi x2)]) :: (p1, true, oString .null (vi 0)) :: F) 1 1 d42_48 (wq hw 33 rfl) Via.refl rfl rfl (Or.inr ⟨(wq hw 34 rfl), rfl, rfl⟩) (wq hw 19 rfl) pfB (nw_byte (by decide)) (ft_byte (by decide)) rfl ?_
  refine W.aloadN d42_51 rfl rfl ?_
  refine W.aload 5 d42_52 rfl rfl ?_
  refine W.putf (D' := (a1, true, ar "[B" .byte [(vi x1), (vi x2)]) :: (p1, true, oString (vr a1) (vi 0)) :: F) 1 0 d42_54 (wq hw 31 rfl) Via.refl rfl rfl (Or.inr ⟨(wq hw 32 rfl), rfl, rfl⟩) (wq hw 19 rfl) pf_B rfl rfl rfl ?_
  exact W.return_ d42_57 rfl (by decide) ⟨a1, rfl, rfl⟩
theorem c135_init {Z a0} (hw : HW a0 Z) (hs : SF Z) {p1 p2 : Addr} {x1 : Int32} (hx1 : (45 ≤ x1.toInt ∧ x1.toInt ≤ 46) ∨ (48 ≤ x1.toInt ∧ x1.toInt ≤ 57) ∨ (65 ≤ x1.toInt ∧ x1.toInt ≤ 90) ∨ x1.toInt = 95 ∨ (97 ≤ x1.toInt ∧ x1.toInt ≤ 122)) {x2 : Int32} (hx2 : (45 ≤ x2.toInt ∧ x2.toInt ≤ 46) ∨ (48 ≤ x2.toInt ∧ x2.toInt ≤ 57) ∨ (65 ≤ x2.toInt ∧ x2.toInt ≤ 90) ∨ x2.toInt = 95 ∨ (97 ≤ x2.toInt ∧ x2.toInt ≤ 122)) {w_p2 : Bool} {ad_p2 : String} {F : List Ent} (mp2 : (p2, w_p2, ar ad_p2 .char [(vi x1), (vi x2)]) ∈ F) : Con Z EL y50 y50b 2 y50r (rmm 3 1 2 52) [(vr p1), (vr p2)] ((p1, true, oString .null (vi 0)) :: F) (fun v D' => (∃ a1 : Addr, v = none ∧ (a1, true, ar "[B" .byte [(vi x1), (vi x2)]) :: (p1, true, oString (vr a1) (vi 0)) :: F = D')) := by
  refine Con.of (ls := #[rv p1, rv p2]) (by decide +kernel) rfl ?_
  refine W.aloadN d41_0 rfl rfl ?_
  refine W.aloadN d41_1 rfl rfl ?_
  refine W.iconst (0) d41_2 (by decide) ?_
  refine W.aloadN d41_3 rfl rfl ?_
  refine W.alen (2) d41_4 (mS mp2) rfl ?_
  refine W.aconstNull d41_5 ?_
  refine W.callI (as := [(vr p2), (vi 0), (vi 2), .null]) 0 [] d41_6 rfl (wq hw 218 rfl) (wq hw 219 rfl) (wq hw 11 rfl) (wq hw 220 rfl) (c136_init hw hs (hx1 := hx1) (hx2 := hx2) (mp2 := mp2)) (by decide) pd__CIILjava_lang_Void__V rfl rfl rfl rfl (by decide) (fun v D' h => ?_)
  obtain ⟨a1, rfl, rfl⟩ := h
  show W _ _ _ _ _ _ _ _ _ _ _ _ 9 _ []
  exact W.return_ d41_9 rfl (by decide) ⟨a1, rfl, rfl⟩
theorem c143_charAt {Z a0} (hw : HW a0 Z) (hs : SF Z) {p1 : Addr} {x1 : Int32} (hx1 : (45 ≤ x1.toInt ∧ x1.toInt ≤ 46) ∨ (48 ≤ x1.toInt ∧ x1.toInt ≤ 57) ∨ (65 ≤ x1.toInt ∧ x1.toInt ≤ 90) ∨ x1.toInt = 95 ∨ (97 ≤ x1.toInt ∧ x1.toInt ≤ 122)) {e_p1_1 : Value} {w_p1 : Bool} {ad_p1 : String} {F : List Ent} (mp1 : (p1, w_p1, ar ad_p1 .byte [(vi x1), e_p1_1]) ∈ F) : Con Z EL y13 y13b 2 y13r (rmm 2 0 0 27) [(vr p1), (vi 0)] (F) (fun v D' => (v = some (vi x1) ∧ F = D')) := by
  refine Con.of (ls := #[rv p1, iv 0]) (by decide +kernel) rfl ?_
  refine W.iloadN d16_0 rfl ?_
  refine W.aloadN d16_1 rfl rfl ?_
  refine W.alen (2) d16_2 mp1 rfl ?_
  refine W.callS (as := [(vi 0), (vi 2)]) 0 [] d16_3 (wq hw 81 rfl) (wq hw 82 rfl) (wq hw 11 rfl) (wq hw 83 rfl) (c97_checkIndex hw hs) (by decide) pd_II_V rfl rfl rfl rfl (by decide) (fun v D' h => ?_)
  obtain ⟨rfl, rfl⟩ := h
  show W _ _ _ _ _ _ _ _ _ _ _ _ 6 _ []
  refine W.aloadN d16_6 rfl rfl ?_
  refine W.iloadN d16_7 rfl ?_
  refine W.baload 0 d16_8 mp1 ix0 rfl ?_
  refine W.sipush (255) d16_9 (by decide) ?_
  refine W.iandK x1 d16_12 (z_and 8 256 (by decide) (by decide) (by decide) (by omega)) ?_
  refine W.i2cK x1 d16_13 (z_i2c (by omega)) ?_
  exact W.ireturn d16_14 rfl (Or.inr (Or.inr (Or.inr (Or.inl rfl)))) (nw_char (by omega)) (by decide) ⟨rfl, rfl⟩
theorem c142_charAt {Z a0} (hw : HW a0 Z) (hs : SF Z) {p1 p2 : Addr} {x1 : Int32} (hx1 : (45 ≤ x1.toInt ∧ x1.toInt ≤ 46) ∨ (48 ≤ x1.toInt ∧ x1.toInt ≤ 57) ∨ (65 ≤ x1.toInt ∧ x1.toInt ≤ 90) ∨ x1.toInt = 95 ∨ (97 ≤ x1.toInt ∧ x1.toInt ≤ 122)) {e_p2_1 : Value} {w_p1 : Bool} {w_p2 : Bool} {ad_p2 : String} {F : List Ent} (mp1 : (p1, w_p1, oString (vr p2) (vi 0)) ∈ F) (mp2 : (p2, w_p2, ar ad_p2 .byte [(vi x1), e_p2_1]) ∈ F) : Con Z EL y14 y14b 2 y14r (rmm 3 0 0 40) [(vr p1), (vi 0)] (F) (fun v D' => (v = some (vi x1) ∧ F = D')) := by
  refine Con.of (ls := #[rv p1, iv 0]) (by decide +kernel) rfl ?_
  refine W.aloadN d14_0 rfl rfl ?_
  refine W.callV (as := []) 0 [] d14_1 (wq hw 73 rfl) (wq hw 74 rfl) (wq hw 76 rfl) (wq hw 76 rfl) (wq hw 75 rfl) (wq hw 11 rfl) (wq hw 77 rfl) (Hp.exa mp1) (c17_isLatin1 hw hs (mp1 := mp1)) (by decide) pd__Z rfl rfl rfl rfl (by decide) (fun v D' h => ?_)
  obtain ⟨rfl, rfl⟩ := h
  show W _ _ _ _ _ _ _ _ _ _ _ _ 4 _ [(vi 1)]
  refine W.ifN d14_4 (n_eq (by decide)) ?_
  refine W.aloadN d14_7 rfl rfl ?_
  refine W.getf d14_8 (wq hw 31 rfl) Via.refl mp1 m0 ?_
  refine W.iloadN d14_11 rfl ?_
  refine W.callS (as := [(vr p2), (vi 0)]) 0 [] d14_12 (wq hw 78 rfl) (wq hw 79 rfl) (wq hw 16 rfl) (wq hw 80 rfl) (c143_charAt hw hs (hx1 := hx1) (mp1 := mp2)) (by decide) pd__BI_C rfl rfl rfl rfl (by decide) (fun v D' h => ?_)
  obtain ⟨rfl, rfl⟩ := h
  show W _ _ _ _ _ _ _ _ _ _ _ _ 15 _ [(vi x1)]
  exact W.ireturn d14_15 rfl (Or.inr (Or.inr (Or.inr (Or.inl rfl)))) (nw_char (by omega)) (by decide) ⟨rfl, rfl⟩
theorem c145_charAt {Z a0} (hw : HW a0 Z) (hs : SF Z) {p1 : Addr} {x2 : Int32} (hx2 : (45 ≤ x2.toInt ∧ x2.toInt ≤ 46) ∨ (48 ≤ x2.toInt ∧ x2.toInt ≤ 57) ∨ (65 ≤ x2.toInt ∧ x2.toInt ≤ 90) ∨ x2.toInt = 95 ∨ (97 ≤ x2.toInt ∧ x2.toInt ≤ 122)) {e_p1_0 : Value} {w_p1 : Bool} {ad_p1 : String} {F : List Ent} (mp1 : (p1, w_p1, ar ad_p1 .byte [e_p1_0, (vi x2)]) ∈ F) : Con Z EL y13 y13b 2 y13r (rmm 2 0 0 27) [(vr p1), (vi 1)] (F) (fun v D' => (v = some (vi x2) ∧ F = D')) := by
  refine Con.of (ls := #[rv p1, iv 1]) (by decide +kernel) rfl ?_
  refine W.iloadN d16_0 rfl ?_
  refine W.aloadN d16_1 rfl rfl ?_
  refine W.alen (2) d16_2 mp1 rfl ?_
  refine W.callS (as := [(vi 1), (vi 2)]) 0 [] d16_3 (wq hw 81 rfl) (wq hw 82 rfl) (wq hw 11 rfl) (wq hw 83 rfl) (c101_checkIndex hw hs) (by decide) pd_II_V rfl rfl rfl rfl (by decide) (fun v D' h => ?_)
  obtain ⟨rfl, rfl⟩ := h
  show W _ _ _ _ _ _ _ _ _ _ _ _ 6 _ []
  refine W.aloadN d16_6 rfl rfl ?_
  refine W.iloadN d16_7 rfl ?_
  refine W.baload 1 d16_8 mp1 ix1 rfl ?_
  refine W.sipush (255) d16_9 (by decide) ?_
  refine W.iandK x2 d16_12 (z_and 8 256 (by decide) (by decide) (by decide) (by omega)) ?_
  refine W.i2cK x2 d16_13 (z_i2c (by omega)) ?_
  exact W.ireturn d16_14 rfl (Or.inr (Or.inr (Or.inr (Or.inl rfl)))) (nw_char (by omega)) (by decide) ⟨rfl, rfl⟩
theorem c144_charAt {Z a0} (hw : HW a0 Z) (hs : SF Z) {p1 p2 : Addr} {x2 : Int32} (hx2 : (45 ≤ x2.toInt ∧ x2.toInt ≤ 46) ∨ (48 ≤ x2.toInt ∧ x2.toInt ≤ 57) ∨ (65 ≤ x2.toInt ∧ x2.toInt ≤ 90) ∨ x2.toInt = 95 ∨ (97 ≤ x2.toInt ∧ x2.toInt ≤ 122)) {e_p2_0 : Value} {w_p1 : Bool} {w_p2 : Bool} {ad_p2 : String} {F : List Ent} (mp1 : (p1, w_p1, oString (vr p2) (vi 0)) ∈ F) (mp2 : (p2, w_p2, ar ad_p2 .byte [e_p2_0, (vi x2)]) ∈ F) : Con Z EL y14 y14b 2 y14r (rmm 3 0 0 40) [(vr p1), (vi 1)] (F) (fun v D' => (v = some (vi x2) ∧ F = D')) := by
  refine Con.of (ls := #[rv p1, iv 1]) (by decide +kernel) rfl ?_
  refine W.aloadN d14_0 rfl rfl ?_
  refine W.callV (as := []) 0 [] d14_1 (wq hw 73 rfl) (wq hw 74 rfl) (wq hw 76 rfl) (wq hw 76 rfl) (wq hw 75 rfl) (wq hw 11 rfl) (wq hw 77 rfl) (Hp.exa mp1) (c17_isLatin1 hw hs (mp1 := mp1)) (by decide) pd__Z rfl rfl rfl rfl (by decide) (fun v D' h => ?_)
  obtain ⟨rfl, rfl⟩ := h
  show W _ _ _ _ _ _ _ _ _ _ _ _ 4 _ [(vi 1)]
  refine W.ifN d14_4 (n_eq (by decide)) ?_
  refine W.aloadN d14_7 rfl rfl ?_
  refine W.getf d14_8 (wq hw 31 rfl) Via.refl mp1 m0 ?_
  refine W.iloadN d14_11 rfl ?_
  refine W.callS (as := [(vr p2), (vi 1)]) 0 [] d14_12 (wq hw 78 rfl) (wq hw 79 rfl) (wq hw 16 rfl) (wq hw 80 rfl) (c145_charAt hw hs (hx2 := hx2) (mp1 := mp2)) (by decide) pd__BI_C rfl rfl rfl rfl (by decide) (fun v D' h => ?_)
  obtain ⟨rfl, rfl⟩ := h
  show W _ _ _ _ _ _ _ _ _ _ _ _ 15 _ [(vi x2)]
  exact W.ireturn d14_15 rfl (Or.inr (Or.inr (Or.inr (Or.inl rfl)))) (nw_char (by omega)) (by decide) ⟨rfl, rfl⟩
theorem c141_check {Z a0} (hw : HW a0 Z) (hs : SF Z) {p1 p2 : Addr} {x1 : Int32} (hx1 : (45 ≤ x1.toInt ∧ x1.toInt ≤ 46) ∨ (48 ≤ x1.toInt ∧ x1.toInt ≤ 57) ∨ (65 ≤ x1.toInt ∧ x1.toInt ≤ 90) ∨ x1.toInt = 95 ∨ (97 ≤ x1.toInt ∧ x1.toInt ≤ 122)) {x2 : Int32} (hx2 : (45 ≤ x2.toInt ∧ x2.toInt ≤ 46) ∨ (48 ≤ x2.toInt ∧ x2.toInt ≤ 57) ∨ (65 ≤ x2.toInt ∧ x2.toInt ≤ 90) ∨ x2.toInt = 95 ∨ (97 ≤ x2.toInt ∧ x2.toInt ≤ 122)) {w_p1 : Bool} {w_p2 : Bool} {ad_p2 : String} {w_og1Z : Bool} {w_og2Z : Bool} {w_og3Z : Bool} {ad_og3Z : String} {F : List Ent} (mp1 : (p1, w_p1, oString (vr p2) (vi 0)) ∈ F) (mp2 : (p2, w_p2, ar ad_p2 .byte [(vi x1), (vi x2)]) ∈ F) (mog1Z : ((og1 Z), w_og1Z, oJobKey_NameRule (vi 64) (vr (og2 Z))) ∈ F) (mog2Z : ((og2 Z), w_og2Z, oString (vr (og3 Z)) (vi 0)) ∈ F) (mog3Z : ((og3 Z), w_og3Z, ar ad_og3Z .byte [(vi 46), (vi 95), (vi 45)]) ∈ F) : Con Z EL y23 y23b 4 y23r (rmm 4 0 0 59) [(vr (og1 Z)), (vr p1)] (F) (fun v D' => (v = some (vr p1) ∧ F = D')) := by
  refine Con.of (ls := #[rv (og1 Z), rv p1, uu, uu]) (by decide +kernel) rfl ?_
  refine W.aloadN d10_0 rfl rfl ?_
  refine W.ifnonnullY 11 d10_1 (by decide) ?_
  refine W.aloadN d10_11 rfl rfl ?_
  refine W.callV (as := []) 0 [] d10_12 (wq hw 53 rfl) (wq hw 54 rfl) (wq hw 56 rfl) (wq hw 56 rfl) (wq hw 55 rfl) (wq hw 11 rfl) (wq hw 57 rfl) (Hp.exa mp1) (c93_isEmpty hw hs (hvs_p2 := rfl) (mp1 := mp1) (mp2 := mp2)) (by decide) pd__Z rfl rfl rfl rfl (by decide) (fun v D' h => ?_)
  obtain ⟨rfl, rfl⟩ := h
  show W _ _ _ _ _ _ _ _ _ _ _ _ 15 _ [(vi 0)]
  refine W.ifY 25 d10_15 (y_eq (by decide)) (by decide) ?_
  refine W.iconst (0) d10_25 (by decide) ?_
  refine W.istoreN (ls' := #[rv (og1 Z), rv p1, iv 0, uu]) d10_26 rfl ?_
  refine W.iloadN d10_27 rfl ?_
  refine W.aloadN d10_28 rfl rfl ?_
  refine W.callV (as := []) 1 [(vi 0)] d10_29 (wq hw 58 rfl) (wq hw 59 rfl) (wq hw 61 rfl) (wq hw 61 rfl) (wq hw 60 rfl) (wq hw 11 rfl) (wq hw 62 rfl) (Hp.exa mp1) (c94_length hw hs (hvs_p2 := rfl) (mp1 := mp1) (mp2 := mp2)) (by decide) pd__I rfl rfl rfl rfl (by decide) (fun v D' h => ?_)
  obtain ⟨rfl, rfl⟩ := h
  show W _ _ _ _ _ _ _ _ _ _ _ _ 32 _ [(vi 2), (vi 0)]
  refine W.icmpN d10_32 (n_ge (by decide)) ?_
  have K2 : W Z EL (rmm 4 0 0 59) "com/example/cunctator/cunctator/JobKey$NameRule" "check" prog_9_method_2_code 4 (Option.some (Jvm.ClassFile.FieldType.object "java/lang/String")) (fun v D' => (v = some (vr p1) ∧ F = D')) (F) 0 0 84 #[rv (og1 Z), rv p1, iv 0, iv x1] [] := by
   refine W.iincK (ls' := #[rv (og1 Z), rv p1, iv 1, iv x1]) (1) (1 : Int32) d10_84 (by decide) rfl (by decide) rfl ?_
   refine W.goto 27 d10_87 (by decide) ?_
   refine W.iloadN d10_27 rfl ?_
   refine W.aloadN d10_28 rfl rfl ?_
   refine W.callV (as := []) 1 [(vi 1)] d10_29 (wq hw 58 rfl) (wq hw 59 rfl) (wq hw 61 rfl) (wq hw 61 rfl) (wq hw 60 rfl) (wq hw 11 rfl) (wq hw 62 rfl) (Hp.exa mp1) (c94_length hw hs (hvs_p2 := rfl) (mp1 := mp1) (mp2 := mp2)) (by decide) pd__I rfl rfl rfl rfl (by decide) (fun v D' h => ?_)
   obtain ⟨rfl, rfl⟩ := h
   show W _ _ _ _ _ _ _ _ _ _ _ _ 32 _ [(vi 2), (vi 1)]
   refine W.icmpN d10_32 (n_ge (by decide)) ?_
   have K4 : W Z EL (rmm 4 0 0 59) "com/example/cunctator/cunctator/JobKey$NameRule" "check" prog_9_method_2_code 4 (Option.some (Jvm.ClassFile.FieldType.object "java/lang/String")) (fun v D' => (v = some (vr p1) ∧ F = D')) (F) 0 0 84 #[rv (og1 Z), rv p1, iv 1, iv x2] [] := by
    refine W.iincK (ls' := #[rv (og1 Z), rv p1, iv 2, iv x2]) (1) (2 : Int32) d10_84 (by decide) rfl (by decide) rfl ?_
    refine W.goto 27 d10_87 (by decide) ?_
    refine W.iloadN d10_27 rfl ?_
    refine W.aloadN d10_28 rfl rfl ?_
    refine W.callV (as := []) 1 [(vi 2)] d10_29 (wq hw 58 rfl) (wq hw 59 rfl) (wq hw 61 rfl) (wq hw 61 rfl) (wq hw 60 rfl) (wq hw 11 rfl) (wq hw 62 rfl) (Hp.exa mp1) (c94_length hw hs (hvs_p2 := rfl) (mp1 := mp1) (mp2 := mp2)) (by decide) pd__I rfl rfl rfl rfl (by decide) (fun v D' h => ?_)
    obtain ⟨rfl, rfl⟩ := h
    show W _ _ _ _ _ _ _ _ _ _ _ _ 32 _ [(vi 2), (vi 2)]
    refine W.icmpY 90 d10_32 (y_ge (by decide)) (by decide) ?_
    refine W.aloadN d10_90 rfl rfl ?_
    refine W.callV (as := []) 0 [] d10_91 (wq hw 58 rfl) (wq hw 59 rfl) (wq hw 61 rfl) (wq hw 61 rfl) (wq hw 60 rfl) (wq hw 11 rfl) (wq hw 62 rfl) (Hp.exa mp1) (c94_length hw hs (hvs_p2 := rfl) (mp1 := mp1) (mp2 := mp2)) (by decide) pd__I rfl rfl rfl rfl (by decide) (fun v D' h => ?_)
    obtain ⟨rfl, rfl⟩ := h
    show W _ _ _ _ _ _ _ _ _ _ _ _ 94 _ [(vi 2)]
    refine W.aloadN d10_94 rfl rfl ?_
    refine W.getf d10_95 (wq hw 92 rfl) Via.refl mog1Z m0 ?_
    refine W.icmpY 133 d10_98 (y_le (by decide)) (by decide) ?_
    refine W.aloadN d10_133 rfl rfl ?_
    exact W.areturn d10_134 rfl rfl rfl (by decide) ⟨rfl, rfl⟩
   refine W.aloadN d10_35 rfl rfl ?_
   refine W.iloadN d10_36 rfl ?_
   refine W.callV (as := [(vi 1)]) 0 [] d10_37 (wq hw 68 rfl) (wq hw 69 rfl) (wq hw 71 rfl) (wq hw 71 rfl) (wq hw 70 rfl) (wq hw 11 rfl) (wq hw 72 rfl) (Hp.exa mp1) (c144_charAt hw hs (hx2 := hx2) (mp1 := mp1) (mp2 := mp2)) (by decide) pd_I_C rfl rfl rfl rfl (by decide) (fun v D' h => ?_)
   obtain ⟨rfl, rfl⟩ := h
   show W _ _ _ _ _ _ _ _ _ _ _ _ 40 _ [(vi x2)]
   refine W.istoreN (ls' := #[rv (og1 Z), rv p1, iv 1, iv x2]) d10_40 rfl ?_
   refine W.iloadN d10_41 rfl ?_
   refine W.callSN (as := [(vi x2)]) 0 [] d10_42 (wq hw 89 rfl) (wq hw 90 rfl) (wq hw 37 rfl) (wq hw 91 rfl) (c21_isAsciiLetterOrDigit hw hs (hx1 := hx2)) (by decide) pd_C_Z rfl rfl rfl rfl (by decide) (fun v D' h => ?_)
   rcases h with ⟨h1, h2, rfl, rfl⟩ | ⟨h3, h4, rfl, rfl⟩ | ⟨h5, h6, rfl, rfl⟩ | ⟨h7, h8, h9, rfl, rfl⟩ | ⟨h10, h11, h12, rfl, rfl⟩
   ·
    have ih1 := t_lt h1
    have ih2 := t_lt h2
    show W _ _ _ _ _ _ _ _ _ _ _ _ 45 _ [(vi 0)]
    refine W.ifN d10_45 (n_ne (by decide)) ?_
    refine W.aloadN d10_48 rfl rfl ?_
    refine W.getf d10_49 (wq hw 231 rfl) Via.refl mog1Z m1 ?_
    refine W.iloadN d10_52 rfl ?_
    refine W.callV (as := [(vi x2)]) 0 [] d10_53 (wq hw 233 rfl) (wq hw 234 rfl) (wq hw 236 rfl) (wq hw 236 rfl) (wq hw 235 rfl) (wq hw 11 rfl) (wq hw 237 rfl) (Hp.exa mog2Z) (c22_indexOf hw hs (hx1 := hx2) (mog2Z := mog2Z) (mog3Z := mog3Z)) (by decide) pd_I_I rfl rfl rfl rfl (by decide) (fun v D' h => ?_)
    rcases h with ⟨h13, h14, h15, rfl, rfl⟩ | ⟨h16, h17, h18, rfl, rfl⟩ | ⟨h19, h20, rfl, rfl⟩ | ⟨h21, rfl, rfl⟩
    ·
     have ih13 := t_ne h13
     have ih14 := t_ne h14
     exact absurd h15 (n_ne (by have := q45; have := q65; have := q48; have := q46; have := q95; omega))
    ·
     have ih16 := t_ne h16
     have ih17 := t_ne h17
     have ih18 := f_ne h18
     show W _ _ _ _ _ _ _ _ _ _ _ _ 56 _ [(vi 2)]
     refine W.ifY 84 d10_56 (y_ge (by decide)) (by decide) ?_
     exact W.mono (by decide) (by decide) (K4  )
    ·
     have ih19 := t_ne h19
     exact absurd h20 (Classical.not_not.mpr (y_ne (by have := q95; have := q65; have := q48; have := q46; omega)))
    ·
     have ih21 := f_ne h21
     show W _ _ _ _ _ _ _ _ _ _ _ _ 56 _ [(vi 0)]
     refine W.ifY 84 d10_56 (y_ge (by decide)) (by decide) ?_
     exact W.mono (by decide) (by decide) (K4  )
   ·
    have ih3 := t_lt h3
    have ih4 := f_lt h4
    show W _ _ _ _ _ _ _ _ _ _ _ _ 45 _ [(vi 1)]
    refine W.ifY 84 d10_45 (y_ne (by decide)) (by decide) ?_
    exact W.mono (by decide) (by decide) (K4  )
   ·
    have ih5 := f_lt h5
    have ih6 := t_le h6
    show W _ _ _ _ _ _ _ _ _ _ _ _ 45 _ [(vi 1)]
    refine W.ifY 84 d10_45 (y_ne (by decide)) (by decide) ?_
    exact W.mono (by decide) (by decide) (K4  )
   ·
    have ih7 := f_lt h7
    have ih8 := f_le h8
    have ih9 := t_lt h9
    show W _ _ _ _ _ _ _ _ _ _ _ _ 45 _ [(vi 0)]
    refine W.ifN d10_45 (n_ne (by decide)) ?_
    refine W.aloadN d10_48 rfl rfl ?_
    refine W.getf d10_49 (wq hw 231 rfl) Via.refl mog1Z m1 ?_
    refine W.iloadN d10_52 rfl ?_
    refine W.callV (as := [(vi x2)]) 0 [] d10_53 (wq hw 233 rfl) (wq hw 234 rfl) (wq hw 236 rfl) (wq hw 236 rfl) (wq hw 235 rfl) (wq hw 11 rfl) (wq hw 237 rfl) (Hp.exa mog2Z) (c22_indexOf hw hs (hx1 := hx2) (mog2Z := mog2Z) (mog3Z := mog3Z)) (by decide) pd_I_I rfl rfl rfl rfl (by decide) (fun v D' h => ?_)
    rcases h with ⟨h22, h23, h24, rfl, rfl⟩ | ⟨h25, h26, h27, rfl, rfl⟩ | ⟨h28, h29, rfl, rfl⟩ | ⟨h30, rfl, rfl⟩
    ·
     have ih22 := t_ne h22
     exact absurd h23 (n_ne (by have := q95; have := q65; have := q90; have := q97; have := q46; omega))
    ·
     have ih25 := t_ne h25
     exact absurd h26 (n_ne (by have := q95; have := q65; have := q90; have := q97; have := q46; omega))
    ·
     have ih28 := t_ne h28
     have ih29 := f_ne h29
     show W _ _ _ _ _ _ _ _ _ _ _ _ 56 _ [(vi 1)]
     refine W.ifY 84 d10_56 (y_ge (by decide)) (by decide) ?_
     exact W.mono (by decide) (by decide) (K4  )
    ·
     exact absurd h30 (Classical.not_not.mpr (y_ne (by have := q46; have := q65; have := q90; have := q97; omega)))
   ·
    have ih10 := f_lt h10
    have ih11 := f_le h11
    have ih12 := f_lt h12
    show W _ _ _ _ _ _ _ _ _ _ _ _ 45 _ [(vi 1)]
    refine W.ifY 84 d10_45 (y_ne (by decide)) (by decide) ?_
    exact W.mono (by decide) (by decide) (K4  )
  refine W.aloadN d10_35 rfl rfl ?_
  refine W.iloadN d10_36 rfl ?_
  refine W.callV (as := [(vi 0)]) 0 [] d10_37 (wq hw 68 rfl) (wq hw 69 rfl) (wq hw 71 rfl) (wq hw 71 rfl) (wq hw 70 rfl) (wq hw 11 rfl) (wq hw 72 rfl) (Hp.exa mp1) (c142_charAt hw hs (hx1 := hx1) (mp1 := mp1) (mp2 := mp2)) (by decide) pd_I_C rfl rfl rfl rfl (by decide) (fun v D' h => ?_)
  obtain ⟨rfl, rfl⟩ := h
  show W _ _ _ _ _ _ _ _ _ _ _ _ 40 _ [(vi x1)]
  refine W.istoreN (ls' := #[rv (og1 Z), rv p1, iv 0, iv x1]) d10_40 rfl ?_
  refine W.iloadN d10_41 rfl ?_
  refine W.callSN (as := [(vi x1)]) 0 [] d10_42 (wq hw 89 rfl) (wq hw 90 rfl) (wq hw 37 rfl) (wq hw 91 rfl) (c21_isAsciiLetterOrDigit hw hs (hx1 := hx1)) (by decide) pd_C_Z rfl rfl rfl rfl (by decide) (fun v D' h => ?_)
  rcases h with ⟨h31, h32, rfl, rfl⟩ | ⟨h33, h34, rfl, rfl⟩ | ⟨h35, h36, rfl, rfl⟩ | ⟨h37, h38, h39, rfl, rfl⟩ | ⟨h40, h41, h42, rfl, rfl⟩
  ·
   have ih31 := t_lt h31
   have ih32 := t_lt h32
   show W _ _ _ _ _ _ _ _ _ _ _ _ 45 _ [(vi 0)]
   refine W.ifN d10_45 (n_ne (by decide)) ?_
   refine W.aloadN d10_48 rfl rfl ?_
   refine W.getf d10_49 (wq hw 231 rfl) Via.refl mog1Z m1 ?_
   refine W.iloadN d10_52 rfl ?_
   refine W.callV (as := [(vi x1)]) 0 [] d10_53 (wq hw 233 rfl) (wq hw 234 rfl) (wq hw 236 rfl) (wq hw 236 rfl) (wq hw 235 rfl) (wq hw 11 rfl) (wq hw 237 rfl) (Hp.exa mog2Z) (c22_indexOf hw hs (hx1 := hx1) (mog2Z := mog2Z) (mog3Z := mog3Z)) (by decide) pd_I_I rfl rfl rfl rfl (by decide) (fun v D' h => ?_)
   rcases h with ⟨h43, h44, h45, rfl, rfl⟩ | ⟨h46, h47, h48, rfl, rfl⟩ | ⟨h49, h50, rfl, rfl⟩ | ⟨h51, rfl, rfl⟩
   ·
    have ih43 := t_ne h43
    have ih44 := t_ne h44
    exact absurd h45 (n_ne (by have := q45; have := q65; have := q48; have := q46; have := q95; omega))
   ·
    have ih46 := t_ne h46
    have ih47 := t_ne h47
    have ih48 := f_ne h48
    show W _ _ _ _ _ _ _ _ _ _ _ _ 56 _ [(vi 2)]
    refine W.ifY 84 d10_56 (y_ge (by decide)) (by decide) ?_
    exact W.mono (by decide) (by decide) (K2  )
   ·
    have ih49 := t_ne h49
    exact absurd h50 (Classical.not_not.mpr (y_ne (by have := q95; have := q65; have := q48; have := q46; omega)))
   ·
    have ih51 := f_ne h51
    show W _ _ _ _ _ _ _ _ _ _ _ _ 56 _ [(vi 0)]
    refine W.ifY 84 d10_56 (y_ge (by decide)) (by decide) ?_
    exact W.mono (by decide) (by decide) (K2  )
  ·
   have ih33 := t_lt h33
   have ih34 := f_lt h34
   show W _ _ _ _ _ _ _ _ _ _ _ _ 45 _ [(vi 1)]
   refine W.ifY 84 d10_45 (y_ne (by decide)) (by decide) ?_
   exact W.mono (by decide) (by decide) (K2  )
  ·
   have ih35 := f_lt h35
   have ih36 := t_le h36
   show W _ _ _ _ _ _ _ _ _ _ _ _ 45 _ [(vi 1)]
   refine W.ifY 84 d10_45 (y_ne (by decide)) (by decide) ?_
   exact W.mono (by decide) (by decide) (K2  )
  ·
   have ih37 := f_lt h37
   have ih38 := f_le h38
   have ih39 := t_lt h39
   show W _ _ _ _ _ _ _ _ _ _ _ _ 45 _ [(vi 0)]
   refine W.ifN d10_45 (n_ne (by decide)) ?_
   refine W.aloadN d10_48 rfl rfl ?_
   refine W.getf d10_49 (wq hw 231 rfl) Via.refl mog1Z m1 ?_
   refine W.iloadN d10_52 rfl ?_
   refine W.callV (as := [(vi x1)]) 0 [] d10_53 (wq hw 233 rfl) (wq hw 234 rfl) (wq hw 236 rfl) (wq hw 236 rfl) (wq hw 235 rfl) (wq hw 11 rfl) (wq hw 237 rfl) (Hp.exa mog2Z) (c22_indexOf hw hs (hx1 := hx1) (mog2Z := mog2Z) (mog3Z := mog3Z)) (by decide) pd_I_I rfl rfl rfl rfl (by decide) (fun v D' h => ?_)
   rcases h with ⟨h52, h53, h54, rfl, rfl⟩ | ⟨h55, h56, h57, rfl, rfl⟩ | ⟨h58, h59, rfl, rfl⟩ | ⟨h60, rfl, rfl⟩
   ·
    have ih52 := t_ne h52
    exact absurd h53 (n_ne (by have := q95; have := q65; have := q90; have := q97; have := q46; omega))
   ·
    have ih55 := t_ne h55
    exact absurd h56 (n_ne (by have := q95; have := q65; have := q90; have := q97; have := q46; omega))
   ·
    have ih58 := t_ne h58
    have ih59 := f_ne h59
    show W _ _ _ _ _ _ _ _ _ _ _ _ 56 _ [(vi 1)]
    refine W.ifY 84 d10_56 (y_ge (by decide)) (by decide) ?_
    exact W.mono (by decide) (by decide) (K2  )
   ·
    exact absurd h60 (Classical.not_not.mpr (y_ne (by have := q46; have := q65; have := q90; have := q97; omega)))
  ·
   have ih40 := f_lt h40
   have ih41 := f_le h41
   have ih42 := f_lt h42
   show W _ _ _ _ _ _ _ _ _ _ _ _ 45 _ [(vi 1)]
   refine W.ifY 84 d10_45 (y_ne (by decide)) (by decide) ?_
   exact W.mono (by decide) (by decide) (K2  )
theorem c140_checkTopic {Z a0} (hw : HW a0 Z) (hs : SF Z) {p1 p2 : Addr} {x1 : Int32} (hx1 : (45 ≤ x1.toInt ∧ x1.toInt ≤ 46) ∨ (48 ≤ x1.toInt ∧ x1.toInt ≤ 57) ∨ (65 ≤ x1.toInt ∧ x1.toInt ≤ 90) ∨ x1.toInt = 95 ∨ (97 ≤ x1.toInt ∧ x1.toInt ≤ 122)) {x2 : Int32} (hx2 : (45 ≤ x2.toInt ∧ x2.toInt ≤ 46) ∨ (48 ≤ x2.toInt ∧ x2.toInt ≤ 57) ∨ (65 ≤ x2.toInt ∧ x2.toInt ≤ 90) ∨ x2.toInt = 95 ∨ (97 ≤ x2.toInt ∧ x2.toInt ≤ 122)) {w_og1Z : Bool} {w_p1 : Bool} {w_p2 : Bool} {ad_p2 : String} {w_og2Z : Bool} {w_og3Z : Bool} {ad_og3Z : String} {F : List Ent} (mog1Z : ((og1 Z), w_og1Z, oJobKey_NameRule (vi 64) (vr (og2 Z))) ∈ F) (mp1 : (p1, w_p1, oString (vr p2) (vi 0)) ∈ F) (mp2 : (p2, w_p2, ar ad_p2 .byte [(vi x1), (vi x2)]) ∈ F) (mog2Z : ((og2 Z), w_og2Z, oString (vr (og3 Z)) (vi 0)) ∈ F) (mog3Z : ((og3 Z), w_og3Z, ar ad_og3Z .byte [(vi 46), (vi 95), (vi 45)]) ∈ F) : Con Z EL y24 y24b 1 y24r (rmm 5 0 0 74) [(vr p1)] (F) (fun v D' => (v = some (vr p1) ∧ F = D')) := by
  refine Con.of (ls := #[rv p1]) (by decide +kernel) rfl ?_
  refine W.gets d9_0 (wq hw 45 rfl) Via.refl hs.2.2.2.2.1 ?_
  refine W.aloadN d9_3 rfl rfl ?_
  refine W.callV (as := [(vr p1)]) 0 [] d9_4 (wq hw 47 rfl) (wq hw 48 rfl) (wq hw 50 rfl) (wq hw 50 rfl) (wq hw 49 rfl) (wq hw 51 rfl) (wq hw 52 rfl) (Hp.exa mog1Z) (c141_check hw hs (hx1 := hx1) (hx2 := hx2) (mp1 := mp1) (mp2 := mp2) (mog1Z := mog1Z) (mog2Z := mog2Z) (mog3Z := mog3Z)) (by decide) pd_Ljava_lang_String__Ljava_lang_String_ rfl rfl rfl rfl (by decide) (fun v D' h => ?_)
  obtain ⟨rfl, rfl⟩ := h
  show W _ _ _ _ _ _ _ _ _ _ _ _ 7 _ [(vr p1)]
  exact W.areturn d9_7 rfl rfl rfl (by decide) ⟨rfl, rfl⟩
theorem c139_init {Z a0} (hw : HW a0 Z) (hs : SF Z) {p1 p2 p3 p4 p5 : Addr} {x1 : Int32} (hx1 : (45 ≤ x1.toInt ∧ x1.toInt ≤ 46) ∨ (48 ≤ x1.toInt ∧ x1.toInt ≤ 57) ∨ (65 ≤ x1.toInt ∧ x1.toInt ≤ 90) ∨ x1.toInt = 95 ∨ (97 ≤ x1.toInt ∧ x1.toInt ≤ 122)) {x2 : Int32} (hx2 : (45 ≤ x2.toInt ∧ x2.toInt ≤ 46) ∨ (48 ≤ x2.toInt ∧ x2.toInt ≤ 57) ∨ (65 ≤ x2.toInt ∧ x2.toInt ≤ 90) ∨ x2.toInt = 95 ∨ (97 ≤ x2.toInt ∧ x2.toInt ≤ 122)) {x3 : Int32} (hx3 : (45 ≤ x3.toInt ∧ x3.toInt ≤ 46) ∨ (48 ≤ x3.toInt ∧ x3.toInt ≤ 58) ∨ (65 ≤ x3.toInt ∧ x3.toInt ≤ 90) ∨ x3.toInt = 95 ∨ (97 ≤ x3.toInt ∧ x3.toInt ≤ 122)) {w_og1Z : Bool} {w_p2 : Bool} {w_p4 : Bool} {ad_p4 : String} {w_og2Z : Bool} {w_og3Z : Bool} {ad_og3Z : String} {w_og4Z : Bool} {w_p3 : Bool} {w_p5 : Bool} {ad_p5 : String} {w_og5Z : Bool} {w_og6Z : Bool} {ad_og6Z : String} {F : List Ent} (mog1Z : ((og1 Z), w_og1Z, oJobKey_NameRule (vi 64) (vr (og2 Z))) ∈ F) (mp2 : (p2, w_p2, oString (vr p4) (vi 0)) ∈ F) (mp4 : (p4, w_p4, ar ad_p4 .byte [(vi x1), (vi x2)]) ∈ F) (mog2Z : ((og2 Z), w_og2Z, oString (vr (og3 Z)) (vi 0)) ∈ F) (mog3Z : ((og3 Z), w_og3Z, ar ad_og3Z .byte [(vi 46), (vi 95), (vi 45)]) ∈ F) (mog4Z : ((og4 Z), w_og4Z, oJobKey_NameRule (vi 128) (vr (og5 Z))) ∈ F) (mp3 : (p3, w_p3, oString (vr p5) (vi 0)) ∈ F) (mp5 : (p5, w_p5, ar ad_p5 .byte [(vi x3)]) ∈ F) (mog5Z : ((og5 Z), w_og5Z, oString (vr (og6 Z)) (vi 0)) ∈ F) (mog6Z : ((og6 Z), w_og6Z, ar ad_og6Z .byte [(vi 46), (vi 95), (vi 58), (vi 45)]) ∈ F) : Con Z EL y26 y26b 3 y26r (rmm 6 0 0 87) [(vr p1), (vr p2), (vr p3)] ((p1, true, oJobKey .null .null) :: F) (fun v D' => (v = none ∧ (p1, true, oJobKey (vr p2) (vr p3)) :: F = D')) := by
  refine Con.of (ls := #[rv p1, rv p2, rv p3]) (by decide +kernel) rfl ?_
  refine W.aloadN d8_0 rfl rfl ?_
  refine W.initO 0 d8_1 (wq hw 41 rfl) (wq hw 29 rfl) (wq hw 30 rfl) rfl rfl (by decide) ?_
  refine W.aloadN d8_4 rfl rfl ?_
  refine W.aloadN d8_5 rfl rfl ?_
  refine W.callS (as := [(vr p2)]) 1 [(vr p1)] d8_6 (wq hw 42 rfl) (wq hw 43 rfl) (wq hw 37 rfl) (wq hw 44 rfl) (c140_checkTopic hw hs (hx1 := hx1) (hx2 := hx2) (mog1Z := (mS mog1Z)) (mp1 := (mS mp2)) (mp2 := (mS mp4)) (mog2Z := (mS mog2Z)) (mog3Z := (mS mog3Z))) (by decide) pd_Ljava_lang_String__Ljava_lang_String_ rfl rfl rfl rfl (by decide) (fun v D' h => ?_)
  obtain ⟨rfl, rfl⟩ := h
  show W _ _ _ _ _ _ _ _ _ _ _ _ 9 _ [(vr p2), (vr p1)]
  refine W.putf (D' := (p1, true, oJobKey (vr p2) .null) :: F) 0 0 d8_9 (wq hw 94 rfl) Via.refl rfl rfl (Or.inr ⟨(wq hw 95 rfl), rfl, rfl⟩) (wq hw 36 rfl) pfLjava_lang_String_ rfl rfl rfl ?_
  refine W.aloadN d8_12 rfl rfl ?_
  refine W.aloadN d8_13 rfl rfl ?_
  refine W.callS (as := [(vr p3)]) 1 [(vr p1)] d8_14 (wq hw 96 rfl) (wq hw 97 rfl) (wq hw 37 rfl) (wq hw 98 rfl) (c30_checkId hw hs (hx1 := hx3) (mog4Z := (mS mog4Z)) (mp1 := (mS mp3)) (mp2 := (mS mp5)) (mog5Z := (mS mog5Z)) (mog6Z := (mS mog6Z))) (by decide) pd_Ljava_lang_String__Ljava_lang_String_ rfl rfl rfl rfl (by decide) (fun v D' h => ?_)
  obtain ⟨rfl, rfl⟩ := h
  show W _ _ _ _ _ _ _ _ _ _ _ _ 17 _ [(vr p3), (vr p1)]
  refine W.putf (D' := (p1, true, oJobKey (vr p2) (vr p3)) :: F) 0 1 d8_17 (wq hw 101 rfl) Via.refl rfl rfl (Or.inr ⟨(wq hw 102 rfl), rfl, rfl⟩) (wq hw 36 rfl) pfLjava_lang_String_ rfl rfl rfl ?_
  exact W.return_ d8_20 rfl (by decide) ⟨rfl, rfl⟩
theorem c150_getBytes {Z a0} (hw : HW a0 Z) (hs : SF Z) {p1 p2 p3 : Addr} {x1 : Int32} (hx1 : (45 ≤ x1.toInt ∧ x1.toInt ≤ 46) ∨ (48 ≤ x1.toInt ∧ x1.toInt ≤ 57) ∨ (65 ≤ x1.toInt ∧ x1.toInt ≤ 90) ∨ x1.toInt = 95 ∨ (97 ≤ x1.toInt ∧ x1.toInt ≤ 122)) {x2 : Int32} (hx2 : (45 ≤ x2.toInt ∧ x2.toInt ≤ 46) ∨ (48 ≤ x2.toInt ∧ x2.toInt ≤ 57) ∨ (65 ≤ x2.toInt ∧ x2.toInt ≤ 90) ∨ x2.toInt = 95 ∨ (97 ≤ x2.toInt ∧ x2.toInt ≤ 122)) {e_p2_2 e_p2_3 e_p2_4 e_p2_5 e_p2_6 e_p2_7 e_p2_8 e_p2_9 e_p2_10 e_p2_11 e_p2_12 e_p2_13 e_p2_14 e_p2_15 : Value} {ad_p2 : String} {w_p1 : Bool} {w_p3 : Bool} {ad_p3 : String} {F : List Ent} (mp1 : (p1, w_p1, oString (vr p3) (vi 0)) ∈ F) (mp3 : (p3, w_p3, ar ad_p3 .byte [(vi x1), (vi x2)]) ∈ F) : Con Z EL y31 y31b 4 y31r (rmm 1 0 0 48) [(vr p1), (vr p2), (vi 0), (vi 0)] ((p2, true, ar ad_p2 .byte [(vi 0), (vi 0), e_p2_2, e_p2_3, e_p2_4, e_p2_5, e_p2_6, e_p2_7, e_p2_8, e_p2_9, e_p2_10, e_p2_11, e_p2_12, e_p2_13, e_p2_14, e_p2_15]) :: F) (fun v D' => (v = none ∧ (p2, true, ar ad_p2 .byte [(vi x1), (vi x2), e_p2_2, e_p2_3, e_p2_4, e_p2_5, e_p2_6, e_p2_7, e_p2_8, e_p2_9, e_p2_10, e_p2_11, e_p2_12, e_p2_13, e_p2_14, e_p2_15]) :: F = D')) := by
  refine Con.of (ls := #[rv p1, rv p2, iv 0, iv 0]) (by decide +kernel) rfl ?_
  refine W.aloadN d29_0 rfl rfl ?_
  refine W.callV (as := []) 0 [] d29_1 (wq hw 63 rfl) (wq hw 64 rfl) (wq hw 66 rfl) (wq hw 66 rfl) (wq hw 65 rfl) (wq hw 11 rfl) (wq hw 67 rfl) (Hp.exa (mS mp1)) (c15_coder hw hs (mp1 := (mS mp1))) (by decide) pd__B rfl rfl rfl rfl (by decide) (fun v D' h => ?_)
  obtain ⟨rfl, rfl⟩ := h
  show W _ _ _ _ _ _ _ _ _ _ _ _ 4 _ [(vi 0)]
  refine W.iloadN d29_4 rfl ?_
  refine W.icmpN d29_5 (n_ne (by decide)) ?_
  refine W.aloadN d29_8 rfl rfl ?_
  refine W.getf d29_9 (wq hw 31 rfl) Via.refl (mS mp1) m0 ?_
  refine W.iconst (0) d29_12 (by decide) ?_
  refine W.aloadN d29_13 rfl rfl ?_
  refine W.iloadN d29_14 rfl ?_
  refine W.iloadN d29_15 rfl ?_
  refine W.ishlK (0 : Int32) d29_16 (by decide) ?_
  refine W.aloadN d29_17 rfl rfl ?_
  refine W.getf d29_18 (wq hw 31 rfl) Via.refl (mS mp1) m0 ?_
  refine W.alen (2) d29_21 (mS mp3) rfl ?_
  refine W.cpy (D' := (p2, true, ar ad_p2 .byte [(vi x1), (vi x2), e_p2_2, e_p2_3, e_p2_4, e_p2_5, e_p2_6, e_p2_7, e_p2_8, e_p2_9, e_p2_10, e_p2_11, e_p2_12, e_p2_13, e_p2_14, e_p2_15]) :: F) 0 0 0 2 0 d29_22 (wq hw 160 rfl) (wq hw 163 rfl) (wq hw 161 rfl) (wq hw 162 rfl) (mS mp3) rfl rfl ix0 ix0 ix2 ⟨Nat.le_of_ble_eq_true rfl, Nat.le_of_ble_eq_true rfl⟩ rfl rfl (by decide) rfl ?_
  refine W.goto 43 d29_25 (by decide) ?_
  exact W.return_ d29_43 rfl (by decide) ⟨rfl, rfl⟩
theorem c149_putStringAt {Z a0} (hw : HW a0 Z) (hs : SF Z) {p1 p2 p3 p4 : Addr} {x1 : Int32} (hx1 : (45 ≤ x1.toInt ∧ x1.toInt ≤ 46) ∨ (48 ≤ x1.toInt ∧ x1.toInt ≤ 57) ∨ (65 ≤ x1.toInt ∧ x1.toInt ≤ 90) ∨ x1.toInt = 95 ∨ (97 ≤ x1.toInt ∧ x1.toInt ≤ 122)) {x2 : Int32} (hx2 : (45 ≤ x2.toInt ∧ x2.toInt ≤ 46) ∨ (48 ≤ x2.toInt ∧ x2.toInt ≤ 57) ∨ (65 ≤ x2.toInt ∧ x2.toInt ≤ 90) ∨ x2.toInt = 95 ∨ (97 ≤ x2.toInt ∧ x2.toInt ≤ 122)) {e_p3_2 e_p3_3 e_p3_4 e_p3_5 e_p3_6 e_p3_7 e_p3_8 e_p3_9 e_p3_10 e_p3_11 e_p3_12 e_p3_13 e_p3_14 e_p3_15 f_p1_2 : Value} {ad_p3 : String} {w_p1 : Bool} {w_p2 : Bool} {w_p4 : Bool} {ad_p4 : String} {F : List Ent} (mp1 : (p1, w_p1, oStringBuilder (vr p3) (vi 0) f_p1_2) ∈ F) (mp2 : (p2, w_p2, oString (vr p4) (vi 0)) ∈ F) (mp4 : (p4, w_p4, ar ad_p4 .byte [(vi x1), (vi x2)]) ∈ F) : Con Z EL y32 y32b 3 y32r (rmm 2 0 0 63) [(vr p1), (vi 0), (vr p2)] ((p3, true, ar ad_p3 .byte [(vi 0), (vi 0), e_p3_2, e_p3_3, e_p3_4, e_p3_5, e_p3_6, e_p3_7, e_p3_8, e_p3_9, e_p3_10, e_p3_11, e_p3_12, e_p3_13, e_p3_14, e_p3_15]) :: F) (fun v D' => (v = none ∧ (p3, true, ar ad_p3 .byte [(vi x1), (vi x2), e_p3_2, e_p3_3, e_p3_4, e_p3_5, e_p3_6, e_p3_7, e_p3_8, e_p3_9, e_p3_10, e_p3_11, e_p3_12, e_p3_13, e_p3_14, e_p3_15]) :: F = D')) := by
  refine Con.of (ls := #[rv p1, iv 0, rv p2]) (by decide +kernel) rfl ?_
  refine W.aloadN d27_0 rfl rfl ?_
  refine W.aloadN d27_1 rfl rfl ?_
  refine W.callP (as := [(vr p2)]) 0 [] d27_2 (wq hw 149 rfl) (wq hw 150 rfl) (wq hw 152 rfl) (wq hw 151 rfl) (wq hw 118 rfl) (wq hw 153 rfl) (Hp.exa (mS mp1)) (c49_inflateIfNeededFor hw hs (mp1 := (mS mp1)) (mp2 := (mS mp2))) (by decide) pd_Ljava_lang_String__V rfl rfl rfl rfl (by decide) (fun v D' h => ?_)
  obtain ⟨rfl, rfl⟩ := h
  show W _ _ _ _ _ _ _ _ _ _ _ _ 5 _ []
  refine W.aloadN d27_5 rfl rfl ?_
  refine W.aloadN d27_6 rfl rfl ?_
  refine W.getf d27_7 (wq hw 122 rfl) Via.refl (mS mp1) m0 ?_
  refine W.iloadN d27_10 rfl ?_
  refine W.aloadN d27_11 rfl rfl ?_
  refine W.getf d27_12 (wq hw 124 rfl) Via.refl (mS mp1) m1 ?_
  refine W.callV (as := [(vr p3), (vi 0), (vi 0)]) 0 [] d27_15 (wq hw 155 rfl) (wq hw 156 rfl) (wq hw 158 rfl) (wq hw 158 rfl) (wq hw 157 rfl) (wq hw 11 rfl) (wq hw 159 rfl) (Hp.exa (mS mp2)) (c150_getBytes hw hs (hx1 := hx1) (hx2 := hx2) (mp1 := mp2) (mp3 := mp4)) (by decide) pd__BIB_V rfl rfl rfl rfl (by decide) (fun v D' h => ?_)
  obtain ⟨rfl, rfl⟩ := h
  show W _ _ _ _ _ _ _ _ _ _ _ _ 18 _ []
  exact W.return_ d27_18 rfl (by decide) ⟨rfl, rfl⟩
theorem c148_append {Z a0} (hw : HW a0 Z) (hs : SF Z) {p1 p2 p3 p4 : Addr} {x1 : Int32} (hx1 : (45 ≤ x1.toInt ∧ x1.toInt ≤ 46) ∨ (48 ≤ x1.toInt ∧ x1.toInt ≤ 57) ∨ (65 ≤ x1.toInt ∧ x1.toInt ≤ 90) ∨ x1.toInt = 95 ∨ (97 ≤ x1.toInt ∧ x1.toInt ≤ 122)) {x2 : Int32} (hx2 : (45 ≤ x2.toInt ∧ x2.toInt ≤ 46) ∨ (48 ≤ x2.toInt ∧ x2.toInt ≤ 57) ∨ (65 ≤ x2.toInt ∧ x2.toInt ≤ 90) ∨ x2.toInt = 95 ∨ (97 ≤ x2.toInt ∧ x2.toInt ≤ 122)) {e_p3_2 e_p3_3 e_p3_4 e_p3_5 e_p3_6 e_p3_7 e_p3_8 e_p3_9 e_p3_10 e_p3_11 e_p3_12 e_p3_13 e_p3_14 e_p3_15 : Value} {ad_p3 : String} {w_p2 : Bool} {w_p4 : Bool} {ad_p4 : String} {F : List Ent} (mp2 : (p2, w_p2, oString (vr p4) (vi 0)) ∈ F) (mp4 : (p4, w_p4, ar ad_p4 .byte [(vi x1), (vi x2)]) ∈ F) : Con Z EL y33 y33b 3 y33r (rmm 3 0 0 77) [(vr p1), (vr p2)] ((p3, true, ar ad_p3 .byte [(vi 0), (vi 0), e_p3_2, e_p3_3, e_p3_4, e_p3_5, e_p3_6, e_p3_7, e_p3_8, e_p3_9, e_p3_10, e_p3_11, e_p3_12, e_p3_13, e_p3_14, e_p3_15]) :: (p1, true, oStringBuilder (vr p3) (vi 0) (vi 0)) :: F) (fun v D' => (v = some (vr p1) ∧ (p3, true, ar ad_p3 .byte [(vi x1), (vi x2), e_p3_2, e_p3_3, e_p3_4, e_p3_5, e_p3_6, e_p3_7, e_p3_8, e_p3_9, e_p3_10, e_p3_11, e_p3_12, e_p3_13, e_p3_14, e_p3_15]) :: (p1, true, oStringBuilder (vr p3) (vi 0) (vi 2)) :: F = D')) := by
  refine Con.of (ls := #[rv p1, rv p2, uu]) (by decide +kernel) rfl ?_
  refine W.aloadN d25_0 rfl rfl ?_
  refine W.ifnonnullY 9 d25_1 (by decide) ?_
  refine W.aloadN d25_9 rfl rfl ?_
  refine W.callV (as := []) 0 [] d25_10 (wq hw 136 rfl) (wq hw 59 rfl) (wq hw 61 rfl) (wq hw 61 rfl) (wq hw 60 rfl) (wq hw 11 rfl) (wq hw 62 rfl) (Hp.exa (mS (mS mp2))) (c94_length hw hs (hvs_p2 := rfl) (mp1 := (mS (mS mp2))) (mp2 := (mS (mS mp4)))) (by decide) pd__I rfl rfl rfl rfl (by decide) (fun v D' h => ?_)
  obtain ⟨rfl, rfl⟩ := h
  show W _ _ _ _ _ _ _ _ _ _ _ _ 13 _ [(vi 2)]
  refine W.istoreN (ls' := #[rv p1, rv p2, iv 2]) d25_13 rfl ?_
  refine W.aloadN d25_14 rfl rfl ?_
  refine W.aloadN d25_15 rfl rfl ?_
  refine W.getf d25_16 (wq hw 137 rfl) Via.refl m1 m2 ?_
  refine W.iloadN d25_19 rfl ?_
  refine W.iaddK (2 : Int32) d25_20 (by decide) ?_
  refine W.callP (as := [(vi 2)]) 0 [] d25_21 (wq hw 139 rfl) (wq hw 140 rfl) (wq hw 142 rfl) (wq hw 141 rfl) (wq hw 118 rfl) (wq hw 143 rfl) (Hp.exa m1) (c53_ensureCapacityInternal hw hs (hvs_p2 := rfl) (mp1 := m1) (mp2 := m0)) (by decide) pd_I_V rfl rfl rfl rfl (by decide) (fun v D' h => ?_)
  obtain ⟨rfl, rfl⟩ := h
  show W _ _ _ _ _ _ _ _ _ _ _ _ 24 _ []
  refine W.aloadN d25_24 rfl rfl ?_
  refine W.aloadN d25_25 rfl rfl ?_
  refine W.getf d25_26 (wq hw 137 rfl) Via.refl m1 m2 ?_
  refine W.aloadN d25_29 rfl rfl ?_
  refine W.callP (as := [(vi 0), (vr p2)]) 0 [] d25_30 (wq hw 144 rfl) (wq hw 145 rfl) (wq hw 147 rfl) (wq hw 146 rfl) (wq hw 118 rfl) (wq hw 148 rfl) (Hp.exa m1) (c149_putStringAt hw hs (hx1 := hx1) (hx2 := hx2) (mp1 := m0) (mp2 := (mS mp2)) (mp4 := (mS mp4))) (by decide) pd_ILjava_lang_String__V rfl rfl rfl rfl (by decide) (fun v D' h => ?_)
  obtain ⟨rfl, rfl⟩ := h
  show W _ _ _ _ _ _ _ _ _ _ _ _ 33 _ []
  refine W.aloadN d25_33 rfl rfl ?_
  refine W.dup d25_34 rfl ?_
  refine W.getf d25_35 (wq hw 137 rfl) Via.refl m1 m2 ?_
  refine W.iloadN d25_38 rfl ?_
  refine W.iaddK (2 : Int32) d25_39 (by decide) ?_
  refine W.putf (D' := (p3, true, ar ad_p3 .byte [(vi x1), (vi x2), e_p3_2, e_p3_3, e_p3_4, e_p3_5, e_p3_6, e_p3_7, e_p3_8, e_p3_9, e_p3_10, e_p3_11, e_p3_12, e_p3_13, e_p3_14, e_p3_15]) :: (p1, true, oStringBuilder (vr p3) (vi 0) (vi 2)) :: F) 1 2 d25_40 (wq hw 137 rfl) Via.refl rfl rfl (Or.inl (wq hw 138 rfl)) (wq hw 109 rfl) pfI rfl rfl rfl ?_
  refine W.aloadN d25_43 rfl rfl ?_
  exact W.areturn d25_44 rfl rfl rfl (by decide) ⟨rfl, rfl⟩
theorem c147_append {Z a0} (hw : HW a0 Z) (hs : SF Z) {p1 p2 p3 p4 : Addr} {x1 : Int32} (hx1 : (45 ≤ x1.toInt ∧ x1.toInt ≤ 46) ∨ (48 ≤ x1.toInt ∧ x1.toInt ≤ 57) ∨ (65 ≤ x1.toInt ∧ x1.toInt ≤ 90) ∨ x1.toInt = 95 ∨ (97 ≤ x1.toInt ∧ x1.toInt ≤ 122)) {x2 : Int32} (hx2 : (45 ≤ x2.toInt ∧ x2.toInt ≤ 46) ∨ (48 ≤ x2.toInt ∧ x2.toInt ≤ 57) ∨ (65 ≤ x2.toInt ∧ x2.toInt ≤ 90) ∨ x2.toInt = 95 ∨ (97 ≤ x2.toInt ∧ x2.toInt ≤ 122)) {e_p3_2 e_p3_3 e_p3_4 e_p3_5 e_p3_6 e_p3_7 e_p3_8 e_p3_9 e_p3_10 e_p3_11 e_p3_12 e_p3_13 e_p3_14 e_p3_15 : Value} {ad_p3 : String} {w_p2 : Bool} {w_p4 : Bool} {ad_p4 : String} {F : List Ent} (mp2 : (p2, w_p2, oString (vr p4) (vi 0)) ∈ F) (mp4 : (p4, w_p4, ar ad_p4 .byte [(vi x1), (vi x2)]) ∈ F) : Con Z EL y34 y34b 2 y34r (rmm 4 0 0 91) [(vr p1), (vr p2)] ((p3, true, ar ad_p3 .byte [(vi 0), (vi 0), e_p3_2, e_p3_3, e_p3_4, e_p3_5, e_p3_6, e_p3_7, e_p3_8, e_p3_9, e_p3_10, e_p3_11, e_p3_12, e_p3_13, e_p3_14, e_p3_15]) :: (p1, true, oStringBuilder (vr p3) (vi 0) (vi 0)) :: F) (fun v D' => (v = some (vr p1) ∧ (p3, true, ar ad_p3 .byte [(vi x1), (vi x2), e_p3_2, e_p3_3, e_p3_4, e_p3_5, e_p3_6, e_p3_7, e_p3_8, e_p3_9, e_p3_10, e_p3_11, e_p3_12, e_p3_13, e_p3_14, e_p3_15]) :: (p1, true, oStringBuilder (vr p3) (vi 0) (vi 2)) :: F = D')) := by
  refine Con.of (ls := #[rv p1, rv p2]) (by decide +kernel) rfl ?_
  refine W.aloadN d24_0 rfl rfl ?_
  refine W.aloadN d24_1 rfl rfl ?_
  refine W.callUp (as := [(vr p2)]) 0 [] d24_2 (wq hw 131 rfl) (same_self (by rfl) (by decide) (wq hw 132 rfl) (wq hw 140 rfl) (wq hw 142 rfl)) (wq hw 132 rfl) (wq hw 133 rfl) (by decide) (wq hw 118 rfl) (wq hw 135 rfl) (Hp.ins m1) (c148_append hw hs (hx1 := hx1) (hx2 := hx2) (mp2 := mp2) (mp4 := mp4)) pd_Ljava_lang_String__Ljava_lang_AbstractStringBuilder_ rfl rfl rfl rfl (by decide) (fun v D' h => ?_)
  obtain ⟨rfl, rfl⟩ := h
  show W _ _ _ _ _ _ _ _ _ _ _ _ 5 _ [(vr p1)]
  refine W.popv d24_5 rfl ?_
  refine W.aloadN d24_6 rfl rfl ?_
  exact W.areturn d24_7 rfl rfl rfl (by decide) ⟨rfl, rfl⟩
theorem c154_getBytes {Z a0} (hw : HW a0 Z) (hs : SF Z) {p1 p2 p3 : Addr} {x1 : Int32} (hx1 : (45 ≤ x1.toInt ∧ x1.toInt ≤ 46) ∨ (48 ≤ x1.toInt ∧ x1.toInt ≤ 57) ∨ (65 ≤ x1.toInt ∧ x1.toInt ≤ 90) ∨ x1.toInt = 95 ∨ (97 ≤ x1.toInt ∧ x1.toInt ≤ 122)) {e_p2_1 e_p2_3 e_p2_4 e_p2_5 e_p2_6 e_p2_7 e_p2_8 e_p2_9 e_p2_10 e_p2_11 e_p2_12 e_p2_13 e_p2_14 e_p2_15 : Value} {ad_p2 : String} {w_p1 : Bool} {w_p3 : Bool} {ad_p3 : String} {F : List Ent} (mp1 : (p1, w_p1, oString (vr p3) (vi 0)) ∈ F) (mp3 : (p3, w_p3, ar ad_p3 .byte [(vi 47)]) ∈ F) : Con Z EL y31 y31b 4 y31r (rmm 1 0 0 48) [(vr p1), (vr p2), (vi 2), (vi 0)] ((p2, true, ar ad_p2 .byte [(vi x1), e_p2_1, (vi 0), e_p2_3, e_p2_4, e_p2_5, e_p2_6, e_p2_7, e_p2_8, e_p2_9, e_p2_10, e_p2_11, e_p2_12, e_p2_13, e_p2_14, e_p2_15]) :: F) (fun v D' => (v = none ∧ (p2, true, ar ad_p2 .byte [(vi x1), e_p2_1, (vi 47), e_p2_3, e_p2_4, e_p2_5, e_p2_6, e_p2_7, e_p2_8, e_p2_9, e_p2_10, e_p2_11, e_p2_12, e_p2_13, e_p2_14, e_p2_15]) :: F = D')) := by
  refine Con.of (ls := #[rv p1, rv p2, iv 2, iv 0]) (by decide +kernel) rfl ?_
  refine W.aloadN d29_0 rfl rfl ?_
  refine W.callV (as := []) 0 [] d29_1 (wq hw 63 rfl) (wq hw 64 rfl) (wq hw 66 rfl) (wq hw 66 rfl) (wq hw 65 rfl) (wq hw 11 rfl) (wq hw 67 rfl) (Hp.exa (mS mp1)) (c15_coder hw hs (mp1 := (mS mp1))) (by decide) pd__B rfl rfl rfl rfl (by decide) (fun v D' h => ?_)
  obtain ⟨rfl, rfl⟩ := h
  show W _ _ _ _ _ _ _ _ _ _ _ _ 4 _ [(vi 0)]
  refine W.iloadN d29_4 rfl ?_
  refine W.icmpN d29_5 (n_ne (by decide)) ?_
  refine W.aloadN d29_8 rfl rfl ?_
  refine W.getf d29_9 (wq hw 31 rfl) Via.refl (mS mp1) m0 ?_
  refine W.iconst (0) d29_12 (by decide) ?_
  refine W.aloadN d29_13 rfl rfl ?_
  refine W.iloadN d29_14 rfl ?_
  refine W.iloadN d29_15 rfl ?_
  refine W.ishlK (2 : Int32) d29_16 (by decide) ?_
  refine W.aloadN d29_17 rfl rfl ?_
  refine W.getf d29_18 (wq hw 31 rfl) Via.refl (mS mp1) m0 ?_
  refine W.alen (1) d29_21 (mS mp3) rfl ?_
  refine W.cpy (D' := (p2, true, ar ad_p2 .byte [(vi x1), e_p2_1, (vi 47), e_p2_3, e_p2_4, e_p2_5, e_p2_6, e_p2_7, e_p2_8, e_p2_9, e_p2_10, e_p2_11, e_p2_12, e_p2_13, e_p2_14, e_p2_15]) :: F) 0 0 2 1 0 d29_22 (wq hw 160 rfl) (wq hw 163 rfl) (wq hw 161 rfl) (wq hw 162 rfl) (mS mp3) rfl rfl ix0 ix2 ix1 ⟨Nat.le_of_ble_eq_true rfl, Nat.le_of_ble_eq_true rfl⟩ rfl rfl (by decide) rfl ?_
  refine W.goto 43 d29_25 (by decide) ?_
  exact W.return_ d29_43 rfl (by decide) ⟨rfl, rfl⟩
theorem c153_putStringAt {Z a0} (hw : HW a0 Z) (hs : SF Z) {p1 p2 p3 p4 : Addr} {x1 : Int32} (hx1 : (45 ≤ x1.toInt ∧ x1.toInt ≤ 46) ∨ (48 ≤ x1.toInt ∧ x1.toInt ≤ 57) ∨ (65 ≤ x1.toInt ∧ x1.toInt ≤ 90) ∨ x1.toInt = 95 ∨ (97 ≤ x1.toInt ∧ x1.toInt ≤ 122)) {e_p3_1 e_p3_3 e_p3_4 e_p3_5 e_p3_6 e_p3_7 e_p3_8 e_p3_9 e_p3_10 e_p3_11 e_p3_12 e_p3_13 e_p3_14 e_p3_15 f_p1_2 : Value} {ad_p3 : String} {w_p1 : Bool} {w_p2 : Bool} {w_p4 : Bool} {ad_p4 : String} {F : List Ent} (mp1 : (p1, w_p1, oStringBuilder (vr p3) (vi 0) f_p1_2) ∈ F) (mp2 : (p2, w_p2, oString (vr p4) (vi 0)) ∈ F) (mp4 : (p4, w_p4, ar ad_p4 .byte [(vi 47)]) ∈ F) : Con Z EL y32 y32b 3 y32r (rmm 2 0 0 63) [(vr p1), (vi 2), (vr p2)] ((p3, true, ar ad_p3 .byte [(vi x1), e_p3_1, (vi 0), e_p3_3, e_p3_4, e_p3_5, e_p3_6, e_p3_7, e_p3_8, e_p3_9, e_p3_10, e_p3_11, e_p3_12, e_p3_13, e_p3_14, e_p3_15]) :: F) (fun v D' => (v = none ∧ (p3, true, ar ad_p3 .byte [(vi x1), e_p3_1, (vi 47), e_p3_3, e_p3_4, e_p3_5, e_p3_6, e_p3_7, e_p3_8, e_p3_9, e_p3_10, e_p3_11, e_p3_12, e_p3_13, e_p3_14, e_p3_15]) :: F = D')) := by
  refine Con.of (ls := #[rv p1, iv 2, rv p2]) (by decide +kernel) rfl ?_
  refine W.aloadN d27_0 rfl rfl ?_
  refine W.aloadN d27_1 rfl rfl ?_
  refine W.callP (as := [(vr p2)]) 0 [] d27_2 (wq hw 149 rfl) (wq hw 150 rfl) (wq hw 152 rfl) (wq hw 151 rfl) (wq hw 118 rfl) (wq hw 153 rfl) (Hp.exa (mS mp1)) (c49_inflateIfNeededFor hw hs (mp1 := (mS mp1)) (mp2 := (mS mp2))) (by decide) pd_Ljava_lang_String__V rfl rfl rfl rfl (by decide) (fun v D' h => ?_)
  obtain ⟨rfl, rfl⟩ := h
  show W _ _ _ _ _ _ _ _ _ _ _ _ 5 _ []
  refine W.aloadN d27_5 rfl rfl ?_
  refine W.aloadN d27_6 rfl rfl ?_
  refine W.getf d27_7 (wq hw 122 rfl) Via.refl (mS mp1) m0 ?_
  refine W.iloadN d27_10 rfl ?_
  refine W.aloadN d27_11 rfl rfl ?_
  refine W.getf d27_12 (wq hw 124 rfl) Via.refl (mS mp1) m1 ?_
  refine W.callV (as := [(vr p3), (vi 2), (vi 0)]) 0 [] d27_15 (wq hw 155 rfl) (wq hw 156 rfl) (wq hw 158 rfl) (wq hw 158 rfl) (wq hw 157 rfl) (wq hw 11 rfl) (wq hw 159 rfl) (Hp.exa (mS mp2)) (c154_getBytes hw hs (hx1 := hx1) (mp1 := mp2) (mp3 := mp4)) (by decide) pd__BIB_V rfl rfl rfl rfl (by decide) (fun v D' h => ?_)
  obtain ⟨rfl, rfl⟩ := h
  show W _ _ _ _ _ _ _ _ _ _ _ _ 18 _ []
  exact W.return_ d27_18 rfl (by decide) ⟨rfl, rfl⟩
theorem c152_append {Z a0} (hw : HW a0 Z) (hs : SF Z) {p1 p2 p3 p4 : Addr} {x1 : Int32} (hx1 : (45 ≤ x1.toInt ∧ x1.toInt ≤ 46) ∨ (48 ≤ x1.toInt ∧ x1.toInt ≤ 57) ∨ (65 ≤ x1.toInt ∧ x1.toInt ≤ 90) ∨ x1.toInt = 95 ∨ (97 ≤ x1.toInt ∧ x1.toInt ≤ 122)) {e_p3_1 e_p3_3 e_p3_4 e_p3_5 e_p3_6 e_p3_7 e_p3_8 e_p3_9 e_p3_10 e_p3_11 e_p3_12 e_p3_13 e_p3_14 e_p3_15 : Value} {ad_p3 : String} {w_p2 : Bool} {w_p4 : Bool} {ad_p4 : String} {F : List Ent} (mp2 : (p2, w_p2, oString (vr p4) (vi 0)) ∈ F) (mp4 : (p4, w_p4, ar ad_p4 .byte [(vi 47)]) ∈ F) : Con Z EL y33 y33b 3 y33r (rmm 3 0 0 77) [(vr p1), (vr p2)] ((p3, true, ar ad_p3 .byte [(vi x1), e_p3_1, (vi 0), e_p3_3, e_p3_4, e_p3_5, e_p3_6, e_p3_7, e_p3_8, e_p3_9, e_p3_10, e_p3_11, e_p3_12, e_p3_13, e_p3_14, e_p3_15]) :: (p1, true, oStringBuilder (vr p3) (vi 0) (vi 2)) :: F) (fun v D' => (v = some (vr p1) ∧ (p3, true, ar ad_p3 .byte [(vi x1), e_p3_1, (vi 47), e_p3_3, e_p3_4, e_p3_5, e_p3_6, e_p3_7, e_p3_8, e_p3_9, e_p3_10, e_p3_11, e_p3_12, e_p3_13, e_p3_14, e_p3_15]) :: (p1, true, oStringBuilder (vr p3) (vi 0) (vi 3)) :: F = D')) := by
  refine Con.of (ls := #[rv p1, rv p2, uu]) (by decide +kernel) rfl ?_
  refine W.aloadN d25_0 rfl rfl ?_
  refine W.ifnonnullY 9 d25_1 (by decide) ?_
  refine W.aloadN d25_9 rfl rfl ?_
  refine W.callV (as := []) 0 [] d25_10 (wq hw 136 rfl) (wq hw 59 rfl) (wq hw 61 rfl) (wq hw 61 rfl) (wq hw 60 rfl) (wq hw 11 rfl) (wq hw 62 rfl) (Hp.exa (mS (mS mp2))) (c14_length hw hs (hvs_p2 := rfl) (mp1 := (mS (mS mp2))) (mp2 := (mS (mS mp4)))) (by decide) pd__I rfl rfl rfl rfl (by decide) (fun v D' h => ?_)
  obtain ⟨rfl, rfl⟩ := h
  show W _ _ _ _ _ _ _ _ _ _ _ _ 13 _ [(vi 1)]
  refine W.istoreN (ls' := #[rv p1, rv p2, iv 1]) d25_13 rfl ?_
  refine W.aloadN d25_14 rfl rfl ?_
  refine W.aloadN d25_15 rfl rfl ?_
  refine W.getf d25_16 (wq hw 137 rfl) Via.refl m1 m2 ?_
  refine W.iloadN d25_19 rfl ?_
  refine W.iaddK (3 : Int32) d25_20 (by decide) ?_
  refine W.callP (as := [(vi 3)]) 0 [] d25_21 (wq hw 139 rfl) (wq hw 140 rfl) (wq hw 142 rfl) (wq hw 141 rfl) (wq hw 118 rfl) (wq hw 143 rfl) (Hp.exa m1) (c58_ensureCapacityInternal hw hs (hvs_p2 := rfl) (mp1 := m1) (mp2 := m0)) (by decide) pd_I_V rfl rfl rfl rfl (by decide) (fun v D' h => ?_)
  obtain ⟨rfl, rfl⟩ := h
  show W _ _ _ _ _ _ _ _ _ _ _ _ 24 _ []
  refine W.aloadN d25_24 rfl rfl ?_
  refine W.aloadN d25_25 rfl rfl ?_
  refine W.getf d25_26 (wq hw 137 rfl) Via.refl m1 m2 ?_
  refine W.aloadN d25_29 rfl rfl ?_
  refine W.callP (as := [(vi 2), (vr p2)]) 0 [] d25_30 (wq hw 144 rfl) (wq hw 145 rfl) (wq hw 147 rfl) (wq hw 146 rfl) (wq hw 118 rfl) (wq hw 148 rfl) (Hp.exa m1) (c153_putStringAt hw hs (hx1 := hx1) (mp1 := m0) (mp2 := (mS mp2)) (mp4 := (mS mp4))) (by decide) pd_ILjava_lang_String__V rfl rfl rfl rfl (by decide) (fun v D' h => ?_)
  obtain ⟨rfl, rfl⟩ := h
  show W _ _ _ _ _ _ _ _ _ _ _ _ 33 _ []
  refine W.aloadN d25_33 rfl rfl ?_
  refine W.dup d25_34 rfl ?_
  refine W.getf d25_35 (wq hw 137 rfl) Via.refl m1 m2 ?_
  refine W.iloadN d25_38 rfl ?_
  refine W.iaddK (3 : Int32) d25_39 (by decide) ?_
  refine W.putf (D' := (p3, true, ar ad_p3 .byte [(vi x1), e_p3_1, (vi 47), e_p3_3, e_p3_4, e_p3_5, e_p3_6, e_p3_7, e_p3_8, e_p3_9, e_p3_10, e_p3_11, e_p3_12, e_p3_13, e_p3_14, e_p3_15]) :: (p1, true, oStringBuilder (vr p3) (vi 0) (vi 3)) :: F) 1 2 d25_40 (wq hw 137 rfl) Via.refl rfl rfl (Or.inl (wq hw 138 rfl)) (wq hw 109 rfl) pfI rfl rfl rfl ?_
  refine W.aloadN d25_43 rfl rfl ?_
  exact W.areturn d25_44 rfl rfl rfl (by decide) ⟨rfl, rfl⟩
theorem c151_append {Z a0} (hw : HW a0 Z) (hs : SF Z) {p1 p2 p3 p4 : Addr} {x1 : Int32} (hx1 : (45 ≤ x1.toInt ∧ x1.toInt ≤ 46) ∨ (48 ≤ x1.toInt ∧ x1.toInt ≤ 57) ∨ (65 ≤ x1.toInt ∧ x1.toInt ≤ 90) ∨ x1.toInt = 95 ∨ (97 ≤ x1.toInt ∧ x1.toInt ≤ 122)) {e_p3_1 e_p3_3 e_p3_4 e_p3_5 e_p3_6 e_p3_7 e_p3_8 e_p3_9 e_p3_10 e_p3_11 e_p3_12 e_p3_13 e_p3_14 e_p3_15 : Value} {ad_p3 : String} {w_p2 : Bool} {w_p4 : Bool} {ad_p4 : String} {F : List Ent} (mp2 : (p2, w_p2, oString (vr p4) (vi 0)) ∈ F) (mp4 : (p4, w_p4, ar ad_p4 .byte [(vi 47)]) ∈ F) : Con Z EL y34 y34b 2 y34r (rmm 4 0 0 91) [(vr p1), (vr p2)] ((p3, true, ar ad_p3 .byte [(vi x1), e_p3_1, (vi 0), e_p3_3, e_p3_4, e_p3_5, e_p3_6, e_p3_7, e_p3_8, e_p3_9, e_p3_10, e_p3_11, e_p3_12, e_p3_13, e_p3_14, e_p3_15]) :: (p1, true, oStringBuilder (vr p3) (vi 0) (vi 2)) :: F) (fun v D' => (v = some (vr p1) ∧ (p3, true, ar ad_p3 .byte [(vi x1), e_p3_1, (vi 47), e_p3_3, e_p3_4, e_p3_5, e_p3_6, e_p3_7, e_p3_8, e_p3_9, e_p3_10, e_p3_11, e_p3_12, e_p3_13, e_p3_14, e_p3_15]) :: (p1, true, oStringBuilder (vr p3) (vi 0) (vi 3)) :: F = D')) := by
  refine Con.of (ls := #[rv p1, rv p2]) (by decide +kernel) rfl ?_
  refine W.aloadN d24_0 rfl rfl ?_
  refine W.aloadN d24_1 rfl rfl ?_
  refine W.callUp (as := [(vr p2)]) 0 [] d24_2 (wq hw 131 rfl) (same_self (by rfl) (by decide) (wq hw 132 rfl) (wq hw 140 rfl) (wq hw 142 rfl)) (wq hw 132 rfl) (wq hw 133 rfl) (by decide) (wq hw 118 rfl) (wq hw 135 rfl) (Hp.ins m1) (c152_append hw hs (hx1 := hx1) (mp2 := mp2) (mp4 := mp4)) pd_Ljava_lang_String__Ljava_lang_AbstractStringBuilder_ rfl rfl rfl rfl (by decide) (fun v D' h => ?_)
  obtain ⟨rfl, rfl⟩ := h
  show W _ _ _ _ _ _ _ _ _ _ _ _ 5 _ [(vr p1)]
  refine W.popv d24_5 rfl ?_
  refine W.aloadN d24_6 rfl rfl ?_
  exact W.areturn d24_7 rfl rfl rfl (by decide) ⟨rfl, rfl⟩
theorem c158_getBytes {Z a0} (hw : HW a0 Z) (hs : SF Z) {p1 p2 p3 : Addr} {x1 : Int32} (hx1 : (45 ≤ x1.toInt ∧ x1.toInt ≤ 46) ∨ (48 ≤ x1.toInt ∧ x1.toInt ≤ 57) ∨ (65 ≤ x1.toInt ∧ x1.toInt ≤ 90) ∨ x1.toInt = 95 ∨ (97 ≤ x1.toInt ∧ x1.toInt ≤ 122)) {x3 : Int32} (hx3 : (45 ≤ x3.toInt ∧ x3.toInt ≤ 46) ∨ (48 ≤ x3.toInt ∧ x3.toInt ≤ 58) ∨ (65 ≤ x3.toInt ∧ x3.toInt ≤ 90) ∨ x3.toInt = 95 ∨ (97 ≤ x3.toInt ∧ x3.toInt ≤ 122)) {e_p2_1 e_p2_2 e_p2_4 e_p2_5 e_p2_6 e_p2_7 e_p2_8 e_p2_9 e_p2_10 e_p2_11 e_p2_12 e_p2_13 e_p2_14 e_p2_15 : Value} {ad_p2 : String} {w_p1 : Bool} {w_p3 : Bool} {ad_p3 : String} {F : List Ent} (mp1 : (p1, w_p1, oString (vr p3) (vi 0)) ∈ F) (mp3 : (p3, w_p3, ar ad_p3 .byte [(vi x3)]) ∈ F) : Con Z EL y31 y31b 4 y31r (rmm 1 0 0 48) [(vr p1), (vr p2), (vi 3), (vi 0)] ((p2, true, ar ad_p2 .byte [(vi x1), e_p2_1, e_p2_2, (vi 0), e_p2_4, e_p2_5, e_p2_6, e_p2_7, e_p2_8, e_p2_9, e_p2_10, e_p2_11, e_p2_12, e_p2_13, e_p2_14, e_p2_15]) :: F) (fun v D' => (v = none ∧ (p2, true, ar ad_p2 .byte [(vi x1), e_p2_1, e_p2_2, (vi x3), e_p2_4, e_p2_5, e_p2_6, e_p2_7, e_p2_8, e_p2_9, e_p2_10, e_p2_11, e_p2_12, e_p2_13, e_p2_14, e_p2_15]) :: F = D')) := by
  refine Con.of (ls := #[rv p1, rv p2, iv 3, iv 0]) (by decide +kernel) rfl ?_
  refine W.aloadN d29_0 rfl rfl ?_
  refine W.callV (as := []) 0 [] d29_1 (wq hw 63 rfl) (wq hw 64 rfl) (wq hw 66 rfl) (wq hw 66 rfl) (wq hw 65 rfl) (wq hw 11 rfl) (wq hw 67 rfl) (Hp.exa (mS mp1)) (c15_coder hw hs (mp1 := (mS mp1))) (by decide) pd__B rfl rfl rfl rfl (by decide) (fun v D' h => ?_)
  obtain ⟨rfl, rfl⟩ := h
  show W _ _ _ _ _ _ _ _ _ _ _ _ 4 _ [(vi 0)]
  refine W.iloadN d29_4 rfl ?_
  refine W.icmpN d29_5 (n_ne (by decide)) ?_
  refine W.aloadN d29_8 rfl rfl ?_
  refine W.getf d29_9 (wq hw 31 rfl) Via.refl (mS mp1) m0 ?_
  refine W.iconst (0) d29_12 (by decide) ?_
  refine W.aloadN d29_13 rfl rfl ?_
  refine W.iloadN d29_14 rfl ?_
  refine W.iloadN d29_15 rfl ?_
  refine W.ishlK (3 : Int32) d29_16 (by decide) ?_
  refine W.aloadN d29_17 rfl rfl ?_
  refine W.getf d29_18 (wq hw 31 rfl) Via.refl (mS mp1) m0 ?_
  refine W.alen (1) d29_21 (mS mp3) rfl ?_
  refine W.cpy (D' := (p2, true, ar ad_p2 .byte [(vi x1), e_p2_1, e_p2_2, (vi x3), e_p2_4, e_p2_5, e_p2_6, e_p2_7, e_p2_8, e_p2_9, e_p2_10, e_p2_11, e_p2_12, e_p2_13, e_p2_14, e_p2_15]) :: F) 0 0 3 1 0 d29_22 (wq hw 160 rfl) (wq hw 163 rfl) (wq hw 161 rfl) (wq hw 162 rfl) (mS mp3) rfl rfl ix0 ix3 ix1 ⟨Nat.le_of_ble_eq_true rfl, Nat.le_of_ble_eq_true rfl⟩ rfl rfl (by decide) rfl ?_
  refine W.goto 43 d29_25 (by decide) ?_
  exact W.return_ d29_43 rfl (by decide) ⟨rfl, rfl⟩
theorem c157_putStringAt {Z a0} (hw : HW a0 Z) (hs : SF Z) {p1 p2 p3 p4 : Addr} {x1 : Int32} (hx1 : (45 ≤ x1.toInt ∧ x1.toInt ≤ 46) ∨ (48 ≤ x1.toInt ∧ x1.toInt ≤ 57) ∨ (65 ≤ x1.toInt ∧ x1.toInt ≤ 90) ∨ x1.toInt = 95 ∨ (97 ≤ x1.toInt ∧ x1.toInt ≤ 122)) {x3 : Int32} (hx3 : (45 ≤ x3.toInt ∧ x3.toInt ≤ 46) ∨ (48 ≤ x3.toInt ∧ x3.toInt ≤ 58) ∨ (65 ≤ x3.toInt ∧ x3.toInt ≤ 90) ∨ x3.toInt = 95 ∨ (97 ≤ x3.toInt ∧ x3.toInt ≤ 122)) {e_p3_1 e_p3_2 e_p3_4 e_p3_5 e_p3_6 e_p3_7 e_p3_8 e_p3_9 e_p3_10 e_p3_11 e_p3_12 e_p3_13 e_p3_14 e_p3_15 f_p1_2 : Value} {ad_p3 : String} {w_p1 : Bool} {w_p2 : Bool} {w_p4 : Bool} {ad_p4 : String} {F : List Ent} (mp1 : (p1, w_p1, oStringBuilder (vr p3) (vi 0) f_p1_2) ∈ F) (mp2 : (p2, w_p2, oString (vr p4) (vi 0)) ∈ F) (mp4 : (p4, w_p4, ar ad_p4 .byte [(vi x3)]) ∈ F) : Con Z EL y32 y32b 3 y32r (rmm 2 0 0 63) [(vr p1), (vi 3), (vr p2)] ((p3, true, ar ad_p3 .byte [(vi x1), e_p3_1, e_p3_2, (vi 0), e_p3_4, e_p3_5, e_p3_6, e_p3_7, e_p3_8, e_p3_9, e_p3_10, e_p3_11, e_p3_12, e_p3_13, e_p3_14, e_p3_15]) :: F) (fun v D' => (v = none ∧ (p3, true, ar ad_p3 .byte [(vi x1), e_p3_1, e_p3_2, (vi x3), e_p3_4, e_p3_5, e_p3_6, e_p3_7, e_p3_8, e_p3_9, e_p3_10, e_p3_11, e_p3_12, e_p3_13, e_p3_14, e_p3_15]) :: F = D')) := by
  refine Con.of (ls := #[rv p1, iv 3, rv p2]) (by decide +kernel) rfl ?_
  refine W.aloadN d27_0 rfl rfl ?_
  refine W.aloadN d27_1 rfl rfl ?_
  refine W.callP (as := [(vr p2)]) 0 [] d27_2 (wq hw 149 rfl) (wq hw 150 rfl) (wq hw 152 rfl) (wq hw 151 rfl) (wq hw 118 rfl) (wq hw 153 rfl) (Hp.exa (mS mp1)) (c49_inflateIfNeededFor hw hs (mp1 := (mS mp1)) (mp2 := (mS mp2))) (by decide) pd_Ljava_lang_String__V rfl rfl rfl rfl (by decide) (fun v D' h => ?_)
  obtain ⟨rfl, rfl⟩ := h
  show W _ _ _ _ _ _ _ _ _ _ _ _ 5 _ []
  refine W.aloadN d27_5 rfl rfl ?_
  refine W.aloadN d27_6 rfl rfl ?_
  refine W.getf d27_7 (wq hw 122 rfl) Via.refl (mS mp1) m0 ?_
  refine W.iloadN d27_10 rfl ?_
  refine W.aloadN d27_11 rfl rfl ?_
  refine W.getf d27_12 (wq hw 124 rfl) Via.refl (mS mp1) m1 ?_
  refine W.callV (as := [(vr p3), (vi 3), (vi 0)]) 0 [] d27_15 (wq hw 155 rfl) (wq hw 156 rfl) (wq hw 158 rfl) (wq hw 158 rfl) (wq hw 157 rfl) (wq hw 11 rfl) (wq hw 159 rfl) (Hp.exa (mS mp2)) (c158_getBytes hw hs (hx1 := hx1) (hx3 := hx3) (mp1 := mp2) (mp3 := mp4)) (by decide) pd__BIB_V rfl rfl rfl rfl (by decide) (fun v D' h => ?_)
  obtain ⟨rfl, rfl⟩ := h
  show W _ _ _ _ _ _ _ _ _ _ _ _ 18 _ []
  exact W.return_ d27_18 rfl (by decide) ⟨rfl, rfl⟩
theorem c156_append {Z a0} (hw : HW a0 Z) (hs : SF Z) {p1 p2 p3 p4 : Addr} {x1 : Int32} (hx1 : (45 ≤ x1.toInt ∧ x1.toInt ≤ 46) ∨ (48 ≤ x1.toInt ∧ x1.toInt ≤ 57) ∨ (65 ≤ x1.toInt ∧ x1.toInt ≤ 90) ∨ x1.toInt = 95 ∨ (97 ≤ x1.toInt ∧ x1.toInt ≤ 122)) {x3 : Int32} (hx3 : (45 ≤ x3.toInt ∧ x3.toInt ≤ 46) ∨ (48 ≤ x3.toInt ∧ x3.toInt ≤ 58) ∨ (65 ≤ x3.toInt ∧ x3.toInt ≤ 90) ∨ x3.toInt = 95 ∨ (97 ≤ x3.toInt ∧ x3.toInt ≤ 122)) {e_p3_1 e_p3_2 e_p3_4 e_p3_5 e_p3_6 e_p3_7 e_p3_8 e_p3_9 e_p3_10 e_p3_11 e_p3_12 e_p3_13 e_p3_14 e_p3_15 : Value} {ad_p3 : String} {w_p2 : Bool} {w_p4 : Bool} {ad_p4 : String} {F : List Ent} (mp2 : (p2, w_p2, oString (vr p4) (vi 0)) ∈ F) (mp4 : (p4, w_p4, ar ad_p4 .byte [(vi x3)]) ∈ F) : Con Z EL y33 y33b 3 y33r (rmm 3 0 0 77) [(vr p1), (vr p2)] ((p3, true, ar ad_p3 .byte [(vi x1), e_p3_1, e_p3_2, (vi 0), e_p3_4, e_p3_5, e_p3_6, e_p3_7, e_p3_8, e_p3_9, e_p3_10, e_p3_11, e_p3_12, e_p3_13, e_p3_14, e_p3_15]) :: (p1, true, oStringBuilder (vr p3) (vi 0) (vi 3)) :: F) (fun v D' => (v = some (vr p1) ∧ (p3, true, ar ad_p3 .byte [(vi x1), e_p3_1, e_p3_2, (vi x3), e_p3_4, e_p3_5, e_p3_6, e_p3_7, e_p3_8, e_p3_9, e_p3_10, e_p3_11, e_p3_12, e_p3_13, e_p3_14, e_p3_15]) :: (p1, true, oStringBuilder (vr p3) (vi 0) (vi 4)) :: F = D')) := by
  refine Con.of (ls := #[rv p1, rv p2, uu]) (by decide +kernel) rfl ?_
  refine W.aloadN d25_0 rfl rfl ?_
  refine W.ifnonnullY 9 d25_1 (by decide) ?_
  refine W.aloadN d25_9 rfl rfl ?_
  refine W.callV (as := []) 0 [] d25_10 (wq hw 136 rfl) (wq hw 59 rfl) (wq hw 61 rfl) (wq hw 61 rfl) (wq hw 60 rfl) (wq hw 11 rfl) (wq hw 62 rfl) (Hp.exa (mS (mS mp2))) (c14_length hw hs (hvs_p2 := rfl) (mp1 := (mS (mS mp2))) (mp2 := (mS (mS mp4)))) (by decide) pd__I rfl rfl rfl rfl (by decide) (fun v D' h => ?_)
  obtain ⟨rfl, rfl⟩ := h
  show W _ _ _ _ _ _ _ _ _ _ _ _ 13 _ [(vi 1)]
  refine W.istoreN (ls' := #[rv p1, rv p2, iv 1]) d25_13 rfl ?_
  refine W.aloadN d25_14 rfl rfl ?_
  refine W.aloadN d25_15 rfl rfl ?_
  refine W.getf d25_16 (wq hw 137 rfl) Via.refl m1 m2 ?_
  refine W.iloadN d25_19 rfl ?_
  refine W.iaddK (4 : Int32) d25_20 (by decide) ?_
  refine W.callP (as := [(vi 4)]) 0 [] d25_21 (wq hw 139 rfl) (wq hw 140 rfl) (wq hw 142 rfl) (wq hw 141 rfl) (wq hw 118 rfl) (wq hw 143 rfl) (Hp.exa m1) (c106_ensureCapacityInternal hw hs (hvs_p2 := rfl) (mp1 := m1) (mp2 := m0)) (by decide) pd_I_V rfl rfl rfl rfl (by decide) (fun v D' h => ?_)
  obtain ⟨rfl, rfl⟩ := h
  show W _ _ _ _ _ _ _ _ _ _ _ _ 24 _ []
  refine W.aloadN d25_24 rfl rfl ?_
  refine W.aloadN d25_25 rfl rfl ?_
  refine W.getf d25_26 (wq hw 137 rfl) Via.refl m1 m2 ?_
  refine W.aloadN d25_29 rfl rfl ?_
  refine W.callP (as := [(vi 3), (vr p2)]) 0 [] d25_30 (wq hw 144 rfl) (wq hw 145 rfl) (wq hw 147 rfl) (wq hw 146 rfl) (wq hw 118 rfl) (wq hw 148 rfl) (Hp.exa m1) (c157_putStringAt hw hs (hx1 := hx1) (hx3 := hx3) (mp1 := m0) (mp2 := (mS mp2)) (mp4 := (mS mp4))) (by decide) pd_ILjava_lang_String__V rfl rfl rfl rfl (by decide) (fun v D' h => ?_)
  obtain ⟨rfl, rfl⟩ := h
  show W _ _ _ _ _ _ _ _ _ _ _ _ 33 _ []
  refine W.aloadN d25_33 rfl rfl ?_
  refine W.dup d25_34 rfl ?_
  refine W.getf d25_35 (wq hw 137 rfl) Via.refl m1 m2 ?_
  refine W.iloadN d25_38 rfl ?_
  refine W.iaddK (4 : Int32) d25_39 (by decide) ?_
  refine W.putf (D' := (p3, true, ar ad_p3 .byte [(vi x1), e_p3_1, e_p3_2, (vi x3), e_p3_4, e_p3_5, e_p3_6, e_p3_7, e_p3_8, e_p3_9, e_p3_10, e_p3_11, e_p3_12, e_p3_13, e_p3_14, e_p3_15]) :: (p1, true, oStringBuilder (vr p3) (vi 0) (vi 4)) :: F) 1 2 d25_40 (wq hw 137 rfl) Via.refl rfl rfl (Or.inl (wq hw 138 rfl)) (wq hw 109 rfl) pfI rfl rfl rfl ?_
  refine W.aloadN d25_43 rfl rfl ?_
  exact W.areturn d25_44 rfl rfl rfl (by decide) ⟨rfl, rfl⟩
theorem c155_append {Z a0} (hw : HW a0 Z) (hs : SF Z) {p1 p2 p3 p4 : Addr} {x1 : Int32} (hx1 : (45 ≤ x1.toInt ∧ x1.toInt ≤ 46) ∨ (48 ≤ x1.toInt ∧ x1.toInt ≤ 57) ∨ (65 ≤ x1.toInt ∧ x1.toInt ≤ 90) ∨ x1.toInt = 95 ∨ (97 ≤ x1.toInt ∧ x1.toInt ≤ 122)) {x3 : Int32} (hx3 : (45 ≤ x3.toInt ∧ x3.toInt ≤ 46) ∨ (48 ≤ x3.toInt ∧ x3.toInt ≤ 58) ∨ (65 ≤ x3.toInt ∧ x3.toInt ≤ 90) ∨ x3.toInt = 95 ∨ (97 ≤ x3.toInt ∧ x3.toInt ≤ 122)) {e_p3_1 e_p3_2 e_p3_4 e_p3_5 e_p3_6 e_p3_7 e_p3_8 e_p3_9 e_p3_10 e_p3_11 e_p3_12 e_p3_13 e_p3_14 e_p3_15 : Value} {ad_p3 : String} {w_p2 : Bool} {w_p4 : Bool} {ad_p4 : String} {F : List Ent} (mp2 : (p2, w_p2, oString (vr p4) (vi 0)) ∈ F) (mp4 : (p4, w_p4, ar ad_p4 .byte [(vi x3)]) ∈ F) : Con Z EL y34 y34b 2 y34r (rmm 4 0 0 91) [(vr p1), (vr p2)] ((p3, true, ar ad_p3 .byte [(vi x1), e_p3_1, e_p3_2, (vi 0), e_p3_4, e_p3_5, e_p3_6, e_p3_7, e_p3_8, e_p3_9, e_p3_10, e_p3_11, e_p3_12, e_p3_13, e_p3_14, e_p3_15]) :: (p1, true, oStringBuilder (vr p3) (vi 0) (vi 3)) :: F) (fun v D' => (v = some (vr p1) ∧ (p3, true, ar ad_p3 .byte [(vi x1), e_p3_1, e_p3_2, (vi x3), e_p3_4, e_p3_5, e_p3_6, e_p3_7, e_p3_8, e_p3_9, e_p3_10, e_p3_11, e_p3_12, e_p3_13, e_p3_14, e_p3_15]) :: (p1, true, oStringBuilder (vr p3) (vi 0) (vi 4)) :: F = D')) := by
  refine Con.of (ls := #[rv p1, rv p2]) (by decide +kernel) rfl ?_
  refine W.aloadN d24_0 rfl rfl ?_
  refine W.aloadN d24_1 rfl rfl ?_
  refine W.callUp (as := [(vr p2)]) 0 [] d24_2 (wq hw 131 rfl) (same_self (by rfl) (by decide) (wq hw 132 rfl) (wq hw 140 rfl) (wq hw 142 rfl)) (wq hw 132 rfl) (wq hw 133 rfl) (by decide) (wq hw 118 rfl) (wq hw 135 rfl) (Hp.ins m1) (c156_append hw hs (hx1 := hx1) (hx3 := hx3) (mp2 := mp2) (mp4 := mp4)) pd_Ljava_lang_String__Ljava_lang_AbstractStringBuilder_ rfl rfl rfl rfl (by decide) (fun v D' h => ?_)
  obtain ⟨rfl, rfl⟩ := h
  show W _ _ _ _ _ _ _ _ _ _ _ _ 5 _ [(vr p1)]
  refine W.popv d24_5 rfl ?_
  refine W.aloadN d24_6 rfl rfl ?_
  exact W.areturn d24_7 rfl rfl rfl (by decide) ⟨rfl, rfl⟩
theorem c163_copyOfRangeByte {Z a0} (hw : HW a0 Z) (hs : SF Z) {p1 : Addr} {x1 : Int32} (hx1 : (45 ≤ x1.toInt ∧ x1.toInt ≤ 46) ∨ (48 ≤ x1.toInt ∧ x1.toInt ≤ 57) ∨ (65 ≤ x1.toInt ∧ x1.toInt ≤ 90) ∨ x1.toInt = 95 ∨ (97 ≤ x1.toInt ∧ x1.toInt ≤ 122)) {x2 : Int32} (hx2 : (45 ≤ x2.toInt ∧ x2.toInt ≤ 46) ∨ (48 ≤ x2.toInt ∧ x2.toInt ≤ 57) ∨ (65 ≤ x2.toInt ∧ x2.toInt ≤ 90) ∨ x2.toInt = 95 ∨ (97 ≤ x2.toInt ∧ x2.toInt ≤ 122)) {x3 : Int32} (hx3 : (45 ≤ x3.toInt ∧ x3.toInt ≤ 46) ∨ (48 ≤ x3.toInt ∧ x3.toInt ≤ 58) ∨ (65 ≤ x3.toInt ∧ x3.toInt ≤ 90) ∨ x3.toInt = 95 ∨ (97 ≤ x3.toInt ∧ x3.toInt ≤ 122)) {e_p1_4 e_p1_5 e_p1_6 e_p1_7 e_p1_8 e_p1_9 e_p1_10 e_p1_11 e_p1_12 e_p1_13 e_p1_14 e_p1_15 : Value} {w_p1 : Bool} {ad_p1 : String} {F : List Ent} (mp1 : (p1, w_p1, ar ad_p1 .byte [(vi x1), (vi x2), (vi 47), (vi x3), e_p1_4, e_p1_5, e_p1_6, e_p1_7, e_p1_8, e_p1_9, e_p1_10, e_p1_11, e_p1_12, e_p1_13, e_p1_14, e_p1_15]) ∈ F) : Con Z EL y40 y40b 5 y40r (rmm 1 1 4 48) [(vr p1), (vi 0), (vi 4)] (F) (fun v D' => (∃ a1 : Addr, v = some (vr a1) ∧ (a1, true, ar "[B" .byte [(vi x1), (vi x2), (vi 47), (vi x3)]) :: F = D')) := by
  refine Con.of (ls := #[rv p1, iv 0, iv 4, uu, uu]) (by decide +kernel) rfl ?_
  refine W.iloadN d38_0 rfl ?_
  refine W.iloadN d38_1 rfl ?_
  refine W.callS (as := [(vi 0), (vi 4)]) 0 [] d38_2 (wq hw 204 rfl) (wq hw 205 rfl) (wq hw 199 rfl) (wq hw 206 rfl) (c116_checkLength hw hs) (by decide) pd_II_V rfl rfl rfl rfl (by decide) (fun v D' h => ?_)
  obtain ⟨rfl, rfl⟩ := h
  show W _ _ _ _ _ _ _ _ _ _ _ _ 5 _ []
  refine W.iloadN d38_5 rfl ?_
  refine W.iloadN d38_6 rfl ?_
  refine W.isubK (4 : Int32) d38_7 (by decide) ?_
  refine W.istoreN (ls' := #[rv p1, iv 0, iv 4, iv 4, uu]) d38_8 rfl ?_
  refine W.iloadN d38_9 rfl ?_
  refine W.newarr 4 (ad := "[B") (ty := .byte) d38_10 rfl (wq hw 23 rfl) ix4 rfl (by decide) (by decide) (fun a1 => ?_)
  show W _ _ _ _ _ _ _ _ _ _ _ _ 12 _ [(vr a1)]
  refine W.astore (ls' := #[rv p1, iv 0, iv 4, iv 4, rv a1]) d38_12 rfl rfl ?_
  refine W.aloadN d38_14 rfl rfl ?_
  refine W.iloadN d38_15 rfl ?_
  refine W.aload 4 d38_16 rfl rfl ?_
  refine W.iconst (0) d38_18 (by decide) ?_
  refine W.aloadN d38_19 rfl rfl ?_
  refine W.alen (16) d38_20 (mS mp1) rfl ?_
  refine W.iloadN d38_21 rfl ?_
  refine W.isubK (16 : Int32) d38_22 (by decide) ?_
  refine W.iloadN d38_23 rfl ?_
  refine W.callS (as := [(vi 16), (vi 4)]) 4 [(vi 0), (vr a1), (vi 0), (vr p1)] d38_24 (wq hw 207 rfl) (wq hw 208 rfl) (wq hw 209 rfl) (wq hw 210 rfl) (c117_min hw hs) (by decide) pd_II_I rfl rfl rfl rfl (by decide) (fun v D' h => ?_)
  obtain ⟨rfl, rfl⟩ := h
  show W _ _ _ _ _ _ _ _ _ _ _ _ 27 _ [(vi 4), (vi 0), (vr a1), (vi 0), (vr p1)]
  refine W.cpy (D' := (a1, true, ar "[B" .byte [(vi x1), (vi x2), (vi 47), (vi x3)]) :: F) 0 0 0 4 0 d38_27 (wq hw 211 rfl) (wq hw 163 rfl) (wq hw 161 rfl) (wq hw 162 rfl) (mS mp1) rfl rfl ix0 ix0 ix4 ⟨Nat.le_of_ble_eq_true rfl, Nat.le_of_ble_eq_true rfl⟩ rfl rfl (by decide) rfl ?_
  refine W.aload 4 d38_30 rfl rfl ?_
  exact W.areturn d38_32 rfl rfl rfl (by decide) ⟨a1, rfl, rfl⟩
theorem c162_copyOfRange {Z a0} (hw : HW a0 Z) (hs : SF Z) {p1 : Addr} {x1 : Int32} (hx1 : (45 ≤ x1.toInt ∧ x1.toInt ≤ 46) ∨ (48 ≤ x1.toInt ∧ x1.toInt ≤ 57) ∨ (65 ≤ x1.toInt ∧ x1.toInt ≤ 90) ∨ x1.toInt = 95 ∨ (97 ≤ x1.toInt ∧ x1.toInt ≤ 122)) {x2 : Int32} (hx2 : (45 ≤ x2.toInt ∧ x2.toInt ≤ 46) ∨ (48 ≤ x2.toInt ∧ x2.toInt ≤ 57) ∨ (65 ≤ x2.toInt ∧ x2.toInt ≤ 90) ∨ x2.toInt = 95 ∨ (97 ≤ x2.toInt ∧ x2.toInt ≤ 122)) {x3 : Int32} (hx3 : (45 ≤ x3.toInt ∧ x3.toInt ≤ 46) ∨ (48 ≤ x3.toInt ∧ x3.toInt ≤ 58) ∨ (65 ≤ x3.toInt ∧ x3.toInt ≤ 90) ∨ x3.toInt = 95 ∨ (97 ≤ x3.toInt ∧ x3.toInt ≤ 122)) {e_p1_4 e_p1_5 e_p1_6 e_p1_7 e_p1_8 e_p1_9 e_p1_10 e_p1_11 e_p1_12 e_p1_13 e_p1_14 e_p1_15 : Value} {w_p1 : Bool} {ad_p1 : String} {F : List Ent} (mp1 : (p1, w_p1, ar ad_p1 .byte [(vi x1), (vi x2), (vi 47), (vi x3), e_p1_4, e_p1_5, e_p1_6, e_p1_7, e_p1_8, e_p1_9, e_p1_10, e_p1_11, e_p1_12, e_p1_13, e_p1_14, e_p1_15]) ∈ F) : Con Z EL y41 y41b 3 y41r (rmm 2 1 4 64) [(vr p1), (vi 0), (vi 4)] (F) (fun v D' => (∃ a1 : Addr, v = some (vr a1) ∧ (a1, true, ar "[B" .byte [(vi x1), (vi x2), (vi 47), (vi x3)]) :: F = D')) := by
  refine Con.of (ls := #[rv p1, iv 0, iv 4]) (by decide +kernel) rfl ?_
  refine W.iloadN d37_0 rfl ?_
  refine W.ifN d37_1 (n_ne (by decide)) ?_
  refine W.iloadN d37_4 rfl ?_
  refine W.aloadN d37_5 rfl rfl ?_
  refine W.alen (16) d37_6 mp1 rfl ?_
  refine W.icmpN d37_7 (n_eq (by decide)) ?_
  refine W.aloadN d37_10 rfl rfl ?_
  refine W.iloadN d37_11 rfl ?_
  refine W.iloadN d37_12 rfl ?_
  refine W.callS (as := [(vr p1), (vi 0), (vi 4)]) 0 [] d37_13 (wq hw 201 rfl) (wq hw 202 rfl) (wq hw 199 rfl) (wq hw 203 rfl) (c163_copyOfRangeByte hw hs (hx1 := hx1) (hx2 := hx2) (hx3 := hx3) (mp1 := mp1)) (by decide) pd__BII__B rfl rfl rfl rfl (by decide) (fun v D' h => ?_)
  obtain ⟨a1, rfl, rfl⟩ := h
  show W _ _ _ _ _ _ _ _ _ _ _ _ 16 _ [(vr a1)]
  exact W.areturn d37_16 rfl rfl rfl (by decide) ⟨a1, rfl, rfl⟩
theorem c161_init {Z a0} (hw : HW a0 Z) (hs : SF Z) {p1 p2 p3 : Addr} {x1 : Int32} (hx1 : (45 ≤ x1.toInt ∧ x1.toInt ≤ 46) ∨ (48 ≤ x1.toInt ∧ x1.toInt ≤ 57) ∨ (65 ≤ x1.toInt ∧ x1.toInt ≤ 90) ∨ x1.toInt = 95 ∨ (97 ≤ x1.toInt ∧ x1.toInt ≤ 122)) {x2 : Int32} (hx2 : (45 ≤ x2.toInt ∧ x2.toInt ≤ 46) ∨ (48 ≤ x2.toInt ∧ x2.toInt ≤ 57) ∨ (65 ≤ x2.toInt ∧ x2.toInt ≤ 90) ∨ x2.toInt = 95 ∨ (97 ≤ x2.toInt ∧ x2.toInt ≤ 122)) {x3 : Int32} (hx3 : (45 ≤ x3.toInt ∧ x3.toInt ≤ 46) ∨ (48 ≤ x3.toInt ∧ x3.toInt ≤ 58) ∨ (65 ≤ x3.toInt ∧ x3.toInt ≤ 90) ∨ x3.toInt = 95 ∨ (97 ≤ x3.toInt ∧ x3.toInt ≤ 122)) {e_p3_4 e_p3_5 e_p3_6 e_p3_7 e_p3_8 e_p3_9 e_p3_10 e_p3_11 e_p3_12 e_p3_13 e_p3_14 e_p3_15 : Value} {w_p2 : Bool} {w_p3 : Bool} {ad_p3 : String} {F : List Ent} (mp2 : (p2, w_p2, oStringBuilder (vr p3) (vi 0) (vi 4)) ∈ F) (mp3 : (p3, w_p3, ar ad_p3 .byte [(vi x1), (vi x2), (vi 47), (vi x3), e_p3_4, e_p3_5, e_p3_6, e_p3_7, e_p3_8, e_p3_9, e_p3_10, e_p3_11, e_p3_12, e_p3_13, e_p3_14, e_p3_15]) ∈ F) : Con Z EL y42 y42b 5 y42r (rmm 3 1 4 79) [(vr p1), (vr p2), .null] ((p1, true, oString .null (vi 0)) :: F) (fun v D' => (∃ a1 : Addr, v = none ∧ (a1, true, ar "[B" .byte [(vi x1), (vi x2), (vi 47), (vi x3)]) :: (p1, true, oString (vr a1) (vi 0)) :: F = D')) := by
  refine Con.of (ls := #[rv p1, rv p2, .val .null, uu, uu]) (by decide +kernel) rfl ?_
  refine W.aloadN d32_0 rfl rfl ?_
  refine W.initO 0 d32_1 (wq hw 28 rfl) (wq hw 29 rfl) (wq hw 30 rfl) rfl rfl (by decide) ?_
  refine W.aloadN d32_4 rfl rfl ?_
  refine W.callV (as := []) 0 [] d32_5 (wq hw 179 rfl) (wq hw 180 rfl) (wq hw 182 rfl) (wq hw 182 rfl) (wq hw 181 rfl) (wq hw 118 rfl) (wq hw 183 rfl) (Hp.exa (mS mp2)) (c64_getValue hw hs (mp1 := (mS mp2))) (by decide) pd___B rfl rfl rfl rfl (by decide) (fun v D' h => ?_)
  obtain ⟨rfl, rfl⟩ := h
  show W _ _ _ _ _ _ _ _ _ _ _ _ 8 _ [(vr p3)]
  refine W.astoreN (ls' := #[rv p1, rv p2, .val .null, rv p3, uu]) d32_8 rfl rfl ?_
  refine W.aloadN d32_9 rfl rfl ?_
  refine W.callVN (as := []) 0 [] d32_10 (wq hw 184 rfl) (wq hw 185 rfl) (by rfl) (wq hw 140 rfl) (wq hw 142 rfl) (wq hw 187 rfl) (wq hw 188 rfl) (wq hw 110 rfl) (wq hw 189 rfl) (Hp.exa (mS mp2)) (c112_length hw hs (mp1 := (mS mp2))) (by decide) pd__I rfl rfl rfl rfl (by decide) (fun v D' h => ?_)
  obtain ⟨rfl, rfl⟩ := h
  show W _ _ _ _ _ _ _ _ _ _ _ _ 13 _ [(vi 4)]
  refine W.istore (ls' := #[rv p1, rv p2, .val .null, rv p3, iv 4]) d32_13 rfl ?_
  refine W.aloadN d32_15 rfl rfl ?_
  refine W.callV (as := []) 0 [] d32_16 (wq hw 192 rfl) (wq hw 193 rfl) (wq hw 195 rfl) (wq hw 195 rfl) (wq hw 194 rfl) (wq hw 118 rfl) (wq hw 196 rfl) (Hp.exa (mS mp2)) (c67_isLatin1 hw hs (mp1 := (mS mp2))) (by decide) pd__Z rfl rfl rfl rfl (by decide) (fun v D' h => ?_)
  obtain ⟨rfl, rfl⟩ := h
  show W _ _ _ _ _ _ _ _ _ _ _ _ 19 _ [(vi 1)]
  refine W.ifN d32_19 (n_eq (by decide)) ?_
  refine W.aloadN d32_22 rfl rfl ?_
  refine W.iconst (0) d32_23 (by decide) ?_
  refine W.putf (D' := (p1, true, oString .null (vi 0)) :: F) 0 1 d32_24 (wq hw 33 rfl) Via.refl rfl rfl (Or.inr ⟨(wq hw 34 rfl), rfl, rfl⟩) (wq hw 19 rfl) pfB (nw_byte (by decide)) (ft_byte (by decide)) rfl ?_
  refine W.aloadN d32_27 rfl rfl ?_
  refine W.aloadN d32_28 rfl rfl ?_
  refine W.iconst (0) d32_29 (by decide) ?_
  refine W.iload d32_30 rfl ?_
  refine W.callS (as := [(vr p3), (vi 0), (vi 4)]) 1 [(vr p1)] d32_32 (wq hw 197 rfl) (wq hw 198 rfl) (wq hw 199 rfl) (wq hw 200 rfl) (c162_copyOfRange hw hs (hx1 := hx1) (hx2 := hx2) (hx3 := hx3) (mp1 := (mS mp3))) (by decide) pd__BII__B rfl rfl rfl rfl (by decide) (fun v D' h => ?_)
  obtain ⟨a1, rfl, rfl⟩ := h
  show W _ _ _ _ _ _ _ _ _ _ _ _ 35 _ [(vr a1), (vr p1)]
  refine W.putf (D' := (a1, true, ar "[B" .byte [(vi x1), (vi x2), (vi 47), (vi x3)]) :: (p1, true, oString (vr a1) (vi 0)) :: F) 1 0 d32_35 (wq hw 31 rfl) Via.refl rfl rfl (Or.inr ⟨(wq hw 32 rfl), rfl, rfl⟩) (wq hw 19 rfl) pf_B rfl rfl rfl ?_
  refine W.goto 97 d32_38 (by decide) ?_
  exact W.return_ d32_97 rfl (by decide) ⟨a1, rfl, rfl⟩
theorem c160_init {Z a0} (hw : HW a0 Z) (hs : SF Z) {p1 p2 p3 : Addr} {x1 : Int32} (hx1 : (45 ≤ x1.toInt ∧ x1.toInt ≤ 46) ∨ (48 ≤ x1.toInt ∧ x1.toInt ≤ 57) ∨ (65 ≤ x1.toInt ∧ x1.toInt ≤ 90) ∨ x1.toInt = 95 ∨ (97 ≤ x1.toInt ∧ x1.toInt ≤ 122)) {x2 : Int32} (hx2 : (45 ≤ x2.toInt ∧ x2.toInt ≤ 46) ∨ (48 ≤ x2.toInt ∧ x2.toInt ≤ 57) ∨ (65 ≤ x2.toInt ∧ x2.toInt ≤ 90) ∨ x2.toInt = 95 ∨ (97 ≤ x2.toInt ∧ x2.toInt ≤ 122)) {x3 : Int32} (hx3 : (45 ≤ x3.toInt ∧ x3.toInt ≤ 46) ∨ (48 ≤ x3.toInt ∧ x3.toInt ≤ 58) ∨ (65 ≤ x3.toInt ∧ x3.toInt ≤ 90) ∨ x3.toInt = 95 ∨ (97 ≤ x3.toInt ∧ x3.toInt ≤ 122)) {e_p3_4 e_p3_5 e_p3_6 e_p3_7 e_p3_8 e_p3_9 e_p3_10 e_p3_11 e_p3_12 e_p3_13 e_p3_14 e_p3_15 : Value} {w_p2 : Bool} {w_p3 : Bool} {ad_p3 : String} {F : List Ent} (mp2 : (p2, w_p2, oStringBuilder (vr p3) (vi 0) (vi 4)) ∈ F) (mp3 : (p3, w_p3, ar ad_p3 .byte [(vi x1), (vi x2), (vi 47), (vi x3), e_p3_4, e_p3_5, e_p3_6, e_p3_7, e_p3_8, e_p3_9, e_p3_10, e_p3_11, e_p3_12, e_p3_13, e_p3_14, e_p3_15]) ∈ F) : Con Z EL y43 y43b 2 y43r (rmm 4 1 4 95) [(vr p1), (vr p2)] ((p1, true, oString .null (vi 0)) :: F) (fun v D' => (∃ a1 : Addr, v = none ∧ (a1, true, ar "[B" .byte [(vi x1), (vi x2), (vi 47), (vi x3)]) :: (p1, true, oString (vr a1) (vi 0)) :: F = D')) := by
  refine Con.of (ls := #[rv p1, rv p2]) (by decide +kernel) rfl ?_
  refine W.aloadN d31_0 rfl rfl ?_
  refine W.aloadN d31_1 rfl rfl ?_
  refine W.aconstNull d31_2 ?_
  refine W.callI (as := [(vr p2), .null]) 0 [] d31_3 rfl (wq hw 176 rfl) (wq hw 177 rfl) (wq hw 11 rfl) (wq hw 178 rfl) (c161_init hw hs (hx1 := hx1) (hx2 := hx2) (hx3 := hx3) (mp2 := mp2) (mp3 := mp3)) (by decide) pd_Ljava_lang_AbstractStringBuilder_Ljava_lang_Void__V rfl rfl rfl rfl (by decide) (fun v D' h => ?_)
  obtain ⟨a1, rfl, rfl⟩ := h
  show W _ _ _ _ _ _ _ _ _ _ _ _ 6 _ []
  exact W.return_ d31_6 rfl (by decide) ⟨a1, rfl, rfl⟩
theorem c159_toString {Z a0} (hw : HW a0 Z) (hs : SF Z) {p1 p2 : Addr} {x1 : Int32} (hx1 : (45 ≤ x1.toInt ∧ x1.toInt ≤ 46) ∨ (48 ≤ x1.toInt ∧ x1.toInt ≤ 57) ∨ (65 ≤ x1.toInt ∧ x1.toInt ≤ 90) ∨ x1.toInt = 95 ∨ (97 ≤ x1.toInt ∧ x1.toInt ≤ 122)) {x2 : Int32} (hx2 : (45 ≤ x2.toInt ∧ x2.toInt ≤ 46) ∨ (48 ≤ x2.toInt ∧ x2.toInt ≤ 57) ∨ (65 ≤ x2.toInt ∧ x2.toInt ≤ 90) ∨ x2.toInt = 95 ∨ (97 ≤ x2.toInt ∧ x2.toInt ≤ 122)) {x3 : Int32} (hx3 : (45 ≤ x3.toInt ∧ x3.toInt ≤ 46) ∨ (48 ≤ x3.toInt ∧ x3.toInt ≤ 58) ∨ (65 ≤ x3.toInt ∧ x3.toInt ≤ 90) ∨ x3.toInt = 95 ∨ (97 ≤ x3.toInt ∧ x3.toInt ≤ 122)) {e_p2_4 e_p2_5 e_p2_6 e_p2_7 e_p2_8 e_p2_9 e_p2_10 e_p2_11 e_p2_12 e_p2_13 e_p2_14 e_p2_15 : Value} {w_p1 : Bool} {w_p2 : Bool} {ad_p2 : String} {F : List Ent} (mp1 : (p1, w_p1, oStringBuilder (vr p2) (vi 0) (vi 4)) ∈ F) (mp2 : (p2, w_p2, ar ad_p2 .byte [(vi x1), (vi x2), (vi 47), (vi x3), e_p2_4, e_p2_5, e_p2_6, e_p2_7, e_p2_8, e_p2_9, e_p2_10, e_p2_11, e_p2_12, e_p2_13, e_p2_14, e_p2_15]) ∈ F) : Con Z EL y44 y44b 1 y44r (rmm 5 2 8 109) [(vr p1)] (F) (fun v D' => (∃ a1 a2 : Addr, v = some (vr a1) ∧ (a2, true, ar "[B" .byte [(vi x1), (vi x2), (vi 47), (vi x3)]) :: (a1, true, oString (vr a2) (vi 0)) :: F = D')) := by
  refine Con.of (ls := #[rv p1]) (by decide +kernel) rfl ?_
  refine W.new d30_0 (wq hw 172 rfl) (wq hw 19 rfl) (wq hw 11 rfl) (laString hw) (by decide) (by decide) (fun a1 => ?_)
  show W _ _ _ _ _ _ _ _ _ _ _ _ 3 _ [(vr a1)]
  refine W.dup d30_3 rfl ?_
  refine W.aloadN d30_4 rfl rfl ?_
  refine W.callI (as := [(vr p1)]) 1 [(vr a1)] d30_5 rfl (wq hw 173 rfl) (wq hw 174 rfl) (wq hw 11 rfl) (wq hw 175 rfl) (c160_init hw hs (hx1 := hx1) (hx2 := hx2) (hx3 := hx3) (mp2 := mp1) (mp3 := mp2)) (by decide) pd_Ljava_lang_StringBuilder__V rfl rfl rfl rfl (by decide) (fun v D' h => ?_)
  obtain ⟨a2, rfl, rfl⟩ := h
  show W _ _ _ _ _ _ _ _ _ _ _ _ 8 _ [(vr a1)]
  exact W.areturn d30_8 rfl rfl rfl (by decide) ⟨a1, a2, rfl, rfl⟩
theorem c146_toString {Z a0} (hw : HW a0 Z) (hs : SF Z) {p1 p2 p3 p4 p5 : Addr} {x1 : Int32} (hx1 : (45 ≤ x1.toInt ∧ x1.toInt ≤ 46) ∨ (48 ≤ x1.toInt ∧ x1.toInt ≤ 57) ∨ (65 ≤ x1.toInt ∧ x1.toInt ≤ 90) ∨ x1.toInt = 95 ∨ (97 ≤ x1.toInt ∧ x1.toInt ≤ 122)) {x2 : Int32} (hx2 : (45 ≤ x2.toInt ∧ x2.toInt ≤ 46) ∨ (48 ≤ x2.toInt ∧ x2.toInt ≤ 57) ∨ (65 ≤ x2.toInt ∧ x2.toInt ≤ 90) ∨ x2.toInt = 95 ∨ (97 ≤ x2.toInt ∧ x2.toInt ≤ 122)) {x3 : Int32} (hx3 : (45 ≤ x3.toInt ∧ x3.toInt ≤ 46) ∨ (48 ≤ x3.toInt ∧ x3.toInt ≤ 58) ∨ (65 ≤ x3.toInt ∧ x3.toInt ≤ 90) ∨ x3.toInt = 95 ∨ (97 ≤ x3.toInt ∧ x3.toInt ≤ 122)) {w_p1 : Bool} {w_p2 : Bool} {w_p4 : Bool} {ad_p4 : String} {w_p3 : Bool} {w_p5 : Bool} {ad_p5 : String} {F : List Ent} (mp1 : (p1, w_p1, oJobKey (vr p2) (vr p3)) ∈ F) (mp2 : (p2, w_p2, oString (vr p4) (vi 0)) ∈ F) (mp4 : (p4, w_p4, ar ad_p4 .byte [(vi x1), (vi x2)]) ∈ F) (mp3 : (p3, w_p3, oString (vr p5) (vi 0)) ∈ F) (mp5 : (p5, w_p5, ar ad_p5 .byte [(vi x3)]) ∈ F) : Con Z EL y45 y45b 1 y45r (rmm 6 6 36 121) [(vr p1)] (F) (fun v D' => (∃ a5 a6 : Addr, v = some (vr a5) ∧ (a6, true, ar "[B" .byte [(vi x1), (vi x2), (vi 47), (vi x3)]) :: (a5, true, oString (vr a6) (vi 0)) :: F = D')) := by
  refine Con.of (ls := #[rv p1]) (by decide +kernel) rfl ?_
  refine W.new d21_0 (wq hw 108 rfl) (wq hw 109 rfl) (wq hw 110 rfl) (laStringBuilder hw) (by decide) (by decide) (fun a1 => ?_)
  show W _ _ _ _ _ _ _ _ _ _ _ _ 3 _ [(vr a1)]
  refine W.dup d21_3 rfl ?_
  refine W.callI (as := []) 1 [(vr a1)] d21_4 rfl (wq hw 111 rfl) (wq hw 112 rfl) (wq hw 110 rfl) (wq hw 113 rfl) (c43_init hw hs) (by decide) pd__V rfl rfl rfl rfl (by decide) (fun v D' h => ?_)
  obtain ⟨a2, rfl, rfl⟩ := h
  show W _ _ _ _ _ _ _ _ _ _ _ _ 7 _ [(vr a1)]
  refine W.aloadN d21_7 rfl rfl ?_
  refine W.getf d21_8 (wq hw 94 rfl) Via.refl (mS (mS mp1)) m0 ?_
  refine W.callV (as := [(vr p2)]) 0 [] d21_11 (wq hw 126 rfl) (wq hw 127 rfl) (wq hw 129 rfl) (wq hw 129 rfl) (wq hw 128 rfl) (wq hw 110 rfl) (wq hw 130 rfl) (Hp.exa m1) (c147_append hw hs (hx1 := hx1) (hx2 := hx2) (mp2 := mp2) (mp4 := mp4)) (by decide) pd_Ljava_lang_String__Ljava_lang_StringBuilder_ rfl rfl rfl rfl (by decide) (fun v D' h => ?_)
  obtain ⟨rfl, rfl⟩ := h
  show W _ _ _ _ _ _ _ _ _ _ _ _ 14 _ [(vr a1)]
  refine W.ldcT 4 (vs := [(vi 47)]) rfl d21_14 (wq hw 164 rfl) (wS hw) m0 tx_2f (by decide) (by decide) (by decide) (fun a3 a4 => ?_)
  show W _ _ _ _ _ _ _ _ _ _ _ _ 16 _ [(vr a3), (vr a1)]
  refine W.front 3 (D' := (a1, true, oStringBuilder (vr a2) (vi 0) (vi 2)) :: (a3, false, oString (vr a4) (vi 0)) :: (a4, false, ar "" .byte [(vi 47)]) :: (a2, true, ar "[B" .byte [(vi x1), (vi x2), (vi 0), (vi 0), (vi 0), (vi 0), (vi 0), (vi 0), (vi 0), (vi 0), (vi 0), (vi 0), (vi 0), (vi 0), (vi 0), (vi 0)]) :: F) rfl rfl ?_
  refine W.front 3 (D' := (a2, true, ar "[B" .byte [(vi x1), (vi x2), (vi 0), (vi 0), (vi 0), (vi 0), (vi 0), (vi 0), (vi 0), (vi 0), (vi 0), (vi 0), (vi 0), (vi 0), (vi 0), (vi 0)]) :: (a1, true, oStringBuilder (vr a2) (vi 0) (vi 2)) :: (a3, false, oString (vr a4) (vi 0)) :: (a4, false, ar "" .byte [(vi 47)]) :: F) rfl rfl ?_
  refine W.callV (as := [(vr a3)]) 0 [] d21_16 (wq hw 126 rfl) (wq hw 127 rfl) (wq hw 129 rfl) (wq hw 129 rfl) (wq hw 128 rfl) (wq hw 110 rfl) (wq hw 130 rfl) (Hp.exa m1) (c151_append hw hs (hx1 := hx1) (mp2 := m0) (mp4 := m1)) (by decide) pd_Ljava_lang_String__Ljava_lang_StringBuilder_ rfl rfl rfl rfl (by decide) (fun v D' h => ?_)
  obtain ⟨rfl, rfl⟩ := h
  show W _ _ _ _ _ _ _ _ _ _ _ _ 19 _ [(vr a1)]
  refine W.aloadN d21_19 rfl rfl ?_
  refine W.getf d21_20 (wq hw 101 rfl) Via.refl (mS (mS (mS (mS mp1)))) m1 ?_
  refine W.callV (as := [(vr p3)]) 0 [] d21_23 (wq hw 126 rfl) (wq hw 127 rfl) (wq hw 129 rfl) (wq hw 129 rfl) (wq hw 128 rfl) (wq hw 110 rfl) (wq hw 130 rfl) (Hp.exa m1) (c155_append hw hs (hx1 := hx1) (hx3 := hx3) (mp2 := (mS (mS mp3))) (mp4 := (mS (mS mp5)))) (by decide) pd_Ljava_lang_String__Ljava_lang_StringBuilder_ rfl rfl rfl rfl (by decide) (fun v D' h => ?_)
  obtain ⟨rfl, rfl⟩ := h
  show W _ _ _ _ _ _ _ _ _ _ _ _ 26 _ [(vr a1)]
  refine W.callV (as := []) 0 [] d21_26 (wq hw 167 rfl) (wq hw 168 rfl) (wq hw 170 rfl) (wq hw 170 rfl) (wq hw 169 rfl) (wq hw 110 rfl) (wq hw 171 rfl) (Hp.exa m1) (c159_toString hw hs (hx1 := hx1) (hx2 := hx2) (hx3 := hx3) (mp1 := m1) (mp2 := m0)) (by decide) pd__Ljava_lang_String_ rfl rfl rfl rfl (by decide) (fun v D' h => ?_)
  obtain ⟨a5, a6, rfl, rfl⟩ := h
  show W _ _ _ _ _ _ _ _ _ _ _ _ 29 _ [(vr a5)]
  refine W.dropAt 2 (D' := (a6, true, ar "[B" .byte [(vi x1), (vi x2), (vi 47), (vi x3)]) :: (a5, true, oString (vr a6) (vi 0)) :: (a1, true, oStringBuilder (vr a2) (vi 0) (vi 4)) :: (a3, false, oString (vr a4) (vi 0)) :: (a4, false, ar "" .byte [(vi 47)]) :: F) rfl ?_
  refine W.dropAt 2 (D' := (a6, true, ar "[B" .byte [(vi x1), (vi x2), (vi 47), (vi x3)]) :: (a5, true, oString (vr a6) (vi 0)) :: (a3, false, oString (vr a4) (vi 0)) :: (a4, false, ar "" .byte [(vi 47)]) :: F) rfl ?_
  refine W.dropAt 2 (D' := (a6, true, ar "[B" .byte [(vi x1), (vi x2), (vi 47), (vi x3)]) :: (a5, true, oString (vr a6) (vi 0)) :: (a4, false, ar "" .byte [(vi 47)]) :: F) rfl ?_
  refine W.dropAt 2 (D' := (a6, true, ar "[B" .byte [(vi x1), (vi x2), (vi 47), (vi x3)]) :: (a5, true, oString (vr a6) (vi 0)) :: F) rfl ?_
  exact W.areturn d21_29 rfl rfl rfl (by decide) ⟨a5, a6, rfl, rfl⟩
theorem c165_charAt {Z a0} (hw : HW a0 Z) (hs : SF Z) {p1 : Addr} {x2 : Int32} (hx2 : (45 ≤ x2.toInt ∧ x2.toInt ≤ 46) ∨ (48 ≤ x2.toInt ∧ x2.toInt ≤ 57) ∨ (65 ≤ x2.toInt ∧ x2.toInt ≤ 90) ∨ x2.toInt = 95 ∨ (97 ≤ x2.toInt ∧ x2.toInt ≤ 122)) {e_p1_0 e_p1_2 e_p1_3 : Value} {w_p1 : Bool} {ad_p1 : String} {F : List Ent} (mp1 : (p1, w_p1, ar ad_p1 .byte [e_p1_0, (vi x2), e_p1_2, e_p1_3]) ∈ F) : Con Z EL y13 y13b 2 y13r (rmm 2 0 0 27) [(vr p1), (vi 1)] (F) (fun v D' => (v = some (vi x2) ∧ F = D')) := by
  refine Con.of (ls := #[rv p1, iv 1]) (by decide +kernel) rfl ?_
  refine W.iloadN d16_0 rfl ?_
  refine W.aloadN d16_1 rfl rfl ?_
  refine W.alen (4) d16_2 mp1 rfl ?_
  refine W.callS (as := [(vi 1), (vi 4)]) 0 [] d16_3 (wq hw 81 rfl) (wq hw 82 rfl) (wq hw 11 rfl) (wq hw 83 rfl) (c125_checkIndex hw hs) (by decide) pd_II_V rfl rfl rfl rfl (by decide) (fun v D' h => ?_)
  obtain ⟨rfl, rfl⟩ := h
  show W _ _ _ _ _ _ _ _ _ _ _ _ 6 _ []
  refine W.aloadN d16_6 rfl rfl ?_
  refine W.iloadN d16_7 rfl ?_
  refine W.baload 1 d16_8 mp1 ix1 rfl ?_
  refine W.sipush (255) d16_9 (by decide) ?_
  refine W.iandK x2 d16_12 (z_and 8 256 (by decide) (by decide) (by decide) (by omega)) ?_
  refine W.i2cK x2 d16_13 (z_i2c (by omega)) ?_
  exact W.ireturn d16_14 rfl (Or.inr (Or.inr (Or.inr (Or.inl rfl)))) (nw_char (by omega)) (by decide) ⟨rfl, rfl⟩
theorem c164_charAt {Z a0} (hw : HW a0 Z) (hs : SF Z) {p1 p2 : Addr} {x2 : Int32} (hx2 : (45 ≤ x2.toInt ∧ x2.toInt ≤ 46) ∨ (48 ≤ x2.toInt ∧ x2.toInt ≤ 57) ∨ (65 ≤ x2.toInt ∧ x2.toInt ≤ 90) ∨ x2.toInt = 95 ∨ (97 ≤ x2.toInt ∧ x2.toInt ≤ 122)) {e_p2_0 e_p2_2 e_p2_3 : Value} {w_p1 : Bool} {w_p2 : Bool} {ad_p2 : String} {F : List Ent} (mp1 : (p1, w_p1, oString (vr p2) (vi 0)) ∈ F) (mp2 : (p2, w_p2, ar ad_p2 .byte [e_p2_0, (vi x2), e_p2_2, e_p2_3]) ∈ F) : Con Z EL y14 y14b 2 y14r (rmm 3 0 0 40) [(vr p1), (vi 1)] (F) (fun v D' => (v = some (vi x2) ∧ F = D')) := by
  refine Con.of (ls := #[rv p1, iv 1]) (by decide +kernel) rfl ?_
  refine W.aloadN d14_0 rfl rfl ?_
  refine W.callV (as := []) 0 [] d14_1 (wq hw 73 rfl) (wq hw 74 rfl) (wq hw 76 rfl) (wq hw 76 rfl) (wq hw 75 rfl) (wq hw 11 rfl) (wq hw 77 rfl) (Hp.exa mp1) (c17_isLatin1 hw hs (mp1 := mp1)) (by decide) pd__Z rfl rfl rfl rfl (by decide) (fun v D' h => ?_)
  obtain ⟨rfl, rfl⟩ := h
  show W _ _ _ _ _ _ _ _ _ _ _ _ 4 _ [(vi 1)]
  refine W.ifN d14_4 (n_eq (by decide)) ?_
  refine W.aloadN d14_7 rfl rfl ?_
  refine W.getf d14_8 (wq hw 31 rfl) Via.refl mp1 m0 ?_
  refine W.iloadN d14_11 rfl ?_
  refine W.callS (as := [(vr p2), (vi 1)]) 0 [] d14_12 (wq hw 78 rfl) (wq hw 79 rfl) (wq hw 16 rfl) (wq hw 80 rfl) (c165_charAt hw hs (hx2 := hx2) (mp1 := mp2)) (by decide) pd__BI_C rfl rfl rfl rfl (by decide) (fun v D' h => ?_)
  obtain ⟨rfl, rfl⟩ := h
  show W _ _ _ _ _ _ _ _ _ _ _ _ 15 _ [(vi x2)]
  exact W.ireturn d14_15 rfl (Or.inr (Or.inr (Or.inr (Or.inl rfl)))) (nw_char (by omega)) (by decide) ⟨rfl, rfl⟩
theorem c167_charAt {Z a0} (hw : HW a0 Z) (hs : SF Z) {p1 : Addr} {e_p1_0 e_p1_1 e_p1_3 : Value} {w_p1 : Bool} {ad_p1 : String} {F : List Ent} (mp1 : (p1, w_p1, ar ad_p1 .byte [e_p1_0, e_p1_1, (vi 47), e_p1_3]) ∈ F) : Con Z EL y13 y13b 2 y13r (rmm 2 0 0 27) [(vr p1), (vi 2)] (F) (fun v D' => (v = some (vi 47) ∧ F = D')) := by
  refine Con.of (ls := #[rv p1, iv 2]) (by decide +kernel) rfl ?_
  refine W.iloadN d16_0 rfl ?_
  refine W.aloadN d16_1 rfl rfl ?_
  refine W.alen (4) d16_2 mp1 rfl ?_
  refine W.callS (as := [(vi 2), (vi 4)]) 0 [] d16_3 (wq hw 81 rfl) (wq hw 82 rfl) (wq hw 11 rfl) (wq hw 83 rfl) (c129_checkIndex hw hs) (by decide) pd_II_V rfl rfl rfl rfl (by decide) (fun v D' h => ?_)
  obtain ⟨rfl, rfl⟩ := h
  show W _ _ _ _ _ _ _ _ _ _ _ _ 6 _ []
  refine W.aloadN d16_6 rfl rfl ?_
  refine W.iloadN d16_7 rfl ?_
  refine W.baload 2 d16_8 mp1 ix2 rfl ?_
  refine W.sipush (255) d16_9 (by decide) ?_
  refine W.iandK (47 : Int32) d16_12 (by decide) ?_
  refine W.i2cK (47 : Int32) d16_13 (by decide) ?_
  exact W.ireturn d16_14 rfl (Or.inr (Or.inr (Or.inr (Or.inl rfl)))) (nw_char (by decide)) (by decide) ⟨rfl, rfl⟩
theorem c166_charAt {Z a0} (hw : HW a0 Z) (hs : SF Z) {p1 p2 : Addr} {e_p2_0 e_p2_1 e_p2_3 : Value} {w_p1 : Bool} {w_p2 : Bool} {ad_p2 : String} {F : List Ent} (mp1 : (p1, w_p1, oString (vr p2) (vi 0)) ∈ F) (mp2 : (p2, w_p2, ar ad_p2 .byte [e_p2_0, e_p2_1, (vi 47), e_p2_3]) ∈ F) : Con Z EL y14 y14b 2 y14r (rmm 3 0 0 40) [(vr p1), (vi 2)] (F) (fun v D' => (v = some (vi 47) ∧ F = D')) := by
  refine Con.of (ls := #[rv p1, iv 2]) (by decide +kernel) rfl ?_
  refine W.aloadN d14_0 rfl rfl ?_
  refine W.callV (as := []) 0 [] d14_1 (wq hw 73 rfl) (wq hw 74 rfl) (wq hw 76 rfl) (wq hw 76 rfl) (wq hw 75 rfl) (wq hw 11 rfl) (wq hw 77 rfl) (Hp.exa mp1) (c17_isLatin1 hw hs (mp1 := mp1)) (by decide) pd__Z rfl rfl rfl rfl (by decide) (fun v D' h => ?_)
  obtain ⟨rfl, rfl⟩ := h
  show W _ _ _ _ _ _ _ _ _ _ _ _ 4 _ [(vi 1)]
  refine W.ifN d14_4 (n_eq (by decide)) ?_
  refine W.aloadN d14_7 rfl rfl ?_
  refine W.getf d14_8 (wq hw 31 rfl) Via.refl mp1 m0 ?_
  refine W.iloadN d14_11 rfl ?_
  refine W.callS (as := [(vr p2), (vi 2)]) 0 [] d14_12 (wq hw 78 rfl) (wq hw 79 rfl) (wq hw 16 rfl) (wq hw 80 rfl) (c167_charAt hw hs (mp1 := mp2)) (by decide) pd__BI_C rfl rfl rfl rfl (by decide) (fun v D' h => ?_)
  obtain ⟨rfl, rfl⟩ := h
  show W _ _ _ _ _ _ _ _ _ _ _ _ 15 _ [(vi 47)]
  exact W.ireturn d14_15 rfl (Or.inr (Or.inr (Or.inr (Or.inl rfl)))) (nw_char (by decide)) (by decide) ⟨rfl, rfl⟩
theorem c168_init {Z a0} (hw : HW a0 Z) (hs : SF Z) {p1 p2 p3 p4 p5 : Addr} {x1 : Int32} (hx1 : (45 ≤ x1.toInt ∧ x1.toInt ≤ 46) ∨ (48 ≤ x1.toInt ∧ x1.toInt ≤ 57) ∨ (65 ≤ x1.toInt ∧ x1.toInt ≤ 90) ∨ x1.toInt = 95 ∨ (97 ≤ x1.toInt ∧ x1.toInt ≤ 122)) {x2 : Int32} (hx2 : (45 ≤ x2.toInt ∧ x2.toInt ≤ 46) ∨ (48 ≤ x2.toInt ∧ x2.toInt ≤ 57) ∨ (65 ≤ x2.toInt ∧ x2.toInt ≤ 90) ∨ x2.toInt = 95 ∨ (97 ≤ x2.toInt ∧ x2.toInt ≤ 122)) {x3 : Int32} (hx3 : (45 ≤ x3.toInt ∧ x3.toInt ≤ 46) ∨ (48 ≤ x3.toInt ∧ x3.toInt ≤ 58) ∨ (65 ≤ x3.toInt ∧ x3.toInt ≤ 90) ∨ x3.toInt = 95 ∨ (97 ≤ x3.toInt ∧ x3.toInt ≤ 122)) {x4 : Int32} (hx4 : (45 ≤ x4.toInt ∧ x4.toInt ≤ 46) ∨ (48 ≤ x4.toInt ∧ x4.toInt ≤ 58) ∨ (65 ≤ x4.toInt ∧ x4.toInt ≤ 90) ∨ x4.toInt = 95 ∨ (97 ≤ x4.toInt ∧ x4.toInt ≤ 122)) {w_og1Z : Bool} {w_p2 : Bool} {w_p4 : Bool} {ad_p4 : String} {w_og2Z : Bool} {w_og3Z : Bool} {ad_og3Z : String} {w_og4Z : Bool} {w_p3 : Bool} {w_p5 : Bool} {ad_p5 : String} {w_og5Z : Bool} {w_og6Z : Bool} {ad_og6Z : String} {F : List Ent} (mog1Z : ((og1 Z), w_og1Z, oJobKey_NameRule (vi 64) (vr (og2 Z))) ∈ F) (mp2 : (p2, w_p2, oString (vr p4) (vi 0)) ∈ F) (mp4 : (p4, w_p4, ar ad_p4 .byte [(vi x1), (vi x2)]) ∈ F) (mog2Z : ((og2 Z), w_og2Z, oString (vr (og3 Z)) (vi 0)) ∈ F) (mog3Z : ((og3 Z), w_og3Z, ar ad_og3Z .byte [(vi 46), (vi 95), (vi 45)]) ∈ F) (mog4Z : ((og4 Z), w_og4Z, oJobKey_NameRule (vi 128) (vr (og5 Z))) ∈ F) (mp3 : (p3, w_p3, oString (vr p5) (vi 0)) ∈ F) (mp5 : (p5, w_p5, ar ad_p5 .byte [(vi x3), (vi x4)]) ∈ F) (mog5Z : ((og5 Z), w_og5Z, oString (vr (og6 Z)) (vi 0)) ∈ F) (mog6Z : ((og6 Z), w_og6Z, ar ad_og6Z .byte [(vi 46), (vi 95), (vi 58), (vi 45)]) ∈ F) : Con Z EL y26 y26b 3 y26r (rmm 6 0 0 87) [(vr p1), (vr p2), (vr p3)] ((p1, true, oJobKey .null .null) :: F) (fun v D' => (v = none ∧ (p1, true, oJobKey (vr p2) (vr p3)) :: F = D')) := by
  refine Con.of (ls := #[rv p1, rv p2, rv p3]) (by decide +kernel) rfl ?_
  refine W.aloadN d8_0 rfl rfl ?_
  refine W.initO 0 d8_1 (wq hw 41 rfl) (wq hw 29 rfl) (wq hw 30 rfl) rfl rfl (by decide) ?_
  refine W.aloadN d8_4 rfl rfl ?_
  refine W.aloadN d8_5 rfl rfl ?_
  refine W.callS (as := [(vr p2)]) 1 [(vr p1)] d8_6 (wq hw 42 rfl) (wq hw 43 rfl) (wq hw 37 rfl) (wq hw 44 rfl) (c140_checkTopic hw hs (hx1 := hx1) (hx2 := hx2) (mog1Z := (mS mog1Z)) (mp1 := (mS mp2)) (mp2 := (mS mp4)) (mog2Z := (mS mog2Z)) (mog3Z := (mS mog3Z))) (by decide) pd_Ljava_lang_String__Ljava_lang_String_ rfl rfl rfl rfl (by decide) (fun v D' h => ?_)
  obtain ⟨rfl, rfl⟩ := h
  show W _ _ _ _ _ _ _ _ _ _ _ _ 9 _ [(vr p2), (vr p1)]
  refine W.putf (D' := (p1, true, oJobKey (vr p2) .null) :: F) 0 0 d8_9 (wq hw 94 rfl) Via.refl rfl rfl (Or.inr ⟨(wq hw 95 rfl), rfl, rfl⟩) (wq hw 36 rfl) pfLjava_lang_String_ rfl rfl rfl ?_
  refine W.aloadN d8_12 rfl rfl ?_
  refine W.aloadN d8_13 rfl rfl ?_
  refine W.callS (as := [(vr p3)]) 1 [(vr p1)] d8_14 (wq hw 96 rfl) (wq hw 97 rfl) (wq hw 37 rfl) (wq hw 98 rfl) (c91_checkId hw hs (hx1 := hx3) (hx2 := hx4) (mog4Z := (mS mog4Z)) (mp1 := (mS mp3)) (mp2 := (mS mp5)) (mog5Z := (mS mog5Z)) (mog6Z := (mS mog6Z))) (by decide) pd_Ljava_lang_String__Ljava_lang_String_ rfl rfl rfl rfl (by decide) (fun v D' h => ?_)
  obtain ⟨rfl, rfl⟩ := h
  show W _ _ _ _ _ _ _ _ _ _ _ _ 17 _ [(vr p3), (vr p1)]
  refine W.putf (D' := (p1, true, oJobKey (vr p2) (vr p3)) :: F) 0 1 d8_17 (wq hw 101 rfl) Via.refl rfl rfl (Or.inr ⟨(wq hw 102 rfl), rfl, rfl⟩) (wq hw 36 rfl) pfLjava_lang_String_ rfl rfl rfl ?_
  exact W.return_ d8_20 rfl (by decide) ⟨rfl, rfl⟩
theorem c172_ensureCapacityInternal {Z a0} (hw : HW a0 Z) (hs : SF Z) {p1 p2 : Addr} {f_p1_2 : Value} {vs_p2 : List Value} (hvs_p2 : vs_p2.length = 16) {w_p1 : Bool} {w_p2 : Bool} {ad_p2 : String} {F : List Ent} (mp1 : (p1, w_p1, oStringBuilder (vr p2) (vi 0) f_p1_2) ∈ F) (mp2 : (p2, w_p2, ar ad_p2 .byte vs_p2) ∈ F) : Con Z EL y29 y29b 3 y29r (rmm 0 0 0 0) [(vr p1), (vi 5)] (F) (fun v D' => (v = none ∧ F = D')) := by
  refine Con.of (ls := #[rv p1, iv 5, uu]) (by decide +kernel) rfl ?_
  refine W.aloadN d26_0 rfl rfl ?_
  refine W.getf d26_1 (wq hw 122 rfl) Via.refl mp1 m0 ?_
  refine W.alen (16) d26_4 mp2 (by rw [hvs_p2]; rfl) ?_
  refine W.aloadN d26_5 rfl rfl ?_
  refine W.getf d26_6 (wq hw 124 rfl) Via.refl mp1 m1 ?_
  refine W.ishrK (16 : Int32) d26_9 (by decide) ?_
  refine W.istoreN (ls' := #[rv p1, iv 5, iv 16]) d26_10 rfl ?_
  refine W.iloadN d26_11 rfl ?_
  refine W.iloadN d26_12 rfl ?_
  refine W.isubK (-11 : Int32) d26_13 (by decide) ?_
  refine W.ifY 38 d26_14 (y_le (by decide)) (by decide) ?_
  exact W.return_ d26_38 rfl (by decide) ⟨rfl, rfl⟩
theorem c174_getBytes {Z a0} (hw : HW a0 Z) (hs : SF Z) {p1 p2 p3 : Addr} {x1 : Int32} (hx1 : (45 ≤ x1.toInt ∧ x1.toInt ≤ 46) ∨ (48 ≤ x1.toInt ∧ x1.toInt ≤ 57) ∨ (65 ≤ x1.toInt ∧ x1.toInt ≤ 90) ∨ x1.toInt = 95 ∨ (97 ≤ x1.toInt ∧ x1.toInt ≤ 122)) {x3 : Int32} (hx3 : (45 ≤ x3.toInt ∧ x3.toInt ≤ 46) ∨ (48 ≤ x3.toInt ∧ x3.toInt ≤ 58) ∨ (65 ≤ x3.toInt ∧ x3.toInt ≤ 90) ∨ x3.toInt = 95 ∨ (97 ≤ x3.toInt ∧ x3.toInt ≤ 122)) {x4 : Int32} (hx4 : (45 ≤ x4.toInt ∧ x4.toInt ≤ 46) ∨ (48 ≤ x4.toInt ∧ x4.toInt ≤ 58) ∨ (65 ≤ x4.toInt ∧ x4.toInt ≤ 90) ∨ x4.toInt = 95 ∨ (97 ≤ x4.toInt ∧ x4.toInt ≤ 122)) {e_p2_1 e_p2_2 e_p2_5 e_p2_6 e_p2_7 e_p2_8 e_p2_9 e_p2_10 e_p2_11 e_p2_12 e_p2_13 e_p2_14 e_p2_15 : Value} {ad_p2 : String} {w_p1 : Bool} {w_p3 : Bool} {ad_p3 : String} {F : List Ent} (mp1 : (p1, w_p1, oString (vr p3) (vi 0)) ∈ F) (mp3 : (p3, w_p3, ar ad_p3 .byte [(vi x3), (vi x4)]) ∈ F) : Con Z EL y31 y31b 4 y31r (rmm 1 0 0 48) [(vr p1), (vr p2), (vi 3), (vi 0)] ((p2, true, ar ad_p2 .byte [(vi x1), e_p2_1, e_p2_2, (vi 0), (vi 0), e_p2_5, e_p2_6, e_p2_7, e_p2_8, e_p2_9, e_p2_10, e_p2_11, e_p2_12, e_p2_13, e_p2_14, e_p2_15]) :: F) (fun v D' => (v = none ∧ (p2, true, ar ad_p2 .byte [(vi x1), e_p2_1, e_p2_2, (vi x3), (vi x4), e_p2_5, e_p2_6, e_p2_7, e_p2_8, e_p2_9, e_p2_10, e_p2_11, e_p2_12, e_p2_13, e_p2_14, e_p2_15]) :: F = D')) := by
  refine Con.of (ls := #[rv p1, rv p2, iv 3, iv 0]) (by decide +kernel) rfl ?_
  refine W.aloadN d29_0 rfl rfl ?_
  refine W.callV (as := []) 0 [] d29_1 (wq hw 63 rfl) (wq hw 64 rfl) (wq hw 66 rfl) (wq hw 66 rfl) (wq hw 65 rfl) (wq hw 11 rfl) (wq hw 67 rfl) (Hp.exa (mS mp1)) (c15_coder hw hs (mp1 := (mS mp1))) (by decide) pd__B rfl rfl rfl rfl (by decide) (fun v D' h => ?_)
  obtain ⟨rfl, rfl⟩ := h
  show W _ _ _ _ _ _ _ _ _ _ _ _ 4 _ [(vi 0)]
  refine W.iloadN d29_4 rfl ?_
  refine W.icmpN d29_5 (n_ne (by decide)) ?_
  refine W.aloadN d29_8 rfl rfl ?_
  refine W.getf d29_9 (wq hw 31 rfl) Via.refl (mS mp1) m0 ?_
  refine W.iconst (0) d29_12 (by decide) ?_
  refine W.aloadN d29_13 rfl rfl ?_
  refine W.iloadN d29_14 rfl ?_
  refine W.iloadN d29_15 rfl ?_
  refine W.ishlK (3 : Int32) d29_16 (by decide) ?_
  refine W.aloadN d29_17 rfl rfl ?_
  refine W.getf d29_18 (wq hw 31 rfl) Via.refl (mS mp1) m0 ?_
  refine W.alen (2) d29_21 (mS mp3) rfl ?_
  refine W.cpy (D' := (p2, true, ar ad_p2 .byte [(vi x1), e_p2_1, e_p2_2, (vi x3), (vi x4), e_p2_5, e_p2_6, e_p2_7, e_p2_8, e_p2_9, e_p2_10, e_p2_11, e_p2_12, e_p2_13, e_p2_14, e_p2_15]) :: F) 0 0 3 2 0 d29_22 (wq hw 160 rfl) (wq hw 163 rfl) (wq hw 161 rfl) (wq hw 162 rfl) (mS mp3) rfl rfl ix0 ix3 ix2 ⟨Nat.le_of_ble_eq_true rfl, Nat.le_of_ble_eq_true rfl⟩ rfl rfl (by decide) rfl ?_
  refine W.goto 43 d29_25 (by decide) ?_
  exact W.return_ d29_43 rfl (by decide) ⟨rfl, rfl⟩
theorem c173_putStringAt {Z a0} (hw : HW a0 Z) (hs : SF Z) {p1 p2 p3 p4 : Addr} {x1 : Int32} (hx1 : (45 ≤ x1.toInt ∧ x1.toInt ≤ 46) ∨ (48 ≤ x1.toInt ∧ x1.toInt ≤ 57) ∨ (65 ≤ x1.toInt ∧ x1.toInt ≤ 90) ∨ x1.toInt = 95 ∨ (97 ≤ x1.toInt ∧ x1.toInt ≤ 122)) {x3 : Int32} (hx3 : (45 ≤ x3.toInt ∧ x3.toInt ≤ 46) ∨ (48 ≤ x3.toInt ∧ x3.toInt ≤ 58) ∨ (65 ≤ x3.toInt ∧ x3.toInt ≤ 90) ∨ x3.toInt = 95 ∨ (97 ≤ x3.toInt ∧ x3.toInt ≤ 122)) {x4 : Int32} (hx4 : (45 ≤ x4.toInt ∧ x4.toInt ≤ 46) ∨ (48 ≤ x4.toInt ∧ x4.toInt ≤ 58) ∨ (65 ≤ x4.toInt ∧ x4.toInt ≤ 90) ∨ x4.toInt = 95 ∨ (97 ≤ x4.toInt ∧ x4.toInt ≤ 122)) {e_p3_1 e_p3_2 e_p3_5 e_p3_6 e_p3_7 e_p3_8 e_p3_9 e_p3_10 e_p3_11 e_p3_12 e_p3_13 e_p3_14 e_p3_15 f_p1_2 : Value} {ad_p3 : String} {w_p1 : Bool} {w_p2 : Bool} {w_p4 : Bool} {ad_p4 : String} {F : List Ent} (mp1 : (p1, w_p1, oStringBuilder (vr p3) (vi 0) f_p1_2) ∈ F) (mp2 : (p2, w_p2, oString (vr p4) (vi 0)) ∈ F) (mp4 : (p4, w_p4, ar ad_p4 .byte [(vi x3), (vi x4)]) ∈ F) : Con Z EL y32 y32b 3 y32r (rmm 2 0 0 63) [(vr p1), (vi 3), (vr p2)] ((p3, true, ar ad_p3 .byte [(vi x1), e_p3_1, e_p3_2, (vi 0), (vi 0), e_p3_5, e_p3_6, e_p3_7, e_p3_8, e_p3_9, e_p3_10, e_p3_11, e_p3_12, e_p3_13, e_p3_14, e_p3_15]) :: F) (fun v D' => (v = none ∧ (p3, true, ar ad_p3 .byte [(vi x1), e_p3_1, e_p3_2, (vi x3), (vi x4), e_p3_5, e_p3_6, e_p3_7, e_p3_8, e_p3_9, e_p3_10, e_p3_11, e_p3_12, e_p3_13, e_p3_14, e_p3_15]) :: F = D')) := by
  refine Con.of (ls := #[rv p1, iv 3, rv p2]) (by decide +kernel) rfl ?_
  refine W.aloadN d27_0 rfl rfl ?_
  refine W.aloadN d27_1 rfl rfl ?_
  refine W.callP (as := [(vr p2)]) 0 [] d27_2 (wq hw 149 rfl) (wq hw 150 rfl) (wq hw 152 rfl) (wq hw 151 rfl) (wq hw 118 rfl) (wq hw 153 rfl) (Hp.exa (mS mp1)) (c49_inflateIfNeededFor hw hs (mp1 := (mS mp1)) (mp2 := (mS mp2))) (by decide) pd_Ljava_lang_String__V rfl rfl rfl rfl (by decide) (fun v D' h => ?_)
  obtain ⟨rfl, rfl⟩ := h
  show W _ _ _ _ _ _ _ _ _ _ _ _ 5 _ []
  refine W.aloadN d27_5 rfl rfl ?_
  refine W.aloadN d27_6 rfl rfl ?_
  refine W.getf d27_7 (wq hw 122 rfl) Via.refl (mS mp1) m0 ?_
  refine W.iloadN d27_10 rfl ?_
  refine W.aloadN d27_11 rfl rfl ?_
  refine W.getf d27_12 (wq hw 124 rfl) Via.refl (mS mp1) m1 ?_
  refine W.callV (as := [(vr p3), (vi 3), (vi 0)]) 0 [] d27_15 (wq hw 155 rfl) (wq hw 156 rfl) (wq hw 158 rfl) (wq hw 158 rfl) (wq hw 157 rfl) (wq hw 11 rfl) (wq hw 159 rfl) (Hp.exa (mS mp2)) (c174_getBytes hw hs (hx1 := hx1) (hx3 := hx3) (hx4 := hx4) (mp1 := mp2) (mp3 := mp4)) (by decide) pd__BIB_V rfl rfl rfl rfl (by decide) (fun v D' h => ?_)
  obtain ⟨rfl, rfl⟩ := h
  show W _ _ _ _ _ _ _ _ _ _ _ _ 18 _ []
  exact W.return_ d27_18 rfl (by decide) ⟨rfl, rfl⟩
theorem c171_append {Z a0} (hw : HW a0 Z) (hs : SF Z) {p1 p2 p3 p4 : Addr} {x1 : Int32} (hx1 : (45 ≤ x1.toInt ∧ x1.toInt ≤ 46) ∨ (48 ≤ x1.toInt ∧ x1.toInt ≤ 57) ∨ (65 ≤ x1.toInt ∧ x1.toInt ≤ 90) ∨ x1.toInt = 95 ∨ (97 ≤ x1.toInt ∧ x1.toInt ≤ 122)) {x3 : Int32} (hx3 : (45 ≤ x3.toInt ∧ x3.toInt ≤ 46) ∨ (48 ≤ x3.toInt ∧ x3.toInt ≤ 58) ∨ (65 ≤ x3.toInt ∧ x3.toInt ≤ 90) ∨ x3.toInt = 95 ∨ (97 ≤ x3.toInt ∧ x3.toInt ≤ 122)) {x4 : Int32} (hx4 : (45 ≤ x4.toInt ∧ x4.toInt ≤ 46) ∨ (48 ≤ x4.toInt ∧ x4.toInt ≤ 58) ∨ (65 ≤ x4.toInt ∧ x4.toInt ≤ 90) ∨ x4.toInt = 95 ∨ (97 ≤ x4.toInt ∧ x4.toInt ≤ 122)) {e_p3_1 e_p3_2 e_p3_5 e_p3_6 e_p3_7 e_p3_8 e_p3_9 e_p3_10 e_p3_11 e_p3_12 e_p3_13 e_p3_14 e_p3_15 : Value} {ad_p3 : String} {w_p2 : Bool} {w_p4 : Bool} {ad_p4 : String} {F : List Ent} (mp2 : (p2, w_p2, oString (vr p4) (vi 0)) ∈ F) (mp4 : (p4, w_p4, ar ad_p4 .byte [(vi x3), (vi x4)]) ∈ F) : Con Z EL y33 y33b 3 y33r (rmm 3 0 0 77) [(vr p1), (vr p2)] ((p3, true, ar ad_p3 .byte [(vi x1), e_p3_1, e_p3_2, (vi 0), (vi 0), e_p3_5, e_p3_6, e_p3_7, e_p3_8, e_p3_9, e_p3_10, e_p3_11, e_p3_12, e_p3_13, e_p3_14, e_p3_15]) :: (p1, true, oStringBuilder (vr p3) (vi 0) (vi 3)) :: F) (fun v D' => (v = some (vr p1) ∧ (p3, true, ar ad_p3 .byte [(vi x1), e_p3_1, e_p3_2, (vi x3), (vi x4), e_p3_5, e_p3_6, e_p3_7, e_p3_8, e_p3_9, e_p3_10, e_p3_11, e_p3_12, e_p3_13, e_p3_14, e_p3_15]) :: (p1, true, oStringBuilder (vr p3) (vi 0) (vi 5)) :: F = D')) := by
  refine Con.of (ls := #[rv p1, rv p2, uu]) (by decide +kernel) rfl ?_
  refine W.aloadN d25_0 rfl rfl ?_
  refine W.ifnonnullY 9 d25_1 (by decide) ?_
  refine W.aloadN d25_9 rfl rfl ?_
  refine W.callV (as := []) 0 [] d25_10 (wq hw 136 rfl) (wq hw 59 rfl) (wq hw 61 rfl) (wq hw 61 rfl) (wq hw 60 rfl) (wq hw 11 rfl) (wq hw 62 rfl) (Hp.exa (mS (mS mp2))) (c94_length hw hs (hvs_p2 := rfl) (mp1 := (mS (mS mp2))) (mp2 := (mS (mS mp4)))) (by decide) pd__I rfl rfl rfl rfl (by decide) (fun v D' h => ?_)
  obtain ⟨rfl, rfl⟩ := h
  show W _ _ _ _ _ _ _ _ _ _ _ _ 13 _ [(vi 2)]
  refine W.istoreN (ls' := #[rv p1, rv p2, iv 2]) d25_13 rfl ?_
  refine W.aloadN d25_14 rfl rfl ?_
  refine W.aloadN d25_15 rfl rfl ?_
  refine W.getf d25_16 (wq hw 137 rfl) Via.refl m1 m2 ?_
  refine W.iloadN d25_19 rfl ?_
  refine W.iaddK (5 : Int32) d25_20 (by decide) ?_
  refine W.callP (as := [(vi 5)]) 0 [] d25_21 (wq hw 139 rfl) (wq hw 140 rfl) (wq hw 142 rfl) (wq hw 141 rfl) (wq hw 118 rfl) (wq hw 143 rfl) (Hp.exa m1) (c172_ensureCapacityInternal hw hs (hvs_p2 := rfl) (mp1 := m1) (mp2 := m0)) (by decide) pd_I_V rfl rfl rfl rfl (by decide) (fun v D' h => ?_)
  obtain ⟨rfl, rfl⟩ := h
  show W _ _ _ _ _ _ _ _ _ _ _ _ 24 _ []
  refine W.aloadN d25_24 rfl rfl ?_
  refine W.aloadN d25_25 rfl rfl ?_
  refine W.getf d25_26 (wq hw 137 rfl) Via.refl m1 m2 ?_
  refine W.aloadN d25_29 rfl rfl ?_
  refine W.callP (as := [(vi 3), (vr p2)]) 0 [] d25_30 (wq hw 144 rfl) (wq hw 145 rfl) (wq hw 147 rfl) (wq hw 146 rfl) (wq hw 118 rfl) (wq hw 148 rfl) (Hp.exa m1) (c173_putStringAt hw hs (hx1 := hx1) (hx3 := hx3) (hx4 := hx4) (mp1 := m0) (mp2 := (mS mp2)) (mp4 := (mS mp4))) (by decide) pd_ILjava_lang_String__V rfl rfl rfl rfl (by decide) (fun v D' h => ?_)
  obtain ⟨rfl, rfl⟩ := h
  show W _ _ _ _ _ _ _ _ _ _ _ _ 33 _ []
  refine W.aloadN d25_33 rfl rfl ?_
  refine W.dup d25_34 rfl ?_
  refine W.getf d25_35 (wq hw 137 rfl) Via.refl m1 m2 ?_
  refine W.iloadN d25_38 rfl ?_
  refine W.iaddK (5 : Int32) d25_39 (by decide) ?_
  refine W.putf (D' := (p3, true, ar ad_p3 .byte [(vi x1), e_p3_1, e_p3_2, (vi x3), (vi x4), e_p3_5, e_p3_6, e_p3_7, e_p3_8, e_p3_9, e_p3_10, e_p3_11, e_p3_12, e_p3_13, e_p3_14, e_p3_15]) :: (p1, true, oStringBuilder (vr p3) (vi 0) (vi 5)) :: F) 1 2 d25_40 (wq hw 137 rfl) Via.refl rfl rfl (Or.inl (wq hw 138 rfl)) (wq hw 109 rfl) pfI rfl rfl rfl ?_
  refine W.aloadN d25_43 rfl rfl ?_
  exact W.areturn d25_44 rfl rfl rfl (by decide) ⟨rfl, rfl⟩
theorem c170_append {Z a0} (hw : HW a0 Z) (hs : SF Z) {p1 p2 p3 p4 : Addr} {x1 : Int32} (hx1 : (45 ≤ x1.toInt ∧ x1.toInt ≤ 46) ∨ (48 ≤ x1.toInt ∧ x1.toInt ≤ 57) ∨ (65 ≤ x1.toInt ∧ x1.toInt ≤ 90) ∨ x1.toInt = 95 ∨ (97 ≤ x1.toInt ∧ x1.toInt ≤ 122)) {x3 : Int32} (hx3 : (45 ≤ x3.toInt ∧ x3.toInt ≤ 46) ∨ (48 ≤ x3.toInt ∧ x3.toInt ≤ 58) ∨ (65 ≤ x3.toInt ∧ x3.toInt ≤ 90) ∨ x3.toInt = 95 ∨ (97 ≤ x3.toInt ∧ x3.toInt ≤ 122)) {x4 : Int32} (hx4 : (45 ≤ x4.toInt ∧ x4.toInt ≤ 46) ∨ (48 ≤ x4.toInt ∧ x4.toInt ≤ 58) ∨ (65 ≤ x4.toInt ∧ x4.toInt ≤ 90) ∨ x4.toInt = 95 ∨ (97 ≤ x4.toInt ∧ x4.toInt ≤ 122)) {e_p3_1 e_p3_2 e_p3_5 e_p3_6 e_p3_7 e_p3_8 e_p3_9 e_p3_10 e_p3_11 e_p3_12 e_p3_13 e_p3_14 e_p3_15 : Value} {ad_p3 : String} {w_p2 : Bool} {w_p4 : Bool} {ad_p4 : String} {F : List Ent} (mp2 : (p2, w_p2, oString (vr p4) (vi 0)) ∈ F) (mp4 : (p4, w_p4, ar ad_p4 .byte [(vi x3), (vi x4)]) ∈ F) : Con Z EL y34 y34b 2 y34r (rmm 4 0 0 91) [(vr p1), (vr p2)] ((p3, true, ar ad_p3 .byte [(vi x1), e_p3_1, e_p3_2, (vi 0), (vi 0), e_p3_5, e_p3_6, e_p3_7, e_p3_8, e_p3_9, e_p3_10, e_p3_11, e_p3_12, e_p3_13, e_p3_14, e_p3_15]) :: (p1, true, oStringBuilder (vr p3) (vi 0) (vi 3)) :: F) (fun v D' => (v = some (vr p1) ∧ (p3, true, ar ad_p3 .byte [(vi x1), e_p3_1, e_p3_2, (vi x3), (vi x4), e_p3_5, e_p3_6, e_p3_7, e_p3_8, e_p3_9, e_p3_10, e_p3_11, e_p3_12, e_p3_13, e_p3_14, e_p3_15]) :: (p1, true, oStringBuilder (vr p3) (vi 0) (vi 5)) :: F = D')) := by
  refine Con.of (ls := #[rv p1, rv p2]) (by decide +kernel) rfl ?_
  refine W.aloadN d24_0 rfl rfl ?_
  refine W.aloadN d24_1 rfl rfl ?_
  refine W.callUp (as := [(vr p2)]) 0 [] d24_2 (wq hw 131 rfl) (same_self (by rfl) (by decide) (wq hw 132 rfl) (wq hw 140 rfl) (wq hw 142 rfl)) (wq hw 132 rfl) (wq hw 133 rfl) (by decide) (wq hw 118 rfl) (wq hw 135 rfl) (Hp.ins m1) (c171_append hw hs (hx1 := hx1) (hx3 := hx3) (hx4 := hx4) (mp2 := mp2) (mp4 := mp4)) pd_Ljava_lang_String__Ljava_lang_AbstractStringBuilder_ rfl rfl rfl rfl (by decide) (fun v D' h => ?_)
  obtain ⟨rfl, rfl⟩ := h
  show W _ _ _ _ _ _ _ _ _ _ _ _ 5 _ [(vr p1)]
  refine W.popv d24_5 rfl ?_
  refine W.aloadN d24_6 rfl rfl ?_
  exact W.areturn d24_7 rfl rfl rfl (by decide) ⟨rfl, rfl⟩
theorem c179_length {Z a0} (hw : HW a0 Z) (hs : SF Z) {p1 : Addr} {f_p1_0 f_p1_1 : Value} {w_p1 : Bool} {F : List Ent} (mp1 : (p1, w_p1, oStringBuilder f_p1_0 f_p1_1 (vi 5)) ∈ F) : Con Z EL y36 y36b 1 y36r (rmm 0 0 0 0) [(vr p1)] (F) (fun v D' => (v = some (vi 5) ∧ F = D')) := by
  refine Con.of (ls := #[rv p1]) (by decide +kernel) rfl ?_
  refine W.aloadN d35_0 rfl rfl ?_
  refine W.getf d35_1 (wq hw 137 rfl) Via.refl mp1 m2 ?_
  exact W.ireturn d35_4 rfl (Or.inl rfl) rfl (by decide) ⟨rfl, rfl⟩
theorem c178_length {Z a0} (hw : HW a0 Z) (hs : SF Z) {p1 : Addr} {f_p1_0 f_p1_1 : Value} {w_p1 : Bool} {F : List Ent} (mp1 : (p1, w_p1, oStringBuilder f_p1_0 f_p1_1 (vi 5)) ∈ F) : Con Z EL y37 y37b 1 y37r (rmm 1 0 0 12) [(vr p1)] (F) (fun v D' => (v = some (vi 5) ∧ F = D')) := by
  refine Con.of (ls := #[rv p1]) (by decide +kernel) rfl ?_
  refine W.aloadN d34_0 rfl rfl ?_
  refine W.callUp (as := []) 0 [] d34_1 (wq hw 190 rfl) (same_self (by rfl) (by decide) (wq hw 186 rfl) (wq hw 140 rfl) (wq hw 142 rfl)) (wq hw 186 rfl) (wq hw 133 rfl) (by decide) (wq hw 118 rfl) (wq hw 191 rfl) (Hp.ins mp1) (c179_length hw hs (mp1 := mp1)) pd__I rfl rfl rfl rfl (by decide) (fun v D' h => ?_)
  obtain ⟨rfl, rfl⟩ := h
  show W _ _ _ _ _ _ _ _ _ _ _ _ 4 _ [(vi 5)]
  exact W.ireturn d34_4 rfl (Or.inl rfl) rfl (by decide) ⟨rfl, rfl⟩
theorem c182_checkLength {Z a0} (hw : HW a0 Z) (hs : SF Z) {F : List Ent} : Con Z EL y39 y39b 2 y39r (rmm 0 0 0 0) [(vi 0), (vi 5)] (F) (fun v D' => (v = none ∧ F = D')) := by
  refine Con.of (ls := #[iv 0, iv 5]) (by decide +kernel) rfl ?_
  refine W.iloadN d39_0 rfl ?_
  refine W.iloadN d39_1 rfl ?_
  refine W.icmpY 37 d39_2 (y_ge (by decide)) (by decide) ?_
  exact W.return_ d39_37 rfl (by decide) ⟨rfl, rfl⟩
theorem ix5 : Idx (5 : Int32) 5 := by unfold Idx; decide
theorem c183_min {Z a0} (hw : HW a0 Z) (hs : SF Z) {F : List Ent} : Con Z EL y18 y18b 2 y18r (rmm 0 0 0 0) [(vi 16), (vi 5)] (F) (fun v D' => (v = some (vi 5) ∧ F = D')) := by
  refine Con.of (ls := #[iv 16, iv 5]) (by decide +kernel) rfl ?_
  refine W.iloadN d40_0 rfl ?_
  refine W.iloadN d40_1 rfl ?_
  refine W.icmpY 9 d40_2 (y_gt (by decide)) (by decide) ?_
  refine W.iloadN d40_9 rfl ?_
  exact W.ireturn d40_10 rfl (Or.inl rfl) rfl (by decide) ⟨rfl, rfl⟩
theorem c181_copyOfRangeByte {Z a0} (hw : HW a0 Z) (hs : SF Z) {p1 : Addr} {x1 : Int32} (hx1 : (45 ≤ x1.toInt ∧ x1.toInt ≤ 46) ∨ (48 ≤ x1.toInt ∧ x1.toInt ≤ 57) ∨ (65 ≤ x1.toInt ∧ x1.toInt ≤ 90) ∨ x1.toInt = 95 ∨ (97 ≤ x1.toInt ∧ x1.toInt ≤ 122)) {x2 : Int32} (hx2 : (45 ≤ x2.toInt ∧ x2.toInt ≤ 46) ∨ (48 ≤ x2.toInt ∧ x2.toInt ≤ 57) ∨ (65 ≤ x2.toInt ∧ x2.toInt ≤ 90) ∨ x2.toInt = 95 ∨ (97 ≤ x2.toInt ∧ x2.toInt ≤ 122)) {x3 : Int32} (hx3 : (45 ≤ x3.toInt ∧ x3.toInt ≤ 46) ∨ (48 ≤ x3.toInt ∧ x3.toInt ≤ 58) ∨ (65 ≤ x3.toInt ∧ x3.toInt ≤ 90) ∨ x3.toInt = 95 ∨ (97 ≤ x3.toInt ∧ x3.toInt ≤ 122)) {x4 : Int32} (hx4 : (45 ≤ x4.toInt ∧ x4.toInt ≤ 46) ∨ (48 ≤ x4.toInt ∧ x4.toInt ≤ 58) ∨ (65 ≤ x4.toInt ∧ x4.toInt ≤ 90) ∨ x4.toInt = 95 ∨ (97 ≤ x4.toInt ∧ x4.toInt ≤ 122)) {e_p1_5 e_p1_6 e_p1_7 e_p1_8 e_p1_9 e_p1_10 e_p1_11 e_p1_12 e_p1_13 e_p1_14 e_p1_15 : Value} {w_p1 : Bool} {ad_p1 : String} {F : List Ent} (mp1 : (p1, w_p1, ar ad_p1 .byte [(vi x1), (vi x2), (vi 47), (vi x3), (vi x4), e_p1_5, e_p1_6, e_p1_7, e_p1_8, e_p1_9, e_p1_10, e_p1_11, e_p1_12, e_p1_13, e_p1_14, e_p1_15]) ∈ F) : Con Z EL y40 y40b 5 y40r (rmm 1 1 5 48) [(vr p1), (vi 0), (vi 5)] (F) (fun v D' => (∃ a1 : Addr, v = some (vr a1) ∧ (a1, true, ar "[B" .byte [(vi x1), (vi x2), (vi 47), (vi x3), (vi x4)]) :: F = D')) := by
  refine Con.of (ls := #[rv p1, iv 0, iv 5, uu, uu]) (by decide +kernel) rfl ?_
  refine W.iloadN d38_0 rfl ?_
  refine W.iloadN d38_1 rfl ?_
  refine W.callS (as := [(vi 0), (vi 5)]) 0 [] d38_2 (wq hw 204 rfl) (wq hw 205 rfl) (wq hw 199 rfl) (wq hw 206 rfl) (c182_checkLength hw hs) (by decide) pd_II_V rfl rfl rfl rfl (by decide) (fun v D' h => ?_)
  obtain ⟨rfl, rfl⟩ := h
  show W _ _ _ _ _ _ _ _ _ _ _ _ 5 _ []
  refine W.iloadN d38_5 rfl ?_
  refine W.iloadN d38_6 rfl ?_
  refine W.isubK (5 : Int32) d38_7 (by decide) ?_
  refine W.istoreN (ls' := #[rv p1, iv 0, iv 5, iv 5, uu]) d38_8 rfl ?_
  refine W.iloadN d38_9 rfl ?_
  refine W.newarr 5 (ad := "[B") (ty := .byte) d38_10 rfl (wq hw 23 rfl) ix5 rfl (by decide) (by decide) (fun a1 => ?_)
  show W _ _ _ _ _ _ _ _ _ _ _ _ 12 _ [(vr a1)]
  refine W.astore (ls' := #[rv p1, iv 0, iv 5, iv 5, rv a1]) d38_12 rfl rfl ?_
  refine W.aloadN d38_14 rfl rfl ?_
  refine W.iloadN d38_15 rfl ?_
  refine W.aload 4 d38_16 rfl rfl ?_
  refine W.iconst (0) d38_18 (by decide) ?_
  refine W.aloadN d38_19 rfl rfl ?_
  refine W.alen (16) d38_20 (mS mp1) rfl ?_
  refine W.iloadN d38_21 rfl ?_
  refine W.isubK (16 : Int32) d38_22 (by decide) ?_
  refine W.iloadN d38_23 rfl ?_
  refine W.callS (as := [(vi 16), (vi 5)]) 4 [(vi 0), (vr a1), (vi 0), (vr p1)] d38_24 (wq hw 207 rfl) (wq hw 208 rfl) (wq hw 209 rfl) (wq hw 210 rfl) (c183_min hw hs) (by decide) pd_II_I rfl rfl rfl rfl (by decide) (fun v D' h => ?_)
  obtain ⟨rfl, rfl⟩ := h
  show W _ _ _ _ _ _ _ _ _ _ _ _ 27 _ [(vi 5), (vi 0), (vr a1), (vi 0), (vr p1)]
  refine W.cpy (D' := (a1, true, ar "[B" .byte [(vi x1), (vi x2), (vi 47), (vi x3), (vi x4)]) :: F) 0 0 0 5 0 d38_27 (wq hw 211 rfl) (wq hw 163 rfl) (wq hw 161 rfl) (wq hw 162 rfl) (mS mp1) rfl rfl ix0 ix0 ix5 ⟨Nat.le_of_ble_eq_true rfl, Nat.le_of_ble_eq_true rfl⟩ rfl rfl (by decide) rfl ?_
  refine W.aload 4 d38_30 rfl rfl ?_
  exact W.areturn d38_32 rfl rfl rfl (by decide) ⟨a1, rfl, rfl⟩
theorem c180_copyOfRange {Z a0} (hw : HW a0 Z) (hs : SF Z) {p1 : Addr} {x1 : Int32} (hx1 : (45 ≤ x1.toInt ∧ x1.toInt ≤ 46) ∨ (48 ≤ x1.toInt ∧ x1.toInt ≤ 57) ∨ (65 ≤ x1.toInt ∧ x1.toInt ≤ 90) ∨ x1.toInt = 95 ∨ (97 ≤ x1.toInt ∧ x1.toInt ≤ 122)) {x2 : Int32} (hx2 : (45 ≤ x2.toInt ∧ x2.toInt ≤ 46) ∨ (48 ≤ x2.toInt ∧ x2.toInt ≤ 57) ∨ (65 ≤ x2.toInt ∧ x2.toInt ≤ 90) ∨ x2.toInt = 95 ∨ (97 ≤ x2.toInt ∧ x2.toInt ≤ 122)) {x3 : Int32} (hx3 : (45 ≤ x3.toInt ∧ x3.toInt ≤ 46) ∨ (48 ≤ x3.toInt ∧ x3.toInt ≤ 58) ∨ (65 ≤ x3.toInt ∧ x3.toInt ≤ 90) ∨ x3.toInt = 95 ∨ (97 ≤ x3.toInt ∧ x3.toInt ≤ 122)) {x4 : Int32} (hx4 : (45 ≤ x4.toInt ∧ x4.toInt ≤ 46) ∨ (48 ≤ x4.toInt ∧ x4.toInt ≤ 58) ∨ (65 ≤ x4.toInt ∧ x4.toInt ≤ 90) ∨ x4.toInt = 95 ∨ (97 ≤ x4.toInt ∧ x4.toInt ≤ 122)) {e_p1_5 e_p1_6 e_p1_7 e_p1_8 e_p1_9 e_p1_10 e_p1_11 e_p1_12 e_p1_13 e_p1_14 e_p1_15 : Value} {w_p1 : Bool} {ad_p1 : String} {F : List Ent} (mp1 : (p1, w_p1, ar ad_p1 .byte [(vi x1), (vi x2), (vi 47), (vi x3), (vi x4), e_p1_5, e_p1_6, e_p1_7, e_p1_8, e_p1_9, e_p1_10, e_p1_11, e_p1_12, e_p1_13, e_p1_14, e_p1_15]) ∈ F) : Con Z EL y41 y41b 3 y41r (rmm 2 1 5 64) [(vr p1), (vi 0), (vi 5)] (F) (fun v D' => (∃ a1 : Addr, v = some (vr a1) ∧ (a1, true, ar "[B" .byte [(vi x1), (vi x2), (vi 47), (vi x3), (vi x4)]) :: F = D')) := by
  refine Con.of (ls := #[rv p1, iv 0, iv 5]) (by decide +kernel) rfl ?_
  refine W.iloadN d37_0 rfl ?_
  refine W.ifN d37_1 (n_ne (by decide)) ?_
  refine W.iloadN d37_4 rfl ?_
  refine W.aloadN d37_5 rfl rfl ?_
  refine W.alen (16) d37_6 mp1 rfl ?_
  refine W.icmpN d37_7 (n_eq (by decide)) ?_
  refine W.aloadN d37_10 rfl rfl ?_
  refine W.iloadN d37_11 rfl ?_
  refine W.iloadN d37_12 rfl ?_
  refine W.callS (as := [(vr p1), (vi 0), (vi 5)]) 0 [] d37_13 (wq hw 201 rfl) (wq hw 202 rfl) (wq hw 199 rfl) (wq hw 203 rfl) (c181_copyOfRangeByte hw hs (hx1 := hx1) (hx2 := hx2) (hx3 := hx3) (hx4 := hx4) (mp1 := mp1)) (by decide) pd__BII__B rfl rfl rfl rfl (by decide) (fun v D' h => ?_)
  obtain ⟨a1, rfl, rfl⟩ := h
  show W _ _ _ _ _ _ _ _ _ _ _ _ 16 _ [(vr a1)]
  exact W.areturn d37_16 rfl rfl rfl (by decide) ⟨a1, rfl, rfl⟩
theorem c177_init {Z a0} (hw : HW a0 Z) (hs : SF Z) {p1 p2 p3 : Addr} {x1 : Int32} (hx1 : (45 ≤ x1.toInt ∧ x1.toInt ≤ 46) ∨ (48 ≤ x1.toInt ∧ x1.toInt ≤ 57) ∨ (65 ≤ x1.toInt ∧ x1.toInt ≤ 90) ∨ x1.toInt = 95 ∨ (97 ≤ x1.toInt ∧ x1.toInt ≤ 122)) {x2 : Int32} (hx2 : (45 ≤ x2.toInt ∧ x2.toInt ≤ 46) ∨ (48 ≤ x2.toInt ∧ x2.toInt ≤ 57) ∨ (65 ≤ x2.toInt ∧ x2.toInt ≤ 90) ∨ x2.toInt = 95 ∨ (97 ≤ x2.toInt ∧ x2.toInt ≤ 122)) {x3 : Int32} (hx3 : (45 ≤ x3.toInt ∧ x3.toInt ≤ 46) ∨ (48 ≤ x3.toInt ∧ x3.toInt ≤ 58) ∨ (65 ≤ x3.toInt ∧ x3.toInt ≤ 90) ∨ x3.toInt = 95 ∨ (97 ≤ x3.toInt ∧ x3.toInt ≤ 122)) {x4 : Int32} (hx4 : (45 ≤ x4.toInt ∧ x4.toInt ≤ 46) ∨ (48 ≤ x4.toInt ∧ x4.toInt ≤ 58) ∨ (65 ≤ x4.toInt ∧ x4.toInt ≤ 90) ∨ x4.toInt = 95 ∨ (97 ≤ x4.toInt ∧ x4.toInt ≤ 122)) {e_p3_5 e_p3_6 e_p3_7 e_p3_8 e_p3_9 e_p3_10 e_p3_11 e_p3_12 e_p3_13 e_p3_14 e_p3_15 : Value} {w_p2 : Bool} {w_p3 : Bool} {ad_p3 : String} {F : List Ent} (mp2 : (p2, w_p2, oStringBuilder (vr p3) (vi 0) (vi 5)) ∈ F) (mp3 : (p3, w_p3, ar ad_p3 .byte [(vi x1), (vi x2), (vi 47), (vi x3), (vi x4), e_p3_5, e_p3_6, e_p3_7, e_p3_8, e_p3_9, e_p3_10, e_p3_11, e_p3_12, e_p3_13, e_p3_14, e_p3_15]) ∈ F) : Con Z EL y42 y42b 5 y42r (rmm 3 1 5 79) [(vr p1), (vr p2), .null] ((p1, true, oString .null (vi 0)) :: F) (fun v D' => (∃ a1 : Addr, v = none ∧ (a1, true, ar "[B" .byte [(vi x1), (vi x2), (vi 47), (vi x3), (vi x4)]) :: (p1, true, oString (vr a1) (vi 0)) :: F = D')) := by
  refine Con.of (ls := #[rv p1, rv p2, .val .null, uu, uu]) (by decide +kernel) rfl ?_
  refine W.aloadN d32_0 rfl rfl ?_
  refine W.initO 0 d32_1 (wq hw 28 rfl) (wq hw 29 rfl) (wq hw 30 rfl) rfl rfl (by decide) ?_
  refine W.aloadN d32_4 rfl rfl ?_
  refine W.callV (as := []) 0 [] d32_5 (wq hw 179 rfl) (wq hw 180 rfl) (wq hw 182 rfl) (wq hw 182 rfl) (wq hw 181 rfl) (wq hw 118 rfl) (wq hw 183 rfl) (Hp.exa (mS mp2)) (c64_getValue hw hs (mp1 := (mS mp2))) (by decide) pd___B rfl rfl rfl rfl (by decide) (fun v D' h => ?_)
  obtain ⟨rfl, rfl⟩ := h
  show W _ _ _ _ _ _ _ _ _ _ _ _ 8 _ [(vr p3)]
  refine W.astoreN (ls' := #[rv p1, rv p2, .val .null, rv p3, uu]) d32_8 rfl rfl ?_
  refine W.aloadN d32_9 rfl rfl ?_
  refine W.callVN (as := []) 0 [] d32_10 (wq hw 184 rfl) (wq hw 185 rfl) (by rfl) (wq hw 140 rfl) (wq hw 142 rfl) (wq hw 187 rfl) (wq hw 188 rfl) (wq hw 110 rfl) (wq hw 189 rfl) (Hp.exa (mS mp2)) (c178_length hw hs (mp1 := (mS mp2))) (by decide) pd__I rfl rfl rfl rfl (by decide) (fun v D' h => ?_)
  obtain ⟨rfl, rfl⟩ := h
  show W _ _ _ _ _ _ _ _ _ _ _ _ 13 _ [(vi 5)]
  refine W.istore (ls' := #[rv p1, rv p2, .val .null, rv p3, iv 5]) d32_13 rfl ?_
  refine W.aloadN d32_15 rfl rfl ?_
  refine W.callV (as := []) 0 [] d32_16 (wq hw 192 rfl) (wq hw 193 rfl) (wq hw 195 rfl) (wq hw 195 rfl) (wq hw 194 rfl) (wq hw 118 rfl) (wq hw 196 rfl) (Hp.exa (mS mp2)) (c67_isLatin1 hw hs (mp1 := (mS mp2))) (by decide) pd__Z rfl rfl rfl rfl (by decide) (fun v D' h => ?_)
  obtain ⟨rfl, rfl⟩ := h
  show W _ _ _ _ _ _ _ _ _ _ _ _ 19 _ [(vi 1)]
  refine W.ifN d32_19 (n_eq (by decide)) ?_
  refine W.aloadN d32_22 rfl rfl ?_
  refine W.iconst (0) d32_23 (by decide) ?_
  refine W.putf (D' := (p1, true, oString .null (vi 0)) :: F) 0 1 d32_24 (wq hw 33 rfl) Via.refl rfl rfl (Or.inr ⟨(wq hw 34 rfl), rfl, rfl⟩) (wq hw 19 rfl) pfB (nw_byte (by decide)) (ft_byte (by decide)) rfl ?_
  refine W.aloadN d32_27 rfl rfl ?_
  refine W.aloadN d32_28 rfl rfl ?_
  refine W.iconst (0) d32_29 (by decide) ?_
  refine W.iload d32_30 rfl ?_
  refine W.callS (as := [(vr p3), (vi 0), (vi 5)]) 1 [(vr p1)] d32_32 (wq hw 197 rfl) (wq hw 198 rfl) (wq hw 199 rfl) (wq hw 200 rfl) (c180_copyOfRange hw hs (hx1 := hx1) (hx2 := hx2) (hx3 := hx3) (hx4 := hx4) (mp1 := (mS mp3))) (by decide) pd__BII__B rfl rfl rfl rfl (by decide) (fun v D' h => ?_)
  obtain ⟨a1, rfl, rfl⟩ := h
  show W _ _ _ _ _ _ _ _ _ _ _ _ 35 _ [(vr a1), (vr p1)]
  refine W.putf (D' := (a1, true, ar "[B" .byte [(vi x1), (vi x2), (vi 47), (vi x3), (vi x4)]) :: (p1, true, oString (vr a1) (vi 0)) :: F) 1 0 d32_35 (wq hw 31 rfl) Via.refl rfl rfl (Or.inr ⟨(wq hw 32 rfl), rfl, rfl⟩) (wq hw 19 rfl) pf_B rfl rfl rfl ?_
  refine W.goto 97 d32_38 (by decide) ?_
  exact W.return_ d32_97 rfl (by decide) ⟨a1, rfl, rfl⟩
theorem c176_init {Z a0} (hw : HW a0 Z) (hs : SF Z) {p1 p2 p3 : Addr} {x1 : Int32} (hx1 : (45 ≤ x1.toInt ∧ x1.toInt ≤ 46) ∨ (48 ≤ x1.toInt ∧ x1.toInt ≤ 57) ∨ (65 ≤ x1.toInt ∧ x1.toInt ≤ 90) ∨ x1.toInt = 95 ∨ (97 ≤ x1.toInt ∧ x1.toInt ≤ 122)) {x2 : Int32} (hx2 : (45 ≤ x2.toInt ∧ x2.toInt ≤ 46) ∨ (48 ≤ x2.toInt ∧ x2.toInt ≤ 57) ∨ (65 ≤ x2.toInt ∧ x2.toInt ≤ 90) ∨ x2.toInt = 95 ∨ (97 ≤ x2.toInt ∧ x2.toInt ≤ 122)) {x3 : Int32} (hx3 : (45 ≤ x3.toInt ∧ x3.toInt ≤ 46) ∨ (48 ≤ x3.toInt ∧ x3.toInt ≤ 58) ∨ (65 ≤ x3.toInt ∧ x3.toInt ≤ 90) ∨ x3.toInt = 95 ∨ (97 ≤ x3.toInt ∧ x3.toInt ≤ 122)) {x4 : Int32} (hx4 : (45 ≤ x4.toInt ∧ x4.toInt ≤ 46) ∨ (48 ≤ x4.toInt ∧ x4.toInt ≤ 58) ∨ (65 ≤ x4.toInt ∧ x4.toInt ≤ 90) ∨ x4.toInt = 95 ∨ (97 ≤ x4.toInt ∧ x4.toInt ≤ 122)) {e_p3_5 e_p3_6 e_p3_7 e_p3_8 e_p3_9 e_p3_10 e_p3_11 e_p3_12 e_p3_13 e_p3_14 e_p3_15 : Value} {w_p2 : Bool} {w_p3 : Bool} {ad_p3 : String} {F : List Ent} (mp2 : (p2, w_p2, oStringBuilder (vr p3) (vi 0) (vi 5)) ∈ F) (mp3 : (p3, w_p3, ar ad_p3 .byte [(vi x1), (vi x2), (vi 47), (vi x3), (vi x4), e_p3_5, e_p3_6, e_p3_7, e_p3_8, e_p3_9, e_p3_10, e_p3_11, e_p3_12, e_p3_13, e_p3_14, e_p3_15]) ∈ F) : Con Z EL y43 y43b 2 y43r (rmm 4 1 5 95) [(vr p1), (vr p2)] ((p1, true, oString .null (vi 0)) :: F) (fun v D' => (∃ a1 : Addr, v = none ∧ (a1, true, ar "[B" .byte [(vi x1), (vi x2), (vi 47), (vi x3), (vi x4)]) :: (p1, true, oString (vr a1) (vi 0)) :: F = D')) := by
  refine Con.of (ls := #[rv p1, rv p2]) (by decide +kernel) rfl ?_
  refine W.aloadN d31_0 rfl rfl ?_
  refine W.aloadN d31_1 rfl rfl ?_
  refine W.aconstNull d31_2 ?_
  refine W.callI (as := [(vr p2), .null]) 0 [] d31_3 rfl (wq hw 176 rfl) (wq hw 177 rfl) (wq hw 11 rfl) (wq hw 178 rfl) (c177_init hw hs (hx1 := hx1) (hx2 := hx2) (hx3 := hx3) (hx4 := hx4) (mp2 := mp2) (mp3 := mp3)) (by decide) pd_Ljava_lang_AbstractStringBuilder_Ljava_lang_Void__V rfl rfl rfl rfl (by decide) (fun v D' h => ?_)
  obtain ⟨a1, rfl, rfl⟩ := h
  show W _ _ _ _ _ _ _ _ _ _ _ _ 6 _ []
  exact W.return_ d31_6 rfl (by decide) ⟨a1, rfl, rfl⟩
theorem c175_toString {Z a0} (hw : HW a0 Z) (hs : SF Z) {p1 p2 : Addr} {x1 : Int32} (hx1 : (45 ≤ x1.toInt ∧ x1.toInt ≤ 46) ∨ (48 ≤ x1.toInt ∧ x1.toInt ≤ 57) ∨ (65 ≤ x1.toInt ∧ x1.toInt ≤ 90) ∨ x1.toInt = 95 ∨ (97 ≤ x1.toInt ∧ x1.toInt ≤ 122)) {x2 : Int32} (hx2 : (45 ≤ x2.toInt ∧ x2.toInt ≤ 46) ∨ (48 ≤ x2.toInt ∧ x2.toInt ≤ 57) ∨ (65 ≤ x2.toInt ∧ x2.toInt ≤ 90) ∨ x2.toInt = 95 ∨ (97 ≤ x2.toInt ∧ x2.toInt ≤ 122)) {x3 : Int32} (hx3 : (45 ≤ x3.toInt ∧ x3.toInt ≤ 46) ∨ (48 ≤ x3.toInt ∧ x3.toInt ≤ 58) ∨ (65 ≤ x3.toInt ∧ x3.toInt ≤ 90) ∨ x3.toInt = 95 ∨ (97 ≤ x3.toInt ∧ x3.toInt ≤ 122)) {x4 : Int32} (hx4 : (45 ≤ x4.toInt ∧ x4.toInt ≤ 46) ∨ (48 ≤ x4.toInt ∧ x4.toInt ≤ 58) ∨ (65 ≤ x4.toInt ∧ x4.toInt ≤ 90) ∨ x4.toInt = 95 ∨ (97 ≤ x4.toInt ∧ x4.toInt ≤ 122)) {e_p2_5 e_p2_6 e_p2_7 e_p2_8 e_p2_9 e_p2_10 e_p2_11 e_p2_12 e_p2_13 e_p2_14 e_p2_15 : Value} {w_p1 : Bool} {w_p2 : Bool} {ad_p2 : String} {F : List Ent} (mp1 : (p1, w_p1, oStringBuilder (vr p2) (vi 0) (vi 5)) ∈ F) (mp2 : (p2, w_p2, ar ad_p2 .byte [(vi x1), (vi x2), (vi 47), (vi x3), (vi x4), e_p2_5, e_p2_6, e_p2_7, e_p2_8, e_p2_9, e_p2_10, e_p2_11, e_p2_12, e_p2_13, e_p2_14, e_p2_15]) ∈ F) : Con Z EL y44 y44b 1 y44r (rmm 5 2 9 109) [(vr p1)] (F) (fun v D' => (∃ a1 a2 : Addr, v = some (vr a1) ∧ (a2, true, ar "[B" .byte [(vi x1), (vi x2), (vi 47), (vi x3), (vi x4)]) :: (a1, true, oString (vr a2) (vi 0)) :: F = D')) := by
  refine Con.of (ls := #[rv p1]) (by decide +kernel) rfl ?_
  refine W.new d30_0 (wq hw 172 rfl) (wq hw 19 rfl) (wq hw 11 rfl) (laString hw) (by decide) (by decide) (fun a1 => ?_)
  show W _ _ _ _ _ _ _ _ _ _ _ _ 3 _ [(vr a1)]
  refine W.dup d30_3 rfl ?_
  refine W.aloadN d30_4 rfl rfl ?_
  refine W.callI (as := [(vr p1)]) 1 [(vr a1)] d30_5 rfl (wq hw 173 rfl) (wq hw 174 rfl) (wq hw 11 rfl) (wq hw 175 rfl) (c176_init hw hs (hx1 := hx1) (hx2 := hx2) (hx3 := hx3) (hx4 := hx4) (mp2 := mp1) (mp3 := mp2)) (by decide) pd_Ljava_lang_StringBuilder__V rfl rfl rfl rfl (by decide) (fun v D' h => ?_)
  obtain ⟨a2, rfl, rfl⟩ := h
  show W _ _ _ _ _ _ _ _ _ _ _ _ 8 _ [(vr a1)]
  exact W.areturn d30_8 rfl rfl rfl (by decide) ⟨a1, a2, rfl, rfl⟩
theorem c169_toString {Z a0} (hw : HW a0 Z) (hs : SF Z) {p1 p2 p3 p4 p5 : Addr} {x1 : Int32} (hx1 : (45 ≤ x1.toInt ∧ x1.toInt ≤ 46) ∨ (48 ≤ x1.toInt ∧ x1.toInt ≤ 57) ∨ (65 ≤ x1.toInt ∧ x1.toInt ≤ 90) ∨ x1.toInt = 95 ∨ (97 ≤ x1.toInt ∧ x1.toInt ≤ 122)) {x2 : Int32} (hx2 : (45 ≤ x2.toInt ∧ x2.toInt ≤ 46) ∨ (48 ≤ x2.toInt ∧ x2.toInt ≤ 57) ∨ (65 ≤ x2.toInt ∧ x2.toInt ≤ 90) ∨ x2.toInt = 95 ∨ (97 ≤ x2.toInt ∧ x2.toInt ≤ 122)) {x3 : Int32} (hx3 : (45 ≤ x3.toInt ∧ x3.toInt ≤ 46) ∨ (48 ≤ x3.toInt ∧ x3.toInt ≤ 58) ∨ (65 ≤ x3.toInt ∧ x3.toInt ≤ 90) ∨ x3.toInt = 95 ∨ (97 ≤ x3.toInt ∧ x3.toInt ≤ 122)) {x4 : Int32} (hx4 : (45 ≤ x4.toInt ∧ x4.toInt ≤ 46) ∨ (48 ≤ x4.toInt ∧ x4.toInt ≤ 58) ∨ (65 ≤ x4.toInt ∧ x4.toInt ≤ 90) ∨ x4.toInt = 95 ∨ (97 ≤ x4.toInt ∧ x4.toInt ≤ 122)) {w_p1 : Bool} {w_p2 : Bool} {w_p4 : Bool} {ad_p4 : String} {w_p3 : Bool} {w_p5 : Bool} {ad_p5 : String} {F : List Ent} (mp1 : (p1, w_p1, oJobKey (vr p2) (vr p3)) ∈ F) (mp2 : (p2, w_p2, oString (vr p4) (vi 0)) ∈ F) (mp4 : (p4, w_p4, ar ad_p4 .byte [(vi x1), (vi x2)]) ∈ F) (mp3 : (p3, w_p3, oString (vr p5) (vi 0)) ∈ F) (mp5 : (p5, w_p5, ar ad_p5 .byte [(vi x3), (vi x4)]) ∈ F) : Con Z EL y45 y45b 1 y45r (rmm 6 6 37 121) [(vr p1)] (F) (fun v D' => (∃ a5 a6 : Addr, v = some (vr a5) ∧ (a6, true, ar "[B" .byte [(vi x1), (vi x2), (vi 47), (vi x3), (vi x4)]) :: (a5, true, oString (vr a6) (vi 0)) :: F = D')) := by
  refine Con.of (ls := #[rv p1]) (by decide +kernel) rfl ?_
  refine W.new d21_0 (wq hw 108 rfl) (wq hw 109 rfl) (wq hw 110 rfl) (laStringBuilder hw) (by decide) (by decide) (fun a1 => ?_)
  show W _ _ _ _ _ _ _ _ _ _ _ _ 3 _ [(vr a1)]
  refine W.dup d21_3 rfl ?_
  refine W.callI (as := []) 1 [(vr a1)] d21_4 rfl (wq hw 111 rfl) (wq hw 112 rfl) (wq hw 110 rfl) (wq hw 113 rfl) (c43_init hw hs) (by decide) pd__V rfl rfl rfl rfl (by decide) (fun v D' h => ?_)
  obtain ⟨a2, rfl, rfl⟩ := h
  show W _ _ _ _ _ _ _ _ _ _ _ _ 7 _ [(vr a1)]
  refine W.aloadN d21_7 rfl rfl ?_
  refine W.getf d21_8 (wq hw 94 rfl) Via.refl (mS (mS mp1)) m0 ?_
  refine W.callV (as := [(vr p2)]) 0 [] d21_11 (wq hw 126 rfl) (wq hw 127 rfl) (wq hw 129 rfl) (wq hw 129 rfl) (wq hw 128 rfl) (wq hw 110 rfl) (wq hw 130 rfl) (Hp.exa m1) (c147_append hw hs (hx1 := hx1) (hx2 := hx2) (mp2 := mp2) (mp4 := mp4)) (by decide) pd_Ljava_lang_String__Ljava_lang_StringBuilder_ rfl rfl rfl rfl (by decide) (fun v D' h => ?_)
  obtain ⟨rfl, rfl⟩ := h
  show W _ _ _ _ _ _ _ _ _ _ _ _ 14 _ [(vr a1)]
  refine W.ldcT 4 (vs := [(vi 47)]) rfl d21_14 (wq hw 164 rfl) (wS hw) m0 tx_2f (by decide) (by decide) (by decide) (fun a3 a4 => ?_)
  show W _ _ _ _ _ _ _ _ _ _ _ _ 16 _ [(vr a3), (vr a1)]
  refine W.front 3 (D' := (a1, true, oStringBuilder (vr a2) (vi 0) (vi 2)) :: (a3, false, oString (vr a4) (vi 0)) :: (a4, false, ar "" .byte [(vi 47)]) :: (a2, true, ar "[B" .byte [(vi x1), (vi x2), (vi 0), (vi 0), (vi 0), (vi 0), (vi 0), (vi 0), (vi 0), (vi 0), (vi 0), (vi 0), (vi 0), (vi 0), (vi 0), (vi 0)]) :: F) rfl rfl ?_
  refine W.front 3 (D' := (a2, true, ar "[B" .byte [(vi x1), (vi x2), (vi 0), (vi 0), (vi 0), (vi 0), (vi 0), (vi 0), (vi 0), (vi 0), (vi 0), (vi 0), (vi 0), (vi 0), (vi 0), (vi 0)]) :: (a1, true, oStringBuilder (vr a2) (vi 0) (vi 2)) :: (a3, false, oString (vr a4) (vi 0)) :: (a4, false, ar "" .byte [(vi 47)]) :: F) rfl rfl ?_
  refine W.callV (as := [(vr a3)]) 0 [] d21_16 (wq hw 126 rfl) (wq hw 127 rfl) (wq hw 129 rfl) (wq hw 129 rfl) (wq hw 128 rfl) (wq hw 110 rfl) (wq hw 130 rfl) (Hp.exa m1) (c151_append hw hs (hx1 := hx1) (mp2 := m0) (mp4 := m1)) (by decide) pd_Ljava_lang_String__Ljava_lang_StringBuilder_ rfl rfl rfl rfl (by decide) (fun v D' h => ?_)
  obtain ⟨rfl, rfl⟩ := h
  show W _ _ _ _ _ _ _ _ _ _ _ _ 19 _ [(vr a1)]
  refine W.aloadN d21_19 rfl rfl ?_
  refine W.getf d21_20 (wq hw 101 rfl) Via.refl (mS (mS (mS (mS mp1)))) m1 ?_
  refine W.callV (as := [(vr p3)]) 0 [] d21_23 (wq hw 126 rfl) (wq hw 127 rfl) (wq hw 129 rfl) (wq hw 129 rfl) (wq hw 128 rfl) (wq hw 110 rfl) (wq hw 130 rfl) (Hp.exa m1) (c170_append hw hs (hx1 := hx1) (hx3 := hx3) (hx4 := hx4) (mp2 := (mS (mS mp3))) (mp4 := (mS (mS mp5)))) (by decide) pd_Ljava_lang_String__Ljava_lang_StringBuilder_ rfl rfl rfl rfl (by decide) (fun v D' h => ?_)
  obtain ⟨rfl, rfl⟩ := h
  show W _ _ _ _ _ _ _ _ _ _ _ _ 26 _ [(vr a1)]
  refine W.callV (as := []) 0 [] d21_26 (wq hw 167 rfl) (wq hw 168 rfl) (wq hw 170 rfl) (wq hw 170 rfl) (wq hw 169 rfl) (wq hw 110 rfl) (wq hw 171 rfl) (Hp.exa m1) (c175_toString hw hs (hx1 := hx1) (hx2 := hx2) (hx3 := hx3) (hx4 := hx4) (mp1 := m1) (mp2 := m0)) (by decide) pd__Ljava_lang_String_ rfl rfl rfl rfl (by decide) (fun v D' h => ?_)
  obtain ⟨a5, a6, rfl, rfl⟩ := h
  show W _ _ _ _ _ _ _ _ _ _ _ _ 29 _ [(vr a5)]
  refine W.dropAt 2 (D' := (a6, true, ar "[B" .byte [(vi x1), (vi x2), (vi 47), (vi x3), (vi x4)]) :: (a5, true, oString (vr a6) (vi 0)) :: (a1, true, oStringBuilder (vr a2) (vi 0) (vi 5)) :: (a3, false, oString (vr a4) (vi 0)) :: (a4, false, ar "" .byte [(vi 47)]) :: F) rfl ?_
  refine W.dropAt 2 (D' := (a6, true, ar "[B" .byte [(vi x1), (vi x2), (vi 47), (vi x3), (vi x4)]) :: (a5, true, oString (vr a6) (vi 0)) :: (a3, false, oString (vr a4) (vi 0)) :: (a4, false, ar "" .byte [(vi 47)]) :: F) rfl ?_
  refine W.dropAt 2 (D' := (a6, true, ar "[B" .byte [(vi x1), (vi x2), (vi 47), (vi x3), (vi x4)]) :: (a5, true, oString (vr a6) (vi 0)) :: (a4, false, ar "" .byte [(vi 47)]) :: F) rfl ?_
  refine W.dropAt 2 (D' := (a6, true, ar "[B" .byte [(vi x1), (vi x2), (vi 47), (vi x3), (vi x4)]) :: (a5, true, oString (vr a6) (vi 0)) :: F) rfl ?_
  exact W.areturn d21_29 rfl rfl rfl (by decide) ⟨a5, a6, rfl, rfl⟩
theorem c184_length {Z a0} (hw : HW a0 Z) (hs : SF Z) {p1 p2 : Addr} {vs_p2 : List Value} (hvs_p2 : vs_p2.length = 5) {w_p1 : Bool} {w_p2 : Bool} {ad_p2 : String} {F : List Ent} (mp1 : (p1, w_p1, oString (vr p2) (vi 0)) ∈ F) (mp2 : (p2, w_p2, ar ad_p2 .byte vs_p2) ∈ F) : Con Z EL y9 y9b 1 y9r (rmm 1 0 0 13) [(vr p1)] (F) (fun v D' => (v = some (vi 5) ∧ F = D')) := by
  refine Con.of (ls := #[rv p1]) (by decide +kernel) rfl ?_
  refine W.aloadN d12_0 rfl rfl ?_
  refine W.getf d12_1 (wq hw 31 rfl) Via.refl mp1 m0 ?_
  refine W.alen (5) d12_4 mp2 (by rw [hvs_p2]; rfl) ?_
  refine W.aloadN d12_5 rfl rfl ?_
  refine W.callV (as := []) 1 [(vi 5)] d12_6 (wq hw 63 rfl) (wq hw 64 rfl) (wq hw 66 rfl) (wq hw 66 rfl) (wq hw 65 rfl) (wq hw 11 rfl) (wq hw 67 rfl) (Hp.exa mp1) (c15_coder hw hs (mp1 := mp1)) (by decide) pd__B rfl rfl rfl rfl (by decide) (fun v D' h => ?_)
  obtain ⟨rfl, rfl⟩ := h
  show W _ _ _ _ _ _ _ _ _ _ _ _ 9 _ [(vi 0), (vi 5)]
  refine W.ishrK (5 : Int32) d12_9 (by decide) ?_
  exact W.ireturn d12_10 rfl (Or.inl rfl) rfl (by decide) ⟨rfl, rfl⟩
theorem c188_checkIndex {Z a0} (hw : HW a0 Z) (hs : SF Z) {F : List Ent} : Con Z EL y11 y11b 3 y11r (rmm 0 0 0 0) [(vi 0), (vi 5), (sfv Z)] (F) (fun v D' => (v = some (vi 0) ∧ F = D')) := by
  refine Con.of (ls := #[iv 0, iv 5, .val (sfv Z)]) (by decide +kernel) (hent_of (ld1 rfl (ld1 rfl (ld1 (XT.cat1 hs.2.2.1) ld0))) rfl) ?_
  refine W.iloadN d18_0 rfl ?_
  refine W.ifN d18_1 (n_lt (by decide)) ?_
  refine W.iloadN d18_4 rfl ?_
  refine W.iloadN d18_5 rfl ?_
  refine W.icmpY 16 d18_6 (y_lt (by decide)) (by decide) ?_
  refine W.iloadN d18_16 rfl ?_
  exact W.ireturn d18_17 rfl (Or.inl rfl) rfl (by decide) ⟨rfl, rfl⟩
theorem c187_checkIndex {Z a0} (hw : HW a0 Z) (hs : SF Z) {F : List Ent} : Con Z EL y12 y12b 2 y12r (rmm 1 0 0 14) [(vi 0), (vi 5)] (F) (fun v D' => (v = none ∧ F = D')) := by
  refine Con.of (ls := #[iv 0, iv 5]) (by decide +kernel) rfl ?_
  refine W.iloadN d17_0 rfl ?_
  refine W.iloadN d17_1 rfl ?_
  refine W.gets d17_2 (wq hw 84 rfl) Via.refl hs.2.2.2.1 ?_
  refine W.callS (as := [(vi 0), (vi 5), (sfv Z)]) 0 [] d17_5 (wq hw 86 rfl) (wq hw 87 rfl) (wq hw 85 rfl) (wq hw 88 rfl) (c188_checkIndex hw hs) (by decide) pd_IILjava_util_function_BiFunction__I rfl rfl rfl rfl (by decide) (fun v D' h => ?_)
  obtain ⟨rfl, rfl⟩ := h
  show W _ _ _ _ _ _ _ _ _ _ _ _ 8 _ [(vi 0)]
  refine W.popv d17_8 rfl ?_
  exact W.return_ d17_9 rfl (by decide) ⟨rfl, rfl⟩
theorem c186_charAt {Z a0} (hw : HW a0 Z) (hs : SF Z) {p1 : Addr} {x1 : Int32} (hx1 : (45 ≤ x1.toInt ∧ x1.toInt ≤ 46) ∨ (48 ≤ x1.toInt ∧ x1.toInt ≤ 57) ∨ (65 ≤ x1.toInt ∧ x1.toInt ≤ 90) ∨ x1.toInt = 95 ∨ (97 ≤ x1.toInt ∧ x1.toInt ≤ 122)) {e_p1_1 e_p1_2 e_p1_3 e_p1_4 : Value} {w_p1 : Bool} {ad_p1 : String} {F : List Ent} (mp1 : (p1, w_p1, ar ad_p1 .byte [(vi x1), e_p1_1, e_p1_2, e_p1_3, e_p1_4]) ∈ F) : Con Z EL y13 y13b 2 y13r (rmm 2 0 0 27) [(vr p1), (vi 0)] (F) (fun v D' => (v = some (vi x1) ∧ F = D')) := by
  refine Con.of (ls := #[rv p1, iv 0]) (by decide +kernel) rfl ?_
  refine W.iloadN d16_0 rfl ?_
  refine W.aloadN d16_1 rfl rfl ?_
  refine W.alen (5) d16_2 mp1 rfl ?_
  refine W.callS (as := [(vi 0), (vi 5)]) 0 [] d16_3 (wq hw 81 rfl) (wq hw 82 rfl) (wq hw 11 rfl) (wq hw 83 rfl) (c187_checkIndex hw hs) (by decide) pd_II_V rfl rfl rfl rfl (by decide) (fun v D' h => ?_)
  obtain ⟨rfl, rfl⟩ := h
  show W _ _ _ _ _ _ _ _ _ _ _ _ 6 _ []
  refine W.aloadN d16_6 rfl rfl ?_
  refine W.iloadN d16_7 rfl ?_
  refine W.baload 0 d16_8 mp1 ix0 rfl ?_
  refine W.sipush (255) d16_9 (by decide) ?_
  refine W.iandK x1 d16_12 (z_and 8 256 (by decide) (by decide) (by decide) (by omega)) ?_
  refine W.i2cK x1 d16_13 (z_i2c (by omega)) ?_
  exact W.ireturn d16_14 rfl (Or.inr (Or.inr (Or.inr (Or.inl rfl)))) (nw_char (by omega)) (by decide) ⟨rfl, rfl⟩
theorem c185_charAt {Z a0} (hw : HW a0 Z) (hs : SF Z) {p1 p2 : Addr} {x1 : Int32} (hx1 : (45 ≤ x1.toInt ∧ x1.toInt ≤ 46) ∨ (48 ≤ x1.toInt ∧ x1.toInt ≤ 57) ∨ (65 ≤ x1.toInt ∧ x1.toInt ≤ 90) ∨ x1.toInt = 95 ∨ (97 ≤ x1.toInt ∧ x1.toInt ≤ 122)) {e_p2_1 e_p2_2 e_p2_3 e_p2_4 : Value} {w_p1 : Bool} {w_p2 : Bool} {ad_p2 : String} {F : List Ent} (mp1 : (p1, w_p1, oString (vr p2) (vi 0)) ∈ F) (mp2 : (p2, w_p2, ar ad_p2 .byte [(vi x1), e_p2_1, e_p2_2, e_p2_3, e_p2_4]) ∈ F) : Con Z EL y14 y14b 2 y14r (rmm 3 0 0 40) [(vr p1), (vi 0)] (F) (fun v D' => (v = some (vi x1) ∧ F = D')) := by
  refine Con.of (ls := #[rv p1, iv 0]) (by decide +kernel) rfl ?_
  refine W.aloadN d14_0 rfl rfl ?_
  refine W.callV (as := []) 0 [] d14_1 (wq hw 73 rfl) (wq hw 74 rfl) (wq hw 76 rfl) (wq hw 76 rfl) (wq hw 75 rfl) (wq hw 11 rfl) (wq hw 77 rfl) (Hp.exa mp1) (c17_isLatin1 hw hs (mp1 := mp1)) (by decide) pd__Z rfl rfl rfl rfl (by decide) (fun v D' h => ?_)
  obtain ⟨rfl, rfl⟩ := h
  show W _ _ _ _ _ _ _ _ _ _ _ _ 4 _ [(vi 1)]
  refine W.ifN d14_4 (n_eq (by decide)) ?_
  refine W.aloadN d14_7 rfl rfl ?_
  refine W.getf d14_8 (wq hw 31 rfl) Via.refl mp1 m0 ?_
  refine W.iloadN d14_11 rfl ?_
  refine W.callS (as := [(vr p2), (vi 0)]) 0 [] d14_12 (wq hw 78 rfl) (wq hw 79 rfl) (wq hw 16 rfl) (wq hw 80 rfl) (c186_charAt hw hs (hx1 := hx1) (mp1 := mp2)) (by decide) pd__BI_C rfl rfl rfl rfl (by decide) (fun v D' h => ?_)
  obtain ⟨rfl, rfl⟩ := h
  show W _ _ _ _ _ _ _ _ _ _ _ _ 15 _ [(vi x1)]
  exact W.ireturn d14_15 rfl (Or.inr (Or.inr (Or.inr (Or.inl rfl)))) (nw_char (by omega)) (by decide) ⟨rfl, rfl⟩
theorem c192_checkIndex {Z a0} (hw : HW a0 Z) (hs : SF Z) {F : List Ent} : Con Z EL y11 y11b 3 y11r (rmm 0 0 0 0) [(vi 1), (vi 5), (sfv Z)] (F) (fun v D' => (v = some (vi 1) ∧ F = D')) := by
  refine Con.of (ls := #[iv 1, iv 5, .val (sfv Z)]) (by decide +kernel) (hent_of (ld1 rfl (ld1 rfl (ld1 (XT.cat1 hs.2.2.1) ld0))) rfl) ?_
  refine W.iloadN d18_0 rfl ?_
  refine W.ifN d18_1 (n_lt (by decide)) ?_
  refine W.iloadN d18_4 rfl ?_
  refine W.iloadN d18_5 rfl ?_
  refine W.icmpY 16 d18_6 (y_lt (by decide)) (by decide) ?_
  refine W.iloadN d18_16 rfl ?_
  exact W.ireturn d18_17 rfl (Or.inl rfl) rfl (by decide) ⟨rfl, rfl⟩
theorem c191_checkIndex {Z a0} (hw : HW a0 Z) (hs : SF Z) {F : List Ent} : Con Z EL y12 y12b 2 y12r (rmm 1 0 0 14) [(vi 1), (vi 5)] (F) (fun v D' => (v = none ∧ F = D')) := by
  refine Con.of (ls := #[iv 1, iv 5]) (by decide +kernel) rfl ?_
  refine W.iloadN d17_0 rfl ?_
  refine W.iloadN d17_1 rfl ?_
  refine W.gets d17_2 (wq hw 84 rfl) Via.refl hs.2.2.2.1 ?_
  refine W.callS (as := [(vi 1), (vi 5), (sfv Z)]) 0 [] d17_5 (wq hw 86 rfl) (wq hw 87 rfl) (wq hw 85 rfl) (wq hw 88 rfl) (c192_checkIndex hw hs) (by decide) pd_IILjava_util_function_BiFunction__I rfl rfl rfl rfl (by decide) (fun v D' h => ?_)
  obtain ⟨rfl, rfl⟩ := h
  show W _ _ _ _ _ _ _ _ _ _ _ _ 8 _ [(vi 1)]
  refine W.popv d17_8 rfl ?_
  exact W.return_ d17_9 rfl (by decide) ⟨rfl, rfl⟩
theorem c190_charAt {Z a0} (hw : HW a0 Z) (hs : SF Z) {p1 : Addr} {x2 : Int32} (hx2 : (45 ≤ x2.toInt ∧ x2.toInt ≤ 46) ∨ (48 ≤ x2.toInt ∧ x2.toInt ≤ 57) ∨ (65 ≤ x2.toInt ∧ x2.toInt ≤ 90) ∨ x2.toInt = 95 ∨ (97 ≤ x2.toInt ∧ x2.toInt ≤ 122)) {e_p1_0 e_p1_2 e_p1_3 e_p1_4 : Value} {w_p1 : Bool} {ad_p1 : String} {F : List Ent} (mp1 : (p1, w_p1, ar ad_p1 .byte [e_p1_0, (vi x2), e_p1_2, e_p1_3, e_p1_4]) ∈ F) : Con Z EL y13 y13b 2 y13r (rmm 2 0 0 27) [(vr p1), (vi 1)] (F) (fun v D' => (v = some (vi x2) ∧ F = D')) := by
  refine Con.of (ls := #[rv p1, iv 1]) (by decide +kernel) rfl ?_
  refine W.iloadN d16_0 rfl ?_
  refine W.aloadN d16_1 rfl rfl ?_
  refine W.alen (5) d16_2 mp1 rfl ?_
  refine W.callS (as := [(vi 1), (vi 5)]) 0 [] d16_3 (wq hw 81 rfl) (wq hw 82 rfl) (wq hw 11 rfl) (wq hw 83 rfl) (c191_checkIndex hw hs) (by decide) pd_II_V rfl rfl rfl rfl (by decide) (fun v D' h => ?_)
  obtain ⟨rfl, rfl⟩ := h
  show W _ _ _ _ _ _ _ _ _ _ _ _ 6 _ []
  refine W.aloadN d16_6 rfl rfl ?_
  refine W.iloadN d16_7 rfl ?_
  refine W.baload 1 d16_8 mp1 ix1 rfl ?_
  refine W.sipush (255) d16_9 (by decide) ?_
  refine W.iandK x2 d16_12 (z_and 8 256 (by decide) (by decide) (by decide) (by omega)) ?_
  refine W.i2cK x2 d16_13 (z_i2c (by omega)) ?_
  exact W.ireturn d16_14 rfl (Or.inr (Or.inr (Or.inr (Or.inl rfl)))) (nw_char (by omega)) (by decide) ⟨rfl, rfl⟩
theorem c189_charAt {Z a0} (hw : HW a0 Z) (hs : SF Z) {p1 p2 : Addr} {x2 : Int32} (hx2 : (45 ≤ x2.toInt ∧ x2.toInt ≤ 46) ∨ (48 ≤ x2.toInt ∧ x2.toInt ≤ 57) ∨ (65 ≤ x2.toInt ∧ x2.toInt ≤ 90) ∨ x2.toInt = 95 ∨ (97 ≤ x2.toInt ∧ x2.toInt ≤ 122)) {e_p2_0 e_p2_2 e_p2_3 e_p2_4 : Value} {w_p1 : Bool} {w_p2 : Bool} {ad_p2 : String} {F : List Ent} (mp1 : (p1, w_p1, oString (vr p2) (vi 0)) ∈ F) (mp2 : (p2, w_p2, ar ad_p2 .byte [e_p2_0, (vi x2), e_p2_2, e_p2_3, e_p2_4]) ∈ F) : Con Z EL y14 y14b 2 y14r (rmm 3 0 0 40) [(vr p1), (vi 1)] (F) (fun v D' => (v = some (vi x2) ∧ F = D')) := by
  refine Con.of (ls := #[rv p1, iv 1]) (by decide +kernel) rfl ?_
  refine W.aloadN d14_0 rfl rfl ?_
  refine W.callV (as := []) 0 [] d14_1 (wq hw 73 rfl) (wq hw 74 rfl) (wq hw 76 rfl) (wq hw 76 rfl) (wq hw 75 rfl) (wq hw 11 rfl) (wq hw 77 rfl) (Hp.exa mp1) (c17_isLatin1 hw hs (mp1 := mp1)) (by decide) pd__Z rfl rfl rfl rfl (by decide) (fun v D' h => ?_)
  obtain ⟨rfl, rfl⟩ := h
  show W _ _ _ _ _ _ _ _ _ _ _ _ 4 _ [(vi 1)]
  refine W.ifN d14_4 (n_eq (by decide)) ?_
  refine W.aloadN d14_7 rfl rfl ?_
  refine W.getf d14_8 (wq hw 31 rfl) Via.refl mp1 m0 ?_
  refine W.iloadN d14_11 rfl ?_
  refine W.callS (as := [(vr p2), (vi 1)]) 0 [] d14_12 (wq hw 78 rfl) (wq hw 79 rfl) (wq hw 16 rfl) (wq hw 80 rfl) (c190_charAt hw hs (hx2 := hx2) (mp1 := mp2)) (by decide) pd__BI_C rfl rfl rfl rfl (by decide) (fun v D' h => ?_)
  obtain ⟨rfl, rfl⟩ := h
  show W _ _ _ _ _ _ _ _ _ _ _ _ 15 _ [(vi x2)]
  exact W.ireturn d14_15 rfl (Or.inr (Or.inr (Or.inr (Or.inl rfl)))) (nw_char (by omega)) (by decide) ⟨rfl, rfl⟩
theorem c196_checkIndex {Z a0} (hw : HW a0 Z) (hs : SF Z) {F : List Ent} : Con Z EL y11 y11b 3 y11r (rmm 0 0 0 0) [(vi 2), (vi 5), (sfv Z)] (F) (fun v D' => (v = some (vi 2) ∧ F = D')) := by
  refine Con.of (ls := #[iv 2, iv 5, .val (sfv Z)]) (by decide +kernel) (hent_of (ld1 rfl (ld1 rfl (ld1 (XT.cat1 hs.2.2.1) ld0))) rfl) ?_
  refine W.iloadN d18_0 rfl ?_
  refine W.ifN d18_1 (n_lt (by decide)) ?_
  refine W.iloadN d18_4 rfl ?_
  refine W.iloadN d18_5 rfl ?_
  refine W.icmpY 16 d18_6 (y_lt (by decide)) (by decide) ?_
  refine W.iloadN d18_16 rfl ?_
  exact W.ireturn d18_17 rfl (Or.inl rfl) rfl (by decide) ⟨rfl, rfl⟩
theorem c195_checkIndex {Z a0} (hw : HW a0 Z) (hs : SF Z) {F : List Ent} : Con Z EL y12 y12b 2 y12r (rmm 1 0 0 14) [(vi 2), (vi 5)] (F) (fun v D' => (v = none ∧ F = D')) := by
  refine Con.of (ls := #[iv 2, iv 5]) (by decide +kernel) rfl ?_
  refine W.iloadN d17_0 rfl ?_
  refine W.iloadN d17_1 rfl ?_
  refine W.gets d17_2 (wq hw 84 rfl) Via.refl hs.2.2.2.1 ?_
  refine W.callS (as := [(vi 2), (vi 5), (sfv Z)]) 0 [] d17_5 (wq hw 86 rfl) (wq hw 87 rfl) (wq hw 85 rfl) (wq hw 88 rfl) (c196_checkIndex hw hs) (by decide) pd_IILjava_util_function_BiFunction__I rfl rfl rfl rfl (by decide) (fun v D' h => ?_)
  obtain ⟨rfl, rfl⟩ := h
  show W _ _ _ _ _ _ _ _ _ _ _ _ 8 _ [(vi 2)]
  refine W.popv d17_8 rfl ?_
  exact W.return_ d17_9 rfl (by decide) ⟨rfl, rfl⟩
theorem c194_charAt {Z a0} (hw : HW a0 Z) (hs : SF Z) {p1 : Addr} {e_p1_0 e_p1_1 e_p1_3 e_p1_4 : Value} {w_p1 : Bool} {ad_p1 : String} {F : List Ent} (mp1 : (p1, w_p1, ar ad_p1 .byte [e_p1_0, e_p1_1, (vi 47), e_p1_3, e_p1_4]) ∈ F) : Con Z EL y13 y13b 2 y13r (rmm 2 0 0 27) [(vr p1), (vi 2)] (F) (fun v D' => (v = some (vi 47) ∧ F = D')) := by
  refine Con.of (ls := #[rv p1, iv 2]) (by decide +kernel) rfl ?_
  refine W.iloadN d16_0 rfl ?_
  refine W.aloadN d16_1 rfl rfl ?_
  refine W.alen (5) d16_2 mp1 rfl ?_
  refine W.callS (as := [(vi 2), (vi 5)]) 0 [] d16_3 (wq hw 81 rfl) (wq hw 82 rfl) (wq hw 11 rfl) (wq hw 83 rfl) (c195_checkIndex hw hs) (by decide) pd_II_V rfl rfl rfl rfl (by decide) (fun v D' h => ?_)
  obtain ⟨rfl, rfl⟩ := h
  show W _ _ _ _ _ _ _ _ _ _ _ _ 6 _ []
  refine W.aloadN d16_6 rfl rfl ?_
  refine W.iloadN d16_7 rfl ?_
  refine W.baload 2 d16_8 mp1 ix2 rfl ?_
  refine W.sipush (255) d16_9 (by decide) ?_
  refine W.iandK (47 : Int32) d16_12 (by decide) ?_
  refine W.i2cK (47 : Int32) d16_13 (by decide) ?_
  exact W.ireturn d16_14 rfl (Or.inr (Or.inr (Or.inr (Or.inl rfl)))) (nw_char (by decide)) (by decide) ⟨rfl, rfl⟩
theorem c193_charAt {Z a0} (hw : HW a0 Z) (hs : SF Z) {p1 p2 : Addr} {e_p2_0 e_p2_1 e_p2_3 e_p2_4 : Value} {w_p1 : Bool} {w_p2 : Bool} {ad_p2 : String} {F : List Ent} (mp1 : (p1, w_p1, oString (vr p2) (vi 0)) ∈ F) (mp2 : (p2, w_p2, ar ad_p2 .byte [e_p2_0, e_p2_1, (vi 47), e_p2_3, e_p2_4]) ∈ F) : Con Z EL y14 y14b 2 y14r (rmm 3 0 0 40) [(vr p1), (vi 2)] (F) (fun v D' => (v = some (vi 47) ∧ F = D')) := by
  refine Con.of (ls := #[rv p1, iv 2]) (by decide +kernel) rfl ?_
  refine W.aloadN d14_0 rfl rfl ?_
  refine W.callV (as := []) 0 [] d14_1 (wq hw 73 rfl) (wq hw 74 rfl) (wq hw 76 rfl) (wq hw 76 rfl) (wq hw 75 rfl) (wq hw 11 rfl) (wq hw 77 rfl) (Hp.exa mp1) (c17_isLatin1 hw hs (mp1 := mp1)) (by decide) pd__Z rfl rfl rfl rfl (by decide) (fun v D' h => ?_)
  obtain ⟨rfl, rfl⟩ := h
  show W _ _ _ _ _ _ _ _ _ _ _ _ 4 _ [(vi 1)]
  refine W.ifN d14_4 (n_eq (by decide)) ?_
  refine W.aloadN d14_7 rfl rfl ?_
  refine W.getf d14_8 (wq hw 31 rfl) Via.refl mp1 m0 ?_
  refine W.iloadN d14_11 rfl ?_
  refine W.callS (as := [(vr p2), (vi 2)]) 0 [] d14_12 (wq hw 78 rfl) (wq hw 79 rfl) (wq hw 16 rfl) (wq hw 80 rfl) (c194_charAt hw hs (mp1 := mp2)) (by decide) pd__BI_C rfl rfl rfl rfl (by decide) (fun v D' h => ?_)
  obtain ⟨rfl, rfl⟩ := h
  show W _ _ _ _ _ _ _ _ _ _ _ _ 15 _ [(vi 47)]
  exact W.ireturn d14_15 rfl (Or.inr (Or.inr (Or.inr (Or.inl rfl)))) (nw_char (by decide)) (by decide) ⟨rfl, rfl⟩
theorem c200_checkIndex {Z a0} (hw : HW a0 Z) (hs : SF Z) {F : List Ent} : Con Z EL y11 y11b 3 y11r (rmm 0 0 0 0) [(vi 3), (vi 5), (sfv Z)] (F) (fun v D' => (v = some (vi 3) ∧ F = D')) := by
  refine Con.of (ls := #[iv 3, iv 5, .val (sfv Z)]) (by decide +kernel) (hent_of (ld1 rfl (ld1 rfl (ld1 (XT.cat1 hs.2.2.1) ld0))) rfl) ?_
  refine W.iloadN d18_0 rfl ?_
  refine W.ifN d18_1 (n_lt (by decide)) ?_
  refine W.iloadN d18_4 rfl ?_
  refine W.iloadN d18_5 rfl ?_
  refine W.icmpY 16 d18_6 (y_lt (by decide)) (by decide) ?_
  refine W.iloadN d18_16 rfl ?_
  exact W.ireturn d18_17 rfl (Or.inl rfl) rfl (by decide) ⟨rfl, rfl⟩
theorem c199_checkIndex {Z a0} (hw : HW a0 Z) (hs : SF Z) {F : List Ent} : Con Z EL y12 y12b 2 y12r (rmm 1 0 0 14) [(vi 3), (vi 5)] (F) (fun v D' => (v = none ∧ F = D')) := by
  refine Con.of (ls := #[iv 3, iv 5]) (by decide +kernel) rfl ?_
  refine W.iloadN d17_0 rfl ?_
  refine W.iloadN d17_1 rfl ?_
  refine W.gets d17_2 (wq hw 84 rfl) Via.refl hs.2.2.2.1 ?_
  refine W.callS (as := [(vi 3), (vi 5), (sfv Z)]) 0 [] d17_5 (wq hw 86 rfl) (wq hw 87 rfl) (wq hw 85 rfl) (wq hw 88 rfl) (c200_checkIndex hw hs) (by decide) pd_IILjava_util_function_BiFunction__I rfl rfl rfl rfl (by decide) (fun v D' h => ?_)
  obtain ⟨rfl, rfl⟩ := h
  show W _ _ _ _ _ _ _ _ _ _ _ _ 8 _ [(vi 3)]
  refine W.popv d17_8 rfl ?_
  exact W.return_ d17_9 rfl (by decide) ⟨rfl, rfl⟩
theorem c198_charAt {Z a0} (hw : HW a0 Z) (hs : SF Z) {p1 : Addr} {x3 : Int32} (hx3 : (45 ≤ x3.toInt ∧ x3.toInt ≤ 46) ∨ (48 ≤ x3.toInt ∧ x3.toInt ≤ 58) ∨ (65 ≤ x3.toInt ∧ x3.toInt ≤ 90) ∨ x3.toInt = 95 ∨ (97 ≤ x3.toInt ∧ x3.toInt ≤ 122)) {e_p1_0 e_p1_1 e_p1_2 e_p1_4 : Value} {w_p1 : Bool} {ad_p1 : String} {F : List Ent} (mp1 : (p1, w_p1, ar ad_p1 .byte [e_p1_0, e_p1_1, e_p1_2, (vi x3), e_p1_4]) ∈ F) : Con Z EL y13 y13b 2 y13r (rmm 2 0 0 27) [(vr p1), (vi 3)] (F) (fun v D' => (v = some (vi x3) ∧ F = D')) := by
  refine Con.of (ls := #[rv p1, iv 3]) (by decide +kernel) rfl ?_
  refine W.iloadN d16_0 rfl ?_
  refine W.aloadN d16_1 rfl rfl ?_
  refine W.alen (5) d16_2 mp1 rfl ?_
  refine W.callS (as := [(vi 3), (vi 5)]) 0 [] d16_3 (wq hw 81 rfl) (wq hw 82 rfl) (wq hw 11 rfl) (wq hw 83 rfl) (c199_checkIndex hw hs) (by decide) pd_II_V rfl rfl rfl rfl (by decide) (fun v D' h => ?_)
  obtain ⟨rfl, rfl⟩ := h
  show W _ _ _ _ _ _ _ _ _ _ _ _ 6 _ []
  refine W.aloadN d16_6 rfl rfl ?_
  refine W.iloadN d16_7 rfl ?_
  refine W.baload 3 d16_8 mp1 ix3 rfl ?_
  refine W.sipush (255) d16_9 (by decide) ?_
  refine W.iandK x3 d16_12 (z_and 8 256 (by decide) (by decide) (by decide) (by omega)) ?_
  refine W.i2cK x3 d16_13 (z_i2c (by omega)) ?_
  exact W.ireturn d16_14 rfl (Or.inr (Or.inr (Or.inr (Or.inl rfl)))) (nw_char (by omega)) (by decide) ⟨rfl, rfl⟩
theorem c197_charAt {Z a0} (hw : HW a0 Z) (hs : SF Z) {p1 p2 : Addr} {x3 : Int32} (hx3 : (45 ≤ x3.toInt ∧ x3.toInt ≤ 46) ∨ (48 ≤ x3.toInt ∧ x3.toInt ≤ 58) ∨ (65 ≤ x3.toInt ∧ x3.toInt ≤ 90) ∨ x3.toInt = 95 ∨ (97 ≤ x3.toInt ∧ x3.toInt ≤ 122)) {e_p2_0 e_p2_1 e_p2_2 e_p2_4 : Value} {w_p1 : Bool} {w_p2 : Bool} {ad_p2 : String} {F : List Ent} (mp1 : (p1, w_p1, oString (vr p2) (vi 0)) ∈ F) (mp2 : (p2, w_p2, ar ad_p2 .byte [e_p2_0, e_p2_1, e_p2_2, (vi x3), e_p2_4]) ∈ F) : Con Z EL y14 y14b 2 y14r (rmm 3 0 0 40) [(vr p1), (vi 3)] (F) (fun v D' => (v = some (vi x3) ∧ F = D')) := by
  refine Con.of (ls := #[rv p1, iv 3]) (by decide +kernel) rfl ?_
  refine W.aloadN d14_0 rfl rfl ?_
  refine W.callV (as := []) 0 [] d14_1 (wq hw 73 rfl) (wq hw 74 rfl) (wq hw 76 rfl) (wq hw 76 rfl) (wq hw 75 rfl) (wq hw 11 rfl) (wq hw 77 rfl) (Hp.exa mp1) (c17_isLatin1 hw hs (mp1 := mp1)) (by decide) pd__Z rfl rfl rfl rfl (by decide) (fun v D' h => ?_)
  obtain ⟨rfl, rfl⟩ := h
  show W _ _ _ _ _ _ _ _ _ _ _ _ 4 _ [(vi 1)]
  refine W.ifN d14_4 (n_eq (by decide)) ?_
  refine W.aloadN d14_7 rfl rfl ?_
  refine W.getf d14_8 (wq hw 31 rfl) Via.refl mp1 m0 ?_
  refine W.iloadN d14_11 rfl ?_
  refine W.callS (as := [(vr p2), (vi 3)]) 0 [] d14_12 (wq hw 78 rfl) (wq hw 79 rfl) (wq hw 16 rfl) (wq hw 80 rfl) (c198_charAt hw hs (hx3 := hx3) (mp1 := mp2)) (by decide) pd__BI_C rfl rfl rfl rfl (by decide) (fun v D' h => ?_)
  obtain ⟨rfl, rfl⟩ := h
  show W _ _ _ _ _ _ _ _ _ _ _ _ 15 _ [(vi x3)]
  exact W.ireturn d14_15 rfl (Or.inr (Or.inr (Or.inr (Or.inl rfl)))) (nw_char (by omega)) (by decide) ⟨rfl, rfl⟩
theorem c204_checkIndex {Z a0} (hw : HW a0 Z) (hs : SF Z) {F : List Ent} : Con Z EL y11 y11b 3 y11r (rmm 0 0 0 0) [(vi 4), (vi 5), (sfv Z)] (F) (fun v D' => (v = some (vi 4) ∧ F = D')) := by
  refine Con.of (ls := #[iv 4, iv 5, .val (sfv Z)]) (by decide +kernel) (hent_of (ld1 rfl (ld1 rfl (ld1 (XT.cat1 hs.2.2.1) ld0))) rfl) ?_
  refine W.iloadN d18_0 rfl ?_
  refine W.ifN d18_1 (n_lt (by decide)) ?_
  refine W.iloadN d18_4 rfl ?_
  refine W.iloadN d18_5 rfl ?_
  refine W.icmpY 16 d18_6 (y_lt (by decide)) (by decide) ?_
  refine W.iloadN d18_16 rfl ?_
  exact W.ireturn d18_17 rfl (Or.inl rfl) rfl (by decide) ⟨rfl, rfl⟩
theorem c203_checkIndex {Z a0} (hw : HW a0 Z) (hs : SF Z) {F : List Ent} : Con Z EL y12 y12b 2 y12r (rmm 1 0 0 14) [(vi 4), (vi 5)] (F) (fun v D' => (v = none ∧ F = D')) := by
  refine Con.of (ls := #[iv 4, iv 5]) (by decide +kernel) rfl ?_
  refine W.iloadN d17_0 rfl ?_
  refine W.iloadN d17_1 rfl ?_
  refine W.gets d17_2 (wq hw 84 rfl) Via.refl hs.2.2.2.1 ?_
  refine W.callS (as := [(vi 4), (vi 5), (sfv Z)]) 0 [] d17_5 (wq hw 86 rfl) (wq hw 87 rfl) (wq hw 85 rfl) (wq hw 88 rfl) (c204_checkIndex hw hs) (by decide) pd_IILjava_util_function_BiFunction__I rfl rfl rfl rfl (by decide) (fun v D' h => ?_)
  obtain ⟨rfl, rfl⟩ := h
  show W _ _ _ _ _ _ _ _ _ _ _ _ 8 _ [(vi 4)]
  refine W.popv d17_8 rfl ?_
  exact W.return_ d17_9 rfl (by decide) ⟨rfl, rfl⟩
theorem c202_charAt {Z a0} (hw : HW a0 Z) (hs : SF Z) {p1 : Addr} {x4 : Int32} (hx4 : (45 ≤ x4.toInt ∧ x4.toInt ≤ 46) ∨ (48 ≤ x4.toInt ∧ x4.toInt ≤ 58) ∨ (65 ≤ x4.toInt ∧ x4.toInt ≤ 90) ∨ x4.toInt = 95 ∨ (97 ≤ x4.toInt ∧ x4.toInt ≤ 122)) {e_p1_0 e_p1_1 e_p1_2 e_p1_3 : Value} {w_p1 : Bool} {ad_p1 : String} {F : List Ent} (mp1 : (p1, w_p1, ar ad_p1 .byte [e_p1_0, e_p1_1, e_p1_2, e_p1_3, (vi x4)]) ∈ F) : Con Z EL y13 y13b 2 y13r (rmm 2 0 0 27) [(vr p1), (vi 4)] (F) (fun v D' => (v = some (vi x4) ∧ F = D')) := by
  refine Con.of (ls := #[rv p1, iv 4]) (by decide +kernel) rfl ?_
  refine W.iloadN d16_0 rfl ?_
  refine W.aloadN d16_1 rfl rfl ?_
  refine W.alen (5) d16_2 mp1 rfl ?_
  refine W.callS (as := [(vi 4), (vi 5)]) 0 [] d16_3 (wq hw 81 rfl) (wq hw 82 rfl) (wq hw 11 rfl) (wq hw 83 rfl) (c203_checkIndex hw hs) (by decide) pd_II_V rfl rfl rfl rfl (by decide) (fun v D' h => ?_)
  obtain ⟨rfl, rfl⟩ := h
  show W _ _ _ _ _ _ _ _ _ _ _ _ 6 _ []
  refine W.aloadN d16_6 rfl rfl ?_
  refine W.iloadN d16_7 rfl ?_
  refine W.baload 4 d16_8 mp1 ix4 rfl ?_
  refine W.sipush (255) d16_9 (by decide) ?_
  refine W.iandK x4 d16_12 (z_and 8 256 (by decide) (by decide) (by decide) (by omega)) ?_
  refine W.i2cK x4 d16_13 (z_i2c (by omega)) ?_
  exact W.ireturn d16_14 rfl (Or.inr (Or.inr (Or.inr (Or.inl rfl)))) (nw_char (by omega)) (by decide) ⟨rfl, rfl⟩
theorem c201_charAt {Z a0} (hw : HW a0 Z) (hs : SF Z) {p1 p2 : Addr} {x4 : Int32} (hx4 : (45 ≤ x4.toInt ∧ x4.toInt ≤ 46) ∨ (48 ≤ x4.toInt ∧ x4.toInt ≤ 58) ∨ (65 ≤ x4.toInt ∧ x4.toInt ≤ 90) ∨ x4.toInt = 95 ∨ (97 ≤ x4.toInt ∧ x4.toInt ≤ 122)) {e_p2_0 e_p2_1 e_p2_2 e_p2_3 : Value} {w_p1 : Bool} {w_p2 : Bool} {ad_p2 : String} {F : List Ent} (mp1 : (p1, w_p1, oString (vr p2) (vi 0)) ∈ F) (mp2 : (p2, w_p2, ar ad_p2 .byte [e_p2_0, e_p2_1, e_p2_2, e_p2_3, (vi x4)]) ∈ F) : Con Z EL y14 y14b 2 y14r (rmm 3 0 0 40) [(vr p1), (vi 4)] (F) (fun v D' => (v = some (vi x4) ∧ F = D')) := by
  refine Con.of (ls := #[rv p1, iv 4]) (by decide +kernel) rfl ?_
  refine W.aloadN d14_0 rfl rfl ?_
  refine W.callV (as := []) 0 [] d14_1 (wq hw 73 rfl) (wq hw 74 rfl) (wq hw 76 rfl) (wq hw 76 rfl) (wq hw 75 rfl) (wq hw 11 rfl) (wq hw 77 rfl) (Hp.exa mp1) (c17_isLatin1 hw hs (mp1 := mp1)) (by decide) pd__Z rfl rfl rfl rfl (by decide) (fun v D' h => ?_)
  obtain ⟨rfl, rfl⟩ := h
  show W _ _ _ _ _ _ _ _ _ _ _ _ 4 _ [(vi 1)]
  refine W.ifN d14_4 (n_eq (by decide)) ?_
  refine W.aloadN d14_7 rfl rfl ?_
  refine W.getf d14_8 (wq hw 31 rfl) Via.refl mp1 m0 ?_
  refine W.iloadN d14_11 rfl ?_
  refine W.callS (as := [(vr p2), (vi 4)]) 0 [] d14_12 (wq hw 78 rfl) (wq hw 79 rfl) (wq hw 16 rfl) (wq hw 80 rfl) (c202_charAt hw hs (hx4 := hx4) (mp1 := mp2)) (by decide) pd__BI_C rfl rfl rfl rfl (by decide) (fun v D' h => ?_)
  obtain ⟨rfl, rfl⟩ := h
  show W _ _ _ _ _ _ _ _ _ _ _ _ 15 _ [(vi x4)]
  exact W.ireturn d14_15 rfl (Or.inr (Or.inr (Or.inr (Or.inl rfl)))) (nw_char (by omega)) (by decide) ⟨rfl, rfl⟩
set_option maxHeartbeats 4000000 in
theorem lawW {Z a0} (hw : HW a0 Z) (hs : SF Z) (z0 : Int32) (z1 : Int32) (z2 : Int32) (z3 : Int32) (z4 : Int32) : Con Z EL x code maxLocals ret room_1 [(vi z0), (vi z1), (vi z2), (vi z3), (vi z4)] (((og3 Z), false, ar "" .byte [(vi 46), (vi 95), (vi 45)]) :: ((og2 Z), false, oString (vr (og3 Z)) (vi 0)) :: ((og1 Z), false, oJobKey_NameRule (vi 64) (vr (og2 Z))) :: ((og6 Z), false, ar "" .byte [(vi 46), (vi 95), (vi 58), (vi 45)]) :: ((og5 Z), false, oString (vr (og6 Z)) (vi 0)) :: ((og4 Z), false, oJobKey_NameRule (vi 128) (vr (og5 Z))) :: []) (fun v _ => v = some (.int 1)) := by
  refine Con.of (ls := #[iv z0, iv z1, iv z2, iv z3, iv z4, uu, uu, uu, uu, uu, uu, uu, uu, uu, uu, uu, uu, uu, uu]) (by decide +kernel) rfl ?_
  show W Z EL _ "com/example/cunctator/cunctator/JobKeyToStringPinLaw" "law" _ _ _ _ _ _ _ _ _ _
  have K3 : ∀ (g2 : Int32), 0 ≤ g2.toInt ∧ g2.toInt ≤ 1 → W Z EL room_1 "com/example/cunctator/cunctator/JobKeyToStringPinLaw" "law" code maxLocals ret (fun v _ => v = some (.int 1)) (((og3 Z), false, ar "" .byte [(vi 46), (vi 95), (vi 45)]) :: ((og2 Z), false, oString (vr (og3 Z)) (vi 0)) :: ((og1 Z), false, oJobKey_NameRule (vi 64) (vr (og2 Z))) :: ((og6 Z), false, ar "" .byte [(vi 46), (vi 95), (vi 58), (vi 45)]) :: ((og5 Z), false, oString (vr (og6 Z)) (vi 0)) :: ((og4 Z), false, oJobKey_NameRule (vi 128) (vr (og5 Z))) :: []) 0 0 14 #[iv z0, iv z1, iv z2, iv z3, iv z4, iv g2, uu, uu, uu, uu, uu, uu, uu, uu, uu, uu, uu, uu, uu] [] := by
   intro g2 hg2
   have K6 : ∀ (g5 : Int32), 0 ≤ g5.toInt ∧ g5.toInt ≤ 1 → W Z EL room_1 "com/example/cunctator/cunctator/JobKeyToStringPinLaw" "law" code maxLocals ret (fun v _ => v = some (.int 1)) (((og3 Z), false, ar "" .byte [(vi 46), (vi 95), (vi 45)]) :: ((og2 Z), false, oString (vr (og3 Z)) (vi 0)) :: ((og1 Z), false, oJobKey_NameRule (vi 64) (vr (og2 Z))) :: ((og6 Z), false, ar "" .byte [(vi 46), (vi 95), (vi 58), (vi 45)]) :: ((og5 Z), false, oString (vr (og6 Z)) (vi 0)) :: ((og4 Z), false, oJobKey_NameRule (vi 128) (vr (og5 Z))) :: []) 0 0 28 #[iv z0, iv z1, iv z2, iv z3, iv z4, iv g2, iv g5, uu, uu, uu, uu, uu, uu, uu, uu, uu, uu, uu, uu] [] := by
    intro g5 hg5
    refine W.iloadN at_28 rfl ?_
    refine W.callS (as := [(vi z0)]) 0 [] at_29 (wq hw 0 rfl) (wq hw 1 rfl) (wq hw 2 rfl) (wq hw 3 rfl) (c1_topicCharm hw hs) (by decide) pd_I_C rfl rfl rfl rfl (by decide) (fun v D' h => ?_)
    obtain ⟨g7, hg7, rfl, rfl⟩ := h
    show W _ _ _ _ _ _ _ _ _ _ _ _ 32 _ [(vi g7)]
    refine W.istore (ls' := #[iv z0, iv z1, iv z2, iv z3, iv z4, iv g2, iv g5, iv g7, uu, uu, uu, uu, uu, uu, uu, uu, uu, uu, uu]) at_32 rfl ?_
    refine W.iloadN at_34 rfl ?_
    refine W.callS (as := [(vi z1)]) 0 [] at_35 (wq hw 0 rfl) (wq hw 1 rfl) (wq hw 2 rfl) (wq hw 3 rfl) (c1_topicCharm hw hs) (by decide) pd_I_C rfl rfl rfl rfl (by decide) (fun v D' h => ?_)
    obtain ⟨g8, hg8, rfl, rfl⟩ := h
    show W _ _ _ _ _ _ _ _ _ _ _ _ 38 _ [(vi g8)]
    refine W.istore (ls' := #[iv z0, iv z1, iv z2, iv z3, iv z4, iv g2, iv g5, iv g7, iv g8, uu, uu, uu, uu, uu, uu, uu, uu, uu, uu]) at_38 rfl ?_
    refine W.iloadN at_40 rfl ?_
    refine W.callS (as := [(vi z2)]) 0 [] at_41 (wq hw 5 rfl) (wq hw 6 rfl) (wq hw 2 rfl) (wq hw 7 rfl) (c2_idCharm hw hs) (by decide) pd_I_C rfl rfl rfl rfl (by decide) (fun v D' h => ?_)
    obtain ⟨g9, hg9, rfl, rfl⟩ := h
    show W _ _ _ _ _ _ _ _ _ _ _ _ 44 _ [(vi g9)]
    refine W.istore (ls' := #[iv z0, iv z1, iv z2, iv z3, iv z4, iv g2, iv g5, iv g7, iv g8, iv g9, uu, uu, uu, uu, uu, uu, uu, uu, uu]) at_44 rfl ?_
    refine W.iloadN at_46 rfl ?_
    refine W.callS (as := [(vi z3)]) 0 [] at_47 (wq hw 5 rfl) (wq hw 6 rfl) (wq hw 2 rfl) (wq hw 7 rfl) (c2_idCharm hw hs) (by decide) pd_I_C rfl rfl rfl rfl (by decide) (fun v D' h => ?_)
    obtain ⟨g10, hg10, rfl, rfl⟩ := h
    show W _ _ _ _ _ _ _ _ _ _ _ _ 50 _ [(vi g10)]
    refine W.istore (ls' := #[iv z0, iv z1, iv z2, iv z3, iv z4, iv g2, iv g5, iv g7, iv g8, iv g9, iv g10, uu, uu, uu, uu, uu, uu, uu, uu]) at_50 rfl ?_
    refine W.iconst (2) at_52 (by decide) ?_
    refine W.newarr 2 (ad := "[C") (ty := .char) at_53 rfl (wq hw 8 rfl) ix2 rfl (by decide) (by decide) (fun a11 => ?_)
    show W _ _ _ _ _ _ _ _ _ _ _ _ 55 _ [(vr a11)]
    refine W.astore (ls' := #[iv z0, iv z1, iv z2, iv z3, iv z4, iv g2, iv g5, iv g7, iv g8, iv g9, iv g10, rv a11, uu, uu, uu, uu, uu, uu, uu]) at_55 rfl rfl ?_
    refine W.aload 11 at_57 rfl rfl ?_
    refine W.iconst (0) at_59 (by decide) ?_
    refine W.iload at_60 rfl ?_
    refine W.castore (D' := (a11, true, ar "[C" .char [(vi g7), (vi 0)]) :: ((og3 Z), false, ar "" .byte [(vi 46), (vi 95), (vi 45)]) :: ((og2 Z), false, oString (vr (og3 Z)) (vi 0)) :: ((og1 Z), false, oJobKey_NameRule (vi 64) (vr (og2 Z))) :: ((og6 Z), false, ar "" .byte [(vi 46), (vi 95), (vi 58), (vi 45)]) :: ((og5 Z), false, oString (vr (og6 Z)) (vi 0)) :: ((og4 Z), false, oJobKey_NameRule (vi 128) (vr (og5 Z))) :: []) 0 0 at_62 rfl ix0 (Nat.le_of_ble_eq_true rfl) (z_narC (by omega)) rfl ?_
    refine W.aload 11 at_63 rfl rfl ?_
    refine W.iconst (1) at_65 (by decide) ?_
    refine W.iload at_66 rfl ?_
    refine W.castore (D' := (a11, true, ar "[C" .char [(vi g7), (vi g8)]) :: ((og3 Z), false, ar "" .byte [(vi 46), (vi 95), (vi 45)]) :: ((og2 Z), false, oString (vr (og3 Z)) (vi 0)) :: ((og1 Z), false, oJobKey_NameRule (vi 64) (vr (og2 Z))) :: ((og6 Z), false, ar "" .byte [(vi 46), (vi 95), (vi 58), (vi 45)]) :: ((og5 Z), false, oString (vr (og6 Z)) (vi 0)) :: ((og4 Z), false, oJobKey_NameRule (vi 128) (vr (og5 Z))) :: []) 0 1 at_68 rfl ix1 (Nat.le_of_ble_eq_true rfl) (z_narC (by omega)) rfl ?_
    refine W.iconst (2) at_69 (by decide) ?_
    refine W.newarr 2 (ad := "[C") (ty := .char) at_70 rfl (wq hw 8 rfl) ix2 rfl (by decide) (by decide) (fun a12 => ?_)
    show W _ _ _ _ _ _ _ _ _ _ _ _ 72 _ [(vr a12)]
    refine W.astore (ls' := #[iv z0, iv z1, iv z2, iv z3, iv z4, iv g2, iv g5, iv g7, iv g8, iv g9, iv g10, rv a11, rv a12, uu, uu, uu, uu, uu, uu]) at_72 rfl rfl ?_
    refine W.aload 12 at_74 rfl rfl ?_
    refine W.iconst (0) at_76 (by decide) ?_
    refine W.iload at_77 rfl ?_
    refine W.castore (D' := (a12, true, ar "[C" .char [(vi g9), (vi 0)]) :: (a11, true, ar "[C" .char [(vi g7), (vi g8)]) :: ((og3 Z), false, ar "" .byte [(vi 46), (vi 95), (vi 45)]) :: ((og2 Z), false, oString (vr (og3 Z)) (vi 0)) :: ((og1 Z), false, oJobKey_NameRule (vi 64) (vr (og2 Z))) :: ((og6 Z), false, ar "" .byte [(vi 46), (vi 95), (vi 58), (vi 45)]) :: ((og5 Z), false, oString (vr (og6 Z)) (vi 0)) :: ((og4 Z), false, oJobKey_NameRule (vi 128) (vr (og5 Z))) :: []) 0 0 at_79 rfl ix0 (Nat.le_of_ble_eq_true rfl) (z_narC (by omega)) rfl ?_
    refine W.aload 12 at_80 rfl rfl ?_
    refine W.iconst (1) at_82 (by decide) ?_
    refine W.iload at_83 rfl ?_
    refine W.castore (D' := (a12, true, ar "[C" .char [(vi g9), (vi g10)]) :: (a11, true, ar "[C" .char [(vi g7), (vi g8)]) :: ((og3 Z), false, ar "" .byte [(vi 46), (vi 95), (vi 45)]) :: ((og2 Z), false, oString (vr (og3 Z)) (vi 0)) :: ((og1 Z), false, oJobKey_NameRule (vi 64) (vr (og2 Z))) :: ((og6 Z), false, ar "" .byte [(vi 46), (vi 95), (vi 58), (vi 45)]) :: ((og5 Z), false, oString (vr (og6 Z)) (vi 0)) :: ((og4 Z), false, oJobKey_NameRule (vi 128) (vr (og5 Z))) :: []) 0 1 at_85 rfl ix1 (Nat.le_of_ble_eq_true rfl) (z_narC (by omega)) rfl ?_
    refine W.iload at_86 rfl ?_
    refine W.if 105 at_88 (by decide) (fun h1 => ?_) (fun h1 => ?_)
    ·
     have ih1 := t_eq h1
     refine W.iload at_105 rfl ?_
     refine W.callS (as := [(vi g7)]) 0 [] at_107 (wq hw 9 rfl) (wq hw 10 rfl) (wq hw 11 rfl) (wq hw 12 rfl) (c3_valueOf hw hs (hx1 := hg7)) (by decide) pd_C_Ljava_lang_String_ rfl rfl rfl rfl (by decide) (fun v D' h => ?_)
     obtain ⟨a13, a14, rfl, rfl⟩ := h
     show W _ _ _ _ _ _ _ _ _ _ _ _ 110 _ [(vr a13)]
     refine W.astore (ls' := #[iv z0, iv z1, iv z2, iv z3, iv z4, iv g2, iv g5, iv g7, iv g8, iv g9, iv g10, rv a11, rv a12, rv a13, uu, uu, uu, uu, uu]) at_110 rfl rfl ?_
     refine W.iload at_112 rfl ?_
     refine W.if 131 at_114 (by decide) (fun h2 => ?_) (fun h2 => ?_)
     ·
      have ih2 := t_eq h2
      refine W.iload at_131 rfl ?_
      refine W.callS (as := [(vi g9)]) 0 [] at_133 (wq hw 9 rfl) (wq hw 10 rfl) (wq hw 11 rfl) (wq hw 12 rfl) (c7_valueOf hw hs (hx1 := hg9)) (by decide) pd_C_Ljava_lang_String_ rfl rfl rfl rfl (by decide) (fun v D' h => ?_)
      obtain ⟨a15, a16, rfl, rfl⟩ := h
      show W _ _ _ _ _ _ _ _ _ _ _ _ 136 _ [(vr a15)]
      refine W.astore (ls' := #[iv z0, iv z1, iv z2, iv z3, iv z4, iv g2, iv g5, iv g7, iv g8, iv g9, iv g10, rv a11, rv a12, rv a13, rv a15, uu, uu, uu, uu]) at_136 rfl rfl ?_
      refine W.new at_138 (wq hw 35 rfl) (wq hw 36 rfl) (wq hw 37 rfl) (laJobKey hw) (by decide) (by decide) (fun a17 => ?_)
      show W _ _ _ _ _ _ _ _ _ _ _ _ 141 _ [(vr a17)]
      refine W.dup at_141 rfl ?_
      refine W.aload 13 at_142 rfl rfl ?_
      refine W.aload 14 at_144 rfl rfl ?_
      refine W.callI (as := [(vr a13), (vr a15)]) 1 [(vr a17)] at_146 rfl (wq hw 38 rfl) (wq hw 39 rfl) (wq hw 37 rfl) (wq hw 40 rfl) (c10_init hw hs (hx1 := hg7) (hx2 := hg9) (mog1Z := m8) (mp2 := m2) (mp4 := m3) (mog2Z := m7) (mog3Z := m6) (mog4Z := m11) (mp3 := m0) (mp5 := m1) (mog5Z := m10) (mog6Z := m9)) (by decide) pd_Ljava_lang_String_Ljava_lang_String__V rfl rfl rfl rfl (by decide) (fun v D' h => ?_)
      obtain ⟨rfl, rfl⟩ := h
      show W _ _ _ _ _ _ _ _ _ _ _ _ 149 _ [(vr a17)]
      refine W.astore (ls' := #[iv z0, iv z1, iv z2, iv z3, iv z4, iv g2, iv g5, iv g7, iv g8, iv g9, iv g10, rv a11, rv a12, rv a13, rv a15, rv a17, uu, uu, uu]) at_149 rfl rfl ?_
      refine W.aload 15 at_151 rfl rfl ?_
      refine W.callV (as := []) 0 [] at_153 (wq hw 103 rfl) (wq hw 104 rfl) (wq hw 106 rfl) (wq hw 106 rfl) (wq hw 105 rfl) (wq hw 37 rfl) (wq hw 107 rfl) (Hp.exa m0) (c42_toString hw hs (hx1 := hg7) (hx2 := hg9) (mp1 := m0) (mp2 := m3) (mp4 := m4) (mp3 := m1) (mp5 := m2)) (by decide) pd__Ljava_lang_String_ rfl rfl rfl rfl (by decide) (fun v D' h => ?_)
      obtain ⟨a18, a19, rfl, rfl⟩ := h
      show W _ _ _ _ _ _ _ _ _ _ _ _ 156 _ [(vr a18)]
      refine W.astore (ls' := #[iv z0, iv z1, iv z2, iv z3, iv z4, iv g2, iv g5, iv g7, iv g8, iv g9, iv g10, rv a11, rv a12, rv a13, rv a15, rv a17, rv a18, uu, uu]) at_156 rfl rfl ?_
      refine W.aload 16 at_158 rfl rfl ?_
      refine W.ifnonnullY 165 at_160 (by decide) ?_
      refine W.iload at_165 rfl ?_
      refine W.ifY 174 at_167 (y_eq (by have := q0; omega)) (by decide) ?_
      refine W.iconst (1) at_174 (by decide) ?_
      refine W.istore (ls' := #[iv z0, iv z1, iv z2, iv z3, iv z4, iv g2, iv g5, iv g7, iv g8, iv g9, iv g10, rv a11, rv a12, rv a13, rv a15, rv a17, rv a18, iv 1, uu]) at_175 rfl ?_
      refine W.iload at_177 rfl ?_
      refine W.ifY 186 at_179 (y_eq (by have := q0; omega)) (by decide) ?_
      refine W.iconst (1) at_186 (by decide) ?_
      refine W.istore (ls' := #[iv z0, iv z1, iv z2, iv z3, iv z4, iv g2, iv g5, iv g7, iv g8, iv g9, iv g10, rv a11, rv a12, rv a13, rv a15, rv a17, rv a18, iv 1, iv 1]) at_187 rfl ?_
      refine W.aload 16 at_189 rfl rfl ?_
      refine W.callV (as := []) 0 [] at_191 (wq hw 212 rfl) (wq hw 59 rfl) (wq hw 61 rfl) (wq hw 61 rfl) (wq hw 60 rfl) (wq hw 11 rfl) (wq hw 62 rfl) (Hp.exa m1) (c72_length hw hs (hvs_p2 := rfl) (mp1 := m1) (mp2 := m0)) (by decide) pd__I rfl rfl rfl rfl (by decide) (fun v D' h => ?_)
      obtain ⟨rfl, rfl⟩ := h
      show W _ _ _ _ _ _ _ _ _ _ _ _ 194 _ [(vi 3)]
      refine W.iload at_194 rfl ?_
      refine W.iconst (1) at_196 (by decide) ?_
      refine W.iaddK (2 : Int32) at_197 (by decide) ?_
      refine W.iload at_198 rfl ?_
      refine W.iaddK (3 : Int32) at_200 (by decide) ?_
      refine W.icmpY 206 at_201 (y_eq (by decide)) (by decide) ?_
      refine W.aload 16 at_206 rfl rfl ?_
      refine W.iconst (0) at_208 (by decide) ?_
      refine W.callV (as := [(vi 0)]) 0 [] at_209 (wq hw 213 rfl) (wq hw 69 rfl) (wq hw 71 rfl) (wq hw 71 rfl) (wq hw 70 rfl) (wq hw 11 rfl) (wq hw 72 rfl) (Hp.exa m1) (c73_charAt hw hs (hx1 := hg7) (mp1 := m1) (mp2 := m0)) (by decide) pd_I_C rfl rfl rfl rfl (by decide) (fun v D' h => ?_)
      obtain ⟨rfl, rfl⟩ := h
      show W _ _ _ _ _ _ _ _ _ _ _ _ 212 _ [(vi g7)]
      refine W.iload at_212 rfl ?_
      refine W.icmpY 219 at_214 (y_eq (by omega)) (by decide) ?_
      refine W.iload at_219 rfl ?_
      refine W.ifY 237 at_221 (y_eq (by have := q0; omega)) (by decide) ?_
      refine W.aload 16 at_237 rfl rfl ?_
      refine W.iload at_239 rfl ?_
      refine W.callV (as := [(vi 1)]) 0 [] at_241 (wq hw 213 rfl) (wq hw 69 rfl) (wq hw 71 rfl) (wq hw 71 rfl) (wq hw 70 rfl) (wq hw 11 rfl) (wq hw 72 rfl) (Hp.exa m1) (c77_charAt hw hs (mp1 := m1) (mp2 := m0)) (by decide) pd_I_C rfl rfl rfl rfl (by decide) (fun v D' h => ?_)
      obtain ⟨rfl, rfl⟩ := h
      show W _ _ _ _ _ _ _ _ _ _ _ _ 244 _ [(vi 47)]
      refine W.bipush (47) at_244 (by decide) ?_
      refine W.icmpY 251 at_246 (y_eq (by decide)) (by decide) ?_
      refine W.aload 16 at_251 rfl rfl ?_
      refine W.iload at_253 rfl ?_
      refine W.iconst (1) at_255 (by decide) ?_
      refine W.iaddK (2 : Int32) at_256 (by decide) ?_
      refine W.callV (as := [(vi 2)]) 0 [] at_257 (wq hw 213 rfl) (wq hw 69 rfl) (wq hw 71 rfl) (wq hw 71 rfl) (wq hw 70 rfl) (wq hw 11 rfl) (wq hw 72 rfl) (Hp.exa m1) (c81_charAt hw hs (hx2 := hg9) (mp1 := m1) (mp2 := m0)) (by decide) pd_I_C rfl rfl rfl rfl (by decide) (fun v D' h => ?_)
      obtain ⟨rfl, rfl⟩ := h
      show W _ _ _ _ _ _ _ _ _ _ _ _ 260 _ [(vi g9)]
      refine W.iload at_260 rfl ?_
      refine W.icmpY 267 at_262 (y_eq (by omega)) (by decide) ?_
      refine W.iload at_267 rfl ?_
      refine W.ifY 288 at_269 (y_eq (by have := q0; omega)) (by decide) ?_
      refine W.iconst (1) at_288 (by decide) ?_
      exact W.ireturn at_289 rfl (Or.inr (Or.inl rfl)) (nw_bool (by decide)) (by decide) rfl
     ·
      have ih2 := f_eq h2
      refine W.new at_117 (wq hw 214 rfl) (wq hw 19 rfl) (wq hw 11 rfl) (laString hw) (by decide) (by decide) (fun a20 => ?_)
      show W _ _ _ _ _ _ _ _ _ _ _ _ 120 _ [(vr a20)]
      refine W.dup at_120 rfl ?_
      refine W.aload 12 at_121 rfl rfl ?_
      refine W.callI (as := [(vr a12)]) 1 [(vr a20)] at_123 rfl (wq hw 215 rfl) (wq hw 216 rfl) (wq hw 11 rfl) (wq hw 217 rfl) (c85_init hw hs (hx1 := hg9) (hx2 := hg10) (mp2 := m2)) (by decide) pd__C_V rfl rfl rfl rfl (by decide) (fun v D' h => ?_)
      obtain ⟨a21, rfl, rfl⟩ := h
      show W _ _ _ _ _ _ _ _ _ _ _ _ 126 _ [(vr a20)]
      refine W.astore (ls' := #[iv z0, iv z1, iv z2, iv z3, iv z4, iv g2, iv g5, iv g7, iv g8, iv g9, iv g10, rv a11, rv a12, rv a13, rv a20, uu, uu, uu, uu]) at_126 rfl rfl ?_
      refine W.goto 138 at_128 (by decide) ?_
      refine W.new at_138 (wq hw 35 rfl) (wq hw 36 rfl) (wq hw 37 rfl) (laJobKey hw) (by decide) (by decide) (fun a22 => ?_)
      show W _ _ _ _ _ _ _ _ _ _ _ _ 141 _ [(vr a22)]
      refine W.dup at_141 rfl ?_
      refine W.aload 13 at_142 rfl rfl ?_
      refine W.aload 14 at_144 rfl rfl ?_
      refine W.callI (as := [(vr a13), (vr a20)]) 1 [(vr a22)] at_146 rfl (wq hw 38 rfl) (wq hw 39 rfl) (wq hw 37 rfl) (wq hw 40 rfl) (c90_init hw hs (hx1 := hg7) (hx2 := hg9) (hx3 := hg10) (mog1Z := m8) (mp2 := m2) (mp4 := m3) (mog2Z := m7) (mog3Z := m6) (mog4Z := m11) (mp3 := m1) (mp5 := m0) (mog5Z := m10) (mog6Z := m9)) (by decide) pd_Ljava_lang_String_Ljava_lang_String__V rfl rfl rfl rfl (by decide) (fun v D' h => ?_)
      obtain ⟨rfl, rfl⟩ := h
      show W _ _ _ _ _ _ _ _ _ _ _ _ 149 _ [(vr a22)]
      refine W.astore (ls' := #[iv z0, iv z1, iv z2, iv z3, iv z4, iv g2, iv g5, iv g7, iv g8, iv g9, iv g10, rv a11, rv a12, rv a13, rv a20, rv a22, uu, uu, uu]) at_149 rfl rfl ?_
      refine W.aload 15 at_151 rfl rfl ?_
      refine W.callV (as := []) 0 [] at_153 (wq hw 103 rfl) (wq hw 104 rfl) (wq hw 106 rfl) (wq hw 106 rfl) (wq hw 105 rfl) (wq hw 37 rfl) (wq hw 107 rfl) (Hp.exa m0) (c103_toString hw hs (hx1 := hg7) (hx2 := hg9) (hx3 := hg10) (mp1 := m0) (mp2 := m3) (mp4 := m4) (mp3 := m2) (mp5 := m1)) (by decide) pd__Ljava_lang_String_ rfl rfl rfl rfl (by decide) (fun v D' h => ?_)
      obtain ⟨a23, a24, rfl, rfl⟩ := h
      show W _ _ _ _ _ _ _ _ _ _ _ _ 156 _ [(vr a23)]
      refine W.astore (ls' := #[iv z0, iv z1, iv z2, iv z3, iv z4, iv g2, iv g5, iv g7, iv g8, iv g9, iv g10, rv a11, rv a12, rv a13, rv a20, rv a22, rv a23, uu, uu]) at_156 rfl rfl ?_
      refine W.aload 16 at_158 rfl rfl ?_
      refine W.ifnonnullY 165 at_160 (by decide) ?_
      refine W.iload at_165 rfl ?_
      refine W.ifY 174 at_167 (y_eq (by have := q0; omega)) (by decide) ?_
      refine W.iconst (1) at_174 (by decide) ?_
      refine W.istore (ls' := #[iv z0, iv z1, iv z2, iv z3, iv z4, iv g2, iv g5, iv g7, iv g8, iv g9, iv g10, rv a11, rv a12, rv a13, rv a20, rv a22, rv a23, iv 1, uu]) at_175 rfl ?_
      refine W.iload at_177 rfl ?_
      refine W.ifN at_179 (n_eq (by have := q0; omega)) ?_
      refine W.iconst (2) at_182 (by decide) ?_
      refine W.goto 187 at_183 (by decide) ?_
      refine W.istore (ls' := #[iv z0, iv z1, iv z2, iv z3, iv z4, iv g2, iv g5, iv g7, iv g8, iv g9, iv g10, rv a11, rv a12, rv a13, rv a20, rv a22, rv a23, iv 1, iv 2]) at_187 rfl ?_
      refine W.aload 16 at_189 rfl rfl ?_
      refine W.callV (as := []) 0 [] at_191 (wq hw 212 rfl) (wq hw 59 rfl) (wq hw 61 rfl) (wq hw 61 rfl) (wq hw 60 rfl) (wq hw 11 rfl) (wq hw 62 rfl) (Hp.exa m1) (c118_length hw hs (hvs_p2 := rfl) (mp1 := m1) (mp2 := m0)) (by decide) pd__I rfl rfl rfl rfl (by decide) (fun v D' h => ?_)
      obtain ⟨rfl, rfl⟩ := h
      show W _ _ _ _ _ _ _ _ _ _ _ _ 194 _ [(vi 4)]
      refine W.iload at_194 rfl ?_
      refine W.iconst (1) at_196 (by decide) ?_
      refine W.iaddK (2 : Int32) at_197 (by decide) ?_
      refine W.iload at_198 rfl ?_
      refine W.iaddK (4 : Int32) at_200 (by decide) ?_
      refine W.icmpY 206 at_201 (y_eq (by decide)) (by decide) ?_
      refine W.aload 16 at_206 rfl rfl ?_
      refine W.iconst (0) at_208 (by decide) ?_
      refine W.callV (as := [(vi 0)]) 0 [] at_209 (wq hw 213 rfl) (wq hw 69 rfl) (wq hw 71 rfl) (wq hw 71 rfl) (wq hw 70 rfl) (wq hw 11 rfl) (wq hw 72 rfl) (Hp.exa m1) (c119_charAt hw hs (hx1 := hg7) (mp1 := m1) (mp2 := m0)) (by decide) pd_I_C rfl rfl rfl rfl (by decide) (fun v D' h => ?_)
      obtain ⟨rfl, rfl⟩ := h
      show W _ _ _ _ _ _ _ _ _ _ _ _ 212 _ [(vi g7)]
      refine W.iload at_212 rfl ?_
      refine W.icmpY 219 at_214 (y_eq (by omega)) (by decide) ?_
      refine W.iload at_219 rfl ?_
      refine W.ifY 237 at_221 (y_eq (by have := q0; omega)) (by decide) ?_
      refine W.aload 16 at_237 rfl rfl ?_
      refine W.iload at_239 rfl ?_
      refine W.callV (as := [(vi 1)]) 0 [] at_241 (wq hw 213 rfl) (wq hw 69 rfl) (wq hw 71 rfl) (wq hw 71 rfl) (wq hw 70 rfl) (wq hw 11 rfl) (wq hw 72 rfl) (Hp.exa m1) (c123_charAt hw hs (mp1 := m1) (mp2 := m0)) (by decide) pd_I_C rfl rfl rfl rfl (by decide) (fun v D' h => ?_)
      obtain ⟨rfl, rfl⟩ := h
      show W _ _ _ _ _ _ _ _ _ _ _ _ 244 _ [(vi 47)]
      refine W.bipush (47) at_244 (by decide) ?_
      refine W.icmpY 251 at_246 (y_eq (by decide)) (by decide) ?_
      refine W.aload 16 at_251 rfl rfl ?_
      refine W.iload at_253 rfl ?_
      refine W.iconst (1) at_255 (by decide) ?_
      refine W.iaddK (2 : Int32) at_256 (by decide) ?_
      refine W.callV (as := [(vi 2)]) 0 [] at_257 (wq hw 213 rfl) (wq hw 69 rfl) (wq hw 71 rfl) (wq hw 71 rfl) (wq hw 70 rfl) (wq hw 11 rfl) (wq hw 72 rfl) (Hp.exa m1) (c127_charAt hw hs (hx2 := hg9) (mp1 := m1) (mp2 := m0)) (by decide) pd_I_C rfl rfl rfl rfl (by decide) (fun v D' h => ?_)
      obtain ⟨rfl, rfl⟩ := h
      show W _ _ _ _ _ _ _ _ _ _ _ _ 260 _ [(vi g9)]
      refine W.iload at_260 rfl ?_
      refine W.icmpY 267 at_262 (y_eq (by omega)) (by decide) ?_
      refine W.iload at_267 rfl ?_
      refine W.ifN at_269 (n_eq (by have := q0; omega)) ?_
      refine W.aload 16 at_272 rfl rfl ?_
      refine W.iload at_274 rfl ?_
      refine W.iconst (2) at_276 (by decide) ?_
      refine W.iaddK (3 : Int32) at_277 (by decide) ?_
      refine W.callV (as := [(vi 3)]) 0 [] at_278 (wq hw 213 rfl) (wq hw 69 rfl) (wq hw 71 rfl) (wq hw 71 rfl) (wq hw 70 rfl) (wq hw 11 rfl) (wq hw 72 rfl) (Hp.exa m1) (c131_charAt hw hs (hx3 := hg10) (mp1 := m1) (mp2 := m0)) (by decide) pd_I_C rfl rfl rfl rfl (by decide) (fun v D' h => ?_)
      obtain ⟨rfl, rfl⟩ := h
      show W _ _ _ _ _ _ _ _ _ _ _ _ 281 _ [(vi g10)]
      refine W.iload at_281 rfl ?_
      refine W.icmpY 288 at_283 (y_eq (by omega)) (by decide) ?_
      refine W.iconst (1) at_288 (by decide) ?_
      exact W.ireturn at_289 rfl (Or.inr (Or.inl rfl)) (nw_bool (by decide)) (by decide) rfl
    ·
     have ih1 := f_eq h1
     refine W.new at_91 (wq hw 214 rfl) (wq hw 19 rfl) (wq hw 11 rfl) (laString hw) (by decide) (by decide) (fun a25 => ?_)
     show W _ _ _ _ _ _ _ _ _ _ _ _ 94 _ [(vr a25)]
     refine W.dup at_94 rfl ?_
     refine W.aload 11 at_95 rfl rfl ?_
     refine W.callI (as := [(vr a11)]) 1 [(vr a25)] at_97 rfl (wq hw 215 rfl) (wq hw 216 rfl) (wq hw 11 rfl) (wq hw 217 rfl) (c135_init hw hs (hx1 := hg7) (hx2 := hg8) (mp2 := m1)) (by decide) pd__C_V rfl rfl rfl rfl (by decide) (fun v D' h => ?_)
     obtain ⟨a26, rfl, rfl⟩ := h
     show W _ _ _ _ _ _ _ _ _ _ _ _ 100 _ [(vr a25)]
     refine W.astore (ls' := #[iv z0, iv z1, iv z2, iv z3, iv z4, iv g2, iv g5, iv g7, iv g8, iv g9, iv g10, rv a11, rv a12, rv a25, uu, uu, uu, uu, uu]) at_100 rfl rfl ?_
     refine W.goto 112 at_102 (by decide) ?_
     refine W.iload at_112 rfl ?_
     refine W.if 131 at_114 (by decide) (fun h3 => ?_) (fun h3 => ?_)
     ·
      have ih3 := t_eq h3
      refine W.iload at_131 rfl ?_
      refine W.callS (as := [(vi g9)]) 0 [] at_133 (wq hw 9 rfl) (wq hw 10 rfl) (wq hw 11 rfl) (wq hw 12 rfl) (c7_valueOf hw hs (hx1 := hg9)) (by decide) pd_C_Ljava_lang_String_ rfl rfl rfl rfl (by decide) (fun v D' h => ?_)
      obtain ⟨a27, a28, rfl, rfl⟩ := h
      show W _ _ _ _ _ _ _ _ _ _ _ _ 136 _ [(vr a27)]
      refine W.astore (ls' := #[iv z0, iv z1, iv z2, iv z3, iv z4, iv g2, iv g5, iv g7, iv g8, iv g9, iv g10, rv a11, rv a12, rv a25, rv a27, uu, uu, uu, uu]) at_136 rfl rfl ?_
      refine W.new at_138 (wq hw 35 rfl) (wq hw 36 rfl) (wq hw 37 rfl) (laJobKey hw) (by decide) (by decide) (fun a29 => ?_)
      show W _ _ _ _ _ _ _ _ _ _ _ _ 141 _ [(vr a29)]
      refine W.dup at_141 rfl ?_
      refine W.aload 13 at_142 rfl rfl ?_
      refine W.aload 14 at_144 rfl rfl ?_
      refine W.callI (as := [(vr a25), (vr a27)]) 1 [(vr a29)] at_146 rfl (wq hw 38 rfl) (wq hw 39 rfl) (wq hw 37 rfl) (wq hw 40 rfl) (c139_init hw hs (hx1 := hg7) (hx2 := hg8) (hx3 := hg9) (mog1Z := m8) (mp2 := m3) (mp4 := m2) (mog2Z := m7) (mog3Z := m6) (mog4Z := m11) (mp3 := m0) (mp5 := m1) (mog5Z := m10) (mog6Z := m9)) (by decide) pd_Ljava_lang_String_Ljava_lang_String__V rfl rfl rfl rfl (by decide) (fun v D' h => ?_)
      obtain ⟨rfl, rfl⟩ := h
      show W _ _ _ _ _ _ _ _ _ _ _ _ 149 _ [(vr a29)]
      refine W.astore (ls' := #[iv z0, iv z1, iv z2, iv z3, iv z4, iv g2, iv g5, iv g7, iv g8, iv g9, iv g10, rv a11, rv a12, rv a25, rv a27, rv a29, uu, uu, uu]) at_149 rfl rfl ?_
      refine W.aload 15 at_151 rfl rfl ?_
      refine W.callV (as := []) 0 [] at_153 (wq hw 103 rfl) (wq hw 104 rfl) (wq hw 106 rfl) (wq hw 106 rfl) (wq hw 105 rfl) (wq hw 37 rfl) (wq hw 107 rfl) (Hp.exa m0) (c146_toString hw hs (hx1 := hg7) (hx2 := hg8) (hx3 := hg9) (mp1 := m0) (mp2 := m4) (mp4 := m3) (mp3 := m1) (mp5 := m2)) (by decide) pd__Ljava_lang_String_ rfl rfl rfl rfl (by decide) (fun v D' h => ?_)
      obtain ⟨a30, a31, rfl, rfl⟩ := h
      show W _ _ _ _ _ _ _ _ _ _ _ _ 156 _ [(vr a30)]
      refine W.astore (ls' := #[iv z0, iv z1, iv z2, iv z3, iv z4, iv g2, iv g5, iv g7, iv g8, iv g9, iv g10, rv a11, rv a12, rv a25, rv a27, rv a29, rv a30, uu, uu]) at_156 rfl rfl ?_
      refine W.aload 16 at_158 rfl rfl ?_
      refine W.ifnonnullY 165 at_160 (by decide) ?_
      refine W.iload at_165 rfl ?_
      refine W.ifN at_167 (n_eq (by have := q0; omega)) ?_
      refine W.iconst (2) at_170 (by decide) ?_
      refine W.goto 175 at_171 (by decide) ?_
      refine W.istore (ls' := #[iv z0, iv z1, iv z2, iv z3, iv z4, iv g2, iv g5, iv g7, iv g8, iv g9, iv g10, rv a11, rv a12, rv a25, rv a27, rv a29, rv a30, iv 2, uu]) at_175 rfl ?_
      refine W.iload at_177 rfl ?_
      refine W.ifY 186 at_179 (y_eq (by have := q0; omega)) (by decide) ?_
      refine W.iconst (1) at_186 (by decide) ?_
      refine W.istore (ls' := #[iv z0, iv z1, iv z2, iv z3, iv z4, iv g2, iv g5, iv g7, iv g8, iv g9, iv g10, rv a11, rv a12, rv a25, rv a27, rv a29, rv a30, iv 2, iv 1]) at_187 rfl ?_
      refine W.aload 16 at_189 rfl rfl ?_
      refine W.callV (as := []) 0 [] at_191 (wq hw 212 rfl) (wq hw 59 rfl) (wq hw 61 rfl) (wq hw 61 rfl) (wq hw 60 rfl) (wq hw 11 rfl) (wq hw 62 rfl) (Hp.exa m1) (c118_length hw hs (hvs_p2 := rfl) (mp1 := m1) (mp2 := m0)) (by decide) pd__I rfl rfl rfl rfl (by decide) (fun v D' h => ?_)
      obtain ⟨rfl, rfl⟩ := h
      show W _ _ _ _ _ _ _ _ _ _ _ _ 194 _ [(vi 4)]
      refine W.iload at_194 rfl ?_
      refine W.iconst (1) at_196 (by decide) ?_
      refine W.iaddK (3 : Int32) at_197 (by decide) ?_
      refine W.iload at_198 rfl ?_
      refine W.iaddK (4 : Int32) at_200 (by decide) ?_
      refine W.icmpY 206 at_201 (y_eq (by decide)) (by decide) ?_
      refine W.aload 16 at_206 rfl rfl ?_
      refine W.iconst (0) at_208 (by decide) ?_
      refine W.callV (as := [(vi 0)]) 0 [] at_209 (wq hw 213 rfl) (wq hw 69 rfl) (wq hw 71 rfl) (wq hw 71 rfl) (wq hw 70 rfl) (wq hw 11 rfl) (wq hw 72 rfl) (Hp.exa m1) (c119_charAt hw hs (hx1 := hg7) (mp1 := m1) (mp2 := m0)) (by decide) pd_I_C rfl rfl rfl rfl (by decide) (fun v D' h => ?_)
      obtain ⟨rfl, rfl⟩ := h
      show W _ _ _ _ _ _ _ _ _ _ _ _ 212 _ [(vi g7)]
      refine W.iload at_212 rfl ?_
      refine W.icmpY 219 at_214 (y_eq (by omega)) (by decide) ?_
      refine W.iload at_219 rfl ?_
      refine W.ifN at_221 (n_eq (by have := q0; omega)) ?_
      refine W.aload 16 at_224 rfl rfl ?_
      refine W.iconst (1) at_226 (by decide) ?_
      refine W.callV (as := [(vi 1)]) 0 [] at_227 (wq hw 213 rfl) (wq hw 69 rfl) (wq hw 71 rfl) (wq hw 71 rfl) (wq hw 70 rfl) (wq hw 11 rfl) (wq hw 72 rfl) (Hp.exa m1) (c164_charAt hw hs (hx2 := hg8) (mp1 := m1) (mp2 := m0)) (by decide) pd_I_C rfl rfl rfl rfl (by decide) (fun v D' h => ?_)
      obtain ⟨rfl, rfl⟩ := h
      show W _ _ _ _ _ _ _ _ _ _ _ _ 230 _ [(vi g8)]
      refine W.iload at_230 rfl ?_
      refine W.icmpY 237 at_232 (y_eq (by omega)) (by decide) ?_
      refine W.aload 16 at_237 rfl rfl ?_
      refine W.iload at_239 rfl ?_
      refine W.callV (as := [(vi 2)]) 0 [] at_241 (wq hw 213 rfl) (wq hw 69 rfl) (wq hw 71 rfl) (wq hw 71 rfl) (wq hw 70 rfl) (wq hw 11 rfl) (wq hw 72 rfl) (Hp.exa m1) (c166_charAt hw hs (mp1 := m1) (mp2 := m0)) (by decide) pd_I_C rfl rfl rfl rfl (by decide) (fun v D' h => ?_)
      obtain ⟨rfl, rfl⟩ := h
      show W _ _ _ _ _ _ _ _ _ _ _ _ 244 _ [(vi 47)]
      refine W.bipush (47) at_244 (by decide) ?_
      refine W.icmpY 251 at_246 (y_eq (by decide)) (by decide) ?_
      refine W.aload 16 at_251 rfl rfl ?_
      refine W.iload at_253 rfl ?_
      refine W.iconst (1) at_255 (by decide) ?_
      refine W.iaddK (3 : Int32) at_256 (by decide) ?_
      refine W.callV (as := [(vi 3)]) 0 [] at_257 (wq hw 213 rfl) (wq hw 69 rfl) (wq hw 71 rfl) (wq hw 71 rfl) (wq hw 70 rfl) (wq hw 11 rfl) (wq hw 72 rfl) (Hp.exa m1) (c131_charAt hw hs (hx3 := hg9) (mp1 := m1) (mp2 := m0)) (by decide) pd_I_C rfl rfl rfl rfl (by decide) (fun v D' h => ?_)
      obtain ⟨rfl, rfl⟩ := h
      show W _ _ _ _ _ _ _ _ _ _ _ _ 260 _ [(vi g9)]
      refine W.iload at_260 rfl ?_
      refine W.icmpY 267 at_262 (y_eq (by omega)) (by decide) ?_
      refine W.iload at_267 rfl ?_
      refine W.ifY 288 at_269 (y_eq (by have := q0; omega)) (by decide) ?_
      refine W.iconst (1) at_288 (by decide) ?_
      exact W.ireturn at_289 rfl (Or.inr (Or.inl rfl)) (nw_bool (by decide)) (by decide) rfl
     ·
      have ih3 := f_eq h3
      refine W.new at_117 (wq hw 214 rfl) (wq hw 19 rfl) (wq hw 11 rfl) (laString hw) (by decide) (by decide) (fun a32 => ?_)
      show W _ _ _ _ _ _ _ _ _ _ _ _ 120 _ [(vr a32)]
      refine W.dup at_120 rfl ?_
      refine W.aload 12 at_121 rfl rfl ?_
      refine W.callI (as := [(vr a12)]) 1 [(vr a32)] at_123 rfl (wq hw 215 rfl) (wq hw 216 rfl) (wq hw 11 rfl) (wq hw 217 rfl) (c85_init hw hs (hx1 := hg9) (hx2 := hg10) (mp2 := m2)) (by decide) pd__C_V rfl rfl rfl rfl (by decide) (fun v D' h => ?_)
      obtain ⟨a33, rfl, rfl⟩ := h
      show W _ _ _ _ _ _ _ _ _ _ _ _ 126 _ [(vr a32)]
      refine W.astore (ls' := #[iv z0, iv z1, iv z2, iv z3, iv z4, iv g2, iv g5, iv g7, iv g8, iv g9, iv g10, rv a11, rv a12, rv a25, rv a32, uu, uu, uu, uu]) at_126 rfl rfl ?_
      refine W.goto 138 at_128 (by decide) ?_
      refine W.new at_138 (wq hw 35 rfl) (wq hw 36 rfl) (wq hw 37 rfl) (laJobKey hw) (by decide) (by decide) (fun a34 => ?_)
      show W _ _ _ _ _ _ _ _ _ _ _ _ 141 _ [(vr a34)]
      refine W.dup at_141 rfl ?_
      refine W.aload 13 at_142 rfl rfl ?_
      refine W.aload 14 at_144 rfl rfl ?_
      refine W.callI (as := [(vr a25), (vr a32)]) 1 [(vr a34)] at_146 rfl (wq hw 38 rfl) (wq hw 39 rfl) (wq hw 37 rfl) (wq hw 40 rfl) (c168_init hw hs (hx1 := hg7) (hx2 := hg8) (hx3 := hg9) (hx4 := hg10) (mog1Z := m8) (mp2 := m3) (mp4 := m2) (mog2Z := m7) (mog3Z := m6) (mog4Z := m11) (mp3 := m1) (mp5 := m0) (mog5Z := m10) (mog6Z := m9)) (by decide) pd_Ljava_lang_String_Ljava_lang_String__V rfl rfl rfl rfl (by decide) (fun v D' h => ?_)
      obtain ⟨rfl, rfl⟩ := h
      show W _ _ _ _ _ _ _ _ _ _ _ _ 149 _ [(vr a34)]
      refine W.astore (ls' := #[iv z0, iv z1, iv z2, iv z3, iv z4, iv g2, iv g5, iv g7, iv g8, iv g9, iv g10, rv a11, rv a12, rv a25, rv a32, rv a34, uu, uu, uu]) at_149 rfl rfl ?_
      refine W.aload 15 at_151 rfl rfl ?_
      refine W.callV (as := []) 0 [] at_153 (wq hw 103 rfl) (wq hw 104 rfl) (wq hw 106 rfl) (wq hw 106 rfl) (wq hw 105 rfl) (wq hw 37 rfl) (wq hw 107 rfl) (Hp.exa m0) (c169_toString hw hs (hx1 := hg7) (hx2 := hg8) (hx3 := hg9) (hx4 := hg10) (mp1 := m0) (mp2 := m4) (mp4 := m3) (mp3 := m2) (mp5 := m1)) (by decide) pd__Ljava_lang_String_ rfl rfl rfl rfl (by decide) (fun v D' h => ?_)
      obtain ⟨a35, a36, rfl, rfl⟩ := h
      show W _ _ _ _ _ _ _ _ _ _ _ _ 156 _ [(vr a35)]
      refine W.astore (ls' := #[iv z0, iv z1, iv z2, iv z3, iv z4, iv g2, iv g5, iv g7, iv g8, iv g9, iv g10, rv a11, rv a12, rv a25, rv a32, rv a34, rv a35, uu, uu]) at_156 rfl rfl ?_
      refine W.aload 16 at_158 rfl rfl ?_
      refine W.ifnonnullY 165 at_160 (by decide) ?_
      refine W.iload at_165 rfl ?_
      refine W.ifN at_167 (n_eq (by have := q0; omega)) ?_
      refine W.iconst (2) at_170 (by decide) ?_
      refine W.goto 175 at_171 (by decide) ?_
      refine W.istore (ls' := #[iv z0, iv z1, iv z2, iv z3, iv z4, iv g2, iv g5, iv g7, iv g8, iv g9, iv g10, rv a11, rv a12, rv a25, rv a32, rv a34, rv a35, iv 2, uu]) at_175 rfl ?_
      refine W.iload at_177 rfl ?_
      refine W.ifN at_179 (n_eq (by have := q0; omega)) ?_
      refine W.iconst (2) at_182 (by decide) ?_
      refine W.goto 187 at_183 (by decide) ?_
      refine W.istore (ls' := #[iv z0, iv z1, iv z2, iv z3, iv z4, iv g2, iv g5, iv g7, iv g8, iv g9, iv g10, rv a11, rv a12, rv a25, rv a32, rv a34, rv a35, iv 2, iv 2]) at_187 rfl ?_
      refine W.aload 16 at_189 rfl rfl ?_
      refine W.callV (as := []) 0 [] at_191 (wq hw 212 rfl) (wq hw 59 rfl) (wq hw 61 rfl) (wq hw 61 rfl) (wq hw 60 rfl) (wq hw 11 rfl) (wq hw 62 rfl) (Hp.exa m1) (c184_length hw hs (hvs_p2 := rfl) (mp1 := m1) (mp2 := m0)) (by decide) pd__I rfl rfl rfl rfl (by decide) (fun v D' h => ?_)
      obtain ⟨rfl, rfl⟩ := h
      show W _ _ _ _ _ _ _ _ _ _ _ _ 194 _ [(vi 5)]
      refine W.iload at_194 rfl ?_
      refine W.iconst (1) at_196 (by decide) ?_
      refine W.iaddK (3 : Int32) at_197 (by decide) ?_
      refine W.iload at_198 rfl ?_
      refine W.iaddK (5 : Int32) at_200 (by decide) ?_
      refine W.icmpY 206 at_201 (y_eq (by decide)) (by decide) ?_
      refine W.aload 16 at_206 rfl rfl ?_
      refine W.iconst (0) at_208 (by decide) ?_
      refine W.callV (as := [(vi 0)]) 0 [] at_209 (wq hw 213 rfl) (wq hw 69 rfl) (wq hw 71 rfl) (wq hw 71 rfl) (wq hw 70 rfl) (wq hw 11 rfl) (wq hw 72 rfl) (Hp.exa m1) (c185_charAt hw hs (hx1 := hg7) (mp1 := m1) (mp2 := m0)) (by decide) pd_I_C rfl rfl rfl rfl (by decide) (fun v D' h => ?_)
      obtain ⟨rfl, rfl⟩ := h
      show W _ _ _ _ _ _ _ _ _ _ _ _ 212 _ [(vi g7)]
      refine W.iload at_212 rfl ?_
      refine W.icmpY 219 at_214 (y_eq (by omega)) (by decide) ?_
      refine W.iload at_219 rfl ?_
      refine W.ifN at_221 (n_eq (by have := q0; omega)) ?_
      refine W.aload 16 at_224 rfl rfl ?_
      refine W.iconst (1) at_226 (by decide) ?_
      refine W.callV (as := [(vi 1)]) 0 [] at_227 (wq hw 213 rfl) (wq hw 69 rfl) (wq hw 71 rfl) (wq hw 71 rfl) (wq hw 70 rfl) (wq hw 11 rfl) (wq hw 72 rfl) (Hp.exa m1) (c189_charAt hw hs (hx2 := hg8) (mp1 := m1) (mp2 := m0)) (by decide) pd_I_C rfl rfl rfl rfl (by decide) (fun v D' h => ?_)
      obtain ⟨rfl, rfl⟩ := h
      show W _ _ _ _ _ _ _ _ _ _ _ _ 230 _ [(vi g8)]
      refine W.iload at_230 rfl ?_
      refine W.icmpY 237 at_232 (y_eq (by omega)) (by decide) ?_
      refine W.aload 16 at_237 rfl rfl ?_
      refine W.iload at_239 rfl ?_
      refine W.callV (as := [(vi 2)]) 0 [] at_241 (wq hw 213 rfl) (wq hw 69 rfl) (wq hw 71 rfl) (wq hw 71 rfl) (wq hw 70 rfl) (wq hw 11 rfl) (wq hw 72 rfl) (Hp.exa m1) (c193_charAt hw hs (mp1 := m1) (mp2 := m0)) (by decide) pd_I_C rfl rfl rfl rfl (by decide) (fun v D' h => ?_)
      obtain ⟨rfl, rfl⟩ := h
      show W _ _ _ _ _ _ _ _ _ _ _ _ 244 _ [(vi 47)]
      refine W.bipush (47) at_244 (by decide) ?_
      refine W.icmpY 251 at_246 (y_eq (by decide)) (by decide) ?_
      refine W.aload 16 at_251 rfl rfl ?_
      refine W.iload at_253 rfl ?_
      refine W.iconst (1) at_255 (by decide) ?_
      refine W.iaddK (3 : Int32) at_256 (by decide) ?_
      refine W.callV (as := [(vi 3)]) 0 [] at_257 (wq hw 213 rfl) (wq hw 69 rfl) (wq hw 71 rfl) (wq hw 71 rfl) (wq hw 70 rfl) (wq hw 11 rfl) (wq hw 72 rfl) (Hp.exa m1) (c197_charAt hw hs (hx3 := hg9) (mp1 := m1) (mp2 := m0)) (by decide) pd_I_C rfl rfl rfl rfl (by decide) (fun v D' h => ?_)
      obtain ⟨rfl, rfl⟩ := h
      show W _ _ _ _ _ _ _ _ _ _ _ _ 260 _ [(vi g9)]
      refine W.iload at_260 rfl ?_
      refine W.icmpY 267 at_262 (y_eq (by omega)) (by decide) ?_
      refine W.iload at_267 rfl ?_
      refine W.ifN at_269 (n_eq (by have := q0; omega)) ?_
      refine W.aload 16 at_272 rfl rfl ?_
      refine W.iload at_274 rfl ?_
      refine W.iconst (2) at_276 (by decide) ?_
      refine W.iaddK (4 : Int32) at_277 (by decide) ?_
      refine W.callV (as := [(vi 4)]) 0 [] at_278 (wq hw 213 rfl) (wq hw 69 rfl) (wq hw 71 rfl) (wq hw 71 rfl) (wq hw 70 rfl) (wq hw 11 rfl) (wq hw 72 rfl) (Hp.exa m1) (c201_charAt hw hs (hx4 := hg10) (mp1 := m1) (mp2 := m0)) (by decide) pd_I_C rfl rfl rfl rfl (by decide) (fun v D' h => ?_)
      obtain ⟨rfl, rfl⟩ := h
      show W _ _ _ _ _ _ _ _ _ _ _ _ 281 _ [(vi g10)]
      refine W.iload at_281 rfl ?_
      refine W.icmpY 288 at_283 (y_eq (by omega)) (by decide) ?_
      refine W.iconst (1) at_288 (by decide) ?_
      exact W.ireturn at_289 rfl (Or.inr (Or.inl rfl)) (nw_bool (by decide)) (by decide) rfl
   refine W.iload at_14 rfl ?_
   refine W.iconst (2) at_16 (by decide) ?_
   refine W.iand at_17 ?_
   refine W.if 25 at_18 (by decide) (fun h4 => ?_) (fun h4 => ?_)
   ·
    have ih4 := t_eq h4
    refine W.iconst (0) at_25 (by decide) ?_
    refine W.istore (ls' := #[iv z0, iv z1, iv z2, iv z3, iv z4, iv g2, iv 0, uu, uu, uu, uu, uu, uu, uu, uu, uu, uu, uu, uu]) at_26 rfl ?_
    exact W.mono (by decide) (by decide) (K6 (0 : Int32) (by decide))
   ·
    have ih4 := f_eq h4
    refine W.iconst (1) at_21 (by decide) ?_
    refine W.goto 26 at_22 (by decide) ?_
    refine W.istore (ls' := #[iv z0, iv z1, iv z2, iv z3, iv z4, iv g2, iv 1, uu, uu, uu, uu, uu, uu, uu, uu, uu, uu, uu, uu]) at_26 rfl ?_
    exact W.mono (by decide) (by decide) (K6 (1 : Int32) (by decide))
  refine W.iload at_0 rfl ?_
  refine W.iconst (1) at_2 (by decide) ?_
  refine W.iand at_3 ?_
  refine W.if 11 at_4 (by decide) (fun h5 => ?_) (fun h5 => ?_)
  ·
   have ih5 := t_eq h5
   refine W.iconst (0) at_11 (by decide) ?_
   refine W.istore (ls' := #[iv z0, iv z1, iv z2, iv z3, iv z4, iv 0, uu, uu, uu, uu, uu, uu, uu, uu, uu, uu, uu, uu, uu]) at_12 rfl ?_
   exact W.mono (by decide) (by decide) (K3 (0 : Int32) (by decide))
  ·
   have ih5 := f_eq h5
   refine W.iconst (1) at_7 (by decide) ?_
   refine W.goto 12 at_8 (by decide) ?_
   refine W.istore (ls' := #[iv z0, iv z1, iv z2, iv z3, iv z4, iv 1, uu, uu, uu, uu, uu, uu, uu, uu, uu, uu, uu, uu, uu]) at_12 rfl ?_
   exact W.mono (by decide) (by decide) (K3 (1 : Int32) (by decide))
set_option maxRecDepth 65536 in
set_option maxHeartbeats 4000000 in
theorem comes_1 {Post : Tables → Env → Array Value → State → Outcome → State → Prop} (hpost : ∀ tb e args s v u, (limb_1_1.after args s (.returned v) u = true ∧ limb_1_2.after args s (.returned v) u = true ∧ True) → Jvm.D.FramedW s (.returned v) u (Jvm.fieldLocs frame_1_writes args s ++ Jvm.arrayLocs frame_1_arrays args s ++ Jvm.staticLocs frame_1_statics s) 32 1216 → Post tb e args s (.returned v) u) :
    ArmFor flags0 classFile x code maxLocals ret World_1 tables_1 room_1 Calls_1 rest_1 Pre_1 Post := by
  intro l hfl _ _ p e ha hc hk s m args below hf hA hF happ hP
  obtain ⟨hcalls, hrest, hpre⟩ := hP
  obtain ⟨-, -, -, hnamed, -, -, -, hat⟩ := (Spec.applies_iff hf).mp happ
  obtain ⟨hg, hn⟩ := and_e (Cond.before_iff.mp (show (Jvm.Cond.and given_1 narrow_1).before args s = true from hpre))
  obtain ⟨hcount, g0⟩ := and_e hg
  obtain ⟨w0, w1, w2, w3, w4, rfl⟩ : ∃ w0 w1 w2 w3 w4 : Value, args = #[w0, w1, w2, w3, w4] := by
    have hs : args.size = 5 := by simpa [Cond.value, given_1] using hcount
    obtain ⟨L⟩ := args
    match L, hs with
    | [w0, w1, w2, w3, w4], _ => exact ⟨w0, w1, w2, w3, w4, rfl⟩
  have hw := fun d (hd : d ∈ tables_1) => atoms_spec (ws := Jvm.Cond.code x code maxLocals ret :: tables_1) hat d (List.mem_cons_of_mem _ hd)
  have hsets := (atoms_of jdkStatics_1 (show (jdkStatics_1.foldr Jvm.Cond.and restOwn_1).before _ s = true from by rw [← rest_1_c_eq]; exact hrest)).1
  obtain ⟨k0, g1⟩ := and_e g0
  obtain ⟨k1, g2⟩ := and_e g1
  obtain ⟨k2, g3⟩ := and_e g2
  obtain ⟨k3, g4⟩ := and_e g3
  have k4 := g4
  obtain ⟨z0, y0⟩ := is_v k0
  obtain rfl : w0 = (.int z0) := Option.some.inj y0
  obtain ⟨z1, y1⟩ := is_v k1
  obtain rfl : w1 = (.int z1) := Option.some.inj y1
  obtain ⟨z2, y2⟩ := is_v k2
  obtain rfl : w2 = (.int z2) := Option.some.inj y2
  obtain ⟨z3, y3⟩ := is_v k3
  obtain rfl : w3 = (.int z3) := Option.some.inj y3
  obtain ⟨z4, y4⟩ := is_v k4
  obtain rfl : w4 = (.int z4) := Option.some.inj y4
  obtain ⟨n0, hn⟩ := and_e hn
  obtain ⟨n1, hn⟩ := and_e hn
  obtain ⟨n2, hn⟩ := and_e hn
  obtain ⟨n3, hn⟩ := and_e hn
  obtain ⟨n4, hn⟩ := and_e hn
  obtain ⟨n5, hn⟩ := and_e hn
  obtain ⟨n6, hn⟩ := and_e hn
  obtain ⟨n7, hn⟩ := and_e hn
  obtain ⟨n8, hn⟩ := and_e hn
  obtain ⟨n9, hn⟩ := and_e hn
  obtain ⟨n10, hn⟩ := and_e hn
  obtain ⟨n11, hn⟩ := and_e hn
  obtain ⟨n12, hn⟩ := and_e hn
  obtain ⟨n13, hn⟩ := and_e hn
  obtain ⟨n14, hn⟩ := and_e hn
  obtain ⟨n15, hn⟩ := and_e hn
  obtain ⟨n16, hn⟩ := and_e hn
  obtain ⟨n17, hn⟩ := and_e hn
  have n18 := hn
  have hSF : SF s := ⟨sf_int (hsets _ (List.mem_of_getElem? (i := 0) rfl)) (hsets _ (List.mem_of_getElem? (i := 1) rfl)), sf_nz (hsets _ (List.mem_of_getElem? (i := 1) rfl)) (hsets _ (List.mem_of_getElem? (i := 2) rfl)), sf_isref (hsets _ (List.mem_of_getElem? (i := 8) rfl)), sf_ref (hsets _ (List.mem_of_getElem? (i := 7) rfl)) (hsets _ (List.mem_of_getElem? (i := 8) rfl)), t_sta (Or.inr ⟨(wq hw 37 rfl), (wq hw 46 rfl)⟩) (exa_v n0), t_sta (Or.inr ⟨(wq hw 37 rfl), (wq hw 100 rfl)⟩) (exa_v n2), trivial⟩
  have hE : EW s _ EL.2 := (EW.cons (wq hw 164 rfl) (by decide) EW.nil)
  have hCH : CHv s EL.2 s.vm s.heap := CHv.start hE (fun q hq => hcalls.1 q hq) (hsets _ (List.mem_of_getElem? (i := 2) rfl)) (wq hw 23 rfl) (wq hw 19 rfl)
  have hHp := Hp.readOld (Hp.readOld (Hp.readOld (Hp.readOld (Hp.readOld (Hp.readOld (Hp.start hCH) (a := (og4 s)) (de := oJobKey_NameRule (vi 128) (vr (og5 s))) (⟨t_exa rfl n2, allF (t_fldI rfl n3) (allF (t_fldR rfl (exa_v n9)) (fun f hf => nomatch hf))⟩)) (a := (og5 s)) (de := oString (vr (og6 s)) (vi 0)) (⟨t_exa rfl n9, allF (t_fldR rfl (arr_v n11)) (allF (t_fldI rfl n10) (fun f hf => nomatch hf))⟩)) (a := (og6 s)) (de := ar "" .byte [(vi 46), (vi 95), (vi 58), (vi 45)]) (t_arr (t := (Jvm.Term.field (Jvm.Term.field (Jvm.Term.static "com/example/cunctator/cunctator/JobKey" "ID_RULE" "Lcom/example/cunctator/cunctator/JobKey$NameRule;") "com/example/cunctator/cunctator/JobKey$NameRule" "symbols" "Ljava/lang/String;") "java/lang/String" "value" "[B")) rfl n11 n12 (by unfold Idx; decide) ⟨eq_int_val n13, ⟨eq_int_val n14, ⟨eq_int_val n16, ⟨eq_int_val n18, trivial⟩⟩⟩⟩ (by decide))) (a := (og1 s)) (de := oJobKey_NameRule (vi 64) (vr (og2 s))) (⟨t_exa rfl n0, allF (t_fldI rfl n1) (allF (t_fldR rfl (exa_v n4)) (fun f hf => nomatch hf))⟩)) (a := (og2 s)) (de := oString (vr (og3 s)) (vi 0)) (⟨t_exa rfl n4, allF (t_fldR rfl (arr_v n6)) (allF (t_fldI rfl n5) (fun f hf => nomatch hf))⟩)) (a := (og3 s)) (de := ar "" .byte [(vi 46), (vi 95), (vi 45)]) (t_arr (t := (Jvm.Term.field (Jvm.Term.field (Jvm.Term.static "com/example/cunctator/cunctator/JobKey" "TOPIC_RULE" "Lcom/example/cunctator/cunctator/JobKey$NameRule;") "com/example/cunctator/cunctator/JobKey$NameRule" "symbols" "Ljava/lang/String;") "java/lang/String" "value" "[B")) rfl n6 n7 (by unfold Idx; decide) ⟨eq_int_val n8, ⟨eq_int_val n15, ⟨eq_int_val n17, trivial⟩⟩⟩ (by decide))
  obtain ⟨nn, o, q1, q2, q3, v, L, rfl, N, ⟨D', -, rfl⟩, hq, hWH⟩ := lawW (Z := s) hw hSF z0 z1 z2 z3 z4 ⟨⟨_, hE⟩, by decide⟩ l tables_1 p e ha hc hk s m _ below hf ((Spec.applies_iff_loose hf).mp happ).1 ⟨rfl, State.Warmed39.refl s, hHp⟩ trivial
  exact ⟨nn, _, q1, q2, q3, hpost _ _ _ _ _ _ ⟨Cond.after_iff.mpr rfl, Cond.after_iff.mpr (eq_i res_at (Term.int_eval (1)) rfl), trivial⟩ ⟨hq.1, hq.2.1, hq.2.2.1, (hq.2.2.2.sift fun y hy => Or.inr (N y hy)).mono (by decide) (by decide)⟩⟩
theorem main_1_1 : Claimed_1_1 := comes_1 fun _ _ _ _ _ _ h hF => ⟨h.1, hF⟩
theorem main_1_2 : Claimed_1_2 := comes_1 fun _ _ _ _ _ _ h hF => ⟨h.2.1, hF⟩
end Jvm.Pilot.@@N@@
namespace Jvm.Pilot.@@N@@
open Jvm Jvm.ClassFile Sem Op Lib Jvm.Free Jvm.Stand Jvm.Pilot.@@N@@.Jvm.D
/-! MADE BY PROGRAM (witnessworld.py) out of the Statement's table words and the real class files: 27 classes; the members and pool entries that the words name. The judged class is class 1, her method 3. -/
namespace start1
open Jvm.ClassFile
def u (s : String) : CpInfo := .utf8 (stringToUtf16 s)
/-- a pool by its gaps: so many unusable entries, then the entry; so many at the end -/
def gap : Nat → List CpInfo → List CpInfo
  | 0, r => r
  | n + 1, r => .unusable :: gap n r
def poolList (es : List (Nat × CpInfo)) (last : Nat) : List CpInfo := es.foldr (fun e r => gap e.1 (e.2 :: r)) (gap last [])
def pool (es : List (Nat × CpInfo)) (last : Nat) : Array CpInfo := ⟨poolList es last⟩
def fileOf (pool : Array CpInfo) (this : Nat) (attrs : Array Attribute := #[]) (ms : Array MethodInfo := #[]) (fl : Nat := 33) (sup : Nat := 0) (ifs : Array Nat := #[]) (fds : Array FieldInfo := #[]) : ClassFile where
  minorVersion := 0
  majorVersion := 65
  constantPool := pool
  accessFlags := fl
  thisClass := this
  superClass := sup
  interfaces := ifs
  fields := fds
  methods := ms
  attributes := attrs
def plain (name : String) (sup : Option ClassId) : Class where
  name := name
  kind := .ordinary
  loader := none
  accessFlags := 33
  super := sup
  interfaces := #[]
  cf := none
  fields := #[]
  methods := #[]
  instanceTypes := #[]
  staticTypes := #[]
  resolved := #[]
  callSites := []
  init := .initialized
  statics := none
  mirror := none

def pool0 : Array CpInfo := pool [(5, u "<init>"), (0, u "()V"), (1, .class_ 10), (1, u "java/lang/Object")] 113

def k0c0 : Code := { maxStack := 0, maxLocals := 1, code := object_method_1_code, exceptionTable := #[], attributes := #[] }
def k0m0 : Method := { name := "<init>", desc := "()V", sig := { parameters := [], returnType := none }, accessFlags := 1, code := some k0c0 }
/-- java/lang/Object -/
def k0 : Class := { plain "java/lang/Object" none with
  accessFlags := 33
  interfaces := #[]
  cf := some (fileOf pool0 8 #[] #[{ accessFlags := 1, nameIndex := 5, descriptorIndex := 6, attributes := #[] }] 33 0 #[] #[])
  fields := #[]
  methods := #[k0m0]
  instanceTypes := #[]
  staticTypes := #[]
  resolved := Array.replicate 124 none
  statics := none }

def pool1 : Array CpInfo := pool [(2, .class_ 4), (1, u "java/lang/Object"), (0, u "<init>"), (0, u "()V"), (0, .integer 2147483647), (0, .methodref 9 10), (0, .class_ 11), (0, .nameAndType 12 13), (0, u "com/example/cunctator/cunctator/JobKeyToStringPinLaw"), (0, u "topicChar"), (0, u "(I)C"), (0, .methodref 9 15), (0, .nameAndType 16 13), (0, u "idChar"), (0, .class_ 18), (0, u "java/lang/String"), (0, .methodref 17 20), (0, .nameAndType 5 21), (0, u "([C)V"), (0, .methodref 17 23), (0, .nameAndType 24 25), (0, u "valueOf"), (0, u "(C)Ljava/lang/String;"), (0, .class_ 27), (0, u "com/example/cunctator/cunctator/JobKey"), (0, .methodref 26 29), (0, .nameAndType 5 30), (0, u "(Ljava/lang/String;Ljava/lang/String;)V"), (0, .methodref 26 32), (0, .nameAndType 33 34), (0, u "toString"), (0, u "()Ljava/lang/String;"), (0, .methodref 17 36), (0, .nameAndType 37 38), (0, u "length"), (0, u "()I"), (0, .methodref 17 40), (0, .nameAndType 41 13), (0, u "charAt"), (3, u "law"), (0, u "(IIIII)Z")] 4

def k1m0 : Method := { name := "<init>", desc := "()V", sig := { parameters := [], returnType := none }, accessFlags := 1, code := none }
def k1c1 : Code := { maxStack := 3, maxLocals := 2, code := method_2_code, exceptionTable := #[], attributes := #[] }
def k1m1 : Method := { name := "topicChar", desc := "(I)C", sig := { parameters := [.int], returnType := some .char }, accessFlags := 10, code := some k1c1 }
def k1c2 : Code := { maxStack := 3, maxLocals := 2, code := method_3_code, exceptionTable := #[], attributes := #[] }
def k1m2 : Method := { name := "idChar", desc := "(I)C", sig := { parameters := [.int], returnType := some .char }, accessFlags := 10, code := some k1c2 }
def k1c3 : Code := { maxStack := 4, maxLocals := 19, code := code, exceptionTable := #[], attributes := #[] }
def k1m3 : Method := { name := "law", desc := "(IIIII)Z", sig := { parameters := [.int, .int, .int, .int, .int], returnType := some .boolean }, accessFlags := 9, code := some k1c3 }
/-- com/example/cunctator/cunctator/JobKeyToStringPinLaw -/
def k1 : Class := { plain "com/example/cunctator/cunctator/JobKeyToStringPinLaw" (some 0) with
  accessFlags := 49
  interfaces := #[]
  cf := some (fileOf pool1 9 #[] #[{ accessFlags := 1, nameIndex := 5, descriptorIndex := 6, attributes := #[] }, { accessFlags := 10, nameIndex := 12, descriptorIndex := 13, attributes := #[] }, { accessFlags := 10, nameIndex := 16, descriptorIndex := 13, attributes := #[] }, { accessFlags := 9, nameIndex := 45, descriptorIndex := 46, attributes := #[] }] 49 2 #[] #[])
  fields := #[]
  methods := #[k1m0, k1m1, k1m2, k1m3]
  instanceTypes := #[]
  staticTypes := #[]
  resolved := Array.replicate 51 none
  statics := none }

def pool2 : Array CpInfo := pool [(1, .class_ 2), (0, u "java/io/Serializable"), (0, .class_ 4), (0, u "java/lang/Object")] 2

/-- java/io/Serializable -/
def k2 : Class := { plain "java/io/Serializable" (some 0) with
  accessFlags := 1537
  interfaces := #[]
  cf := some (fileOf pool2 1 #[] #[] 1537 3 #[] #[])
  fields := #[]
  methods := #[]
  instanceTypes := #[]
  staticTypes := #[]
  resolved := Array.replicate 7 none
  statics := none }

def pool3 : Array CpInfo := pool [(1, .class_ 2), (0, u "java/lang/Comparable"), (0, .class_ 4), (0, u "java/lang/Object")] 7

/-- java/lang/Comparable -/
def k3 : Class := { plain "java/lang/Comparable" (some 0) with
  accessFlags := 1537
  interfaces := #[]
  cf := some (fileOf pool3 1 #[] #[] 1537 3 #[] #[])
  fields := #[]
  methods := #[]
  instanceTypes := #[]
  staticTypes := #[]
  resolved := Array.replicate 12 none
  statics := none }

def pool4 : Array CpInfo := pool [(2, .class_ 4), (1, u "java/lang/CharSequence"), (42, .class_ 48), (0, u "java/lang/CharSequence$1CodePointIterator"), (10, .class_ 60), (0, u "java/lang/CharSequence$1CharIterator"), (5, .class_ 67), (0, u "java/lang/Object")] 63

/-- java/lang/CharSequence -/
def k4 : Class := { plain "java/lang/CharSequence" (some 0) with
  accessFlags := 1537
  interfaces := #[]
  cf := some (fileOf pool4 2 #[.nestMembers #[47, 59]] #[] 1537 66 #[] #[])
  fields := #[]
  methods := #[]
  instanceTypes := #[]
  staticTypes := #[]
  resolved := Array.replicate 131 none
  statics := none }

def pool5 : Array CpInfo := pool [(1, .class_ 2), (0, u "java/lang/constant/Constable"), (0, .class_ 4), (0, u "java/lang/Object")] 6

/-- java/lang/constant/Constable -/
def k5 : Class := { plain "java/lang/constant/Constable" (some 0) with
  accessFlags := 1537
  interfaces := #[]
  cf := some (fileOf pool5 1 #[] #[] 1537 3 #[] #[])
  fields := #[]
  methods := #[]
  instanceTypes := #[]
  staticTypes := #[]
  resolved := Array.replicate 11 none
  statics := none }

def pool6 : Array CpInfo := pool [(1, .class_ 2), (0, u "java/lang/constant/ConstantDesc"), (0, .class_ 4), (0, u "java/lang/Object")] 32

/-- java/lang/constant/ConstantDesc -/
def k6 : Class := { plain "java/lang/constant/ConstantDesc" (some 0) with
  accessFlags := 1537
  interfaces := #[]
  cf := some (fileOf pool6 1 #[] #[] 1537 3 #[] #[])
  fields := #[]
  methods := #[]
  instanceTypes := #[]
  staticTypes := #[]
  resolved := Array.replicate 37 none
  statics := none }

def pool7 : Array CpInfo := pool [(1, .methodref 2 3), (0, .class_ 4), (0, .nameAndType 5 6), (0, u "java/lang/Object"), (0, u "<init>"), (0, u "()V"), (2, .fieldref 10 11), (0, .class_ 12), (0, .nameAndType 13 14), (0, u "java/lang/String"), (0, u "value"), (0, u "[B"), (0, .fieldref 10 16), (0, .nameAndType 17 18), (0, u "coder"), (0, u "B"), (2, u "hash"), (0, u "I"), (2, u "hashIsZero"), (0, u "Z"), (0, .methodref 10 28), (0, .nameAndType 5 29), (0, u "([CIILjava/lang/Void;)V"), (8, .fieldref 10 39), (0, .nameAndType 40 26), (0, u "COMPACT_STRINGS"), (1, .class_ 44), (1, u "java/lang/StringUTF16"), (0, u "compress"), (1, .methodref 42 48), (0, .nameAndType 49 50), (0, u "coderFromArrayLen"), (0, u "([BI)B"), (2, u "toBytes"), (0, .methodref 55 56), (0, .class_ 57), (0, .nameAndType 58 59), (0, u "java/util/Arrays"), (0, u "copyOfRange"), (0, u "([BII)[B"), (47, .class_ 109), (1, u "java/lang/StringLatin1"), (32, u "()Z"), (34, .methodref 42 178), (0, .nameAndType 45 179), (0, u "([CII)[B"), (13, .class_ 195), (1, u "java/lang/System"), (13, .methodref 10 210), (0, .nameAndType 5 211), (0, u "([BB)V"), (0, .methodref 193 213), (0, .nameAndType 214 215), (0, u "arraycopy"), (0, u "(Ljava/lang/Object;ILjava/lang/Object;II)V"), (118, u "()I"), (0, .methodref 10 336), (0, .nameAndType 17 337), (0, u "()B"), (2, u "()[B"), (22, u "([BI)C"), (5, u "(C)Z"), (21, u "(II)V"), (35, u "(I)C"), (61, .methodref 10 490), (0, .nameAndType 5 491), (0, u "(Ljava/lang/AbstractStringBuilder;Ljava/lang/Void;)V"), (0, .methodref 10 493), (0, .nameAndType 494 142), (0, u "isLatin1"), (0, .methodref 107 496), (0, .nameAndType 497 363), (0, u "charAt"), (3, u "checkIndex"), (3, .methodref 10 506), (0, .nameAndType 507 334), (0, u "length"), (24, u "getBytes"), (16, .methodref 550 506), (0, .class_ 551), (0, u "java/lang/AbstractStringBuilder"), (0, .methodref 550 553), (0, .nameAndType 554 340), (0, u "getValue"), (20, .class_ 576), (0, u "java/lang/CharSequence"), (22, u "CASE_INSENSITIVE_ORDER"), (0, u "Ljava/util/Comparator;"), (32, .methodref 10 634), (0, .nameAndType 635 636), (0, u "indexOf"), (0, u "(II)I"), (0, .methodref 107 638), (0, .nameAndType 635 639), (0, u "([BIII)I"), (52, u "isEmpty"), (72, u "(I)I"), (16, u "valueOf"), (0, u "(C)Ljava/lang/String;"), (37, u "([BIB)V"), (188, u "([C)V"), (4, .methodref 107 1016), (0, .nameAndType 1017 369), (0, u "canEncode"), (0, .methodref 107 1019), (0, .nameAndType 53 1020), (0, u "(C)[B"), (26, .methodref 550 493), (5, .fieldref 1054 1055), (0, .class_ 1056), (0, .nameAndType 1057 1058), (0, u "jdk/internal/util/Preconditions"), (0, u "SIOOBE_FORMATTER"), (0, u "Ljava/util/function/BiFunction;"), (0, .methodref 1054 1060), (0, .nameAndType 501 1061), (0, u "(IILjava/util/function/BiFunction;)I"), (39, u "serialPersistentFields"), (0, u "[Ljava/io/ObjectStreamField;"), (0, .class_ 1104), (0, u "java/lang/String$CaseInsensitiveComparator"), (1, .class_ 1107), (0, u "java/io/Serializable"), (0, .class_ 1109), (0, u "java/lang/Comparable"), (0, .class_ 1111), (0, u "java/lang/constant/Constable"), (0, .class_ 1113), (0, u "java/lang/constant/ConstantDesc"), (2, u "serialVersionUID"), (0, u "J"), (3, u "REPL"), (0, u "C"), (2, u "LATIN1"), (1, u "UTF16"), (105, u "(Ljava/lang/StringBuilder;)V")] 217

def k7m0 : Method := { name := "<init>", desc := "()V", sig := { parameters := [], returnType := none }, accessFlags := 1, code := none }
def k7c1 : Code := { maxStack := 5, maxLocals := 2, code := jdk_42_method_3_code, exceptionTable := #[], attributes := #[] }
def k7m1 : Method := { name := "<init>", desc := "([C)V", sig := { parameters := [(.array .char)], returnType := none }, accessFlags := 1, code := some k7c1 }
def k7c2 : Code := { maxStack := 3, maxLocals := 2, code := jdk_42_method_53_code, exceptionTable := #[], attributes := #[] }
def k7m2 : Method := { name := "<init>", desc := "(Ljava/lang/StringBuilder;)V", sig := { parameters := [(.object "java/lang/StringBuilder")], returnType := none }, accessFlags := 1, code := some k7c2 }
def k7c3 : Code := { maxStack := 2, maxLocals := 1, code := jdk_42_method_54_code, exceptionTable := #[], attributes := #[] }
def k7m3 : Method := { name := "length", desc := "()I", sig := { parameters := [], returnType := some .int }, accessFlags := 1, code := some k7c3 }
def k7c4 : Code := { maxStack := 1, maxLocals := 1, code := jdk_42_method_55_code, exceptionTable := #[], attributes := #[] }
def k7m4 : Method := { name := "isEmpty", desc := "()Z", sig := { parameters := [], returnType := some .boolean }, accessFlags := 1, code := some k7c4 }
def k7c5 : Code := { maxStack := 2, maxLocals := 2, code := jdk_42_method_56_code, exceptionTable := #[], attributes := #[] }
def k7m5 : Method := { name := "charAt", desc := "(I)C", sig := { parameters := [.int], returnType := some .char }, accessFlags := 1, code := some k7c5 }
def k7c6 : Code := { maxStack := 3, maxLocals := 2, code := jdk_42_method_79_code, exceptionTable := #[], attributes := #[] }
def k7m6 : Method := { name := "indexOf", desc := "(I)I", sig := { parameters := [.int], returnType := some .int }, accessFlags := 1, code := some k7c6 }
def k7c7 : Code := { maxStack := 4, maxLocals := 3, code := jdk_42_method_80_code, exceptionTable := #[], attributes := #[] }
def k7m7 : Method := { name := "indexOf", desc := "(II)I", sig := { parameters := [.int, .int], returnType := some .int }, accessFlags := 1, code := some k7c7 }
def k7c8 : Code := { maxStack := 4, maxLocals := 1, code := jdk_42_method_139_code, exceptionTable := #[], attributes := #[] }
def k7m8 : Method := { name := "valueOf", desc := "(C)Ljava/lang/String;", sig := { parameters := [.char], returnType := some (.object "java/lang/String") }, accessFlags := 9, code := some k7c8 }
def k7c9 : Code := { maxStack := 5, maxLocals := 4, code := jdk_42_method_147_code, exceptionTable := #[], attributes := #[] }
def k7m9 : Method := { name := "getBytes", desc := "([BIB)V", sig := { parameters := [(.array .byte), .int, .byte], returnType := none }, accessFlags := 0, code := some k7c9 }
def k7c10 : Code := { maxStack := 4, maxLocals := 6, code := jdk_42_method_149_code, exceptionTable := #[], attributes := #[] }
def k7m10 : Method := { name := "<init>", desc := "([CIILjava/lang/Void;)V", sig := { parameters := [(.array .char), .int, .int, (.object "java/lang/Void")], returnType := none }, accessFlags := 2, code := some k7c10 }
def k7c11 : Code := { maxStack := 5, maxLocals := 5, code := jdk_42_method_150_code, exceptionTable := #[], attributes := #[] }
def k7m11 : Method := { name := "<init>", desc := "(Ljava/lang/AbstractStringBuilder;Ljava/lang/Void;)V", sig := { parameters := [(.object "java/lang/AbstractStringBuilder"), (.object "java/lang/Void")], returnType := none }, accessFlags := 0, code := some k7c11 }
def k7c12 : Code := { maxStack := 2, maxLocals := 3, code := jdk_42_method_151_code, exceptionTable := #[], attributes := #[] }
def k7m12 : Method := { name := "<init>", desc := "([BB)V", sig := { parameters := [(.array .byte), .byte], returnType := none }, accessFlags := 0, code := some k7c12 }
def k7c13 : Code := { maxStack := 1, maxLocals := 1, code := jdk_42_method_152_code, exceptionTable := #[], attributes := #[] }
def k7m13 : Method := { name := "coder", desc := "()B", sig := { parameters := [], returnType := some .byte }, accessFlags := 0, code := some k7c13 }
def k7c14 : Code := { maxStack := 1, maxLocals := 1, code := jdk_42_method_154_code, exceptionTable := #[], attributes := #[] }
def k7m14 : Method := { name := "isLatin1", desc := "()Z", sig := { parameters := [], returnType := some .boolean }, accessFlags := 0, code := some k7c14 }
def k7c15 : Code := { maxStack := 3, maxLocals := 2, code := jdk_42_method_155_code, exceptionTable := #[], attributes := #[] }
def k7m15 : Method := { name := "checkIndex", desc := "(II)V", sig := { parameters := [.int, .int], returnType := none }, accessFlags := 8, code := some k7c15 }
/-- java/lang/String -/
def k7 : Class := { plain "java/lang/String" (some 0) with
  accessFlags := 49
  interfaces := #[2, 3, 4, 5, 6]
  cf := some (fileOf pool7 10 #[.nestMembers #[1103]] #[{ accessFlags := 1, nameIndex := 5, descriptorIndex := 6, attributes := #[] }, { accessFlags := 1, nameIndex := 5, descriptorIndex := 1010, attributes := #[] }, { accessFlags := 1, nameIndex := 5, descriptorIndex := 1233, attributes := #[] }, { accessFlags := 1, nameIndex := 507, descriptorIndex := 334, attributes := #[] }, { accessFlags := 1, nameIndex := 692, descriptorIndex := 142, attributes := #[] }, { accessFlags := 1, nameIndex := 497, descriptorIndex := 427, attributes := #[] }, { accessFlags := 1, nameIndex := 635, descriptorIndex := 765, attributes := #[] }, { accessFlags := 1, nameIndex := 635, descriptorIndex := 636, attributes := #[] }, { accessFlags := 9, nameIndex := 782, descriptorIndex := 783, attributes := #[] }, { accessFlags := 0, nameIndex := 532, descriptorIndex := 821, attributes := #[] }, { accessFlags := 2, nameIndex := 5, descriptorIndex := 29, attributes := #[] }, { accessFlags := 0, nameIndex := 5, descriptorIndex := 491, attributes := #[] }, { accessFlags := 0, nameIndex := 5, descriptorIndex := 211, attributes := #[] }, { accessFlags := 0, nameIndex := 17, descriptorIndex := 337, attributes := #[] }, { accessFlags := 0, nameIndex := 494, descriptorIndex := 142, attributes := #[] }, { accessFlags := 8, nameIndex := 501, descriptorIndex := 391, attributes := #[] }] 49 2 #[1106, 1108, 575, 1110, 1112] #[{ accessFlags := 18, nameIndex := 13, descriptorIndex := 14, attributes := #[] }, { accessFlags := 18, nameIndex := 17, descriptorIndex := 18, attributes := #[] }, { accessFlags := 2, nameIndex := 21, descriptorIndex := 22, attributes := #[] }, { accessFlags := 2, nameIndex := 25, descriptorIndex := 26, attributes := #[] }, { accessFlags := 26, nameIndex := 1116, descriptorIndex := 1117, attributes := #[] }, { accessFlags := 24, nameIndex := 40, descriptorIndex := 26, attributes := #[] }, { accessFlags := 26, nameIndex := 1101, descriptorIndex := 1102, attributes := #[] }, { accessFlags := 26, nameIndex := 1121, descriptorIndex := 1122, attributes := #[] }, { accessFlags := 25, nameIndex := 599, descriptorIndex := 600, attributes := #[] }, { accessFlags := 24, nameIndex := 1125, descriptorIndex := 18, attributes := #[] }, { accessFlags := 24, nameIndex := 1127, descriptorIndex := 18, attributes := #[] }])
  fields := #[{ name := "value", type := (.array .byte), accessFlags := 18, slot := 0, constantValue := 0 }, { name := "coder", type := .byte, accessFlags := 18, slot := 1, constantValue := 0 }, { name := "hash", type := .int, accessFlags := 2, slot := 2, constantValue := 0 }, { name := "hashIsZero", type := .boolean, accessFlags := 2, slot := 3, constantValue := 0 }, { name := "serialVersionUID", type := .long, accessFlags := 26, slot := 0, constantValue := 0 }, { name := "COMPACT_STRINGS", type := .boolean, accessFlags := 24, slot := 1, constantValue := 0 }, { name := "serialPersistentFields", type := (.array (.object "java/io/ObjectStreamField")), accessFlags := 26, slot := 2, constantValue := 0 }, { name := "REPL", type := .char, accessFlags := 26, slot := 3, constantValue := 0 }, { name := "CASE_INSENSITIVE_ORDER", type := (.object "java/util/Comparator"), accessFlags := 25, slot := 4, constantValue := 0 }, { name := "LATIN1", type := .byte, accessFlags := 24, slot := 5, constantValue := 0 }, { name := "UTF16", type := .byte, accessFlags := 24, slot := 6, constantValue := 0 }]
  methods := #[k7m0, k7m1, k7m2, k7m3, k7m4, k7m5, k7m6, k7m7, k7m8, k7m9, k7m10, k7m11, k7m12, k7m13, k7m14, k7m15]
  instanceTypes := #[(.array .byte), .byte, .int, .boolean]
  staticTypes := #[.long, .boolean, (.array (.object "java/io/ObjectStreamField")), .char, (.object "java/util/Comparator"), .byte, .byte]
  resolved := Array.replicate 1451 none
  statics := some 0 }

def pool8 : Array CpInfo := pool [(1, .class_ 2), (0, u "java/lang/String"), (1, .class_ 6), (1, u "java/lang/Object"), (0, u "<init>"), (0, u "()V"), (0, .methodref 1 10), (0, .nameAndType 11 12), (0, u "checkIndex"), (0, u "(II)V"), (1, .class_ 16), (1, u "java/lang/StringLatin1"), (21, .methodref 39 40), (0, .class_ 41), (0, .nameAndType 42 43), (0, u "java/lang/Math"), (0, u "min"), (0, u "(II)I"), (9, u "([BI)C"), (34, .methodref 14 89), (0, .nameAndType 90 91), (0, u "canEncode"), (0, u "(I)Z"), (0, .methodref 39 93), (0, .nameAndType 94 43), (0, u "max"), (0, .methodref 14 96), (0, .nameAndType 97 98), (0, u "indexOfChar"), (0, u "([BIII)I"), (2, u "indexOf"), (3, u "(C)Z"), (15, u "$assertionsDisabled"), (0, u "Z"), (98, .class_ 223), (1, u "java/lang/StringLatin1$LinesSpliterator"), (28, u "charAt"), (127, u "toBytes"), (1, u "(C)[B"), (7, .class_ 391), (0, u "java/lang/StringLatin1$CharsSpliterator")] 3

def k8m0 : Method := { name := "<init>", desc := "()V", sig := { parameters := [], returnType := none }, accessFlags := 0, code := none }
def k8c1 : Code := { maxStack := 2, maxLocals := 2, code := jdk_43_method_2_code, exceptionTable := #[], attributes := #[] }
def k8m1 : Method := { name := "charAt", desc := "([BI)C", sig := { parameters := [(.array .byte), .int], returnType := some .char }, accessFlags := 9, code := some k8c1 }
def k8c2 : Code := { maxStack := 2, maxLocals := 1, code := jdk_43_method_3_code, exceptionTable := #[], attributes := #[] }
def k8m2 : Method := { name := "canEncode", desc := "(C)Z", sig := { parameters := [.char], returnType := some .boolean }, accessFlags := 9, code := some k8c2 }
def k8c3 : Code := { maxStack := 2, maxLocals := 1, code := jdk_43_method_4_code, exceptionTable := #[], attributes := #[] }
def k8m3 : Method := { name := "canEncode", desc := "(I)Z", sig := { parameters := [.int], returnType := some .boolean }, accessFlags := 9, code := some k8c3 }
def k8c4 : Code := { maxStack := 4, maxLocals := 4, code := jdk_43_method_22_code, exceptionTable := #[], attributes := #[] }
def k8m4 : Method := { name := "indexOf", desc := "([BIII)I", sig := { parameters := [(.array .byte), .int, .int, .int], returnType := some .int }, accessFlags := 9, code := some k8c4 }
def k8c5 : Code := { maxStack := 2, maxLocals := 6, code := jdk_43_method_23_code, exceptionTable := #[], attributes := #[] }
def k8m5 : Method := { name := "indexOfChar", desc := "([BIII)I", sig := { parameters := [(.array .byte), .int, .int, .int], returnType := some .int }, accessFlags := 10, code := some k8c5 }
def k8c6 : Code := { maxStack := 4, maxLocals := 1, code := jdk_43_method_46_code, exceptionTable := #[], attributes := #[] }
def k8m6 : Method := { name := "toBytes", desc := "(C)[B", sig := { parameters := [.char], returnType := some (.array .byte) }, accessFlags := 9, code := some k8c6 }
/-- java/lang/StringLatin1 -/
def k8 : Class := { plain "java/lang/StringLatin1" (some 0) with
  accessFlags := 48
  interfaces := #[]
  cf := some (fileOf pool8 14 #[.nestMembers #[390, 221]] #[{ accessFlags := 0, nameIndex := 7, descriptorIndex := 8, attributes := #[] }, { accessFlags := 9, nameIndex := 252, descriptorIndex := 53, attributes := #[] }, { accessFlags := 9, nameIndex := 90, descriptorIndex := 105, attributes := #[] }, { accessFlags := 9, nameIndex := 90, descriptorIndex := 91, attributes := #[] }, { accessFlags := 9, nameIndex := 101, descriptorIndex := 98, attributes := #[] }, { accessFlags := 10, nameIndex := 97, descriptorIndex := 98, attributes := #[] }, { accessFlags := 9, nameIndex := 380, descriptorIndex := 382, attributes := #[] }] 48 4 #[] #[{ accessFlags := 4120, nameIndex := 121, descriptorIndex := 122, attributes := #[] }])
  fields := #[{ name := "$assertionsDisabled", type := .boolean, accessFlags := 4120, slot := 0, constantValue := 0 }]
  methods := #[k8m0, k8m1, k8m2, k8m3, k8m4, k8m5, k8m6]
  instanceTypes := #[]
  staticTypes := #[.boolean]
  resolved := Array.replicate 395 none
  statics := none }

def pool9 : Array CpInfo := pool [(1, .methodref 2 3), (0, .class_ 4), (0, .nameAndType 5 6), (0, u "java/lang/Object"), (0, u "<init>"), (0, u "()V"), (0, .methodref 8 9), (0, .class_ 10), (0, .nameAndType 11 12), (0, u "com/example/cunctator/cunctator/JobKey"), (0, u "checkTopic"), (0, u "(Ljava/lang/String;)Ljava/lang/String;"), (0, .fieldref 8 14), (0, .nameAndType 15 16), (0, u "topic"), (0, u "Ljava/lang/String;"), (0, .methodref 8 18), (0, .nameAndType 19 12), (0, u "checkId"), (0, .fieldref 8 21), (0, .nameAndType 22 16), (0, u "id"), (0, .fieldref 8 24), (0, .nameAndType 25 26), (0, u "TOPIC_RULE"), (0, u "Lcom/example/cunctator/cunctator/JobKey$NameRule;"), (0, .methodref 28 29), (0, .class_ 30), (0, .nameAndType 31 12), (0, u "com/example/cunctator/cunctator/JobKey$NameRule"), (0, u "check"), (0, .fieldref 8 33), (0, .nameAndType 34 26), (0, u "ID_RULE"), (10, .class_ 46), (0, u "java/lang/StringBuilder"), (0, .methodref 45 3), (0, .methodref 45 49), (0, .nameAndType 50 51), (0, u "append"), (0, u "(Ljava/lang/String;)Ljava/lang/StringBuilder;"), (0, .string 53), (0, u "/"), (0, .methodref 45 55), (0, .nameAndType 56 57), (0, u "toString"), (0, u "()Ljava/lang/String;"), (9, u "MAX_TOPIC_LENGTH"), (0, u "I"), (2, u "MAX_ID_LENGTH"), (1, u "(Ljava/lang/String;Ljava/lang/String;)V"), (3, u "isAsciiLetterOrDigit"), (0, u "(C)Z")] 6

def k9c0 : Code := { maxStack := 2, maxLocals := 3, code := prog_8_method_1_code, exceptionTable := #[], attributes := #[] }
def k9m0 : Method := { name := "<init>", desc := "(Ljava/lang/String;Ljava/lang/String;)V", sig := { parameters := [(.object "java/lang/String"), (.object "java/lang/String")], returnType := none }, accessFlags := 1, code := some k9c0 }
def k9c1 : Code := { maxStack := 2, maxLocals := 1, code := prog_8_method_2_code, exceptionTable := #[], attributes := #[] }
def k9m1 : Method := { name := "checkTopic", desc := "(Ljava/lang/String;)Ljava/lang/String;", sig := { parameters := [(.object "java/lang/String")], returnType := some (.object "java/lang/String") }, accessFlags := 9, code := some k9c1 }
def k9c2 : Code := { maxStack := 2, maxLocals := 1, code := prog_8_method_3_code, exceptionTable := #[], attributes := #[] }
def k9m2 : Method := { name := "checkId", desc := "(Ljava/lang/String;)Ljava/lang/String;", sig := { parameters := [(.object "java/lang/String")], returnType := some (.object "java/lang/String") }, accessFlags := 9, code := some k9c2 }
def k9c3 : Code := { maxStack := 2, maxLocals := 1, code := prog_8_method_8_code, exceptionTable := #[], attributes := #[] }
def k9m3 : Method := { name := "toString", desc := "()Ljava/lang/String;", sig := { parameters := [], returnType := some (.object "java/lang/String") }, accessFlags := 1, code := some k9c3 }
def k9c4 : Code := { maxStack := 2, maxLocals := 1, code := prog_8_method_9_code, exceptionTable := #[], attributes := #[] }
def k9m4 : Method := { name := "isAsciiLetterOrDigit", desc := "(C)Z", sig := { parameters := [.char], returnType := some .boolean }, accessFlags := 10, code := some k9c4 }
/-- com/example/cunctator/cunctator/JobKey -/
def k9 : Class := { plain "com/example/cunctator/cunctator/JobKey" (some 0) with
  accessFlags := 49
  interfaces := #[]
  cf := some (fileOf pool9 8 #[.nestMembers #[28]] #[{ accessFlags := 1, nameIndex := 5, descriptorIndex := 73, attributes := #[] }, { accessFlags := 9, nameIndex := 11, descriptorIndex := 12, attributes := #[] }, { accessFlags := 9, nameIndex := 19, descriptorIndex := 12, attributes := #[] }, { accessFlags := 1, nameIndex := 56, descriptorIndex := 57, attributes := #[] }, { accessFlags := 10, nameIndex := 77, descriptorIndex := 78, attributes := #[] }] 49 2 #[] #[{ accessFlags := 25, nameIndex := 67, descriptorIndex := 68, attributes := #[] }, { accessFlags := 25, nameIndex := 71, descriptorIndex := 68, attributes := #[] }, { accessFlags := 26, nameIndex := 25, descriptorIndex := 26, attributes := #[] }, { accessFlags := 26, nameIndex := 34, descriptorIndex := 26, attributes := #[] }, { accessFlags := 18, nameIndex := 15, descriptorIndex := 16, attributes := #[] }, { accessFlags := 18, nameIndex := 22, descriptorIndex := 16, attributes := #[] }])
  fields := #[{ name := "MAX_TOPIC_LENGTH", type := .int, accessFlags := 25, slot := 0, constantValue := 0 }, { name := "MAX_ID_LENGTH", type := .int, accessFlags := 25, slot := 1, constantValue := 0 }, { name := "TOPIC_RULE", type := (.object "com/example/cunctator/cunctator/JobKey$NameRule"), accessFlags := 26, slot := 2, constantValue := 0 }, { name := "ID_RULE", type := (.object "com/example/cunctator/cunctator/JobKey$NameRule"), accessFlags := 26, slot := 3, constantValue := 0 }, { name := "topic", type := (.object "java/lang/String"), accessFlags := 18, slot := 0, constantValue := 0 }, { name := "id", type := (.object "java/lang/String"), accessFlags := 18, slot := 1, constantValue := 0 }]
  methods := #[k9m0, k9m1, k9m2, k9m3, k9m4]
  instanceTypes := #[(.object "java/lang/String"), (.object "java/lang/String")]
  staticTypes := #[.int, .int, (.object "com/example/cunctator/cunctator/JobKey$NameRule"), (.object "com/example/cunctator/cunctator/JobKey$NameRule")]
  resolved := Array.replicate 85 none
  statics := some 1 }

def pool10 : Array CpInfo := pool [(2, .class_ 4), (1, u "java/lang/Object"), (2, .fieldref 8 9), (0, .class_ 10), (0, .nameAndType 11 12), (0, u "com/example/cunctator/cunctator/JobKey$NameRule"), (0, u "maxLength"), (0, u "I"), (0, .fieldref 8 14), (0, .nameAndType 15 16), (0, u "symbols"), (0, u "Ljava/lang/String;"), (19, .class_ 38), (1, u "java/lang/String"), (12, u "description"), (6, .methodref 36 59), (0, .nameAndType 60 61), (0, u "isEmpty"), (0, u "()Z"), (2, .methodref 36 65), (0, .nameAndType 66 67), (0, u "length"), (0, u "()I"), (0, .methodref 36 69), (0, .nameAndType 70 71), (0, u "charAt"), (0, u "(I)C"), (0, .methodref 73 74), (0, .class_ 75), (0, .nameAndType 76 77), (0, u "com/example/cunctator/cunctator/JobKey"), (0, u "isAsciiLetterOrDigit"), (0, u "(C)Z"), (0, .methodref 36 79), (0, .nameAndType 80 81), (0, u "indexOf"), (0, u "(I)I"), (29, u "check"), (0, u "(Ljava/lang/String;)Ljava/lang/String;")] 6

def k10c0 : Code := { maxStack := 7, maxLocals := 4, code := prog_9_method_2_code, exceptionTable := #[], attributes := #[] }
def k10m0 : Method := { name := "check", desc := "(Ljava/lang/String;)Ljava/lang/String;", sig := { parameters := [(.object "java/lang/String")], returnType := some (.object "java/lang/String") }, accessFlags := 0, code := some k10c0 }
/-- com/example/cunctator/cunctator/JobKey$NameRule -/
def k10 : Class := { plain "com/example/cunctator/cunctator/JobKey$NameRule" (some 0) with
  accessFlags := 48
  interfaces := #[]
  cf := some (fileOf pool10 8 #[.nestHost 73] #[{ accessFlags := 0, nameIndex := 111, descriptorIndex := 112, attributes := #[] }] 48 2 #[] #[{ accessFlags := 18, nameIndex := 11, descriptorIndex := 12, attributes := #[] }, { accessFlags := 18, nameIndex := 15, descriptorIndex := 16, attributes := #[] }, { accessFlags := 18, nameIndex := 51, descriptorIndex := 16, attributes := #[] }])
  fields := #[{ name := "maxLength", type := .int, accessFlags := 18, slot := 0, constantValue := 0 }, { name := "symbols", type := (.object "java/lang/String"), accessFlags := 18, slot := 1, constantValue := 0 }, { name := "description", type := (.object "java/lang/String"), accessFlags := 18, slot := 2, constantValue := 0 }]
  methods := #[k10m0]
  instanceTypes := #[.int, (.object "java/lang/String"), (.object "java/lang/String")]
  staticTypes := #[]
  resolved := Array.replicate 119 none
  statics := none }

def pool11 : Array CpInfo := pool [(2, .class_ 4), (1, u "java/lang/Object"), (0, u "<init>"), (0, u "()V"), (17, .class_ 26), (1, u "jdk/internal/util/Preconditions"), (6, u "checkIndex"), (21, .class_ 56), (0, u "jdk/internal/util/Preconditions$4"), (57, .class_ 115), (0, u "jdk/internal/util/Preconditions$1"), (7, u "SIOOBE_FORMATTER"), (0, u "Ljava/util/function/BiFunction;"), (0, .class_ 126), (0, u "jdk/internal/util/Preconditions$2"), (3, u "AIOOBE_FORMATTER"), (0, .class_ 132), (0, u "jdk/internal/util/Preconditions$3"), (3, u "IOOBE_FORMATTER"), (41, u "(IILjava/util/function/BiFunction;)I")] 15

def k11m0 : Method := { name := "<init>", desc := "()V", sig := { parameters := [], returnType := none }, accessFlags := 1, code := none }
def k11c1 : Code := { maxStack := 3, maxLocals := 3, code := jdk_41_method_11_code, exceptionTable := #[], attributes := #[] }
def k11m1 : Method := { name := "checkIndex", desc := "(IILjava/util/function/BiFunction;)I", sig := { parameters := [.int, .int, (.object "java/util/function/BiFunction")], returnType := some .int }, accessFlags := 9, code := some k11c1 }
/-- jdk/internal/util/Preconditions -/
def k11 : Class := { plain "jdk/internal/util/Preconditions" (some 0) with
  accessFlags := 33
  interfaces := #[]
  cf := some (fileOf pool11 24 #[.nestMembers #[55, 131, 125, 114]] #[{ accessFlags := 1, nameIndex := 5, descriptorIndex := 6, attributes := #[] }, { accessFlags := 9, nameIndex := 33, descriptorIndex := 178, attributes := #[] }] 33 2 #[] #[{ accessFlags := 25, nameIndex := 123, descriptorIndex := 124, attributes := #[] }, { accessFlags := 25, nameIndex := 130, descriptorIndex := 124, attributes := #[] }, { accessFlags := 25, nameIndex := 136, descriptorIndex := 124, attributes := #[] }])
  fields := #[{ name := "SIOOBE_FORMATTER", type := (.object "java/util/function/BiFunction"), accessFlags := 25, slot := 0, constantValue := 0 }, { name := "AIOOBE_FORMATTER", type := (.object "java/util/function/BiFunction"), accessFlags := 25, slot := 1, constantValue := 0 }, { name := "IOOBE_FORMATTER", type := (.object "java/util/function/BiFunction"), accessFlags := 25, slot := 2, constantValue := 0 }]
  methods := #[k11m0, k11m1]
  instanceTypes := #[]
  staticTypes := #[(.object "java/util/function/BiFunction"), (.object "java/util/function/BiFunction"), (.object "java/util/function/BiFunction")]
  resolved := Array.replicate 194 none
  statics := some 2 }

def pool12 : Array CpInfo := pool [(1, .class_ 2), (0, u "java/lang/Appendable"), (0, .class_ 4), (0, u "java/lang/Object")] 9

/-- java/lang/Appendable -/
def k12 : Class := { plain "java/lang/Appendable" (some 0) with
  accessFlags := 1537
  interfaces := #[]
  cf := some (fileOf pool12 1 #[] #[] 1537 3 #[] #[])
  fields := #[]
  methods := #[]
  instanceTypes := #[]
  staticTypes := #[]
  resolved := Array.replicate 14 none
  statics := none }

def pool13 : Array CpInfo := pool [(1, .class_ 2), (0, u "java/lang/String"), (0, .methodref 4 5), (0, .class_ 6), (0, .nameAndType 7 8), (0, u "java/lang/Object"), (0, u "<init>"), (0, u "()V"), (1, .class_ 12), (1, u "java/lang/AbstractStringBuilder"), (0, u "EMPTYVALUE"), (0, u "[B"), (0, .fieldref 10 16), (0, .nameAndType 17 14), (0, u "value"), (0, .fieldref 1 19), (0, .nameAndType 20 21), (0, u "COMPACT_STRINGS"), (0, u "Z"), (0, .fieldref 10 23), (0, .nameAndType 24 25), (0, u "coder"), (0, u "B"), (6, .methodref 1 33), (0, .nameAndType 34 35), (0, u "length"), (0, u "()I"), (4, .methodref 1 41), (0, .nameAndType 24 42), (0, u "()B"), (2, u "append"), (0, u "(Ljava/lang/String;)Ljava/lang/AbstractStringBuilder;"), (1, .class_ 49), (0, u "java/lang/CharSequence"), (19, u "(Ljava/lang/String;)V"), (5, u "maybeLatin1"), (3, .fieldref 10 80), (0, .nameAndType 81 82), (0, u "count"), (0, u "I"), (2, u "isLatin1"), (0, u "()Z"), (13, .methodref 10 101), (0, .nameAndType 102 103), (0, u "ensureCapacityInternal"), (0, u "(I)V"), (104, .methodref 10 209), (0, .nameAndType 210 211), (0, u "putStringAt"), (0, u "(ILjava/lang/String;)V"), (5, u "inflateIfNeededFor"), (2, .nameAndType 221 222), (0, u "getBytes"), (0, u "([BIB)V"), (174, .methodref 10 398), (0, .nameAndType 217 69), (0, .methodref 1 220), (3, u "()[B"), (40, .class_ 445), (0, u "java/lang/Appendable"), (106, u "getValue")] 56

def k13m0 : Method := { name := "<init>", desc := "()V", sig := { parameters := [], returnType := none }, accessFlags := 0, code := none }
def k13c1 : Code := { maxStack := 2, maxLocals := 2, code := jdk_68_method_2_code, exceptionTable := #[], attributes := #[] }
def k13m1 : Method := { name := "<init>", desc := "(I)V", sig := { parameters := [.int], returnType := none }, accessFlags := 0, code := some k13c1 }
def k13c2 : Code := { maxStack := 1, maxLocals := 1, code := jdk_68_method_6_code, exceptionTable := #[], attributes := #[] }
def k13m2 : Method := { name := "length", desc := "()I", sig := { parameters := [], returnType := some .int }, accessFlags := 1, code := some k13c2 }
def k13c3 : Code := { maxStack := 4, maxLocals := 3, code := jdk_68_method_9_code, exceptionTable := #[], attributes := #[] }
def k13m3 : Method := { name := "ensureCapacityInternal", desc := "(I)V", sig := { parameters := [.int], returnType := none }, accessFlags := 2, code := some k13c3 }
def k13c4 : Code := { maxStack := 3, maxLocals := 3, code := jdk_68_method_22_code, exceptionTable := #[], attributes := #[] }
def k13m4 : Method := { name := "append", desc := "(Ljava/lang/String;)Ljava/lang/AbstractStringBuilder;", sig := { parameters := [(.object "java/lang/String")], returnType := some (.object "java/lang/AbstractStringBuilder") }, accessFlags := 1, code := some k13c4 }
def k13c5 : Code := { maxStack := 1, maxLocals := 1, code := jdk_68_method_64_code, exceptionTable := #[], attributes := #[] }
def k13m5 : Method := { name := "getValue", desc := "()[B", sig := { parameters := [], returnType := some (.array .byte) }, accessFlags := 16, code := some k13c5 }
def k13c6 : Code := { maxStack := 1, maxLocals := 1, code := jdk_68_method_68_code, exceptionTable := #[], attributes := #[] }
def k13m6 : Method := { name := "isLatin1", desc := "()Z", sig := { parameters := [], returnType := some .boolean }, accessFlags := 16, code := some k13c6 }
def k13c7 : Code := { maxStack := 2, maxLocals := 2, code := jdk_68_method_71_code, exceptionTable := #[], attributes := #[] }
def k13m7 : Method := { name := "inflateIfNeededFor", desc := "(Ljava/lang/String;)V", sig := { parameters := [(.object "java/lang/String")], returnType := none }, accessFlags := 2, code := some k13c7 }
def k13c8 : Code := { maxStack := 4, maxLocals := 3, code := jdk_68_method_73_code, exceptionTable := #[], attributes := #[] }
def k13m8 : Method := { name := "putStringAt", desc := "(ILjava/lang/String;)V", sig := { parameters := [.int, (.object "java/lang/String")], returnType := none }, accessFlags := 2, code := some k13c8 }
/-- java/lang/AbstractStringBuilder -/
def k13 : Class := { plain "java/lang/AbstractStringBuilder" (some 0) with
  accessFlags := 1056
  interfaces := #[12, 4]
  cf := some (fileOf pool13 10 #[] #[{ accessFlags := 0, nameIndex := 7, descriptorIndex := 8, attributes := #[] }, { accessFlags := 0, nameIndex := 7, descriptorIndex := 103, attributes := #[] }, { accessFlags := 1, nameIndex := 34, descriptorIndex := 35, attributes := #[] }, { accessFlags := 2, nameIndex := 102, descriptorIndex := 103, attributes := #[] }, { accessFlags := 1, nameIndex := 45, descriptorIndex := 46, attributes := #[] }, { accessFlags := 16, nameIndex := 552, descriptorIndex := 403, attributes := #[] }, { accessFlags := 16, nameIndex := 85, descriptorIndex := 86, attributes := #[] }, { accessFlags := 2, nameIndex := 217, descriptorIndex := 69, attributes := #[] }, { accessFlags := 2, nameIndex := 210, descriptorIndex := 211, attributes := #[] }] 1056 4 #[444, 48] #[{ accessFlags := 0, nameIndex := 17, descriptorIndex := 14, attributes := #[] }, { accessFlags := 0, nameIndex := 24, descriptorIndex := 25, attributes := #[] }, { accessFlags := 0, nameIndex := 75, descriptorIndex := 21, attributes := #[] }, { accessFlags := 0, nameIndex := 81, descriptorIndex := 82, attributes := #[] }, { accessFlags := 26, nameIndex := 13, descriptorIndex := 14, attributes := #[] }])
  fields := #[{ name := "value", type := (.array .byte), accessFlags := 0, slot := 0, constantValue := 0 }, { name := "coder", type := .byte, accessFlags := 0, slot := 1, constantValue := 0 }, { name := "maybeLatin1", type := .boolean, accessFlags := 0, slot := 2, constantValue := 0 }, { name := "count", type := .int, accessFlags := 0, slot := 3, constantValue := 0 }, { name := "EMPTYVALUE", type := (.array .byte), accessFlags := 26, slot := 0, constantValue := 0 }]
  methods := #[k13m0, k13m1, k13m2, k13m3, k13m4, k13m5, k13m6, k13m7, k13m8]
  instanceTypes := #[(.array .byte), .byte, .boolean, .int]
  staticTypes := #[(.array .byte)]
  resolved := Array.replicate 609 none
  statics := none }

def pool14 : Array CpInfo := pool [(1, .methodref 2 3), (0, .class_ 4), (0, .nameAndType 5 6), (0, u "java/lang/AbstractStringBuilder"), (0, u "<init>"), (0, u "(I)V"), (11, .class_ 20), (1, u "java/lang/String"), (3, .class_ 26), (1, u "java/lang/StringBuilder"), (0, u "append"), (0, u "(Ljava/lang/String;)Ljava/lang/StringBuilder;"), (0, .methodref 2 30), (0, .nameAndType 27 31), (0, u "(Ljava/lang/String;)Ljava/lang/AbstractStringBuilder;"), (105, .methodref 18 138), (0, .nameAndType 5 139), (0, u "(Ljava/lang/StringBuilder;)V"), (5, u "()V"), (10, u "()I"), (186, .methodref 2 344), (0, .nameAndType 345 156), (0, u "length"), (3, .class_ 350), (0, u "java/lang/Appendable"), (0, .class_ 352), (0, u "java/io/Serializable"), (0, .class_ 354), (0, u "java/lang/Comparable"), (0, .class_ 356), (0, u "java/lang/CharSequence"), (0, u "serialVersionUID"), (0, u "J"), (40, u "toString"), (0, u "()Ljava/lang/String;")] 21

def k14c0 : Code := { maxStack := 2, maxLocals := 1, code := jdk_67_method_1_code, exceptionTable := #[], attributes := #[] }
def k14m0 : Method := { name := "<init>", desc := "()V", sig := { parameters := [], returnType := none }, accessFlags := 1, code := some k14c0 }
def k14c1 : Code := { maxStack := 2, maxLocals := 2, code := jdk_67_method_7_code, exceptionTable := #[], attributes := #[] }
def k14m1 : Method := { name := "append", desc := "(Ljava/lang/String;)Ljava/lang/StringBuilder;", sig := { parameters := [(.object "java/lang/String")], returnType := some (.object "java/lang/StringBuilder") }, accessFlags := 1, code := some k14c1 }
def k14c2 : Code := { maxStack := 3, maxLocals := 1, code := jdk_67_method_42_code, exceptionTable := #[], attributes := #[] }
def k14m2 : Method := { name := "toString", desc := "()Ljava/lang/String;", sig := { parameters := [], returnType := some (.object "java/lang/String") }, accessFlags := 1, code := some k14c2 }
def k14c3 : Code := { maxStack := 1, maxLocals := 1, code := jdk_67_method_93_code, exceptionTable := #[], attributes := #[] }
def k14m3 : Method := { name := "length", desc := "()I", sig := { parameters := [], returnType := some .int }, accessFlags := 4161, code := some k14c3 }
/-- java/lang/StringBuilder -/
def k14 : Class := { plain "java/lang/StringBuilder" (some 13) with
  accessFlags := 49
  interfaces := #[12, 2, 3, 4]
  cf := some (fileOf pool14 24 #[] #[{ accessFlags := 1, nameIndex := 5, descriptorIndex := 145, attributes := #[] }, { accessFlags := 1, nameIndex := 27, descriptorIndex := 28, attributes := #[] }, { accessFlags := 1, nameIndex := 399, descriptorIndex := 400, attributes := #[] }, { accessFlags := 4161, nameIndex := 345, descriptorIndex := 156, attributes := #[] }] 49 2 #[349, 351, 353, 355] #[{ accessFlags := 24, nameIndex := 357, descriptorIndex := 358, attributes := #[] }])
  fields := #[{ name := "serialVersionUID", type := .long, accessFlags := 24, slot := 0, constantValue := 0 }]
  methods := #[k14m0, k14m1, k14m2, k14m3]
  instanceTypes := #[(.array .byte), .byte, .boolean, .int]
  staticTypes := #[.long]
  resolved := Array.replicate 422 none
  statics := none }

def pool15 : Array CpInfo := pool [(2, .class_ 4), (1, u "java/lang/Object"), (0, u "<init>"), (0, u "()V"), (1, .class_ 10), (1, u "java/lang/System"), (0, u "allowSecurityManager"), (0, u "I"), (16, u "cons"), (0, u "Ljava/io/Console;"), (77, .class_ 110), (1, u "java/lang/System$CallersHolder"), (43, u "initialErrStream"), (0, u "Ljava/io/PrintStream;"), (19, u "security"), (0, u "Ljava/lang/SecurityManager;"), (31, .class_ 209), (0, u "java/lang/System$1"), (7, u "props"), (0, u "Ljava/util/Properties;"), (2, u "lineSeparator"), (0, u "Ljava/lang/String;"), (96, .class_ 321), (1, u "java/lang/System$LoggerFinder"), (5, .class_ 328), (0, u "java/lang/System$Logger"), (67, u "err"), (2, u "out"), (91, u "notSupportedJnuEncoding"), (15, u "in"), (17, u "initialIn"), (0, u "Ljava/io/InputStream;"), (35, u "bootLayer"), (0, u "Ljava/lang/ModuleLayer;"), (99, .class_ 664), (0, u "java/lang/System$2"), (9, u "NEVER"), (2, u "MAYBE"), (49, u "arraycopy"), (0, u "(Ljava/lang/Object;ILjava/lang/Object;II)V"), (72, .class_ 802), (0, u "java/lang/System$Logger$Level")] 31

def k15m0 : Method := { name := "<init>", desc := "()V", sig := { parameters := [], returnType := none }, accessFlags := 2, code := none }
def k15m1 : Method := { name := "arraycopy", desc := "(Ljava/lang/Object;ILjava/lang/Object;II)V", sig := { parameters := [(.object "java/lang/Object"), .int, (.object "java/lang/Object"), .int, .int], returnType := none }, accessFlags := 265, code := none }
/-- java/lang/System -/
def k15 : Class := { plain "java/lang/System" (some 0) with
  accessFlags := 49
  interfaces := #[]
  cf := some (fileOf pool15 8 #[.nestMembers #[319, 327, 801, 108, 663, 208]] #[{ accessFlags := 2, nameIndex := 5, descriptorIndex := 6, attributes := #[] }, { accessFlags := 265, nameIndex := 727, descriptorIndex := 728, attributes := #[] }] 49 2 #[] #[{ accessFlags := 25, nameIndex := 507, descriptorIndex := 526, attributes := #[] }, { accessFlags := 25, nameIndex := 399, descriptorIndex := 155, attributes := #[] }, { accessFlags := 25, nameIndex := 396, descriptorIndex := 155, attributes := #[] }, { accessFlags := 10, nameIndex := 525, descriptorIndex := 526, attributes := #[] }, { accessFlags := 26, nameIndex := 674, descriptorIndex := 12, attributes := #[] }, { accessFlags := 26, nameIndex := 677, descriptorIndex := 12, attributes := #[] }, { accessFlags := 10, nameIndex := 11, descriptorIndex := 12, attributes := #[] }, { accessFlags := 74, nameIndex := 175, descriptorIndex := 176, attributes := #[] }, { accessFlags := 10, nameIndex := 491, descriptorIndex := 222, attributes := #[] }, { accessFlags := 74, nameIndex := 29, descriptorIndex := 30, attributes := #[] }, { accessFlags := 74, nameIndex := 154, descriptorIndex := 155, attributes := #[] }, { accessFlags := 10, nameIndex := 217, descriptorIndex := 218, attributes := #[] }, { accessFlags := 10, nameIndex := 221, descriptorIndex := 222, attributes := #[] }, { accessFlags := 8, nameIndex := 562, descriptorIndex := 563, attributes := #[] }])
  fields := #[{ name := "in", type := (.object "java/io/InputStream"), accessFlags := 25, slot := 0, constantValue := 0 }, { name := "out", type := (.object "java/io/PrintStream"), accessFlags := 25, slot := 1, constantValue := 0 }, { name := "err", type := (.object "java/io/PrintStream"), accessFlags := 25, slot := 2, constantValue := 0 }, { name := "initialIn", type := (.object "java/io/InputStream"), accessFlags := 10, slot := 3, constantValue := 0 }, { name := "NEVER", type := .int, accessFlags := 26, slot := 4, constantValue := 0 }, { name := "MAYBE", type := .int, accessFlags := 26, slot := 5, constantValue := 0 }, { name := "allowSecurityManager", type := .int, accessFlags := 10, slot := 6, constantValue := 0 }, { name := "security", type := (.object "java/lang/SecurityManager"), accessFlags := 74, slot := 7, constantValue := 0 }, { name := "notSupportedJnuEncoding", type := (.object "java/lang/String"), accessFlags := 10, slot := 8, constantValue := 0 }, { name := "cons", type := (.object "java/io/Console"), accessFlags := 74, slot := 9, constantValue := 0 }, { name := "initialErrStream", type := (.object "java/io/PrintStream"), accessFlags := 74, slot := 10, constantValue := 0 }, { name := "props", type := (.object "java/util/Properties"), accessFlags := 10, slot := 11, constantValue := 0 }, { name := "lineSeparator", type := (.object "java/lang/String"), accessFlags := 10, slot := 12, constantValue := 0 }, { name := "bootLayer", type := (.object "java/lang/ModuleLayer"), accessFlags := 8, slot := 13, constantValue := 0 }]
  methods := #[k15m0, k15m1]
  instanceTypes := #[]
  staticTypes := #[(.object "java/io/InputStream"), (.object "java/io/PrintStream"), (.object "java/io/PrintStream"), (.object "java/io/InputStream"), .int, .int, .int, (.object "java/lang/SecurityManager"), (.object "java/lang/String"), (.object "java/io/Console"), (.object "java/io/PrintStream"), (.object "java/util/Properties"), (.object "java/lang/String"), (.object "java/lang/ModuleLayer")]
  resolved := Array.replicate 834 none
  statics := none }

def pool16 : Array CpInfo := pool [(2, .class_ 4), (1, u "java/lang/Object"), (0, u "<init>"), (0, u "()V"), (7, .class_ 16), (1, u "java/util/Arrays"), (57, .class_ 76), (1, u "java/util/Arrays$NaturalOrder"), (36, .class_ 115), (1, u "java/util/Arrays$LegacyMergeSort"), (1, u "Z"), (21, u "copyOfRange"), (10, .methodref 151 152), (0, .class_ 153), (0, .nameAndType 154 155), (0, u "java/lang/System"), (0, u "arraycopy"), (0, u "(Ljava/lang/Object;ILjava/lang/Object;II)V"), (148, .methodref 305 306), (0, .class_ 307), (0, .nameAndType 308 309), (0, u "java/lang/Math"), (0, u "min"), (0, u "(II)I"), (29, .methodref 14 340), (0, .nameAndType 341 342), (0, u "copyOfRangeByte"), (0, u "([BII)[B"), (0, .methodref 14 344), (0, .nameAndType 345 346), (0, u "checkLength"), (0, u "(II)V"), (28, .class_ 376), (0, u "java/util/Arrays$ArrayList"), (68, u "$assertionsDisabled"), (269, u "MIN_ARRAY_SORT_GRAN"), (0, u "I"), (2, u "INSERTIONSORT_THRESHOLD"), (255, .class_ 976), (0, u "java/util/Arrays$ArrayItr")] 52

def k16m0 : Method := { name := "<init>", desc := "()V", sig := { parameters := [], returnType := none }, accessFlags := 2, code := none }
def k16c1 : Code := { maxStack := 4, maxLocals := 2, code := jdk_65_method_131_code, exceptionTable := #[], attributes := #[] }
def k16m1 : Method := { name := "checkLength", desc := "(II)V", sig := { parameters := [.int, .int], returnType := none }, accessFlags := 10, code := some k16c1 }
def k16c2 : Code := { maxStack := 3, maxLocals := 3, code := jdk_65_method_132_code, exceptionTable := #[], attributes := #[] }
def k16m2 : Method := { name := "copyOfRange", desc := "([BII)[B", sig := { parameters := [(.array .byte), .int, .int], returnType := some (.array .byte) }, accessFlags := 9, code := some k16c2 }
def k16c3 : Code := { maxStack := 6, maxLocals := 5, code := jdk_65_method_133_code, exceptionTable := #[], attributes := #[] }
def k16m3 : Method := { name := "copyOfRangeByte", desc := "([BII)[B", sig := { parameters := [(.array .byte), .int, .int], returnType := some (.array .byte) }, accessFlags := 10, code := some k16c3 }
/-- java/util/Arrays -/
def k16 : Class := { plain "java/util/Arrays" (some 0) with
  accessFlags := 49
  interfaces := #[]
  cf := some (fileOf pool16 14 #[.nestMembers #[975, 375, 113, 74]] #[{ accessFlags := 2, nameIndex := 5, descriptorIndex := 6, attributes := #[] }, { accessFlags := 10, nameIndex := 345, descriptorIndex := 346, attributes := #[] }, { accessFlags := 9, nameIndex := 139, descriptorIndex := 342, attributes := #[] }, { accessFlags := 10, nameIndex := 341, descriptorIndex := 342, attributes := #[] }] 49 2 #[] #[{ accessFlags := 26, nameIndex := 715, descriptorIndex := 716, attributes := #[] }, { accessFlags := 26, nameIndex := 719, descriptorIndex := 716, attributes := #[] }, { accessFlags := 4120, nameIndex := 445, descriptorIndex := 117, attributes := #[] }])
  fields := #[{ name := "MIN_ARRAY_SORT_GRAN", type := .int, accessFlags := 26, slot := 0, constantValue := 0 }, { name := "INSERTIONSORT_THRESHOLD", type := .int, accessFlags := 26, slot := 1, constantValue := 0 }, { name := "$assertionsDisabled", type := .boolean, accessFlags := 4120, slot := 2, constantValue := 0 }]
  methods := #[k16m0, k16m1, k16m2, k16m3]
  instanceTypes := #[]
  staticTypes := #[.int, .int, .boolean]
  resolved := Array.replicate 1029 none
  statics := none }

def pool17 : Array CpInfo := pool [(1, .class_ 2), (0, u "java/lang/Math"), (1, .class_ 6), (1, u "java/lang/Object"), (0, u "<init>"), (0, u "()V"), (89, .class_ 100), (1, u "java/lang/Math$RandomNumberGeneratorHolder"), (71, u "negativeZeroFloatBits"), (0, u "J"), (2, u "negativeZeroDoubleBits"), (21, u "max"), (2, u "min"), (43, u "$assertionsDisabled"), (0, u "Z"), (88, u "(II)I"), (2, u "twoToTheDoubleScaleDown"), (0, u "D"), (4, u "twoToTheDoubleScaleUp"), (9, u "E"), (3, u "PI"), (2, u "TAU"), (2, u "DEGREES_TO_RADIANS"), (0, u "RADIANS_TO_DEGREES")] 94

def k17m0 : Method := { name := "<init>", desc := "()V", sig := { parameters := [], returnType := none }, accessFlags := 2, code := none }
def k17c1 : Code := { maxStack := 2, maxLocals := 2, code := jdk_29_method_65_code, exceptionTable := #[], attributes := #[] }
def k17m1 : Method := { name := "max", desc := "(II)I", sig := { parameters := [.int, .int], returnType := some .int }, accessFlags := 9, code := some k17c1 }
def k17c2 : Code := { maxStack := 2, maxLocals := 2, code := jdk_29_method_69_code, exceptionTable := #[], attributes := #[] }
def k17m2 : Method := { name := "min", desc := "(II)I", sig := { parameters := [.int, .int], returnType := some .int }, accessFlags := 9, code := some k17c2 }
/-- java/lang/Math -/
def k17 : Class := { plain "java/lang/Math" (some 0) with
  accessFlags := 49
  interfaces := #[]
  cf := some (fileOf pool17 1 #[.nestMembers #[98]] #[{ accessFlags := 2, nameIndex := 7, descriptorIndex := 8, attributes := #[] }, { accessFlags := 9, nameIndex := 198, descriptorIndex := 335, attributes := #[] }, { accessFlags := 9, nameIndex := 201, descriptorIndex := 335, attributes := #[] }] 49 4 #[] #[{ accessFlags := 25, nameIndex := 354, descriptorIndex := 339, attributes := #[] }, { accessFlags := 25, nameIndex := 358, descriptorIndex := 339, attributes := #[] }, { accessFlags := 25, nameIndex := 361, descriptorIndex := 339, attributes := #[] }, { accessFlags := 26, nameIndex := 364, descriptorIndex := 339, attributes := #[] }, { accessFlags := 26, nameIndex := 365, descriptorIndex := 339, attributes := #[] }, { accessFlags := 26, nameIndex := 172, descriptorIndex := 173, attributes := #[] }, { accessFlags := 26, nameIndex := 176, descriptorIndex := 173, attributes := #[] }, { accessFlags := 8, nameIndex := 344, descriptorIndex := 339, attributes := #[] }, { accessFlags := 8, nameIndex := 338, descriptorIndex := 339, attributes := #[] }, { accessFlags := 4120, nameIndex := 245, descriptorIndex := 246, attributes := #[] }])
  fields := #[{ name := "E", type := .double, accessFlags := 25, slot := 0, constantValue := 0 }, { name := "PI", type := .double, accessFlags := 25, slot := 1, constantValue := 0 }, { name := "TAU", type := .double, accessFlags := 25, slot := 2, constantValue := 0 }, { name := "DEGREES_TO_RADIANS", type := .double, accessFlags := 26, slot := 3, constantValue := 0 }, { name := "RADIANS_TO_DEGREES", type := .double, accessFlags := 26, slot := 4, constantValue := 0 }, { name := "negativeZeroFloatBits", type := .long, accessFlags := 26, slot := 5, constantValue := 0 }, { name := "negativeZeroDoubleBits", type := .long, accessFlags := 26, slot := 6, constantValue := 0 }, { name := "twoToTheDoubleScaleUp", type := .double, accessFlags := 8, slot := 7, constantValue := 0 }, { name := "twoToTheDoubleScaleDown", type := .double, accessFlags := 8, slot := 8, constantValue := 0 }, { name := "$assertionsDisabled", type := .boolean, accessFlags := 4120, slot := 9, constantValue := 0 }]
  methods := #[k17m0, k17m1, k17m2]
  instanceTypes := #[]
  staticTypes := #[.double, .double, .double, .double, .double, .long, .long, .double, .double, .boolean]
  resolved := Array.replicate 460 none
  statics := none }

def pool18 : Array CpInfo := pool [(6, .class_ 8), (1, u "java/lang/Object"), (0, u "<init>"), (0, u "()V"), (1, .class_ 14), (1, u "java/lang/StringUTF16"), (31, u "$assertionsDisabled"), (0, u "Z"), (13, u "HI_BYTE_SHIFT"), (0, u "I"), (2, u "LO_BYTE_SHIFT"), (49, .methodref 12 116), (0, .nameAndType 117 118), (0, u "compress"), (0, u "([CI[BII)I"), (3, u "([CII)[B"), (138, u "coderFromArrayLen"), (0, u "([BI)B"), (106, .class_ 371), (1, u "java/lang/StringUTF16$LinesSpliterator"), (58, u "MAX_LENGTH"), (196, .class_ 628), (0, u "java/lang/StringUTF16$CodePointsSpliterator"), (0, .class_ 630), (0, u "java/lang/StringUTF16$CharsSpliterator")] 4

def k18m0 : Method := { name := "<init>", desc := "()V", sig := { parameters := [], returnType := none }, accessFlags := 0, code := none }
def k18c1 : Code := { maxStack := 2, maxLocals := 2, code := jdk_52_method_15_code, exceptionTable := #[], attributes := #[] }
def k18m1 : Method := { name := "coderFromArrayLen", desc := "([BI)B", sig := { parameters := [(.array .byte), .int], returnType := some .byte }, accessFlags := 8, code := some k18c1 }
def k18c2 : Code := { maxStack := 5, maxLocals := 6, code := jdk_52_method_16_code, exceptionTable := #[], attributes := #[] }
def k18m2 : Method := { name := "compress", desc := "([CII)[B", sig := { parameters := [(.array .char), .int, .int], returnType := some (.array .byte) }, accessFlags := 9, code := some k18c2 }
def k18c3 : Code := { maxStack := 3, maxLocals := 7, code := jdk_52_method_21_code, exceptionTable := #[], attributes := #[] }
def k18m3 : Method := { name := "compress", desc := "([CI[BII)I", sig := { parameters := [(.array .char), .int, (.array .byte), .int, .int], returnType := some .int }, accessFlags := 9, code := some k18c3 }
/-- java/lang/StringUTF16 -/
def k18 : Class := { plain "java/lang/StringUTF16" (some 0) with
  accessFlags := 48
  interfaces := #[]
  cf := some (fileOf pool18 12 #[.nestMembers #[627, 629, 369]] #[{ accessFlags := 0, nameIndex := 9, descriptorIndex := 10, attributes := #[] }, { accessFlags := 8, nameIndex := 261, descriptorIndex := 262, attributes := #[] }, { accessFlags := 9, nameIndex := 117, descriptorIndex := 122, attributes := #[] }, { accessFlags := 9, nameIndex := 117, descriptorIndex := 118, attributes := #[] }] 48 6 #[] #[{ accessFlags := 26, nameIndex := 61, descriptorIndex := 62, attributes := #[] }, { accessFlags := 26, nameIndex := 65, descriptorIndex := 62, attributes := #[] }, { accessFlags := 24, nameIndex := 430, descriptorIndex := 62, attributes := #[] }, { accessFlags := 4120, nameIndex := 46, descriptorIndex := 47, attributes := #[] }])
  fields := #[{ name := "HI_BYTE_SHIFT", type := .int, accessFlags := 26, slot := 0, constantValue := 0 }, { name := "LO_BYTE_SHIFT", type := .int, accessFlags := 26, slot := 1, constantValue := 0 }, { name := "MAX_LENGTH", type := .int, accessFlags := 24, slot := 2, constantValue := 0 }, { name := "$assertionsDisabled", type := .boolean, accessFlags := 4120, slot := 3, constantValue := 0 }]
  methods := #[k18m0, k18m1, k18m2, k18m3]
  instanceTypes := #[]
  staticTypes := #[.int, .int, .int, .boolean]
  resolved := Array.replicate 635 none
  statics := none }

def pool19 : Array CpInfo := pool [(9, u "<init>"), (6, .class_ 18), (1, u "java/lang/Object"), (0, u "()V"), (1, .class_ 23), (1, u "jdk/internal/util/ArraysSupport"), (0, u "LOG2_ARRAY_LONG_INDEX_SCALE"), (0, u "I"), (2, u "U"), (0, u "Ljdk/internal/misc/Unsafe;"), (8, u "BIG_ENDIAN"), (0, u "Z"), (8, u "LOG2_BYTE_BIT_SIZE"), (4, u "LOG2_ARRAY_INT_INDEX_SCALE"), (54, u "JLA"), (0, u "Ljdk/internal/access/JavaLangAccess;"), (11, u "LOG2_ARRAY_BOOLEAN_INDEX_SCALE"), (9, u "LOG2_ARRAY_BYTE_INDEX_SCALE"), (5, u "LOG2_ARRAY_CHAR_INDEX_SCALE"), (5, u "LOG2_ARRAY_SHORT_INDEX_SCALE"), (18, u "LOG2_ARRAY_FLOAT_INDEX_SCALE"), (24, u "LOG2_ARRAY_DOUBLE_INDEX_SCALE"), (89, u "T_BOOLEAN"), (2, u "T_CHAR"), (1, u "T_FLOAT"), (1, u "T_DOUBLE"), (1, u "T_BYTE"), (1, u "T_SHORT"), (1, u "T_INT"), (1, u "T_LONG"), (1, u "SOFT_MAX_ARRAY_LENGTH")] 83

def k19m0 : Method := { name := "<init>", desc := "()V", sig := { parameters := [], returnType := none }, accessFlags := 2, code := none }
/-- jdk/internal/util/ArraysSupport -/
def k19 : Class := { plain "jdk/internal/util/ArraysSupport" (some 0) with
  accessFlags := 33
  interfaces := #[]
  cf := some (fileOf pool19 21 #[] #[{ accessFlags := 2, nameIndex := 9, descriptorIndex := 19, attributes := #[] }] 33 16 #[] #[{ accessFlags := 24, nameIndex := 28, descriptorIndex := 29, attributes := #[] }, { accessFlags := 26, nameIndex := 38, descriptorIndex := 39, attributes := #[] }, { accessFlags := 25, nameIndex := 121, descriptorIndex := 25, attributes := #[] }, { accessFlags := 25, nameIndex := 131, descriptorIndex := 25, attributes := #[] }, { accessFlags := 25, nameIndex := 137, descriptorIndex := 25, attributes := #[] }, { accessFlags := 25, nameIndex := 143, descriptorIndex := 25, attributes := #[] }, { accessFlags := 25, nameIndex := 53, descriptorIndex := 25, attributes := #[] }, { accessFlags := 25, nameIndex := 24, descriptorIndex := 25, attributes := #[] }, { accessFlags := 25, nameIndex := 162, descriptorIndex := 25, attributes := #[] }, { accessFlags := 25, nameIndex := 187, descriptorIndex := 25, attributes := #[] }, { accessFlags := 26, nameIndex := 48, descriptorIndex := 25, attributes := #[] }, { accessFlags := 25, nameIndex := 277, descriptorIndex := 25, attributes := #[] }, { accessFlags := 25, nameIndex := 280, descriptorIndex := 25, attributes := #[] }, { accessFlags := 25, nameIndex := 282, descriptorIndex := 25, attributes := #[] }, { accessFlags := 25, nameIndex := 284, descriptorIndex := 25, attributes := #[] }, { accessFlags := 25, nameIndex := 286, descriptorIndex := 25, attributes := #[] }, { accessFlags := 25, nameIndex := 288, descriptorIndex := 25, attributes := #[] }, { accessFlags := 25, nameIndex := 290, descriptorIndex := 25, attributes := #[] }, { accessFlags := 25, nameIndex := 292, descriptorIndex := 25, attributes := #[] }, { accessFlags := 26, nameIndex := 108, descriptorIndex := 109, attributes := #[] }, { accessFlags := 25, nameIndex := 294, descriptorIndex := 25, attributes := #[] }])
  fields := #[{ name := "U", type := (.object "jdk/internal/misc/Unsafe"), accessFlags := 24, slot := 0, constantValue := 0 }, { name := "BIG_ENDIAN", type := .boolean, accessFlags := 26, slot := 1, constantValue := 0 }, { name := "LOG2_ARRAY_BOOLEAN_INDEX_SCALE", type := .int, accessFlags := 25, slot := 2, constantValue := 0 }, { name := "LOG2_ARRAY_BYTE_INDEX_SCALE", type := .int, accessFlags := 25, slot := 3, constantValue := 0 }, { name := "LOG2_ARRAY_CHAR_INDEX_SCALE", type := .int, accessFlags := 25, slot := 4, constantValue := 0 }, { name := "LOG2_ARRAY_SHORT_INDEX_SCALE", type := .int, accessFlags := 25, slot := 5, constantValue := 0 }, { name := "LOG2_ARRAY_INT_INDEX_SCALE", type := .int, accessFlags := 25, slot := 6, constantValue := 0 }, { name := "LOG2_ARRAY_LONG_INDEX_SCALE", type := .int, accessFlags := 25, slot := 7, constantValue := 0 }, { name := "LOG2_ARRAY_FLOAT_INDEX_SCALE", type := .int, accessFlags := 25, slot := 8, constantValue := 0 }, { name := "LOG2_ARRAY_DOUBLE_INDEX_SCALE", type := .int, accessFlags := 25, slot := 9, constantValue := 0 }, { name := "LOG2_BYTE_BIT_SIZE", type := .int, accessFlags := 26, slot := 10, constantValue := 0 }, { name := "T_BOOLEAN", type := .int, accessFlags := 25, slot := 11, constantValue := 0 }, { name := "T_CHAR", type := .int, accessFlags := 25, slot := 12, constantValue := 0 }, { name := "T_FLOAT", type := .int, accessFlags := 25, slot := 13, constantValue := 0 }, { name := "T_DOUBLE", type := .int, accessFlags := 25, slot := 14, constantValue := 0 }, { name := "T_BYTE", type := .int, accessFlags := 25, slot := 15, constantValue := 0 }, { name := "T_SHORT", type := .int, accessFlags := 25, slot := 16, constantValue := 0 }, { name := "T_INT", type := .int, accessFlags := 25, slot := 17, constantValue := 0 }, { name := "T_LONG", type := .int, accessFlags := 25, slot := 18, constantValue := 0 }, { name := "JLA", type := (.object "jdk/internal/access/JavaLangAccess"), accessFlags := 26, slot := 19, constantValue := 0 }, { name := "SOFT_MAX_ARRAY_LENGTH", type := .int, accessFlags := 25, slot := 20, constantValue := 0 }]
  methods := #[k19m0]
  instanceTypes := #[]
  staticTypes := #[(.object "jdk/internal/misc/Unsafe"), .boolean, .int, .int, .int, .int, .int, .int, .int, .int, .int, .int, .int, .int, .int, .int, .int, .int, .int, (.object "jdk/internal/access/JavaLangAccess"), .int]
  resolved := Array.replicate 378 none
  statics := none }

def pool20 : Array CpInfo := pool [(1, u "java/lang/Cloneable"), (0, .class_ 1), (0, u "java/lang/Object"), (0, .class_ 3)] 3

/-- java/lang/Cloneable -/
def k20 : Class := { plain "java/lang/Cloneable" (some 0) with
  accessFlags := 1537
  interfaces := #[]
  cf := some (fileOf pool20 2 #[] #[] 1537 4 #[] #[])
  fields := #[]
  methods := #[]
  instanceTypes := #[]
  staticTypes := #[]
  resolved := Array.replicate 8 none
  statics := none }

/-- the primitive byte -/
def k21 : Class := { plain "byte" none with kind := .primitive 'B', accessFlags := 0x411 }
/-- [B -/
def k22 : Class := { plain "[B" (some 0) with kind := .array 21 .byte, interfaces := #[20, 2], accessFlags := 1041 }

/-- the primitive char -/
def k23 : Class := { plain "char" none with kind := .primitive 'C', accessFlags := 0x411 }
/-- [C -/
def k24 : Class := { plain "[C" (some 0) with kind := .array 23 .char, interfaces := #[20, 2], accessFlags := 1041 }

/-- the primitive int -/
def k25 : Class := { plain "int" none with kind := .primitive 'I', accessFlags := 0x411 }
/-- [I -/
def k26 : Class := { plain "[I" (some 0) with kind := .array 25 .int, interfaces := #[20, 2], accessFlags := 1041 }

def heap : Heap := #[{ cls := 7, slots := #[.long 0, .int 1, .null, .int 0, .null, .int 0, .int 0], vm := .statics 7 },
  { cls := 9, slots := #[.int 0, .int 0, .ref 5, .ref 8], vm := .statics 9 },
  { cls := 11, slots := #[.null, .null, .null], vm := .statics 11 },
  { cls := 22, slots := #[.int 46, .int 95, .int 45], vm := .none },
  { cls := 7, slots := #[.ref 3, .int 0, .int 0, .int 0], vm := .none },
  { cls := 10, slots := #[.int 64, .ref 4, .null], vm := .none },
  { cls := 22, slots := #[.int 46, .int 95, .int 58, .int 45], vm := .none },
  { cls := 7, slots := #[.ref 6, .int 0, .int 0, .int 0], vm := .none },
  { cls := 10, slots := #[.int 128, .ref 7, .null], vm := .none }]
def classes : Array Class := #[k0, k1, k2, k3, k4, k5, k6, k7, k8, k9, k10, k11, k12, k13, k14, k15, k16, k17, k18, k19, k20, k21, k22, k23, k24, k25, k26]
def interned : List (Array UInt16 × Addr) := []
def slotsUsed : Nat := 35
def theMethod : MethodId := ⟨1, 3⟩
def args0 : Array Value := #[.int 1, .int 2, .int 3, .int 4, .int 3]
def aboutOver (below : List Frame) : State where
  vm := { classes := classes, interned := interned.toArray }
  heap := heap
  slotsUsed := slotsUsed
  threads := #[{ frames := .invoking theMethod args0 :: below }]
def below0 : List Frame := [.native { method := ⟨0, 0⟩, args := #[] }]
def about1 : State := aboutOver below0
def p0 : Program := .bare "" "" ""
def e0 : Env := launch0.env 0 0 0
theorem w_frames : about1.frames = Frame.invoking theMethod args0 :: below0 := rfl
set_option maxRecDepth 65536 in
theorem w_args : argsFit about1.vm theMethod args0 = true := by decide +kernel
set_option maxRecDepth 65536 in
theorem w_heap : heapFits about1 = true := by decide +kernel
set_option maxRecDepth 65536 in
theorem w_runnable : about1.curStatus? = some .runnable := by decide +kernel
set_option maxRecDepth 65536 in
theorem w_alone : about1.alone = true := by decide +kernel
set_option maxRecDepth 65536 in
theorem w_named : about1.methodNamed? x = some theMethod := by decide +kernel
set_option maxRecDepth 65536 in
theorem w_hears : about1.hears theMethod below0 = true := by decide +kernel
set_option maxRecDepth 65536 in
theorem w_ripe : about1.ripe theMethod args0 below0 = true := by decide +kernel
theorem w_running : about1.status = .running := rfl
set_option maxRecDepth 65536 in
theorem w_room : about1.hasRoom e0.platform room_1 = true :=
  launch0.hasRoom_least _ room_1 (by decide +kernel) (by decide +kernel) (by decide +kernel) (by decide +kernel) (by decide +kernel) (by decide +kernel)
theorem allAtoms_all (ts : List Jvm.Cond) (a : Array Jvm.Value) (st : Jvm.State) : (allAtoms ts).before a st = ts.all (fun c => c.before a st) := by
  induction ts with
  | nil => rfl
  | cons c t ih =>
    show (Jvm.Cond.and c (allAtoms t)).before a st = _
    rw [Jvm.Cond.before_and, ih, List.all_cons]
def words1 : List Jvm.Cond := Jvm.Cond.code x code maxLocals ret :: tables_1
/-- a 'code' word, met by the world's own term for the bytes: nothing is compared byte by byte -/
theorem code_word {y : MethodName} {bytes : ByteArray} {mx : Nat} {rt : Option FieldType} {a : Array Value} {s : State} {m : MethodId} {meth : Method} {c : Code} (h1 : s.methodNamed? y = some m) (h2 : s.vm.method? m = some meth) (h3 : meth.code = some c) (h4 : c.code = bytes)
    (h5 : (c.maxLocals == mx && c.exceptionTable.isEmpty && decide (c.maxStack ≤ mostOperands) && decide (meth.sig.returnType = rt) && !meth.locks && decide (parseMethodDescriptor y.desc = some meth.sig)) = true) : (Jvm.Cond.code y bytes mx rt).before a s = true := by
  simp only [Bool.and_eq_true, beq_iff_eq, Bool.not_eq_true', decide_eq_true_eq] at h5
  obtain ⟨⟨⟨⟨⟨g1, g2⟩, g3⟩, g4⟩, g5⟩, g6⟩ := h5
  simp [Cond.before, Cond.holds, Cond.value, h1, h2, h3, h4, g1, g2, g3, g4, g5, g6]
def isCode : Jvm.Cond → Bool
  | .code _ _ _ _ => true
  | _ => false
theorem all_split {L : List Jvm.Cond} {P : Jvm.Cond → Bool} (h1 : L.all (fun c => isCode c || P c) = true) (h2 : ∀ c ∈ L.filter isCode, P c = true) : L.all P = true := by
  refine List.all_eq_true.mpr fun c hc => ?_
  have h := List.all_eq_true.mp h1 c hc
  rcases Bool.eq_false_or_eq_true (isCode c) with hi | hi
  · exact h2 c (List.mem_filter.mpr ⟨hc, hi⟩)
  · simpa [hi] using h
set_option maxRecDepth 65536 in
theorem w_c0 : (Jvm.Cond.code x code maxLocals ret).before args0 about1 = true := code_word (m := ⟨1, 3⟩) (meth := k1m3) (c := k1c3) (by decide +kernel) rfl rfl rfl (by decide +kernel)
set_option maxRecDepth 65536 in
theorem w_c1 : (Jvm.Cond.code ({ cls := "com/example/cunctator/cunctator/JobKeyToStringPinLaw", name := "topicChar", desc := "(I)C" } : Jvm.MethodName) method_2_code (2 : Nat) (Option.some Jvm.ClassFile.FieldType.char)).before args0 about1 = true := code_word (m := ⟨1, 1⟩) (meth := k1m1) (c := k1c1) (by decide +kernel) rfl rfl rfl (by decide +kernel)
set_option maxRecDepth 65536 in
theorem w_c2 : (Jvm.Cond.code ({ cls := "com/example/cunctator/cunctator/JobKeyToStringPinLaw", name := "idChar", desc := "(I)C" } : Jvm.MethodName) method_3_code (2 : Nat) (Option.some Jvm.ClassFile.FieldType.char)).before args0 about1 = true := code_word (m := ⟨1, 2⟩) (meth := k1m2) (c := k1c2) (by decide +kernel) rfl rfl rfl (by decide +kernel)
set_option maxRecDepth 65536 in
theorem w_c3 : (Jvm.Cond.code ({ cls := "java/lang/String", name := "valueOf", desc := "(C)Ljava/lang/String;" } : Jvm.MethodName) jdk_42_method_139_code (1 : Nat) (Option.some (Jvm.ClassFile.FieldType.object "java/lang/String"))).before args0 about1 = true := code_word (m := ⟨7, 8⟩) (meth := k7m8) (c := k7c8) (by decide +kernel) rfl rfl rfl (by decide +kernel)
set_option maxRecDepth 65536 in
theorem w_c4 : (Jvm.Cond.code ({ cls := "java/lang/StringLatin1", name := "canEncode", desc := "(C)Z" } : Jvm.MethodName) jdk_43_method_3_code (1 : Nat) (Option.some Jvm.ClassFile.FieldType.boolean)).before args0 about1 = true := code_word (m := ⟨8, 2⟩) (meth := k8m2) (c := k8c2) (by decide +kernel) rfl rfl rfl (by decide +kernel)
set_option maxRecDepth 65536 in
theorem w_c5 : (Jvm.Cond.code ({ cls := "java/lang/StringLatin1", name := "toBytes", desc := "(C)[B" } : Jvm.MethodName) jdk_43_method_46_code (1 : Nat) (Option.some (Jvm.ClassFile.FieldType.array Jvm.ClassFile.FieldType.byte))).before args0 about1 = true := code_word (m := ⟨8, 6⟩) (meth := k8m6) (c := k8c6) (by decide +kernel) rfl rfl rfl (by decide +kernel)
set_option maxRecDepth 65536 in
theorem w_c6 : (Jvm.Cond.code ({ cls := "java/lang/String", name := "<init>", desc := "([BB)V" } : Jvm.MethodName) jdk_42_method_151_code (3 : Nat) (Option.none : Option Jvm.ClassFile.FieldType)).before args0 about1 = true := code_word (m := ⟨7, 12⟩) (meth := k7m12) (c := k7c12) (by decide +kernel) rfl rfl rfl (by decide +kernel)
set_option maxRecDepth 65536 in
theorem w_c7 : (Jvm.Cond.code ({ cls := "java/lang/Object", name := "<init>", desc := "()V" } : Jvm.MethodName) object_method_1_code (1 : Nat) (Option.none : Option Jvm.ClassFile.FieldType)).before args0 about1 = true := code_word (m := ⟨0, 0⟩) (meth := k0m0) (c := k0c0) (by decide +kernel) rfl rfl rfl (by decide +kernel)
set_option maxRecDepth 65536 in
theorem w_c8 : (Jvm.Cond.code ({ cls := "com/example/cunctator/cunctator/JobKey", name := "<init>", desc := "(Ljava/lang/String;Ljava/lang/String;)V" } : Jvm.MethodName) prog_8_method_1_code (3 : Nat) (Option.none : Option Jvm.ClassFile.FieldType)).before args0 about1 = true := code_word (m := ⟨9, 0⟩) (meth := k9m0) (c := k9c0) (by decide +kernel) rfl rfl rfl (by decide +kernel)
set_option maxRecDepth 65536 in
theorem w_c9 : (Jvm.Cond.code ({ cls := "com/example/cunctator/cunctator/JobKey", name := "checkTopic", desc := "(Ljava/lang/String;)Ljava/lang/String;" } : Jvm.MethodName) prog_8_method_2_code (1 : Nat) (Option.some (Jvm.ClassFile.FieldType.object "java/lang/String"))).before args0 about1 = true := code_word (m := ⟨9, 1⟩) (meth := k9m1) (c := k9c1) (by decide +kernel) rfl rfl rfl (by decide +kernel)
set_option maxRecDepth 65536 in
theorem w_c10 : (Jvm.Cond.code ({ cls := "com/example/cunctator/cunctator/JobKey$NameRule", name := "check", desc := "(Ljava/lang/String;)Ljava/lang/String;" } : Jvm.MethodName) prog_9_method_2_code (4 : Nat) (Option.some (Jvm.ClassFile.FieldType.object "java/lang/String"))).before args0 about1 = true := code_word (m := ⟨10, 0⟩) (meth := k10m0) (c := k10c0) (by decide +kernel) rfl rfl rfl (by decide +kernel)
set_option maxRecDepth 65536 in
theorem w_c11 : (Jvm.Cond.code ({ cls := "java/lang/String", name := "isEmpty", desc := "()Z" } : Jvm.MethodName) jdk_42_method_55_code (1 : Nat) (Option.some Jvm.ClassFile.FieldType.boolean)).before args0 about1 = true := code_word (m := ⟨7, 4⟩) (meth := k7m4) (c := k7c4) (by decide +kernel) rfl rfl rfl (by decide +kernel)
set_option maxRecDepth 65536 in
theorem w_c12 : (Jvm.Cond.code ({ cls := "java/lang/String", name := "length", desc := "()I" } : Jvm.MethodName) jdk_42_method_54_code (1 : Nat) (Option.some Jvm.ClassFile.FieldType.int)).before args0 about1 = true := code_word (m := ⟨7, 3⟩) (meth := k7m3) (c := k7c3) (by decide +kernel) rfl rfl rfl (by decide +kernel)
set_option maxRecDepth 65536 in
theorem w_c13 : (Jvm.Cond.code ({ cls := "java/lang/String", name := "coder", desc := "()B" } : Jvm.MethodName) jdk_42_method_152_code (1 : Nat) (Option.some Jvm.ClassFile.FieldType.byte)).before args0 about1 = true := code_word (m := ⟨7, 13⟩) (meth := k7m13) (c := k7c13) (by decide +kernel) rfl rfl rfl (by decide +kernel)
set_option maxRecDepth 65536 in
theorem w_c14 : (Jvm.Cond.code ({ cls := "java/lang/String", name := "charAt", desc := "(I)C" } : Jvm.MethodName) jdk_42_method_56_code (2 : Nat) (Option.some Jvm.ClassFile.FieldType.char)).before args0 about1 = true := code_word (m := ⟨7, 5⟩) (meth := k7m5) (c := k7c5) (by decide +kernel) rfl rfl rfl (by decide +kernel)
set_option maxRecDepth 65536 in
theorem w_c15 : (Jvm.Cond.code ({ cls := "java/lang/String", name := "isLatin1", desc := "()Z" } : Jvm.MethodName) jdk_42_method_154_code (1 : Nat) (Option.some Jvm.ClassFile.FieldType.boolean)).before args0 about1 = true := code_word (m := ⟨7, 14⟩) (meth := k7m14) (c := k7c14) (by decide +kernel) rfl rfl rfl (by decide +kernel)
set_option maxRecDepth 65536 in
theorem w_c16 : (Jvm.Cond.code ({ cls := "java/lang/StringLatin1", name := "charAt", desc := "([BI)C" } : Jvm.MethodName) jdk_43_method_2_code (2 : Nat) (Option.some Jvm.ClassFile.FieldType.char)).before args0 about1 = true := code_word (m := ⟨8, 1⟩) (meth := k8m1) (c := k8c1) (by decide +kernel) rfl rfl rfl (by decide +kernel)
set_option maxRecDepth 65536 in
theorem w_c17 : (Jvm.Cond.code ({ cls := "java/lang/String", name := "checkIndex", desc := "(II)V" } : Jvm.MethodName) jdk_42_method_155_code (2 : Nat) (Option.none : Option Jvm.ClassFile.FieldType)).before args0 about1 = true := code_word (m := ⟨7, 15⟩) (meth := k7m15) (c := k7c15) (by decide +kernel) rfl rfl rfl (by decide +kernel)
set_option maxRecDepth 65536 in
theorem w_c18 : (Jvm.Cond.code ({ cls := "jdk/internal/util/Preconditions", name := "checkIndex", desc := "(IILjava/util/function/BiFunction;)I" } : Jvm.MethodName) jdk_41_method_11_code (3 : Nat) (Option.some Jvm.ClassFile.FieldType.int)).before args0 about1 = true := code_word (m := ⟨11, 1⟩) (meth := k11m1) (c := k11c1) (by decide +kernel) rfl rfl rfl (by decide +kernel)
set_option maxRecDepth 65536 in
theorem w_c19 : (Jvm.Cond.code ({ cls := "com/example/cunctator/cunctator/JobKey", name := "isAsciiLetterOrDigit", desc := "(C)Z" } : Jvm.MethodName) prog_8_method_9_code (1 : Nat) (Option.some Jvm.ClassFile.FieldType.boolean)).before args0 about1 = true := code_word (m := ⟨9, 4⟩) (meth := k9m4) (c := k9c4) (by decide +kernel) rfl rfl rfl (by decide +kernel)
set_option maxRecDepth 65536 in
theorem w_c20 : (Jvm.Cond.code ({ cls := "com/example/cunctator/cunctator/JobKey", name := "checkId", desc := "(Ljava/lang/String;)Ljava/lang/String;" } : Jvm.MethodName) prog_8_method_3_code (1 : Nat) (Option.some (Jvm.ClassFile.FieldType.object "java/lang/String"))).before args0 about1 = true := code_word (m := ⟨9, 2⟩) (meth := k9m2) (c := k9c2) (by decide +kernel) rfl rfl rfl (by decide +kernel)
set_option maxRecDepth 65536 in
theorem w_c21 : (Jvm.Cond.code ({ cls := "com/example/cunctator/cunctator/JobKey", name := "toString", desc := "()Ljava/lang/String;" } : Jvm.MethodName) prog_8_method_8_code (1 : Nat) (Option.some (Jvm.ClassFile.FieldType.object "java/lang/String"))).before args0 about1 = true := code_word (m := ⟨9, 3⟩) (meth := k9m3) (c := k9c3) (by decide +kernel) rfl rfl rfl (by decide +kernel)
set_option maxRecDepth 65536 in
theorem w_c22 : (Jvm.Cond.code ({ cls := "java/lang/StringBuilder", name := "<init>", desc := "()V" } : Jvm.MethodName) jdk_67_method_1_code (1 : Nat) (Option.none : Option Jvm.ClassFile.FieldType)).before args0 about1 = true := code_word (m := ⟨14, 0⟩) (meth := k14m0) (c := k14c0) (by decide +kernel) rfl rfl rfl (by decide +kernel)
set_option maxRecDepth 65536 in
theorem w_c23 : (Jvm.Cond.code ({ cls := "java/lang/AbstractStringBuilder", name := "<init>", desc := "(I)V" } : Jvm.MethodName) jdk_68_method_2_code (2 : Nat) (Option.none : Option Jvm.ClassFile.FieldType)).before args0 about1 = true := code_word (m := ⟨13, 1⟩) (meth := k13m1) (c := k13c1) (by decide +kernel) rfl rfl rfl (by decide +kernel)
set_option maxRecDepth 65536 in
theorem w_c24 : (Jvm.Cond.code ({ cls := "java/lang/StringBuilder", name := "append", desc := "(Ljava/lang/String;)Ljava/lang/StringBuilder;" } : Jvm.MethodName) jdk_67_method_7_code (2 : Nat) (Option.some (Jvm.ClassFile.FieldType.object "java/lang/StringBuilder"))).before args0 about1 = true := code_word (m := ⟨14, 1⟩) (meth := k14m1) (c := k14c1) (by decide +kernel) rfl rfl rfl (by decide +kernel)
set_option maxRecDepth 65536 in
theorem w_c25 : (Jvm.Cond.code ({ cls := "java/lang/AbstractStringBuilder", name := "append", desc := "(Ljava/lang/String;)Ljava/lang/AbstractStringBuilder;" } : Jvm.MethodName) jdk_68_method_22_code (3 : Nat) (Option.some (Jvm.ClassFile.FieldType.object "java/lang/AbstractStringBuilder"))).before args0 about1 = true := code_word (m := ⟨13, 4⟩) (meth := k13m4) (c := k13c4) (by decide +kernel) rfl rfl rfl (by decide +kernel)
set_option maxRecDepth 65536 in
theorem w_c26 : (Jvm.Cond.code ({ cls := "java/lang/AbstractStringBuilder", name := "ensureCapacityInternal", desc := "(I)V" } : Jvm.MethodName) jdk_68_method_9_code (3 : Nat) (Option.none : Option Jvm.ClassFile.FieldType)).before args0 about1 = true := code_word (m := ⟨13, 3⟩) (meth := k13m3) (c := k13c3) (by decide +kernel) rfl rfl rfl (by decide +kernel)
set_option maxRecDepth 65536 in
theorem w_c27 : (Jvm.Cond.code ({ cls := "java/lang/AbstractStringBuilder", name := "putStringAt", desc := "(ILjava/lang/String;)V" } : Jvm.MethodName) jdk_68_method_73_code (3 : Nat) (Option.none : Option Jvm.ClassFile.FieldType)).before args0 about1 = true := code_word (m := ⟨13, 8⟩) (meth := k13m8) (c := k13c8) (by decide +kernel) rfl rfl rfl (by decide +kernel)
set_option maxRecDepth 65536 in
theorem w_c28 : (Jvm.Cond.code ({ cls := "java/lang/AbstractStringBuilder", name := "inflateIfNeededFor", desc := "(Ljava/lang/String;)V" } : Jvm.MethodName) jdk_68_method_71_code (2 : Nat) (Option.none : Option Jvm.ClassFile.FieldType)).before args0 about1 = true := code_word (m := ⟨13, 7⟩) (meth := k13m7) (c := k13c7) (by decide +kernel) rfl rfl rfl (by decide +kernel)
set_option maxRecDepth 65536 in
theorem w_c29 : (Jvm.Cond.code ({ cls := "java/lang/String", name := "getBytes", desc := "([BIB)V" } : Jvm.MethodName) jdk_42_method_147_code (4 : Nat) (Option.none : Option Jvm.ClassFile.FieldType)).before args0 about1 = true := code_word (m := ⟨7, 9⟩) (meth := k7m9) (c := k7c9) (by decide +kernel) rfl rfl rfl (by decide +kernel)
set_option maxRecDepth 65536 in
theorem w_c30 : (Jvm.Cond.code ({ cls := "java/lang/StringBuilder", name := "toString", desc := "()Ljava/lang/String;" } : Jvm.MethodName) jdk_67_method_42_code (1 : Nat) (Option.some (Jvm.ClassFile.FieldType.object "java/lang/String"))).before args0 about1 = true := code_word (m := ⟨14, 2⟩) (meth := k14m2) (c := k14c2) (by decide +kernel) rfl rfl rfl (by decide +kernel)
set_option maxRecDepth 65536 in
theorem w_c31 : (Jvm.Cond.code ({ cls := "java/lang/String", name := "<init>", desc := "(Ljava/lang/StringBuilder;)V" } : Jvm.MethodName) jdk_42_method_53_code (2 : Nat) (Option.none : Option Jvm.ClassFile.FieldType)).before args0 about1 = true := code_word (m := ⟨7, 2⟩) (meth := k7m2) (c := k7c2) (by decide +kernel) rfl rfl rfl (by decide +kernel)
set_option maxRecDepth 65536 in
theorem w_c32 : (Jvm.Cond.code ({ cls := "java/lang/String", name := "<init>", desc := "(Ljava/lang/AbstractStringBuilder;Ljava/lang/Void;)V" } : Jvm.MethodName) jdk_42_method_150_code (5 : Nat) (Option.none : Option Jvm.ClassFile.FieldType)).before args0 about1 = true := code_word (m := ⟨7, 11⟩) (meth := k7m11) (c := k7c11) (by decide +kernel) rfl rfl rfl (by decide +kernel)
set_option maxRecDepth 65536 in
theorem w_c33 : (Jvm.Cond.code ({ cls := "java/lang/AbstractStringBuilder", name := "getValue", desc := "()[B" } : Jvm.MethodName) jdk_68_method_64_code (1 : Nat) (Option.some (Jvm.ClassFile.FieldType.array Jvm.ClassFile.FieldType.byte))).before args0 about1 = true := code_word (m := ⟨13, 5⟩) (meth := k13m5) (c := k13c5) (by decide +kernel) rfl rfl rfl (by decide +kernel)
set_option maxRecDepth 65536 in
theorem w_c34 : (Jvm.Cond.code ({ cls := "java/lang/StringBuilder", name := "length", desc := "()I" } : Jvm.MethodName) jdk_67_method_93_code (1 : Nat) (Option.some Jvm.ClassFile.FieldType.int)).before args0 about1 = true := code_word (m := ⟨14, 3⟩) (meth := k14m3) (c := k14c3) (by decide +kernel) rfl rfl rfl (by decide +kernel)
set_option maxRecDepth 65536 in
theorem w_c35 : (Jvm.Cond.code ({ cls := "java/lang/AbstractStringBuilder", name := "length", desc := "()I" } : Jvm.MethodName) jdk_68_method_6_code (1 : Nat) (Option.some Jvm.ClassFile.FieldType.int)).before args0 about1 = true := code_word (m := ⟨13, 2⟩) (meth := k13m2) (c := k13c2) (by decide +kernel) rfl rfl rfl (by decide +kernel)
set_option maxRecDepth 65536 in
theorem w_c36 : (Jvm.Cond.code ({ cls := "java/lang/AbstractStringBuilder", name := "isLatin1", desc := "()Z" } : Jvm.MethodName) jdk_68_method_68_code (1 : Nat) (Option.some Jvm.ClassFile.FieldType.boolean)).before args0 about1 = true := code_word (m := ⟨13, 6⟩) (meth := k13m6) (c := k13c6) (by decide +kernel) rfl rfl rfl (by decide +kernel)
set_option maxRecDepth 65536 in
theorem w_c37 : (Jvm.Cond.code ({ cls := "java/util/Arrays", name := "copyOfRange", desc := "([BII)[B" } : Jvm.MethodName) jdk_65_method_132_code (3 : Nat) (Option.some (Jvm.ClassFile.FieldType.array Jvm.ClassFile.FieldType.byte))).before args0 about1 = true := code_word (m := ⟨16, 2⟩) (meth := k16m2) (c := k16c2) (by decide +kernel) rfl rfl rfl (by decide +kernel)
set_option maxRecDepth 65536 in
theorem w_c38 : (Jvm.Cond.code ({ cls := "java/util/Arrays", name := "copyOfRangeByte", desc := "([BII)[B" } : Jvm.MethodName) jdk_65_method_133_code (5 : Nat) (Option.some (Jvm.ClassFile.FieldType.array Jvm.ClassFile.FieldType.byte))).before args0 about1 = true := code_word (m := ⟨16, 3⟩) (meth := k16m3) (c := k16c3) (by decide +kernel) rfl rfl rfl (by decide +kernel)
set_option maxRecDepth 65536 in
theorem w_c39 : (Jvm.Cond.code ({ cls := "java/util/Arrays", name := "checkLength", desc := "(II)V" } : Jvm.MethodName) jdk_65_method_131_code (2 : Nat) (Option.none : Option Jvm.ClassFile.FieldType)).before args0 about1 = true := code_word (m := ⟨16, 1⟩) (meth := k16m1) (c := k16c1) (by decide +kernel) rfl rfl rfl (by decide +kernel)
set_option maxRecDepth 65536 in
theorem w_c40 : (Jvm.Cond.code ({ cls := "java/lang/Math", name := "min", desc := "(II)I" } : Jvm.MethodName) jdk_29_method_69_code (2 : Nat) (Option.some Jvm.ClassFile.FieldType.int)).before args0 about1 = true := code_word (m := ⟨17, 2⟩) (meth := k17m2) (c := k17c2) (by decide +kernel) rfl rfl rfl (by decide +kernel)
set_option maxRecDepth 65536 in
theorem w_c41 : (Jvm.Cond.code ({ cls := "java/lang/String", name := "<init>", desc := "([C)V" } : Jvm.MethodName) jdk_42_method_3_code (2 : Nat) (Option.none : Option Jvm.ClassFile.FieldType)).before args0 about1 = true := code_word (m := ⟨7, 1⟩) (meth := k7m1) (c := k7c1) (by decide +kernel) rfl rfl rfl (by decide +kernel)
set_option maxRecDepth 65536 in
theorem w_c42 : (Jvm.Cond.code ({ cls := "java/lang/String", name := "<init>", desc := "([CIILjava/lang/Void;)V" } : Jvm.MethodName) jdk_42_method_149_code (6 : Nat) (Option.none : Option Jvm.ClassFile.FieldType)).before args0 about1 = true := code_word (m := ⟨7, 10⟩) (meth := k7m10) (c := k7c10) (by decide +kernel) rfl rfl rfl (by decide +kernel)
set_option maxRecDepth 65536 in
theorem w_c43 : (Jvm.Cond.code ({ cls := "java/lang/StringUTF16", name := "compress", desc := "([CII)[B" } : Jvm.MethodName) jdk_52_method_16_code (6 : Nat) (Option.some (Jvm.ClassFile.FieldType.array Jvm.ClassFile.FieldType.byte))).before args0 about1 = true := code_word (m := ⟨18, 2⟩) (meth := k18m2) (c := k18c2) (by decide +kernel) rfl rfl rfl (by decide +kernel)
set_option maxRecDepth 65536 in
theorem w_c44 : (Jvm.Cond.code ({ cls := "java/lang/StringUTF16", name := "compress", desc := "([CI[BII)I" } : Jvm.MethodName) jdk_52_method_21_code (7 : Nat) (Option.some Jvm.ClassFile.FieldType.int)).before args0 about1 = true := code_word (m := ⟨18, 3⟩) (meth := k18m3) (c := k18c3) (by decide +kernel) rfl rfl rfl (by decide +kernel)
set_option maxRecDepth 65536 in
theorem w_c45 : (Jvm.Cond.code ({ cls := "java/lang/StringUTF16", name := "coderFromArrayLen", desc := "([BI)B" } : Jvm.MethodName) jdk_52_method_15_code (2 : Nat) (Option.some Jvm.ClassFile.FieldType.byte)).before args0 about1 = true := code_word (m := ⟨18, 1⟩) (meth := k18m1) (c := k18c1) (by decide +kernel) rfl rfl rfl (by decide +kernel)
set_option maxRecDepth 65536 in
theorem w_c46 : (Jvm.Cond.code ({ cls := "java/lang/String", name := "indexOf", desc := "(I)I" } : Jvm.MethodName) jdk_42_method_79_code (2 : Nat) (Option.some Jvm.ClassFile.FieldType.int)).before args0 about1 = true := code_word (m := ⟨7, 6⟩) (meth := k7m6) (c := k7c6) (by decide +kernel) rfl rfl rfl (by decide +kernel)
set_option maxRecDepth 65536 in
theorem w_c47 : (Jvm.Cond.code ({ cls := "java/lang/String", name := "indexOf", desc := "(II)I" } : Jvm.MethodName) jdk_42_method_80_code (3 : Nat) (Option.some Jvm.ClassFile.FieldType.int)).before args0 about1 = true := code_word (m := ⟨7, 7⟩) (meth := k7m7) (c := k7c7) (by decide +kernel) rfl rfl rfl (by decide +kernel)
set_option maxRecDepth 65536 in
theorem w_c48 : (Jvm.Cond.code ({ cls := "java/lang/StringLatin1", name := "indexOf", desc := "([BIII)I" } : Jvm.MethodName) jdk_43_method_22_code (4 : Nat) (Option.some Jvm.ClassFile.FieldType.int)).before args0 about1 = true := code_word (m := ⟨8, 4⟩) (meth := k8m4) (c := k8c4) (by decide +kernel) rfl rfl rfl (by decide +kernel)
set_option maxRecDepth 65536 in
theorem w_c49 : (Jvm.Cond.code ({ cls := "java/lang/StringLatin1", name := "canEncode", desc := "(I)Z" } : Jvm.MethodName) jdk_43_method_4_code (1 : Nat) (Option.some Jvm.ClassFile.FieldType.boolean)).before args0 about1 = true := code_word (m := ⟨8, 3⟩) (meth := k8m3) (c := k8c3) (by decide +kernel) rfl rfl rfl (by decide +kernel)
set_option maxRecDepth 65536 in
theorem w_c50 : (Jvm.Cond.code ({ cls := "java/lang/Math", name := "max", desc := "(II)I" } : Jvm.MethodName) jdk_29_method_65_code (2 : Nat) (Option.some Jvm.ClassFile.FieldType.int)).before args0 about1 = true := code_word (m := ⟨17, 1⟩) (meth := k17m1) (c := k17c1) (by decide +kernel) rfl rfl rfl (by decide +kernel)
set_option maxRecDepth 65536 in
theorem w_c51 : (Jvm.Cond.code ({ cls := "java/lang/StringLatin1", name := "indexOfChar", desc := "([BIII)I" } : Jvm.MethodName) jdk_43_method_23_code (6 : Nat) (Option.some Jvm.ClassFile.FieldType.int)).before args0 about1 = true := code_word (m := ⟨8, 5⟩) (meth := k8m5) (c := k8c5) (by decide +kernel) rfl rfl rfl (by decide +kernel)
def codes1 : List Jvm.Cond := [Jvm.Cond.code x code maxLocals ret, Jvm.Cond.code ({ cls := "com/example/cunctator/cunctator/JobKeyToStringPinLaw", name := "topicChar", desc := "(I)C" } : Jvm.MethodName) method_2_code (2 : Nat) (Option.some Jvm.ClassFile.FieldType.char), Jvm.Cond.code ({ cls := "com/example/cunctator/cunctator/JobKeyToStringPinLaw", name := "idChar", desc := "(I)C" } : Jvm.MethodName) method_3_code (2 : Nat) (Option.some Jvm.ClassFile.FieldType.char), Jvm.Cond.code ({ cls := "java/lang/String", name := "valueOf", desc := "(C)Ljava/lang/String;" } : Jvm.MethodName) jdk_42_method_139_code (1 : Nat) (Option.some (Jvm.ClassFile.FieldType.object "java/lang/String")), Jvm.Cond.code ({ cls := "java/lang/StringLatin1", name := "canEncode", desc := "(C)Z" } : Jvm.MethodName) jdk_43_method_3_code (1 : Nat) (Option.some Jvm.ClassFile.FieldType.boolean), Jvm.Cond.code ({ cls := "java/lang/StringLatin1", name := "toBytes", desc := "(C)[B" } : Jvm.MethodName) jdk_43_method_46_code (1 : Nat) (Option.some (Jvm.ClassFile.FieldType.array Jvm.ClassFile.FieldType.byte)), Jvm.Cond.code ({ cls := "java/lang/String", name := "<init>", desc := "([BB)V" } : Jvm.MethodName) jdk_42_method_151_code (3 : Nat) (Option.none : Option Jvm.ClassFile.FieldType), Jvm.Cond.code ({ cls := "java/lang/Object", name := "<init>", desc := "()V" } : Jvm.MethodName) object_method_1_code (1 : Nat) (Option.none : Option Jvm.ClassFile.FieldType), Jvm.Cond.code ({ cls := "com/example/cunctator/cunctator/JobKey", name := "<init>", desc := "(Ljava/lang/String;Ljava/lang/String;)V" } : Jvm.MethodName) prog_8_method_1_code (3 : Nat) (Option.none : Option Jvm.ClassFile.FieldType), Jvm.Cond.code ({ cls := "com/example/cunctator/cunctator/JobKey", name := "checkTopic", desc := "(Ljava/lang/String;)Ljava/lang/String;" } : Jvm.MethodName) prog_8_method_2_code (1 : Nat) (Option.some (Jvm.ClassFile.FieldType.object "java/lang/String")), Jvm.Cond.code ({ cls := "com/example/cunctator/cunctator/JobKey$NameRule", name := "check", desc := "(Ljava/lang/String;)Ljava/lang/String;" } : Jvm.MethodName) prog_9_method_2_code (4 : Nat) (Option.some (Jvm.ClassFile.FieldType.object "java/lang/String")), Jvm.Cond.code ({ cls := "java/lang/String", name := "isEmpty", desc := "()Z" } : Jvm.MethodName) jdk_42_method_55_code (1 : Nat) (Option.some Jvm.ClassFile.FieldType.boolean), Jvm.Cond.code ({ cls := "java/lang/String", name := "length", desc := "()I" } : Jvm.MethodName) jdk_42_method_54_code (1 : Nat) (Option.some Jvm.ClassFile.FieldType.int), Jvm.Cond.code ({ cls := "java/lang/String", name := "coder", desc := "()B" } : Jvm.MethodName) jdk_42_method_152_code (1 : Nat) (Option.some Jvm.ClassFile.FieldType.byte), Jvm.Cond.code ({ cls := "java/lang/String", name := "charAt", desc := "(I)C" } : Jvm.MethodName) jdk_42_method_56_code (2 : Nat) (Option.some Jvm.ClassFile.FieldType.char), Jvm.Cond.code ({ cls := "java/lang/String", name := "isLatin1", desc := "()Z" } : Jvm.MethodName) jdk_42_method_154_code (1 : Nat) (Option.some Jvm.ClassFile.FieldType.boolean), Jvm.Cond.code ({ cls := "java/lang/StringLatin1", name := "charAt", desc := "([BI)C" } : Jvm.MethodName) jdk_43_method_2_code (2 : Nat) (Option.some Jvm.ClassFile.FieldType.char), Jvm.Cond.code ({ cls := "java/lang/String", name := "checkIndex", desc := "(II)V" } : Jvm.MethodName) jdk_42_method_155_code (2 : Nat) (Option.none : Option Jvm.ClassFile.FieldType), Jvm.Cond.code ({ cls := "jdk/internal/util/Preconditions", name := "checkIndex", desc := "(IILjava/util/function/BiFunction;)I" } : Jvm.MethodName) jdk_41_method_11_code (3 : Nat) (Option.some Jvm.ClassFile.FieldType.int), Jvm.Cond.code ({ cls := "com/example/cunctator/cunctator/JobKey", name := "isAsciiLetterOrDigit", desc := "(C)Z" } : Jvm.MethodName) prog_8_method_9_code (1 : Nat) (Option.some Jvm.ClassFile.FieldType.boolean), Jvm.Cond.code ({ cls := "com/example/cunctator/cunctator/JobKey", name := "checkId", desc := "(Ljava/lang/String;)Ljava/lang/String;" } : Jvm.MethodName) prog_8_method_3_code (1 : Nat) (Option.some (Jvm.ClassFile.FieldType.object "java/lang/String")), Jvm.Cond.code ({ cls := "com/example/cunctator/cunctator/JobKey", name := "toString", desc := "()Ljava/lang/String;" } : Jvm.MethodName) prog_8_method_8_code (1 : Nat) (Option.some (Jvm.ClassFile.FieldType.object "java/lang/String")), Jvm.Cond.code ({ cls := "java/lang/StringBuilder", name := "<init>", desc := "()V" } : Jvm.MethodName) jdk_67_method_1_code (1 : Nat) (Option.none : Option Jvm.ClassFile.FieldType), Jvm.Cond.code ({ cls := "java/lang/AbstractStringBuilder", name := "<init>", desc := "(I)V" } : Jvm.MethodName) jdk_68_method_2_code (2 : Nat) (Option.none : Option Jvm.ClassFile.FieldType), Jvm.Cond.code ({ cls := "java/lang/StringBuilder", name := "append", desc := "(Ljava/lang/String;)Ljava/lang/StringBuilder;" } : Jvm.MethodName) jdk_67_method_7_code (2 : Nat) (Option.some (Jvm.ClassFile.FieldType.object "java/lang/StringBuilder")), Jvm.Cond.code ({ cls := "java/lang/AbstractStringBuilder", name := "append", desc := "(Ljava/lang/String;)Ljava/lang/AbstractStringBuilder;" } : Jvm.MethodName) jdk_68_method_22_code (3 : Nat) (Option.some (Jvm.ClassFile.FieldType.object "java/lang/AbstractStringBuilder")), Jvm.Cond.code ({ cls := "java/lang/AbstractStringBuilder", name := "ensureCapacityInternal", desc := "(I)V" } : Jvm.MethodName) jdk_68_method_9_code (3 : Nat) (Option.none : Option Jvm.ClassFile.FieldType), Jvm.Cond.code ({ cls := "java/lang/AbstractStringBuilder", name := "putStringAt", desc := "(ILjava/lang/String;)V" } : Jvm.MethodName) jdk_68_method_73_code (3 : Nat) (Option.none : Option Jvm.ClassFile.FieldType), Jvm.Cond.code ({ cls := "java/lang/AbstractStringBuilder", name := "inflateIfNeededFor", desc := "(Ljava/lang/String;)V" } : Jvm.MethodName) jdk_68_method_71_code (2 : Nat) (Option.none : Option Jvm.ClassFile.FieldType), Jvm.Cond.code ({ cls := "java/lang/String", name := "getBytes", desc := "([BIB)V" } : Jvm.MethodName) jdk_42_method_147_code (4 : Nat) (Option.none : Option Jvm.ClassFile.FieldType), Jvm.Cond.code ({ cls := "java/lang/StringBuilder", name := "toString", desc := "()Ljava/lang/String;" } : Jvm.MethodName) jdk_67_method_42_code (1 : Nat) (Option.some (Jvm.ClassFile.FieldType.object "java/lang/String")), Jvm.Cond.code ({ cls := "java/lang/String", name := "<init>", desc := "(Ljava/lang/StringBuilder;)V" } : Jvm.MethodName) jdk_42_method_53_code (2 : Nat) (Option.none : Option Jvm.ClassFile.FieldType), Jvm.Cond.code ({ cls := "java/lang/String", name := "<init>", desc := "(Ljava/lang/AbstractStringBuilder;Ljava/lang/Void;)V" } : Jvm.MethodName) jdk_42_method_150_code (5 : Nat) (Option.none : Option Jvm.ClassFile.FieldType), Jvm.Cond.code ({ cls := "java/lang/AbstractStringBuilder", name := "getValue", desc := "()[B" } : Jvm.MethodName) jdk_68_method_64_code (1 : Nat) (Option.some (Jvm.ClassFile.FieldType.array Jvm.ClassFile.FieldType.byte)), Jvm.Cond.code ({ cls := "java/lang/StringBuilder", name := "length", desc := "()I" } : Jvm.MethodName) jdk_67_method_93_code (1 : Nat) (Option.some Jvm.ClassFile.FieldType.int), Jvm.Cond.code ({ cls := "java/lang/AbstractStringBuilder", name := "length", desc := "()I" } : Jvm.MethodName) jdk_68_method_6_code (1 : Nat) (Option.some Jvm.ClassFile.FieldType.int), Jvm.Cond.code ({ cls := "java/lang/AbstractStringBuilder", name := "isLatin1", desc := "()Z" } : Jvm.MethodName) jdk_68_method_68_code (1 : Nat) (Option.some Jvm.ClassFile.FieldType.boolean), Jvm.Cond.code ({ cls := "java/util/Arrays", name := "copyOfRange", desc := "([BII)[B" } : Jvm.MethodName) jdk_65_method_132_code (3 : Nat) (Option.some (Jvm.ClassFile.FieldType.array Jvm.ClassFile.FieldType.byte)), Jvm.Cond.code ({ cls := "java/util/Arrays", name := "copyOfRangeByte", desc := "([BII)[B" } : Jvm.MethodName) jdk_65_method_133_code (5 : Nat) (Option.some (Jvm.ClassFile.FieldType.array Jvm.ClassFile.FieldType.byte)), Jvm.Cond.code ({ cls := "java/util/Arrays", name := "checkLength", desc := "(II)V" } : Jvm.MethodName) jdk_65_method_131_code (2 : Nat) (Option.none : Option Jvm.ClassFile.FieldType), Jvm.Cond.code ({ cls := "java/lang/Math", name := "min", desc := "(II)I" } : Jvm.MethodName) jdk_29_method_69_code (2 : Nat) (Option.some Jvm.ClassFile.FieldType.int), Jvm.Cond.code ({ cls := "java/lang/String", name := "<init>", desc := "([C)V" } : Jvm.MethodName) jdk_42_method_3_code (2 : Nat) (Option.none : Option Jvm.ClassFile.FieldType), Jvm.Cond.code ({ cls := "java/lang/String", name := "<init>", desc := "([CIILjava/lang/Void;)V" } : Jvm.MethodName) jdk_42_method_149_code (6 : Nat) (Option.none : Option Jvm.ClassFile.FieldType), Jvm.Cond.code ({ cls := "java/lang/StringUTF16", name := "compress", desc := "([CII)[B" } : Jvm.MethodName) jdk_52_method_16_code (6 : Nat) (Option.some (Jvm.ClassFile.FieldType.array Jvm.ClassFile.FieldType.byte)), Jvm.Cond.code ({ cls := "java/lang/StringUTF16", name := "compress", desc := "([CI[BII)I" } : Jvm.MethodName) jdk_52_method_21_code (7 : Nat) (Option.some Jvm.ClassFile.FieldType.int), Jvm.Cond.code ({ cls := "java/lang/StringUTF16", name := "coderFromArrayLen", desc := "([BI)B" } : Jvm.MethodName) jdk_52_method_15_code (2 : Nat) (Option.some Jvm.ClassFile.FieldType.byte), Jvm.Cond.code ({ cls := "java/lang/String", name := "indexOf", desc := "(I)I" } : Jvm.MethodName) jdk_42_method_79_code (2 : Nat) (Option.some Jvm.ClassFile.FieldType.int), Jvm.Cond.code ({ cls := "java/lang/String", name := "indexOf", desc := "(II)I" } : Jvm.MethodName) jdk_42_method_80_code (3 : Nat) (Option.some Jvm.ClassFile.FieldType.int), Jvm.Cond.code ({ cls := "java/lang/StringLatin1", name := "indexOf", desc := "([BIII)I" } : Jvm.MethodName) jdk_43_method_22_code (4 : Nat) (Option.some Jvm.ClassFile.FieldType.int), Jvm.Cond.code ({ cls := "java/lang/StringLatin1", name := "canEncode", desc := "(I)Z" } : Jvm.MethodName) jdk_43_method_4_code (1 : Nat) (Option.some Jvm.ClassFile.FieldType.boolean), Jvm.Cond.code ({ cls := "java/lang/Math", name := "max", desc := "(II)I" } : Jvm.MethodName) jdk_29_method_65_code (2 : Nat) (Option.some Jvm.ClassFile.FieldType.int), Jvm.Cond.code ({ cls := "java/lang/StringLatin1", name := "indexOfChar", desc := "([BIII)I" } : Jvm.MethodName) jdk_43_method_23_code (6 : Nat) (Option.some Jvm.ClassFile.FieldType.int)]
set_option maxRecDepth 65536 in
theorem codes_eq : words1.filter isCode = codes1 := rfl
theorem w_codes : ∀ c ∈ words1.filter isCode, c.before args0 about1 = true := by
  rw [codes_eq]
  intro c hc
  simp only [codes1, List.mem_cons, List.not_mem_nil, or_false] at hc
  rcases hc with rfl | rfl | rfl | rfl | rfl | rfl | rfl | rfl | rfl | rfl | rfl | rfl | rfl | rfl | rfl | rfl | rfl | rfl | rfl | rfl | rfl | rfl | rfl | rfl | rfl | rfl | rfl | rfl | rfl | rfl | rfl | rfl | rfl | rfl | rfl | rfl | rfl | rfl | rfl | rfl | rfl | rfl | rfl | rfl | rfl | rfl | rfl | rfl | rfl | rfl | rfl | rfl
  · exact w_c0
  · exact w_c1
  · exact w_c2
  · exact w_c3
  · exact w_c4
  · exact w_c5
  · exact w_c6
  · exact w_c7
  · exact w_c8
  · exact w_c9
  · exact w_c10
  · exact w_c11
  · exact w_c12
  · exact w_c13
  · exact w_c14
  · exact w_c15
  · exact w_c16
  · exact w_c17
  · exact w_c18
  · exact w_c19
  · exact w_c20
  · exact w_c21
  · exact w_c22
  · exact w_c23
  · exact w_c24
  · exact w_c25
  · exact w_c26
  · exact w_c27
  · exact w_c28
  · exact w_c29
  · exact w_c30
  · exact w_c31
  · exact w_c32
  · exact w_c33
  · exact w_c34
  · exact w_c35
  · exact w_c36
  · exact w_c37
  · exact w_c38
  · exact w_c39
  · exact w_c40
  · exact w_c41
  · exact w_c42
  · exact w_c43
  · exact w_c44
  · exact w_c45
  · exact w_c46
  · exact w_c47
  · exact w_c48
  · exact w_c49
  · exact w_c50
  · exact w_c51
set_option maxRecDepth 65536 in
theorem w_t1 : (words1.take 24).all (fun c => isCode c || c.before args0 about1) = true := by decide +kernel
set_option maxRecDepth 65536 in
theorem w_t2 : ((words1.drop 24).take 24).all (fun c => isCode c || c.before args0 about1) = true := by decide +kernel
set_option maxRecDepth 65536 in
theorem w_t3 : (((words1.drop 24).drop 24).take 24).all (fun c => isCode c || c.before args0 about1) = true := by decide +kernel
set_option maxRecDepth 65536 in
theorem w_t4 : ((((words1.drop 24).drop 24).drop 24).take 24).all (fun c => isCode c || c.before args0 about1) = true := by decide +kernel
set_option maxRecDepth 65536 in
theorem w_t5 : (((((words1.drop 24).drop 24).drop 24).drop 24).take 24).all (fun c => isCode c || c.before args0 about1) = true := by decide +kernel
set_option maxRecDepth 65536 in
theorem w_t6 : ((((((words1.drop 24).drop 24).drop 24).drop 24).drop 24).take 24).all (fun c => isCode c || c.before args0 about1) = true := by decide +kernel
set_option maxRecDepth 65536 in
theorem w_t7 : (((((((words1.drop 24).drop 24).drop 24).drop 24).drop 24).drop 24).take 24).all (fun c => isCode c || c.before args0 about1) = true := by decide +kernel
set_option maxRecDepth 65536 in
theorem w_t8 : ((((((((words1.drop 24).drop 24).drop 24).drop 24).drop 24).drop 24).drop 24).take 24).all (fun c => isCode c || c.before args0 about1) = true := by decide +kernel
set_option maxRecDepth 65536 in
theorem w_t9 : (((((((((words1.drop 24).drop 24).drop 24).drop 24).drop 24).drop 24).drop 24).drop 24).take 24).all (fun c => isCode c || c.before args0 about1) = true := by decide +kernel
set_option maxRecDepth 65536 in
theorem w_t10 : ((((((((((words1.drop 24).drop 24).drop 24).drop 24).drop 24).drop 24).drop 24).drop 24).drop 24).take 24).all (fun c => isCode c || c.before args0 about1) = true := by decide +kernel
set_option maxRecDepth 65536 in
theorem w_t11 : ((((((((((words1.drop 24).drop 24).drop 24).drop 24).drop 24).drop 24).drop 24).drop 24).drop 24).drop 24).all (fun c => isCode c || c.before args0 about1) = true := by decide +kernel
theorem w_tables : (allAtoms (Jvm.Cond.code x code maxLocals ret :: tables_1)).before args0 about1 = true := by
  rw [allAtoms_all]
  show words1.all (fun c => c.before args0 about1) = true
  refine all_split ?_ w_codes
  rw [← List.take_append_drop 24 words1, List.all_append, w_t1, ← List.take_append_drop 24 (words1.drop 24), List.all_append, w_t2, ← List.take_append_drop 24 ((words1.drop 24).drop 24), List.all_append, w_t3, ← List.take_append_drop 24 (((words1.drop 24).drop 24).drop 24), List.all_append, w_t4, ← List.take_append_drop 24 ((((words1.drop 24).drop 24).drop 24).drop 24), List.all_append, w_t5, ← List.take_append_drop 24 (((((words1.drop 24).drop 24).drop 24).drop 24).drop 24), List.all_append, w_t6, ← List.take_append_drop 24 ((((((words1.drop 24).drop 24).drop 24).drop 24).drop 24).drop 24), List.all_append, w_t7, ← List.take_append_drop 24 (((((((words1.drop 24).drop 24).drop 24).drop 24).drop 24).drop 24).drop 24), List.all_append, w_t8, ← List.take_append_drop 24 ((((((((words1.drop 24).drop 24).drop 24).drop 24).drop 24).drop 24).drop 24).drop 24), List.all_append, w_t9, ← List.take_append_drop 24 (((((((((words1.drop 24).drop 24).drop 24).drop 24).drop 24).drop 24).drop 24).drop 24).drop 24), List.all_append, w_t10, w_t11]
  rfl
set_option maxRecDepth 65536 in
theorem w_rest : rest_1_c.before args0 about1 = true := by decide +kernel
set_option maxRecDepth 65536 in
theorem w_case : (Jvm.Cond.and given_1 narrow_1).before args0 about1 = true := by decide +kernel
set_option maxRecDepth 65536 in
theorem w_consts : constsHeld consts_1 about1 := Jvm.Lit.constsHeldB_iff.mp (by decide +kernel)
theorem w_applies : (headSpec (Jvm.Cond.code x code maxLocals ret :: tables_1) room_1).applies x e0.platform about1 = true :=
  (Spec.applies_iff w_frames).mpr ⟨w_running, w_runnable, w_alone, w_named, w_hears, w_ripe, w_room, w_tables⟩
theorem atStart : AtStart classFile x code maxLocals ret World_1 tables_1 room_1 Calls_1 rest_1 Pre_1 launch0 p0 e0 about1 theMethod args0 below0 :=
  ⟨lists_1, trivial, launch0.admits_env _ _ _, launch0.least_env, fairChoices_fair.cas, fairChoices_fair.clock, w_frames, w_args, w_heap, w_applies, ⟨w_consts, trivial⟩, w_rest, w_case⟩
end start1
theorem witness_1 : WitnessClaimed_1 := ⟨start1.p0, start1.e0, start1.about1, start1.theMethod, start1.args0, start1.below0, start1.atStart⟩
end Jvm.Pilot.@@N@@
