import JvmDerived
import JvmDerived.Pilot.@@N@@Statement
import JvmDerived.Pilot.@@N@@Code
set_option linter.unusedVariables false
set_option linter.unusedSimpArgs false
namespace Jvm.Wk
open Jvm Jvm.ClassFile Sem Op Lib Bundle Jvm.Free Jvm.Stand Jvm.LawKit Jvm.RoadKit
abbrev Fd : Type := String × String × String × Value
abbrev Desc : Type := (String × List Fd) ⊕ (String × FieldType × List Value)
abbrev Ent : Type := Addr × Bool × Desc
def sl (Z : State) (f : Fd) : Nat := Jvm.RoadKit.slotOf Z f.1 f.2.1 f.2.2.1
def Dist (Z : State) : Desc → Prop
  | .inl (_, fs) => (fs.map (sl Z)).Pairwise (fun x y => x ≠ y)
  | .inr _ => True
def Sat (Z : State) (h : Heap) (a : Addr) : Desc → Prop
  | .inl (C, fs) => Exa Z h a C ∧ ∀ f ∈ fs, Fld Z h a f.1 f.2.1 f.2.2.1 f.2.2.2
  | .inr (ad, ty, vs) => ∃ c : Cell, Arr Z h a c ty ∧ c.slots = vs.toArray ∧ vs.length < 2147483648 ∧ (∀ v ∈ vs, fits ty v = true) ∧ (ad ≠ "" → Exa Z h a ad)
def Apart (x y : Ent) : Prop := (x.2.1 = true ∨ y.2.1 = true) → x.1 ≠ y.1
def Hp (Z : State) (EL : Bool × List (String × Nat)) (D : List Ent) (vm : Vm) (h : Heap) : Prop :=
  Ext Z.heap h ∧ CHv Z EL.2 vm h ∧ (∀ x ∈ D, Sat Z h x.1 x.2.2 ∧ (x.2.1 = true → Z.heap.size ≤ x.1 ∧ Safe Z EL.2 vm h x.1 ∧ Dist Z x.2.2)) ∧ D.Pairwise Apart
section Facts
variable {Z : State} {EL : Bool × List (String × Nat)} {D D' : List Ent} {vm vm1 : Vm} {h h' : Heap} {a b : Addr} {d d' : Desc} {s1 : Nat} {v : Value} {x y : Ent}
theorem Sat.ext (E : Ext h h') (S : Sat Z h a d) : Sat Z h' a d := by
  match d, S with
  | .inl (C, fs), S => exact ⟨S.1.ext E, fun f hf => (S.2 f hf).ext E⟩
  | .inr (ad, ty, vs), S => obtain ⟨c, A, r1, r2, r3, r4⟩ := S; exact ⟨c, A.ext E, r1, r2, r3, fun q => (r4 q).ext E⟩
theorem Sat.keep {ws : List Addr} (K : Keep h h' ws) (q : a ∉ ws) (S : Sat Z h a d) : Sat Z h' a d := by
  match d, S with
  | .inl (C, fs), S => exact ⟨S.1.keep K, fun f hf => (S.2 f hf).keep K q⟩
  | .inr (ad, ty, vs), S => obtain ⟨c, A, r1, r2, r3, r4⟩ := S; exact ⟨c, ⟨K.2.1 _ _ A.1 q, A.2⟩, r1, r2, r3, fun q => (r4 q).keep K⟩
theorem Sat.lt (S : Sat Z h a d) : a < h.size := by
  match d, S with
  | .inl (C, fs), S => exact S.1.lt
  | .inr (ad, ty, vs), S => obtain ⟨c, A, -⟩ := S; exact A.lt
theorem Apart.symm (q : Apart x y) : Apart y x := fun r e => q r.symm e.symm
theorem Hp.perm (P : D.Perm D') (H : Hp Z EL D vm h) : Hp Z EL D' vm h :=
  ⟨H.1, H.2.1, fun x hx => H.2.2.1 x (P.mem_iff.mpr hx), (P.pairwise_iff (fun q => Apart.symm q)).mp H.2.2.2⟩
theorem perm_front {α : Type} : ∀ (D : List α) (i : Nat) (x : α), D[i]? = some x → D.Perm (x :: D.eraseIdx i)
  | [], _, _, q => by simp at q
  | y :: D, 0, x, q => by simp at q; subst q; exact List.Perm.refl _
  | y :: D, i + 1, x, q => by
    have q' : D[i]? = some x := by simpa using q
    exact ((perm_front D i x q').cons y).trans (List.Perm.swap x y _)
theorem perm_set {α : Type} : ∀ (D : List α) (i : Nat) (x x' : α), D[i]? = some x → (D.set i x').Perm (x' :: D.eraseIdx i)
  | [], _, _, _, q => by simp at q
  | y :: D, 0, x, x', q => List.Perm.refl _
  | y :: D, i + 1, x, x', q => by
    have q' : D[i]? = some x := by simpa using q
    exact ((perm_set D i x x' q').cons y).trans (List.Perm.swap x' y _)
theorem Hp.new (H : Hp Z EL D vm h) (E : Ext h h') (S : Sat Z h' h.size d) (dd : Dist Z d) : Hp Z EL ((h.size, true, d) :: D) vm h' := by
  obtain ⟨h1, h2, h3, h4⟩ := H
  refine ⟨⟨Nat.le_trans h1.1 E.1, fun a c q => E.2 _ _ (h1.2 _ _ q)⟩, h2.ext E, fun x hx => ?_, List.pairwise_cons.mpr ⟨fun y hy _ => ?_, h4⟩⟩
  · rcases List.mem_cons.mp hx with rfl | hx
    · exact ⟨S, fun _ => ⟨h1.1, Safe.ext E h2 (Safe.new (Nat.le_refl _)), dd⟩⟩
    · exact ⟨(h3 x hx).1.ext E, fun w => ⟨((h3 x hx).2 w).1, Safe.ext E h2 ((h3 x hx).2 w).2.1, ((h3 x hx).2 w).2.2⟩⟩
  · have := (h3 y hy).1.lt
    exact fun e => by rw [← e] at this; exact Nat.lt_irrefl _ this
theorem Hp.keepHead (H : Hp Z EL ((a, true, d) :: D) vm h) (K : Keep h h' [a]) (S : Sat Z h' a d') (dd : Dist Z d') : Hp Z EL ((a, true, d') :: D) vm h' := by
  obtain ⟨h1, h2, h3, h4⟩ := H
  obtain ⟨g1, g2, -⟩ := (h3 _ (List.mem_cons_self ..)).2 rfl
  have hs : ∀ x ∈ [a], Safe Z EL.2 vm h x := fun x hx => by cases List.mem_singleton.mp hx; exact g2
  obtain ⟨p1, p2⟩ := List.pairwise_cons.mp h4
  refine ⟨⟨Nat.le_trans h1.1 K.1, fun b c q => K.2.1 _ _ (h1.2 _ _ q) fun z => ?_⟩, h2.keep K hs, fun x hx => ?_, List.pairwise_cons.mpr ⟨fun y hy r => p1 y hy (Or.inl rfl), p2⟩⟩
  · cases List.mem_singleton.mp z
    exact Nat.lt_irrefl _ (Nat.lt_of_lt_of_le (Array.getElem?_eq_some_iff.mp q).1 g1)
  · rcases List.mem_cons.mp hx with rfl | hx
    · exact ⟨S, fun _ => ⟨g1, Safe.keep K hs h2 g2, dd⟩⟩
    · have ne : x.1 ∉ [a] := fun z => p1 x hx (Or.inl rfl) (List.mem_singleton.mp z).symm
      have hx' := h3 x (List.mem_cons_of_mem _ hx)
      exact ⟨hx'.1.keep K ne, fun w => ⟨(hx'.2 w).1, Safe.keep K hs h2 (hx'.2 w).2.1, (hx'.2 w).2.2⟩⟩
theorem Hp.keepSet {i : Nat} (H : Hp Z EL D vm h) (hi : D[i]? = some (a, true, d)) (K : Keep h h' [a]) (S : Sat Z h' a d') (dd : Dist Z d') : Hp Z EL (D.set i (a, true, d')) vm h' :=
  ((H.perm (perm_front D i _ hi)).keepHead K S dd).perm (perm_set D i _ _ hi).symm
theorem Hp.toVm (H : Hp Z EL D vm h) (C : CHr Z EL.2 vm h vm1 h) : Hp Z EL D vm1 h :=
  ⟨H.1, C.1, fun x hx => ⟨(H.2.2.1 x hx).1, fun w => ⟨((H.2.2.1 x hx).2 w).1, C.safe (H.2.2.1 x hx).1.lt ((H.2.2.1 x hx).2 w).2.1, ((H.2.2.1 x hx).2 w).2.2⟩⟩, H.2.2.2⟩
theorem Hp.sub (H : Hp Z EL D vm h) (q : D'.Sublist D) : Hp Z EL D' vm h := ⟨H.1, H.2.1, fun x hx => H.2.2.1 x (q.subset hx), H.2.2.2.sublist q⟩
theorem Hp.grown (H : Hp Z EL D vm h) (E : Ext h h') (C : CHr Z EL.2 vm h vm1 h') : Hp Z EL D vm1 h' :=
  ⟨⟨Nat.le_trans H.1.1 E.1, fun a c q => E.2 _ _ (H.1.2 _ _ q)⟩, C.1, fun x hx => ⟨(H.2.2.1 x hx).1.ext E, fun w => ⟨((H.2.2.1 x hx).2 w).1, C.safe (H.2.2.1 x hx).1.lt ((H.2.2.1 x hx).2 w).2.1, ((H.2.2.1 x hx).2 w).2.2⟩⟩, H.2.2.2⟩
theorem Hp.read (H : Hp Z EL D vm h) (S : Sat Z h a d) (ne : ∀ x, Safe Z EL.2 vm h x → Z.heap.size ≤ x → x ≠ a) : Hp Z EL ((a, false, d) :: D) vm h := by
  refine ⟨H.1, H.2.1, fun x hx => ?_, List.pairwise_cons.mpr ⟨fun y hy r e => ?_, H.2.2.2⟩⟩
  · rcases List.mem_cons.mp hx with rfl | hx
    · exact ⟨S, fun w => by cases w⟩
    · exact H.2.2.1 x hx
  · rcases r with r | r
    · cases r
    · exact ne y.1 ((H.2.2.1 y hy).2 r).2.1 ((H.2.2.1 y hy).2 r).1 e.symm
theorem Sat.of_arv {ad : String} {ty : FieldType} {vs : List Value} {k : ClassId} {z : Int32} {dv : Value} (A : Arv Z h a k ty z vs dv) (hl : z.toNatClampNeg = vs.length) (hE : ad ≠ "" → Exa Z h a ad) : Sat Z h a (.inr (ad, ty, vs)) := by
  obtain ⟨c, A, r1, r2, r3, r4, r5⟩ := A
  have hs : c.slots.size = vs.length := r2.trans hl
  refine ⟨c, A, ?_, ?_, fun v hv => ?_, hE⟩
  · apply Array.ext_getElem?
    intro i
    by_cases hi : i < vs.length
    · rw [r4 i (by omega)]; simp [hi]
    · rw [Array.getElem?_eq_none (by omega), Array.getElem?_eq_none (by simpa using Nat.le_of_not_lt hi)]
  · have := (back32 r3).2; omega
  · obtain ⟨i, hi, rfl⟩ := List.mem_iff_getElem.mp hv
    have := r5 i (by omega)
    simpa [hi] using this
end Facts
def Idx (j : Int32) (i : Nat) : Prop := ¬ j < 0 ∧ j.toNatClampNeg = i
theorem Idx.of_nat {i : Nat} (hi : i < 2147483648) : Idx (Nat.toInt32 i) i := by
  have e1 : (Nat.toInt32 i).toInt = i := len_toInt hi
  refine ⟨fun q => ?_, by simp [Int32.toNatClampNeg, e1]⟩
  rw [Int32.lt_iff_toInt_lt, e1] at q
  have : (0 : Int32).toInt = 0 := rfl
  omega
theorem Idx.toInt {j : Int32} {i : Nat} (q : Idx j i) : j.toInt = i := by
  have h1 : ¬ j.toInt < 0 := fun r => q.1 (by rw [Int32.lt_iff_toInt_lt]; exact r)
  have h2 := q.2
  simp only [Int32.toNatClampNeg] at h2
  omega
end Jvm.Wk
namespace Jvm.Wk
open Jvm Jvm.ClassFile Sem Op Lib Bundle Jvm.Free Jvm.Stand Jvm.LawKit Jvm.RoadKit
def ELok (Z : State) (EL : Bool × List (String × Nat)) : Prop := (∃ a0, EW Z a0 EL.2) ∧ (EL.1 = true → EL.2 = [])
def Res (Z : State) (EL : Bool × List (String × Nat)) (Q : Option Value → List Ent → Prop) (R : Room) (s : State) (o : Outcome) (t : State) : Prop :=
  ∃ v L, o = .returned v ∧ Fr Z.heap.size L ∧ (∃ D', Hp Z EL D' t.vm t.heap ∧ Q v D') ∧ ReturnedEndW s o t L R.cells R.slots ∧ (EL.1 = true → s.WarmedH t.vm)
def Here (Z : State) (EL : Bool × List (String × Nat)) (R : Room) (own nm : String) (bytes : ByteArray) (ml : Nat) (ret : Option FieldType) (D : List Ent) (k n : Nat)
    (p : Program) (l : Launch) (e : Env) (s : State) (m : MethodId) (args : Array Value) (below : List Frame) (meth : Method) (c : Code) (T : State) (vm0 : Vm) (k0 : Nat) (locs : List Loc) (cells slots : Nat) : Prop :=
  Stand p l e R (s.setVm vm0) m args below meth c T locs cells slots ∧ s.Since vm0 k0 ∧ k0 ≤ T.heap.size ∧ p.tables.exec = Jvm.exec ∧ c.code = bytes ∧ c.maxLocals = ml ∧ vm0.findClass own = some m.cls ∧ Z.Warmed39 vm0 ∧
    meth.sig.returnType = ret ∧ meth.locks = false ∧ meth.name = nm ∧ Fr Z.heap.size locs ∧ Hp Z EL D vm0 T.heap ∧ cells ≤ k ∧ slots ≤ n ∧ ELok Z EL ∧ (EL.1 = true → vm0 = s.vm)
def W (Z : State) (EL : Bool × List (String × Nat)) (R : Room) (own nm : String) (bytes : ByteArray) (ml : Nat) (ret : Option FieldType) (Q : Option Value → List Ent → Prop) (D : List Ent) (k n : Nat) (pc : Nat) (ls : Array Slot) (st : List Value) : Prop :=
  ∀ p l e s m args below meth c T vm0 k0 locs cells slots, Here Z EL R own nm bytes ml ret D k n p l e s m args below meth c T vm0 k0 locs cells slots →
    ∃ s₂ o, Steps p.tables e below (T.setTop (mkF m pc ls st)) s₂ ∧ s₂.status = .running ∧ Ended s₂ below o ∧ Res Z EL Q R s o s₂
def Con (Z : State) (EL : Bool × List (String × Nat)) (y : MethodName) (bytes : ByteArray) (maxL : Nat) (ret : Option FieldType) (rm : Room) (as : List Value) (D : List Ent) (Q : Option Value → List Ent → Prop) : Prop :=
  ELok Z EL → ∀ (l : Launch) (ws : List Cond), MetFree l y (head1 (Cond.code y bytes maxL ret :: ws) rm) (fun a U => a = as.toArray ∧ Z.Warmed39 U.vm ∧ Hp Z EL D U.vm U.heap) (fun _ _ _ _ _ => True) (fun _ U o U' => Res Z EL Q rm U o U')
section Walk
variable {Z : State} {EL : Bool × List (String × Nat)} {R : Room} {own nm : String} {bytes : ByteArray} {ml : Nat} {ret : Option FieldType} {Q : Option Value → List Ent → Prop} {D D' : List Ent} {k n pc : Nat} {ls ls' : Array Slot} {st : List Value} {a0 : Array Value}
theorem Con.of {y : MethodName} {as : List Value} (hpl : plainFor y = true) (hent : Jvm.Sym.laidSlots as ++ List.replicate (ml - (Jvm.Sym.laidSlots as).length) .unset = ls.toList) (hW : W Z EL R y.cls y.name bytes ml ret Q D 0 0 0 ls []) : Con Z EL y bytes ml ret R as D Q := by
  intro hE l ws
  refine MetFree.of_bodySF hpl hisR ?_
  intro p e s m args below meth c s₁ Bd hml0 hP hK
  obtain ⟨rfl, hZ, hh⟩ := hP
  have X0 : Stand p l e R s m as.toArray below meth c s₁ [] 0 0 := Stand.of_body Bd
  have e0 : s₁.heap = s.heap := by rw [Bd.state]; rfl
  have hown : s.vm.findClass y.cls = some m.cls := findClass_of_methodNamed Bd.named
  have hnm := (name_of_methodNamed Bd.named Bd.method).1
  obtain ⟨s₂, o, h1, r⟩ := hW p l e s m as.toArray below meth c s₁ s.vm 0 [] 0 0
    ⟨X0, (State.WarmedH.refl s).since 0, Nat.zero_le _, Bd.exec, Bd.bytes, hml0, hown, hZ, Bd.returns, Bd.notSynchronized, hnm, Fr.nil _, by rw [e0]; exact hh, Nat.le_refl _, Nat.le_refl _, hE, fun _ => rfl⟩
  exact ⟨s₂, o, (XT.entry (by simpa using hent)).trans h1, r⟩
theorem W.pure {pc' : Nat} {st' : List Value} (H : ∀ {p : Program} {e : Env} {below : List Frame} {T target : State} {m : MethodId} {c : Code}, At T m c below → p.tables.exec = Jvm.exec → c.code = bytes → Steps p.tables e below (T.setTop (mkF m pc' ls' st')) target → Steps p.tables e below (T.setTop (mkF m pc ls st)) target)
    (next : W Z EL R own nm bytes ml ret Q D k n pc' ls' st') : W Z EL R own nm bytes ml ret Q D k n pc ls st := by
  intro p l e s m args below meth c T vm0 k0 locs cells slots A
  obtain ⟨s₂, o, h1, r⟩ := next p l e s m args below meth c T vm0 k0 locs cells slots A
  exact ⟨s₂, o, H A.1.here A.2.2.2.1 A.2.2.2.2.1 h1, r⟩
theorem W.mono {k' n' : Nat} (hk : k ≤ k') (hn : n ≤ n') (next : W Z EL R own nm bytes ml ret Q D k' n' pc ls st) : W Z EL R own nm bytes ml ret Q D k n pc ls st := by
  intro p l e s m args below meth c T vm0 k0 locs cells slots A
  obtain ⟨X, hS, hk0, hx, hby, hml, hown, hZ, r1, r2, r3, hN, hH, hc, hl, hE, hNI⟩ := A
  exact next p l e s m args below meth c T vm0 k0 locs cells slots ⟨X, hS, hk0, hx, hby, hml, hown, hZ, r1, r2, r3, hN, hH, Nat.le_trans hc hk, Nat.le_trans hl hn, hE, hNI⟩
theorem W.heap (H : ∀ vm h, Hp Z EL D vm h → Hp Z EL D' vm h) (next : W Z EL R own nm bytes ml ret Q D' k n pc ls st) : W Z EL R own nm bytes ml ret Q D k n pc ls st := by
  intro p l e s m args below meth c T vm0 k0 locs cells slots A
  obtain ⟨X, hS, hk0, hx, hby, hml, hown, hZ, r1, r2, r3, hN, hH, hc, hl, hE, hNI⟩ := A
  exact next p l e s m args below meth c T vm0 k0 locs cells slots ⟨X, hS, hk0, hx, hby, hml, hown, hZ, r1, r2, r3, hN, H _ _ hH, hc, hl, hE, hNI⟩
theorem W.know {P : Prop} (H : ∀ vm h, Hp Z EL D vm h → P) (next : P → W Z EL R own nm bytes ml ret Q D k n pc ls st) : W Z EL R own nm bytes ml ret Q D k n pc ls st := by
  intro p l e s m args below meth c T vm0 k0 locs cells slots A
  exact next (H _ _ A.2.2.2.2.2.2.2.2.2.2.2.2.1) p l e s m args below meth c T vm0 k0 locs cells slots A
theorem W.perm (P : D.Perm D') (next : W Z EL R own nm bytes ml ret Q D' k n pc ls st) : W Z EL R own nm bytes ml ret Q D k n pc ls st := W.heap (fun _ _ H => H.perm P) next
theorem W.front (i : Nat) {x : Ent} (hi : D[i]? = some x) (hD : x :: D.eraseIdx i = D') (next : W Z EL R own nm bytes ml ret Q D' k n pc ls st) : W Z EL R own nm bytes ml ret Q D k n pc ls st := W.perm (hD ▸ perm_front D i x hi) next
theorem W.aload (i : Nat) {v : Value} (hd : decode bytes pc = .ok (.aload i, 2)) (hl : ls[i]? = some (.val v)) (hv : v.isRef = true) (next : W Z EL R own nm bytes ml ret Q D k n (pc + 2) ls (v :: st)) : W Z EL R own nm bytes ml ret Q D k n pc ls st :=
  W.pure (fun h hx hc hr => XS.aload (g := mkF _ pc ls st) h hx rfl (hb hc hd) hl hv hr) next
theorem W.aloadN {i : Fin 4} {v : Value} (hd : decode bytes pc = .ok (.aload_n i, 1)) (hl : ls[i.val]? = some (.val v)) (hv : v.isRef = true) (next : W Z EL R own nm bytes ml ret Q D k n (pc + 1) ls (v :: st)) : W Z EL R own nm bytes ml ret Q D k n pc ls st :=
  W.pure (fun h hx hc hr => XS.aloadN (g := mkF _ pc ls st) h hx rfl (hb hc hd) hl hv hr) next
theorem W.iload {i : Nat} {v : Int32} (hd : decode bytes pc = .ok (.iload i, 2)) (hl : ls[i]? = some (.val (.int v))) (next : W Z EL R own nm bytes ml ret Q D k n (pc + 2) ls (.int v :: st)) : W Z EL R own nm bytes ml ret Q D k n pc ls st :=
  W.pure (fun h hx hc hr => XS.iload (g := mkF _ pc ls st) h hx rfl (hb hc hd) hl hr) next
theorem W.iloadN {i : Fin 4} {v : Int32} (hd : decode bytes pc = .ok (.iload_n i, 1)) (hl : ls[i.val]? = some (.val (.int v))) (next : W Z EL R own nm bytes ml ret Q D k n (pc + 1) ls (.int v :: st)) : W Z EL R own nm bytes ml ret Q D k n pc ls st :=
  W.pure (fun h hx hc hr => XS.iloadN (g := mkF _ pc ls st) h hx rfl (hb hc hd) hl hr) next
theorem W.astore {i : Nat} {v : Value} (hd : decode bytes pc = .ok (.astore i, 2)) (hv : v.isRef = true) (hl : storeLocals ls i v = some ls') (next : W Z EL R own nm bytes ml ret Q D k n (pc + 2) ls' st) : W Z EL R own nm bytes ml ret Q D k n pc ls (v :: st) :=
  W.pure (fun h hx hc hr => XS.astore (g := mkF _ pc ls (v :: st)) h hx rfl (hb hc hd) rfl hv hl hr) next
theorem W.astoreN {i : Fin 4} {v : Value} (hd : decode bytes pc = .ok (.astore_n i, 1)) (hv : v.isRef = true) (hl : storeLocals ls i.val v = some ls') (next : W Z EL R own nm bytes ml ret Q D k n (pc + 1) ls' st) : W Z EL R own nm bytes ml ret Q D k n pc ls (v :: st) :=
  W.pure (fun h hx hc hr => XS.astoreN (g := mkF _ pc ls (v :: st)) h hx rfl (hb hc hd) rfl hv hl hr) next
theorem W.istore {i : Nat} {v : Int32} (hd : decode bytes pc = .ok (.istore i, 2)) (hl : storeLocals ls i (.int v) = some ls') (next : W Z EL R own nm bytes ml ret Q D k n (pc + 2) ls' st) : W Z EL R own nm bytes ml ret Q D k n pc ls (.int v :: st) :=
  W.pure (fun h hx hc hr => XS.istore (g := mkF _ pc ls (.int v :: st)) h hx rfl (hb hc hd) rfl hl hr) next
theorem W.istoreN {i : Fin 4} {v : Int32} (hd : decode bytes pc = .ok (.istore_n i, 1)) (hl : storeLocals ls i.val (.int v) = some ls') (next : W Z EL R own nm bytes ml ret Q D k n (pc + 1) ls' st) : W Z EL R own nm bytes ml ret Q D k n pc ls (.int v :: st) :=
  W.pure (fun h hx hc hr => XS.istoreN (g := mkF _ pc ls (.int v :: st)) h hx rfl (hb hc hd) rfl hl hr) next
theorem W.iconst {i : Int} (v : Int32) (hd : decode bytes pc = .ok (.iconst i, 1)) (hv : Int32.ofInt i = v) (next : W Z EL R own nm bytes ml ret Q D k n (pc + 1) ls (.int v :: st)) : W Z EL R own nm bytes ml ret Q D k n pc ls st :=
  W.pure (fun h hx hc hr => XT.iconstV (g := mkF _ pc ls st) h hx rfl v (hb hc hd) hv hr) next
theorem W.bipush {i : Int} (v : Int32) (hd : decode bytes pc = .ok (.bipush i, 2)) (hv : (Int8.ofInt i).toInt32 = v) (next : W Z EL R own nm bytes ml ret Q D k n (pc + 2) ls (.int v :: st)) : W Z EL R own nm bytes ml ret Q D k n pc ls st :=
  W.pure (fun h hx hc hr => XT.bipushV (g := mkF _ pc ls st) h hx rfl v (hb hc hd) hv hr) next
theorem W.sipush {i : Int} (v : Int32) (hd : decode bytes pc = .ok (.sipush i, 3)) (hv : (Int16.ofInt i).toInt32 = v) (next : W Z EL R own nm bytes ml ret Q D k n (pc + 3) ls (.int v :: st)) : W Z EL R own nm bytes ml ret Q D k n pc ls st :=
  W.pure (fun h hx hc hr => XT.sipushV (g := mkF _ pc ls st) h hx rfl v (hb hc hd) hv hr) next
theorem W.aconstNull (hd : decode bytes pc = .ok (.aconst_null, 1)) (next : W Z EL R own nm bytes ml ret Q D k n (pc + 1) ls (.null :: st)) : W Z EL R own nm bytes ml ret Q D k n pc ls st :=
  W.pure (fun h hx hc hr => XS.aconstNull (g := mkF _ pc ls st) h hx rfl (hb hc hd) hr) next
theorem W.iinc {i : Nat} {cst : Int} {x : Int32} (v : Int32) (hd : decode bytes pc = .ok (.iinc i cst, 3)) (hv : Int32.ofInt cst = v) (hl : ls[i]? = some (.val (.int x))) (hl' : storeLocals ls i (.int (x + v)) = some ls') (next : W Z EL R own nm bytes ml ret Q D k n (pc + 3) ls' st) : W Z EL R own nm bytes ml ret Q D k n pc ls st :=
  W.pure (fun h hx hc hr => XT.iincV (g := mkF _ pc ls st) h hx rfl v (hb hc hd) hv hl hl' hr) next
theorem W.dup {x : Value} (hd : decode bytes pc = .ok (.dup, 1)) (hc1 : x.category = 1) (next : W Z EL R own nm bytes ml ret Q D k n (pc + 1) ls (x :: x :: st)) : W Z EL R own nm bytes ml ret Q D k n pc ls (x :: st) :=
  W.pure (fun h hx hc hr => XS.dup (g := mkF _ pc ls (x :: st)) h hx rfl (hb hc hd) rfl hc1 hr) next
theorem W.isub {x y : Int32} (hd : decode bytes pc = .ok (.isub, 1)) (next : W Z EL R own nm bytes ml ret Q D k n (pc + 1) ls (.int (x - y) :: st)) : W Z EL R own nm bytes ml ret Q D k n pc ls (.int y :: .int x :: st) :=
  W.pure (fun h hx hc hr => XS.isub (g := mkF _ pc ls (.int y :: .int x :: st)) h hx rfl (hb hc hd) rfl hr) next
theorem W.irem {x y : Int32} (hd : decode bytes pc = .ok (.irem, 1)) (hy : y ≠ 0) (next : W Z EL R own nm bytes ml ret Q D k n (pc + 1) ls (.int (x % y) :: st)) : W Z EL R own nm bytes ml ret Q D k n pc ls (.int y :: .int x :: st) := by
  intro p l e s m args below meth c T vm0 k0 locs cells slots A
  obtain ⟨s₂, o, h1, r⟩ := next p l e s m args below meth c T vm0 k0 locs cells slots A
  exact ⟨s₂, o, iremM (g := mkF m pc ls (.int y :: .int x :: st)) A.1 A.2.2.2.1 rfl (hb A.2.2.2.2.1 hd) rfl hy h1, r⟩
theorem W.iand {x y : Int32} (hd : decode bytes pc = .ok (.iand, 1)) (next : W Z EL R own nm bytes ml ret Q D k n (pc + 1) ls (.int (x &&& y) :: st)) : W Z EL R own nm bytes ml ret Q D k n pc ls (.int y :: .int x :: st) :=
  W.pure (fun h hx hc hr => XS.iand (g := mkF _ pc ls (.int y :: .int x :: st)) h hx rfl (hb hc hd) rfl hr) next
theorem W.ixor {x y : Int32} (hd : decode bytes pc = .ok (.ixor, 1)) (next : W Z EL R own nm bytes ml ret Q D k n (pc + 1) ls (.int (x ^^^ y) :: st)) : W Z EL R own nm bytes ml ret Q D k n pc ls (.int y :: .int x :: st) :=
  W.pure (fun h hx hc hr => XT.ixor (g := mkF _ pc ls (.int y :: .int x :: st)) h hx rfl (hb hc hd) rfl hr) next
theorem W.iushr {x y : Int32} (hd : decode bytes pc = .ok (.iushr, 1)) (next : W Z EL R own nm bytes ml ret Q D k n (pc + 1) ls (.int (XT.ushr x y) :: st)) : W Z EL R own nm bytes ml ret Q D k n pc ls (.int y :: .int x :: st) :=
  W.pure (fun h hx hc hr => XT.iushr (g := mkF _ pc ls (.int y :: .int x :: st)) h hx rfl (hb hc hd) rfl hr) next
theorem W.i2b {x : Int32} (hd : decode bytes pc = .ok (.i2b, 1)) (next : W Z EL R own nm bytes ml ret Q D k n (pc + 1) ls (.int x.toInt8.toInt32 :: st)) : W Z EL R own nm bytes ml ret Q D k n pc ls (.int x :: st) :=
  W.pure (fun h hx hc hr => XT.i2b (g := mkF _ pc ls (.int x :: st)) h hx rfl (hb hc hd) rfl hr) next
theorem W.i2c {x : Int32} (hd : decode bytes pc = .ok (.i2c, 1)) (next : W Z EL R own nm bytes ml ret Q D k n (pc + 1) ls (.int x.toUInt32.toUInt16.toUInt32.toInt32 :: st)) : W Z EL R own nm bytes ml ret Q D k n pc ls (.int x :: st) :=
  W.pure (fun h hx hc hr => XT.i2c (g := mkF _ pc ls (.int x :: st)) h hx rfl (hb hc hd) rfl hr) next
theorem W.goto (pc' : Nat) {o : Int} (hd : decode bytes pc = .ok (.goto o, 3)) (ho : 0 ≤ (pc : Int) + o ∧ ((pc : Int) + o).toNat = pc') (next : W Z EL R own nm bytes ml ret Q D k n pc' ls st) : W Z EL R own nm bytes ml ret Q D k n pc ls st :=
  W.pure (fun h hx hc hr => XS.goto (g := mkF _ pc ls st) h hx rfl rfl (hb hc hd) ho.1 ho.2 hr) next
def Cd : ClassFile.Cond → Int32 → Int32 → Prop
  | .eq, x, y => x = y
  | .ne, x, y => ¬ x = y
  | .lt, x, y => x < y
  | .ge, x, y => ¬ x < y
  | .gt, x, y => y < x
  | .le, x, y => ¬ y < x
theorem Cd.yes {cd : ClassFile.Cond} {x y : Int32} (q : Cd cd x y) : if_icmp.holds cd x y = true := by
  cases cd <;> first | exact (teq q).1 | exact (feq q).2 | exact (tlt q).1 | exact (flt q).2.1 | exact (tlt q).2.2.1 | exact (flt q).2.2.2
theorem Cd.no {cd : ClassFile.Cond} {x y : Int32} (q : ¬ Cd cd x y) : if_icmp.holds cd x y = false := by
  cases cd <;> first | exact (feq q).1 | exact (teq (Classical.not_not.mp q)).2 | exact (flt q).1 | exact (tlt (Classical.not_not.mp q)).2.1 | exact (flt q).2.2.1 | exact (tlt (Classical.not_not.mp q)).2.2.2
theorem W.icmpY (pc' : Nat) {cd : ClassFile.Cond} {x y : Int32} {o : Int} (hd : decode bytes pc = .ok (.if_icmp cd o, 3)) (q : Cd cd x y) (ho : 0 ≤ (pc : Int) + o ∧ ((pc : Int) + o).toNat = pc') (next : W Z EL R own nm bytes ml ret Q D k n pc' ls st) : W Z EL R own nm bytes ml ret Q D k n pc ls (.int y :: .int x :: st) :=
  W.pure (fun h hx hc hr => XS.icmpYes (g := mkF _ pc ls (.int y :: .int x :: st)) h hx rfl rfl (hb hc hd) rfl q.yes ho.1 ho.2 hr) next
theorem W.icmpN {cd : ClassFile.Cond} {x y : Int32} {o : Int} (hd : decode bytes pc = .ok (.if_icmp cd o, 3)) (q : ¬ Cd cd x y) (next : W Z EL R own nm bytes ml ret Q D k n (pc + 3) ls st) : W Z EL R own nm bytes ml ret Q D k n pc ls (.int y :: .int x :: st) :=
  W.pure (fun h hx hc hr => XS.icmpNo (g := mkF _ pc ls (.int y :: .int x :: st)) h hx rfl (hb hc hd) rfl (Cd.no q) hr) next
theorem W.icmp (pc' : Nat) {cd : ClassFile.Cond} {x y : Int32} {o : Int} (hd : decode bytes pc = .ok (.if_icmp cd o, 3)) (ho : 0 ≤ (pc : Int) + o ∧ ((pc : Int) + o).toNat = pc') (nextY : Cd cd x y → W Z EL R own nm bytes ml ret Q D k n pc' ls st) (nextN : ¬ Cd cd x y → W Z EL R own nm bytes ml ret Q D k n (pc + 3) ls st) : W Z EL R own nm bytes ml ret Q D k n pc ls (.int y :: .int x :: st) := by
  by_cases q : Cd cd x y
  · exact W.icmpY pc' hd q ho (nextY q)
  · exact W.icmpN hd q (nextN q)
theorem W.ifY (pc' : Nat) {cd : ClassFile.Cond} {x : Int32} {o : Int} (hd : decode bytes pc = .ok (.ifCond cd o, 3)) (q : Cd cd x 0) (ho : 0 ≤ (pc : Int) + o ∧ ((pc : Int) + o).toNat = pc') (next : W Z EL R own nm bytes ml ret Q D k n pc' ls st) : W Z EL R own nm bytes ml ret Q D k n pc ls (.int x :: st) :=
  W.pure (fun h hx hc hr => XS.ifYes (g := mkF _ pc ls (.int x :: st)) h hx rfl rfl (hb hc hd) rfl ((if0 _ _).trans q.yes) ho.1 ho.2 hr) next
theorem W.ifN {cd : ClassFile.Cond} {x : Int32} {o : Int} (hd : decode bytes pc = .ok (.ifCond cd o, 3)) (q : ¬ Cd cd x 0) (next : W Z EL R own nm bytes ml ret Q D k n (pc + 3) ls st) : W Z EL R own nm bytes ml ret Q D k n pc ls (.int x :: st) :=
  W.pure (fun h hx hc hr => XS.ifNo (g := mkF _ pc ls (.int x :: st)) h hx rfl (hb hc hd) rfl ((if0 _ _).trans (Cd.no q)) hr) next
theorem W.if (pc' : Nat) {cd : ClassFile.Cond} {x : Int32} {o : Int} (hd : decode bytes pc = .ok (.ifCond cd o, 3)) (ho : 0 ≤ (pc : Int) + o ∧ ((pc : Int) + o).toNat = pc') (nextY : Cd cd x 0 → W Z EL R own nm bytes ml ret Q D k n pc' ls st) (nextN : ¬ Cd cd x 0 → W Z EL R own nm bytes ml ret Q D k n (pc + 3) ls st) : W Z EL R own nm bytes ml ret Q D k n pc ls (.int x :: st) := by
  by_cases q : Cd cd x 0
  · exact W.ifY pc' hd q ho (nextY q)
  · exact W.ifN hd q (nextN q)
def Ca : ClassFile.ACond → Value → Value → Prop
  | .eq, x, y => x = y
  | .ne, x, y => ¬ x = y
theorem Ca.yes {cd : ClassFile.ACond} {x y : Value} (q : Ca cd x y) : XT.acmp cd x y = true := by
  cases cd
  · exact XT.aa_eq_t q
  · exact XT.aa_ne_t q
theorem Ca.no {cd : ClassFile.ACond} {x y : Value} (q : ¬ Ca cd x y) : XT.acmp cd x y = false := by
  cases cd
  · exact XT.aa_eq_f q
  · exact XT.aa_ne_f (Classical.not_not.mp q)
theorem W.acmpY (pc' : Nat) {cd : ClassFile.ACond} {x y : Value} {o : Int} (hd : decode bytes pc = .ok (.if_acmp cd o, 3)) (hx1 : x.isRef = true) (hy1 : y.isRef = true) (q : Ca cd x y) (ho : 0 ≤ (pc : Int) + o ∧ ((pc : Int) + o).toNat = pc') (next : W Z EL R own nm bytes ml ret Q D k n pc' ls st) : W Z EL R own nm bytes ml ret Q D k n pc ls (y :: x :: st) :=
  W.pure (fun h hx hc hr => XT.acmpYes (g := mkF _ pc ls (y :: x :: st)) h hx rfl rfl (hb hc hd) rfl hx1 hy1 q.yes ho.1 ho.2 hr) next
theorem W.acmpN {cd : ClassFile.ACond} {x y : Value} {o : Int} (hd : decode bytes pc = .ok (.if_acmp cd o, 3)) (hx1 : x.isRef = true) (hy1 : y.isRef = true) (q : ¬ Ca cd x y) (next : W Z EL R own nm bytes ml ret Q D k n (pc + 3) ls st) : W Z EL R own nm bytes ml ret Q D k n pc ls (y :: x :: st) :=
  W.pure (fun h hx hc hr => XT.acmpNo (g := mkF _ pc ls (y :: x :: st)) h hx rfl (hb hc hd) rfl hx1 hy1 (Ca.no q) hr) next
theorem W.acmp (pc' : Nat) {cd : ClassFile.ACond} {x y : Value} {o : Int} (hd : decode bytes pc = .ok (.if_acmp cd o, 3)) (hx1 : x.isRef = true) (hy1 : y.isRef = true) (ho : 0 ≤ (pc : Int) + o ∧ ((pc : Int) + o).toNat = pc') (nextY : Ca cd x y → W Z EL R own nm bytes ml ret Q D k n pc' ls st) (nextN : ¬ Ca cd x y → W Z EL R own nm bytes ml ret Q D k n (pc + 3) ls st) : W Z EL R own nm bytes ml ret Q D k n pc ls (y :: x :: st) := by
  by_cases q : Ca cd x y
  · exact W.acmpY pc' hd hx1 hy1 q ho (nextY q)
  · exact W.acmpN hd hx1 hy1 q (nextN q)
end Walk
end Jvm.Wk
namespace Jvm.Wk
open Jvm Jvm.ClassFile Sem Op Lib Bundle Jvm.Free Jvm.Stand Jvm.LawKit Jvm.RoadKit
section Walk
variable {Z : State} {EL : Bool × List (String × Nat)} {R : Room} {own nm : String} {bytes : ByteArray} {ml : Nat} {ret : Option FieldType} {Q : Option Value → List Ent → Prop} {D D' : List Ent} {k n pc : Nat} {ls ls' : Array Slot} {st : List Value} {a0 : Array Value}
theorem W.still {pc' : Nat} {st' : List Value}
    (H : ∀ {p : Program} {l : Launch} {e : Env} {s : State} {m : MethodId} {args : Array Value} {below : List Frame} {meth : Method} {c : Code} {T : State} {locs : List Loc} {cells slots : Nat}, Stand p l e R s m args below meth c T locs cells slots → p.tables.exec = Jvm.exec → c.code = bytes → c.maxLocals = ml → s.vm.findClass own = some m.cls → Z.Warmed39 s.vm → (∃ vm, Hp Z EL D vm T.heap) →
      ∃ T', Stand p l e R s m args below meth c T' locs cells slots ∧ T'.heap = T.heap ∧ ∀ target, Steps p.tables e below (T'.setTop (mkF m pc' ls' st')) target → Steps p.tables e below (T.setTop (mkF m pc ls st)) target)
    (next : W Z EL R own nm bytes ml ret Q D k n pc' ls' st') : W Z EL R own nm bytes ml ret Q D k n pc ls st := by
  intro p l e s m args below meth c T vm0 k0 locs cells slots A
  obtain ⟨X, hS, hk0, hx, hby, hml, hown, hZ, r1, r2, r3, hN, hH, hc, hl, hE, hNI⟩ := A
  obtain ⟨T', X', e', stp⟩ := H X hx hby hml hown hZ ⟨_, hH⟩
  obtain ⟨s₂, o, h1, r⟩ := next p l e s m args below meth c T' vm0 k0 locs cells slots ⟨X', hS, by rw [e']; exact hk0, hx, hby, hml, hown, hZ, r1, r2, r3, hN, by rw [e']; exact hH, hc, hl, hE, hNI⟩
  exact ⟨s₂, o, stp _ h1, r⟩
theorem W.getf {a : Addr} {b : Bool} {C O f d R0 : String} {fs : List Fd} {v : Value} {idx : Nat} (hd : decode bytes pc = .ok (.getfield idx, 3)) (w : (Cond.fieldLink own idx R0 f d).before a0 Z = true) (via : Via Z R0 O f d) (hm : (a, b, .inl (C, fs)) ∈ D) (hf : (O, f, d, v) ∈ fs)
    (next : W Z EL R own nm bytes ml ret Q D k n (pc + 3) ls (v :: st)) : W Z EL R own nm bytes ml ret Q D k n pc ls (.ref a :: st) :=
  W.still (fun X hx hby hml hown hZ hH => by
    obtain ⟨vm, hH⟩ := hH
    exact getF (host := "") X hx hZ hown (Or.inl w) via rfl ((hH.2.2.1 _ hm).1.2 _ hf) (g := mkF _ pc ls (.ref a :: st)) rfl rfl (hb hby hd)) next
theorem W.gets {O f d R0 : String} {v : Value} {idx : Nat} (hd : decode bytes pc = .ok (.getstatic idx, 3)) (w : (Cond.fieldLink own idx R0 f d).before a0 Z = true) (via : Via Z R0 O f d) (F : Sta Z Z.heap O f d v)
    (next : W Z EL R own nm bytes ml ret Q D k n (pc + 3) ls (v :: st)) : W Z EL R own nm bytes ml ret Q D k n pc ls st :=
  W.still (fun X hx hby hml hown hZ hH => by
    obtain ⟨vm, hH⟩ := hH
    exact getS (host := "") X hx hZ hown w via rfl (F.ext hH.1) (g := mkF _ pc ls st) rfl (hb hby hd)) next
theorem W.alen {a : Addr} {b : Bool} {ad : String} {ty : FieldType} {vs : List Value} (z : Int32) (hd : decode bytes pc = .ok (.arraylength, 1)) (hm : (a, b, .inr (ad, ty, vs)) ∈ D) (hz : Nat.toInt32 vs.length = z)
    (next : W Z EL R own nm bytes ml ret Q D k n (pc + 1) ls (.int z :: st)) : W Z EL R own nm bytes ml ret Q D k n pc ls (.ref a :: st) :=
  W.still (fun X hx hby hml hown hZ hH => by
    obtain ⟨vm, hH⟩ := hH
    obtain ⟨c, A, r1, -⟩ := (hH.2.2.1 _ hm).1
    refine ⟨_, X, rfl, fun target ht => ?_⟩
    refine X.arraylength hx A.1 (State.isArrayOf_alike hZ.alike A.2.1) (g := mkF _ pc ls (.ref a :: st)) rfl rfl (hb hby hd) target ?_
    rw [r1]
    have : vs.toArray.size = vs.length := by simp
    rw [this, hz]; exact ht) next
theorem idx_in' {j : Int32} {i : Nat} {vs : List Value} {c : Cell} (r1 : c.slots = vs.toArray) (hj : Idx j i) (hi : i < vs.length) : ¬ (j < 0 ∨ c.slots.size ≤ j.toNatClampNeg) := by
  rw [r1, hj.2]; rintro (q | q)
  · exact hj.1 q
  · simp at q; omega
theorem idx_at' {j : Int32} {i : Nat} {vs : List Value} {c : Cell} {v : Value} (r1 : c.slots = vs.toArray) (hj : Idx j i) (hv : vs[i]? = some v) : c.slots[j.toNatClampNeg]? = some v := by
  rw [r1, hj.2]; simpa using hv
theorem lt_of_at {vs : List Value} {i : Nat} {v : Value} (hv : vs[i]? = some v) : i < vs.length := (List.getElem?_eq_some_iff.mp hv).1
theorem W.caload {a : Addr} {b : Bool} {ad : String} {vs : List Value} {j : Int32} (i : Nat) {v : Value} (hd : decode bytes pc = .ok (.caload, 1)) (hm : (a, b, .inr (ad, .char, vs)) ∈ D) (hj : Idx j i) (hv : vs[i]? = some v)
    (next : W Z EL R own nm bytes ml ret Q D k n (pc + 1) ls (v :: st)) : W Z EL R own nm bytes ml ret Q D k n pc ls (.int j :: .ref a :: st) :=
  W.still (fun X hx hby hml hown hZ hH => by
    obtain ⟨vm, hH⟩ := hH
    obtain ⟨c, A, r1, -⟩ := (hH.2.2.1 _ hm).1
    exact ⟨_, X, rfl, fun target ht => X.caload hx A.1 (State.isArrayOf_alike hZ.alike A.2.1) A.2.2 (idx_in' r1 hj (lt_of_at hv)) (idx_at' r1 hj hv) (g := mkF _ pc ls (.int j :: .ref a :: st)) rfl rfl (hb hby hd) target ht⟩) next
theorem W.baload {a : Addr} {b : Bool} {ad : String} {vs : List Value} {j : Int32} (i : Nat) {v : Value} (hd : decode bytes pc = .ok (.baload, 1)) (hm : (a, b, .inr (ad, .byte, vs)) ∈ D) (hj : Idx j i) (hv : vs[i]? = some v)
    (next : W Z EL R own nm bytes ml ret Q D k n (pc + 1) ls (v :: st)) : W Z EL R own nm bytes ml ret Q D k n pc ls (.int j :: .ref a :: st) :=
  W.still (fun X hx hby hml hown hZ hH => by
    obtain ⟨vm, hH⟩ := hH
    obtain ⟨c, A, r1, -⟩ := (hH.2.2.1 _ hm).1
    exact ⟨_, X, rfl, fun target ht => X.baloadBytes hx A.1 (State.isArrayOf_alike hZ.alike A.2.1) A.2.2 (idx_in' r1 hj (lt_of_at hv)) (idx_at' r1 hj hv) (g := mkF _ pc ls (.int j :: .ref a :: st)) rfl rfl (hb hby hd) target ht⟩) next
theorem W.ldcI {idx : Nat} {v : Int32} (hd : decode bytes pc = .ok (.ldc idx, 2)) (w : (Cond.constant own idx v).before a0 Z = true) (next : W Z EL R own nm bytes ml ret Q D k n (pc + 2) ls (.int v :: st)) : W Z EL R own nm bytes ml ret Q D k n pc ls st :=
  W.still (fun X hx hby hml hown hZ hH => ⟨_, X, rfl, fun target ht => X.ldcI hx hown (mvT hZ w) (g := mkF _ pc ls st) rfl (hb hby hd) ht⟩) next
theorem W.castY {a : Addr} {K : String} {idx : Nat} (hd : decode bytes pc = .ok (.checkcast idx, 3)) (w : (Cond.classLink own idx K).before a0 Z = true) (hI : ∀ vm h, Hp Z EL D vm h → Ins Z h a K true) (next : W Z EL R own nm bytes ml ret Q D k n (pc + 3) ls (.ref a :: st)) : W Z EL R own nm bytes ml ret Q D k n pc ls (.ref a :: st) :=
  W.still (fun X hx hby hml hown hZ hH => by
    obtain ⟨vm, hH⟩ := hH
    exact Jvm.RoadKit.castY X hx hZ hown w rfl (hI _ _ hH) (g := mkF _ pc ls (.ref a :: st)) rfl rfl (hb hby hd)) next
theorem W.instY {a : Addr} {K : String} {idx : Nat} (hd : decode bytes pc = .ok (.instanceof idx, 3)) (w : (Cond.classLink own idx K).before a0 Z = true) (hI : ∀ vm h, Hp Z EL D vm h → Ins Z h a K true) (next : W Z EL R own nm bytes ml ret Q D k n (pc + 3) ls (.int 1 :: st)) : W Z EL R own nm bytes ml ret Q D k n pc ls (.ref a :: st) :=
  W.still (fun X hx hby hml hown hZ hH => by
    obtain ⟨vm, hH⟩ := hH
    exact Jvm.RoadKit.instY X hx hZ hown w rfl (hI _ _ hH) (g := mkF _ pc ls (.ref a :: st)) rfl rfl (hb hby hd)) next
theorem Hp.exa {D : List Ent} {a : Addr} {b : Bool} {C : String} {fs : List Fd} (hm : (a, b, .inl (C, fs)) ∈ D) : ∀ vm h, Hp Z EL D vm h → Exa Z h a C := fun _ _ H => (H.2.2.1 _ hm).1.1
theorem Hp.ins {D : List Ent} {a : Addr} {b : Bool} {C : String} {fs : List Fd} (hm : (a, b, .inl (C, fs)) ∈ D) : ∀ vm h, Hp Z EL D vm h → Ins Z h a C true := fun _ _ H => Ins.self (H.2.2.1 _ hm).1.1
theorem W.initO {a : Addr} {idx : Nat} (Wt : Nat) (hd : decode bytes pc = .ok (.invokespecial idx, 3)) (w1 : (Cond.methodLink own idx Lib.objectInit).before a0 Z = true) (w2 : (Cond.instanceMethod Lib.objectInit).before a0 Z = true) (w3 : (Cond.code Lib.objectInit ⟨#[0xb1]⟩ 1 none).before a0 Z = true)
    (hls : ls.size = ml) (hW : (st.map fun v => v.category).sum = Wt) (hr : 1 ≤ R.frames ∧ Wt + 12 ≤ R.locals) (next : W Z EL R own nm bytes ml ret Q D k n (pc + 3) ls st) : W Z EL R own nm bytes ml ret Q D k n pc ls (.ref a :: st) :=
  W.still (fun X hx hby hml hown hZ hH => Jvm.RoadKit.initO X hx hZ hown w1 w2 w3 rfl (g := mkF _ pc ls (.ref a :: st)) rfl (by rw [hml]; exact hls) rfl (hb hby hd) hr.1 (W := Wt) (by show 2 * 0 + _ ≤ _; omega) hr.2) next
def LaidAll (Z : State) (a0 : Array Value) (C : String) : List Fd → Prop
  | [] => True
  | f :: r => (Laid Z a0 C f.1 f.2.1 f.2.2.1 ∧ ∃ ty, parseFieldDescriptor f.2.2.1 = some ty ∧ f.2.2.2 = defaultValue ty) ∧ LaidAll Z a0 C r
theorem LaidAll.mem {C : String} : ∀ {fs : List Fd}, LaidAll Z a0 C fs → ∀ f ∈ fs, Laid Z a0 C f.1 f.2.1 f.2.2.1 ∧ ∃ ty, parseFieldDescriptor f.2.2.1 = some ty ∧ f.2.2.2 = defaultValue ty
  | [], _, _, q => nomatch q
  | f :: r, L, g, q => by
    rcases List.mem_cons.mp q with rfl | q
    · exact L.1
    · exact LaidAll.mem L.2 g q
theorem LaidAll.dist {C : String} : ∀ {fs : List Fd}, LaidAll Z a0 C fs → (fs.map (·.2.1)).Pairwise (fun x y => x ≠ y) → (fs.map (sl Z)).Pairwise (fun x y => x ≠ y)
  | [], _, _ => List.Pairwise.nil
  | f :: r, L, N => by
    obtain ⟨n1, n2⟩ := List.pairwise_cons.mp N
    refine List.pairwise_cons.mpr ⟨fun y hy => ?_, LaidAll.dist L.2 n2⟩
    obtain ⟨g, hg, rfl⟩ := List.mem_map.mp hy
    obtain ⟨l1, t1, q1, -⟩ := L.1
    obtain ⟨l2, t2, q2, -⟩ := LaidAll.mem L.2 g hg
    exact slot_ne l1 l2 (n1 _ (List.mem_map.mpr ⟨g, hg, rfl⟩)) q1 q2
theorem W.new {C : String} {idx nn : Nat} {fs : List Fd} (hd : decode bytes pc = .ok (.new idx, 3)) (w : (Cond.classLink own idx C).before a0 Z = true) (wi : (Cond.instantiable C nn).before a0 Z = true) (wz : (Cond.initialized C).before a0 Z = true)
    (hfs : LaidAll Z a0 C fs) (hnm : (fs.map (·.2.1)).Pairwise (fun x y => x ≠ y)) (hr : k + 1 ≤ R.cells ∧ n + nn ≤ R.slots) (next : ∀ a, W Z EL R own nm bytes ml ret Q ((a, true, .inl (C, fs)) :: D) (k + 1) (n + nn) (pc + 3) ls (.ref a :: st)) : W Z EL R own nm bytes ml ret Q D k n pc ls st := by
  intro p l e s m args below meth c T vm0 k0 locs cells slots A
  obtain ⟨X, hS, hk0, hx, hby, hml, hown, hZ, r1, r2, r3, hN, hH, hc, hl, hE, hNI⟩ := A
  obtain ⟨T', h', X', e', E, A2, D2, -, stp⟩ := newO X hx hZ hown w wi wz rfl (g := mkF m pc ls st) rfl (hb hby hd) (by omega) (by omega)
  have H' : Hp Z EL ((T.heap.size, true, .inl (C, fs)) :: D) vm0 h' := hH.new E ⟨A2, fun f hf => by
    obtain ⟨l1, ty, q1, q2⟩ := hfs.mem f hf
    rw [q2]; exact D2 l1 q1⟩ (hfs.dist hnm)
  obtain ⟨s₂, o, h1, r⟩ := next T.heap.size p l e s m args below meth c T' vm0 k0 locs (cells + 1) (slots + nn) ⟨X', hS, by rw [e']; exact Nat.le_trans hk0 E.1, hx, hby, hml, hown, hZ, r1, r2, r3, hN, by rw [e']; exact H', by omega, by omega, hE, hNI⟩
  exact ⟨s₂, o, stp _ h1, r⟩
theorem fits_default (ty : FieldType) : fits ty (defaultValue ty) = true := by cases ty <;> rfl
theorem W.newarr {aty : ArrayType} {z : Int32} (N : Nat) {ad : String} {ty : FieldType} (hd : decode bytes pc = .ok (.newarray aty, 2)) (hty : newarray.typeOf aty = ty) (w : (Cond.arrayClass ty).before a0 Z = true) (hz : Idx z N) (had : "[" ++ ty.toString = ad) (hb8 : N * 8 ≤ 536870912) (hr : k + 1 ≤ R.cells ∧ n + N ≤ R.slots)
    (next : ∀ a, W Z EL R own nm bytes ml ret Q ((a, true, .inr (ad, ty, List.replicate N (defaultValue ty))) :: D) (k + 1) (n + N) (pc + 2) ls (.ref a :: st)) : W Z EL R own nm bytes ml ret Q D k n pc ls (.int z :: st) := by
  intro p l e s m args below meth c T vm0 k0 locs cells slots A
  subst hty
  obtain ⟨X, hS, hk0, hx, hby, hml, hown, hZ, r1, r2, r3, hN, hH, hc, hl, hE, hNI⟩ := A
  obtain ⟨T', h', cA, X', e', E, A2, E2, stp⟩ := newPE X hx hZ w rfl (g := mkF m pc ls (.int z :: st)) rfl (hb hby hd) rfl hz.1 (cap := N) (by rw [hz.2]; exact Nat.le_refl _) hb8 (by omega) (by omega) had
  have H' : Hp Z EL ((T.heap.size, true, .inr (ad, newarray.typeOf aty, List.replicate N (defaultValue (newarray.typeOf aty)))) :: D) vm0 h' := hH.new E ⟨_, A2, by simp [newA, hz.2], by simp; omega, fun v hv => by rw [(List.mem_replicate.mp hv).2]; exact fits_default _, fun _ => E2⟩ trivial
  obtain ⟨s₂, o, h1, r⟩ := next T.heap.size p l e s m args below meth c T' vm0 k0 locs (cells + 1) (slots + N) ⟨X', hS, by rw [e']; exact Nat.le_trans hk0 E.1, hx, hby, hml, hown, hZ, r1, r2, r3, hN, by rw [e']; exact H', by omega, by omega, hE, hNI⟩
  exact ⟨s₂, o, stp _ h1, r⟩
theorem pw_ne {l : List Nat} (P : l.Pairwise (fun x y => x ≠ y)) {i j : Nat} {x y : Nat} (hij : i ≠ j) (hi : l[i]? = some x) (hj : l[j]? = some y) : x ≠ y := by
  obtain ⟨i1, rfl⟩ := List.getElem?_eq_some_iff.mp hi
  obtain ⟨j1, rfl⟩ := List.getElem?_eq_some_iff.mp hj
  rw [List.pairwise_iff_getElem] at P
  rcases Nat.lt_or_gt_of_ne hij with q | q
  · exact P i j i1 j1 q
  · exact (P j i j1 i1 q).symm
theorem set_map_sl {fs : List Fd} {j : Nat} {f g : Fd} (hj : fs[j]? = some f) (e : sl Z g = sl Z f) : (fs.set j g).map (sl Z) = fs.map (sl Z) := by
  rw [List.map_set, e]
  apply List.ext_getElem?
  intro i
  rw [List.getElem?_set]
  split
  · rename_i q; subst q
    rw [List.getElem?_map, hj]
    have := (List.getElem?_eq_some_iff.mp hj).1
    simp [this]
  · rfl
theorem Sat.put {h h' : Heap} {a : Addr} {C O f d : String} {fs : List Fd} {j : Nat} {old v : Value} (S : Sat Z h a (.inl (C, fs))) (hD : Dist Z (.inl (C, fs))) (hj : fs[j]? = some (O, f, d, old)) (Wr1 : Wr h h' a (Jvm.RoadKit.slotOf Z O f d) v) : Sat Z h' a (.inl (C, fs.set j (O, f, d, v))) := by
  refine ⟨S.1.wr Wr1, fun g hg => ?_⟩
  obtain ⟨i, hi⟩ := List.mem_iff_getElem?.mp hg
  rw [List.getElem?_set] at hi
  split at hi
  · rename_i q; subst q
    split at hi
    · cases hi; exact (S.2 _ (List.mem_of_getElem? hj)).same Wr1
    · cases hi
  · rename_i q
    refine (S.2 g (List.mem_of_getElem? hi)).other Wr1 (Or.inr ?_)
    exact pw_ne hD (Ne.symm q) (x := sl Z g) (y := sl Z (O, f, d, old)) (by rw [List.getElem?_map, hi]; rfl) (by rw [List.getElem?_map, hj]; rfl)
theorem W.putf {a : Addr} {C O f d R0 : String} {fs : List Fd} {old v : Value} {idx kk : Nat} {ty : FieldType} (i j : Nat) (hd : decode bytes pc = .ok (.putfield idx, 3)) (w : (Cond.fieldLink own idx R0 f d).before a0 Z = true) (via : Via Z R0 O f d)
    (hi : D[i]? = some (a, true, .inl (C, fs))) (hj : fs[j]? = some (O, f, d, old)) (L : (Cond.lays C O f d).before a0 Z = true ∨ ((Cond.laysFinal C O f d).before a0 Z = true ∧ own = O ∧ nm = "<init>")) (wi : (Cond.instantiable C kk).before a0 Z = true)
    (hty : parseFieldDescriptor d = some ty) (hn : narrow ty v = v) (hf : fits ty v = true) (hD : D.set i (a, true, .inl (C, fs.set j (O, f, d, v))) = D')
    (next : W Z EL R own nm bytes ml ret Q D' k n (pc + 3) ls st) : W Z EL R own nm bytes ml ret Q D k n pc ls (v :: .ref a :: st) := by
  intro p l e s m args below meth c T vm0 k0 locs cells slots A
  obtain ⟨X, hS, hk0, hx, hby, hml, hown, hZ, r1, r2, r3, hN, hH, hc, hl, hE, hNI⟩ := A
  subst hD
  obtain ⟨S, g⟩ := hH.2.2.1 _ (List.mem_of_getElem? hi)
  obtain ⟨T', h', X', e', W1, stp⟩ := putF (host := "") X hx hZ hown (Or.inl w) via rfl (S.2 _ (List.mem_of_getElem? hj)) S.1 (L.imp id fun q => ⟨q.1, q.2.1, r3.trans q.2.2⟩) wi hty hn hf (g := mkF m pc ls (v :: .ref a :: st)) rfl rfl (hb hby hd)
  obtain ⟨g1, g2, g3⟩ := g rfl
  have H' := hH.keepSet (d' := .inl (C, fs.set j (O, f, d, v))) hi (Keep.of_wr W1) (Sat.put S g3 hj W1) (by show List.Pairwise _ _; rw [set_map_sl (Z := Z) (g := (O, f, d, v)) hj rfl]; exact g3)
  obtain ⟨s₂, o, q1, r⟩ := next p l e s m args below meth c T' vm0 k0 _ cells slots ⟨X', hS, by rw [e', W1.size]; exact hk0, hx, hby, hml, hown, hZ, r1, r2, r3, Fr.snoc X' hN g1, by rw [e']; exact H', hc, hl, hE, hNI⟩
  exact ⟨s₂, o, stp _ q1, r⟩
theorem Sat.store {h h' : Heap} {a : Addr} {ad : String} {ty : FieldType} {vs : List Value} {i : Nat} {v : Value} (S : Sat Z h a (.inr (ad, ty, vs))) (hv : fits ty v = true) (W1 : Wr h h' a i v) : Sat Z h' a (.inr (ad, ty, vs.set i v)) := by
  obtain ⟨c, A, r1, r2, r3, r4⟩ := S
  refine ⟨_, A.same W1, ?_, by simpa using r2, fun x hx => ?_, fun q => (r4 q).wr W1⟩
  · simp [Cell.setSlot, r1]
  · rcases List.mem_or_eq_of_mem_set hx with hx | rfl
    · exact r3 x hx
    · exact hv
theorem W.stA {a : Addr} {ad : String} {ty : FieldType} {vs : List Value} {i j : Nat} {v : Value} {st' : List Value} {pc' : Nat}
    (H : ∀ {p : Program} {l : Launch} {e : Env} {s : State} {m : MethodId} {args : Array Value} {below : List Frame} {meth : Method} {c : Code} {T : State} {locs : List Loc} {cells slots : Nat} {cl : Cell}, Stand p l e R s m args below meth c T locs cells slots → p.tables.exec = Jvm.exec → c.code = bytes → Z.Warmed39 s.vm → Arr Z T.heap a cl ty → cl.slots = vs.toArray →
      ∃ T' h', Stand p l e R s m args below meth c T' (locs ++ [⟨a, j⟩]) cells slots ∧ T'.heap = h' ∧ Wr T.heap h' a j v ∧ ∀ target, Steps p.tables e below (T'.setTop (mkF m pc' ls st')) target → Steps p.tables e below (T.setTop (mkF m pc ls st)) target)
    (hi : D[i]? = some (a, true, .inr (ad, ty, vs))) (hf : fits ty v = true) (hD : D.set i (a, true, .inr (ad, ty, vs.set j v)) = D')
    (next : W Z EL R own nm bytes ml ret Q D' k n pc' ls st') : W Z EL R own nm bytes ml ret Q D k n pc ls st := by
  intro p l e s m args below meth c T vm0 k0 locs cells slots A
  obtain ⟨X, hS, hk0, hx, hby, hml, hown, hZ, r1, r2, r3, hN, hH, hc, hl, hE, hNI⟩ := A
  subst hD
  obtain ⟨S, g⟩ := hH.2.2.1 _ (List.mem_of_getElem? hi)
  obtain ⟨cl, A, q1, -⟩ := id S
  obtain ⟨T', h', X', e', W1, stp⟩ := H X hx hby hZ A q1
  obtain ⟨g1, g2, g3⟩ := g rfl
  have H' := hH.keepSet hi (Keep.of_wr W1) (Sat.store S hf W1) trivial
  obtain ⟨s₂, o, q1, r⟩ := next p l e s m args below meth c T' vm0 k0 _ cells slots ⟨X', hS, by rw [e', W1.size]; exact hk0, hx, hby, hml, hown, hZ, r1, r2, r3, Fr.snoc X' hN g1, by rw [e']; exact H', hc, hl, hE, hNI⟩
  exact ⟨s₂, o, stp _ q1, r⟩
theorem W.castore {a : Addr} {ad : String} {vs : List Value} {z x x' : Int32} (i j : Nat) (hd : decode bytes pc = .ok (.castore, 1)) (hi : D[i]? = some (a, true, .inr (ad, .char, vs))) (hz : Idx z j) (hj : j < vs.length) (hx' : nar .char x = x')
    (hD : D.set i (a, true, .inr (ad, .char, vs.set j (.int x'))) = D') (next : W Z EL R own nm bytes ml ret Q D' k n (pc + 1) ls st) : W Z EL R own nm bytes ml ret Q D k n pc ls (.int x :: .int z :: .ref a :: st) :=
  W.stA (i := i) (j := j) (fun X hx hby hZ A q => by
    have r := stC X hx hZ rfl A (j := z) (x := x) (idx_in' q hz hj) (g := mkF _ pc ls (.int x :: .int z :: .ref a :: st)) rfl rfl (hb hby hd)
    rw [hz.2, hx'] at r; exact r) hi (by rw [← hx']; exact fits_nar_char x) hD next
theorem W.bastore {a : Addr} {ad : String} {vs : List Value} {z x x' : Int32} (i j : Nat) (hd : decode bytes pc = .ok (.bastore, 1)) (hi : D[i]? = some (a, true, .inr (ad, .byte, vs))) (hz : Idx z j) (hj : j < vs.length) (hx' : nar .byte x = x')
    (hD : D.set i (a, true, .inr (ad, .byte, vs.set j (.int x'))) = D') (next : W Z EL R own nm bytes ml ret Q D' k n (pc + 1) ls st) : W Z EL R own nm bytes ml ret Q D k n pc ls (.int x :: .int z :: .ref a :: st) :=
  W.stA (i := i) (j := j) (fun X hx hby hZ A q => by
    have r := stB X hx hZ rfl A (j := z) (x := x) (idx_in' q hz hj) (g := mkF _ pc ls (.int x :: .int z :: .ref a :: st)) rfl rfl (hb hby hd)
    rw [hz.2, hx'] at r; exact r) hi (by rw [← hx']; exact fits_nar_byte x) hD next
abbrev dStr (c : Int32) (v : Value) : Desc := .inl ("java/lang/String", [("java/lang/String", "value", "[B", v), ("java/lang/String", "coder", "B", .int c)])
theorem W.ldcT {idx : Nat} {text : String} (N : Nat) {vs : List Value} (hni : EL.1 = false) (hd : decode bytes pc = .ok (.ldc idx, 2)) (w : (Cond.stringLink own idx text).before a0 Z = true) (wS : ∀ a ∈ Bundle.stringAtoms, a.before a0 Z = true) (hmem : (own, idx) ∈ EL.2)
    (ht : (∀ c ∈ text.toList, c.toNat < 256) ∧ text.toList.map (fun c => Value.int (Jvm.Lit.byteI c.toNat.toUInt16)) = vs) (hn : 4 * text.toList.length ≤ N) (hbig : N ≤ 536870912) (hr : k + 2 ≤ R.cells ∧ n + (N + 4) ≤ R.slots)
    (next : ∀ a b, W Z EL R own nm bytes ml ret Q ((a, false, dStr 0 (.ref b)) :: (b, false, .inr ("", .byte, vs)) :: D) (k + 2) (n + (N + 4)) (pc + 2) ls (.ref a :: st)) : W Z EL R own nm bytes ml ret Q D k n pc ls st := by
  intro p l e s m args below meth c T vm0 k0 locs cells slots A
  obtain ⟨X, hS, hk0, hx, hby, hml, hown, hZ, r1, r2, r3, hN, hH, hc, hl, ⟨⟨b0, hE⟩, hNL⟩, hNI⟩ := A
  have hE' : EW Z a0 EL.2 := fun q hq => by
    obtain ⟨t, ht, r⟩ := hE q hq
    exact ⟨t, by have := mvS (s := Z) (args := a0) (State.Warmed39.refl Z) ht; simpa using this, r⟩
  have hlen : vs.length = text.toList.length := by rw [← ht.2]; simp
  have hv31 : vs.length < 2147483648 := by omega
  have iz := Idx.of_nat hv31
  obtain ⟨a, T', h', k1, b, kk, X', e', E, hS', hk1, hZ', hown', F1, F2, F3, F4, g1, g2, hC, -, hne, stp⟩ := ldcCH X hx hZ hown w wS rfl hS hk0 hE' hmem hH.2.1 (z := Nat.toInt32 vs.length) ht iz.1 iz.2 (g := mkF m pc ls st) rfl (hb hby hd) hn hbig (by omega) (by omega)
  have hH1 := hH.grown E hC
  have hH2 : Hp Z EL ((b, false, .inr ("", .byte, vs)) :: D) T'.vm h' := hH1.read (Sat.of_arv F4 iz.2 fun q => absurd rfl q) fun x q _ => (hne x q).2
  have hH3 : Hp Z EL ((a, false, dStr 0 (.ref b)) :: (b, false, .inr ("", .byte, vs)) :: D) T'.vm h' := hH2.read ⟨F1, fun f hf => by
    rcases List.mem_cons.mp hf with rfl | hf
    · exact F3
    · cases List.mem_singleton.mp hf; exact F2⟩ fun x q _ => (hne x q).1
  obtain ⟨s₂, o, q1, r⟩ := next a b p l e s m args below meth c T' T'.vm k1 locs (cells + 2) (slots + (N + 4)) ⟨X', hS', by rw [e']; exact hk1, hx, hby, hml, hown', hZ', r1, r2, r3, hN, by rw [e']; exact hH3, by omega, by omega, ⟨⟨b0, hE⟩, hNL⟩, fun q => by rw [hni] at q; cases q⟩
  exact ⟨s₂, o, stp _ q1, r⟩
theorem W.out {v : Option Value} (hk : k ≤ R.cells ∧ n ≤ R.slots) (hv : ret = none → v = none) (q : Q v D)
    (H : ∀ {p : Program} {l : Launch} {e : Env} {s : State} {m : MethodId} {args : Array Value} {below : List Frame} {meth : Method} {c : Code} {T : State} {locs : List Loc} {cells slots : Nat} {fs : List Frame}, Stand p l e R s m args below meth c T locs cells slots → p.tables.exec = Jvm.exec → c.code = bytes → meth.sig.returnType = ret →
      (∀ (f : JFrame) (acts : List Action), f.method = m → f.locked = none → f.entered = [] → (doReturn e (T.setTop f) acts v).1 = T.setFrames fs) → Steps p.tables e below (T.setTop (mkF m pc ls st)) (T.setFrames fs)) : W Z EL R own nm bytes ml ret Q D k n pc ls st := by
  intro p l e s m args below meth c T vm0 k0 locs cells slots A
  obtain ⟨X, hS, hk0, hx, hby, hml, hown, hZ, r1, r2, r3, hN, hH, hc, hl, ⟨⟨b0, hE⟩, hNL⟩, hNI⟩ := A
  obtain ⟨fs, h1, h2, h3, ⟨h4, h5, h6, h7⟩⟩ := X.leaveW hS hk0 (v := v) (fun z => hv (r1 ▸ z)) r2
  refine ⟨_, _, H X hx hby r1 h1, h2, h3, v, locs, rfl, hN, ⟨D, (show Hp Z EL D T.vm T.heap from hH.toVm (CHv.at X hZ hE hH.2.1)), q⟩, ⟨h4, h5, h6, h7.mono (by omega) (by omega)⟩, fun q => ?_⟩
  have := X.warmed
  rw [hNI q] at this; exact this
theorem W.ireturn {x : Int32} {t : FieldType} (hd : decode bytes pc = .ok (.ireturn, 1)) (hret : ret = some t) (ht : t = .int ∨ t = .boolean ∨ t = .byte ∨ t = .char ∨ t = .short) (hn : narrow t (.int x) = .int x) (hk : k ≤ R.cells ∧ n ≤ R.slots) (q : Q (some (.int x)) D) : W Z EL R own nm bytes ml ret Q D k n pc ls (.int x :: st) :=
  W.out hk (fun z => by rw [hret] at z; cases z) q (fun X hx hby hr hl => retOut X hx (hr.trans hret) hn (Or.inl ⟨rfl, ht, x, rfl⟩) (hb hby hd) hl)
theorem W.areturn {v : Value} {t : FieldType} (hd : decode bytes pc = .ok (.areturn, 1)) (hret : ret = some t) (ht : t.isReference = true) (hv : v.isRef = true) (hk : k ≤ R.cells ∧ n ≤ R.slots) (q : Q (some v) D) : W Z EL R own nm bytes ml ret Q D k n pc ls (v :: st) :=
  W.out hk (fun z => by rw [hret] at z; cases z) q (fun X hx hby hr hl => retOut X hx (hr.trans hret) (by cases t <;> first | rfl | cases ht) (Or.inr (Or.inr (Or.inr (Or.inr ⟨rfl, ht, hv⟩)))) (hb hby hd) hl)
theorem W.return_ (hd : decode bytes pc = .ok (.return_, 1)) (hret : ret = none) (hk : k ≤ R.cells ∧ n ≤ R.slots) (q : Q none D) : W Z EL R own nm bytes ml ret Q D k n pc ls [] :=
  W.out hk (fun _ => rfl) q (fun X hx hby hr hl => X.returnOut hx (hr.trans hret) (hb hby hd) hl)
end Walk
end Jvm.Wk
namespace Jvm.Wk
open Jvm Jvm.ClassFile Sem Op Lib Bundle Jvm.Free Jvm.Stand Jvm.LawKit Jvm.RoadKit
section Calls
variable {Z : State} {EL : Bool × List (String × Nat)} {R : Room} {own nm : String} {bytes : ByteArray} {ml : Nat} {ret : Option FieldType} {Q : Option Value → List Ent → Prop} {D D' : List Ent} {k n pc : Nat} {ls ls' : Array Slot} {st : List Value} {a0 : Array Value}
variable {y : MethodName} {cb : ByteArray} {cm : Nat} {cr : Option FieldType} {rm : Room} {as : List Value} {Q' : Option Value → List Ent → Prop} {idx : Nat}
abbrev CPre (Z : State) (EL : Bool × List (String × Nat)) (R rm : Room) (D : List Ent) (vm0 : Vm) (as : List Value) : Pt → Array Value → Prop := fun A a => a = as.toArray ∧ Hp Z EL D vm0 A.U.heap ∧ A.cells + rm.cells ≤ R.cells ∧ A.slots + rm.slots ≤ R.slots
abbrev CPost (Z : State) (EL : Bool × List (String × Nat)) (rm : Room) (Q' : Option Value → List Ent → Prop) : Pt → Array Value → Option Value → Pt → Prop :=
  fun A _ v B => ∃ L D', Fr Z.heap.size L ∧ Hp Z EL D' B.U.vm B.U.heap ∧ Q' v D' ∧ B.locs = A.locs ++ L ∧ B.cells = A.cells + rm.cells ∧ B.slots = A.slots + rm.slots ∧ (EL.1 = true → A.U.WarmedH B.U.vm)
theorem conBack {p : Program} {l : Launch} {e : Env} {s : State} {args : Array Value} {below : List Frame} {vm0 : Vm} {len Wt : Nat} (hC : Con Z EL y cb cm cr rm as D Q') (hZ : Z.Warmed39 vm0) (wc : (Cond.code y cb cm cr).before a0 Z = true) (wz : (Cond.initialized y.cls).before a0 Z = true) (hE : ELok Z EL)
    (hf : rm.frames + 1 ≤ R.frames) (hl : Wt + (cm + 11) + rm.locals ≤ R.locals) : BackS l R p e below (s.setVm vm0) args y len Wt (CPre Z EL R rm D vm0 as) (CPost Z EL rm Q') := by
  obtain ⟨⟨b0, hE0⟩, hNL⟩ := id hE
  exact BackS.of_freeW (bytes := cb) (maxL := cm) (ret := cr) (E := fun _ first o t L k n => k = rm.cells ∧ n = rm.slots ∧ Fr Z.heap.size L ∧ (EL.1 = true → first.WarmedH t.vm) ∧ ∃ v, o = .returned v ∧ ∃ D', Hp Z EL D' t.vm t.heap ∧ Q' v D') (hC hE l []) hf hl
    (fun m meth c A a Y hp => have hU : Z.Warmed39 A.U.vm := wtrans (s := s.setVm vm0) hZ Y.warmed
      ⟨by show (Cond.and _ .tt).before a A.U = true; rw [Cond.before_and, mv hU wc]; rfl, mv hU wc, mv hU wz, hp.2.2.1, hp.2.2.2⟩)
    (fun m meth c A a g mk Y hp => ⟨hp.1, wtrans (s := s.setVm vm0) hZ Y.warmed, (show Hp Z EL D A.U.vm A.U.heap from hp.2.1.toVm (CHv.at Y hZ hE0 hp.2.1.2.1))⟩) (fun _ _ _ _ _ _ _ _ _ => trivial)
    (fun _ _ _ _ ⟨v, L, h1, h2, h3, h4, h5⟩ => ⟨L, _, _, h4, rfl, rfl, h2, h5, v, h1, h3⟩)
    (fun m meth c A a g mk v t L k n Y hp _ _ ⟨e1, e2, e3, e7, v', e4, D', e5, e6⟩ => by
      cases e4; subst e1 e2
      exact ⟨L, D', e3, e5, e6, rfl, rfl, rfl, e7⟩)
theorem W.afterCall {p : Program} {l : Launch} {e : Env} {s : State} {m : MethodId} {args : Array Value} {below : List Frame} {meth : Method} {c : Code} {T : State} {vm0 : Vm} {k0 : Nat} {locs : List Loc} {cells slots : Nat} {len : Nat} {rest : List Value} {aa : Array Value}
    (A : Here Z EL R own nm bytes ml ret D k n p l e s m args below meth c T vm0 k0 locs cells slots)
    (hB : ∃ (v : Option Value) (vm₁ : Vm) (B : Pt), (s.setVm vm0).WarmedH vm₁ ∧ Stand p l e R ((s.setVm vm0).setVm B.U.vm) m args below meth c B.U B.locs B.cells B.slots ∧ (s.setVm vm0).Since B.U.vm B.U.heap.size ∧ T.heap.size ≤ B.U.heap.size ∧ CPost Z EL rm Q' ⟨T.setVm vm₁, locs, cells, slots⟩ aa v B ∧
      Steps p.tables e below (T.setTop (mkF m pc ls st)) (B.U.setTop { mkF m pc ls st with pc := pc + len, stack := v.toList ++ rest }))
    (next : ∀ v D', Q' v D' → W Z EL R own nm bytes ml ret Q D' (k + rm.cells) (n + rm.slots) (pc + len) ls (v.toList ++ rest)) :
    ∃ s₂ o, Steps p.tables e below (T.setTop (mkF m pc ls st)) s₂ ∧ s₂.status = .running ∧ Ended s₂ below o ∧ Res Z EL Q R s o s₂ := by
  obtain ⟨X, hS, hk0, hx, hby, hml, hown, hZ, r1, r2, r3, hN, hH, hc, hl, hE, hNI⟩ := A
  obtain ⟨v, vm₁, ⟨U, L1, c1, n1⟩, hW1, X', hS', hg, ⟨L, D', hL, hH', hq, e1, e2, e3, e4⟩, stp⟩ := hB
  dsimp only [Pt.U, Pt.locs, Pt.cells, Pt.slots] at X' hS' hg hH' e1 e2 e3 e4 stp
  subst e1 e2 e3
  cases hb : EL.1 with
  | false =>
    obtain ⟨s₂, o, q1, r⟩ := next v D' hq p l e s m args below meth c U U.vm U.heap.size (locs ++ L) (cells + rm.cells) (slots + rm.slots)
      ⟨X', hS.trans hS' (Nat.le_trans hk0 hg), Nat.le_refl _, hx, hby, hml, (hS'.1.alike.findClass _ _).trans hown, State.Warmed39.trans (t := s.setVm vm0) hZ hS'.1, r1, r2, r3, Fr.app hN hL, hH', by omega, by omega, hE, fun q => by rw [hb] at q; cases q⟩
    exact ⟨s₂, o, stp.trans q1, r⟩
  | true =>
    have hWU : (s.setVm vm0).WarmedH U.vm := State.WarmedH.trans hW1 (e4 hb)
    have X2 : Stand p l e R (s.setVm vm0) m args below meth c U (locs ++ L) (cells + rm.cells) (slots + rm.slots) :=
      ⟨X.admits, X.cas, X.clock, X.frames, X.room, X.hears, X.method, X.code, X'.here, X'.tail, hWU, X'.limits, X'.bytes, X'.same.setVm vm0⟩
    have hn0 : EL.2 = [] := hE.2 hb
    have hH2 : Hp Z EL D' vm0 U.heap := ⟨hH'.1, by rw [hn0]; exact fun p hp => (by cases hp), fun x hx => ⟨(hH'.2.2.1 x hx).1, fun w => ⟨((hH'.2.2.1 x hx).2 w).1, (by rw [hn0]; rintro ⟨p, hp, -⟩; cases hp), ((hH'.2.2.1 x hx).2 w).2.2⟩⟩, hH'.2.2.2⟩
    obtain ⟨s₂, o, q1, r⟩ := next v D' hq p l e s m args below meth c U vm0 k0 (locs ++ L) (cells + rm.cells) (slots + rm.slots)
      ⟨X2, hS, Nat.le_trans hk0 hg, hx, hby, hml, hown, hZ, r1, r2, r3, Fr.app hN hL, hH2, by omega, by omega, hE, hNI⟩
    exact ⟨s₂, o, stp.trans q1, r⟩
abbrev Rooms (R rm : Room) (Wt cm k n : Nat) : Prop := rm.frames + 1 ≤ R.frames ∧ Wt + (cm + 11) + rm.locals ≤ R.locals ∧ k + rm.cells ≤ R.cells ∧ n + rm.slots ≤ R.slots
abbrev okCls (y : MethodName) : Prop := y.cls ≠ "java/lang/invoke/MethodHandle" ∧ y.cls ≠ "java/lang/invoke/VarHandle"
theorem W.callS {ps : List FieldType} {r : Option FieldType} (Wt : Nat) (rest : List Value) (hd : decode bytes pc = .ok (.invokestatic idx, 3)) (wl : (Cond.methodLink own idx y).before a0 Z = true) (ws : (Cond.static y).before a0 Z = true) (wz : (Cond.initialized y.cls).before a0 Z = true) (wc : (Cond.code y cb cm cr).before a0 Z = true)
    (hC : Con Z EL y cb cm cr rm as D Q') (hy : okCls y) (hps : parseMethodDescriptor y.desc = some ⟨ps, r⟩) (hlen : as.length = ps.length) (hst : as.reverse ++ rest = st) (hls : ls.size = ml) (hW : (rest.map fun v => v.category).sum = Wt) (hr : Rooms R rm Wt cm k n)
    (next : ∀ v D', Q' v D' → W Z EL R own nm bytes ml ret Q D' (k + rm.cells) (n + rm.slots) (pc + 3) ls (v.toList ++ rest)) : W Z EL R own nm bytes ml ret Q D k n pc ls st := by
  intro p l e s m args below meth c T vm0 k0 locs cells slots A
  obtain ⟨X, hS, hk0, hx, hby, hml, hown, hZ, r1, r2, r3, hN, hH, hc, hl, hE, hNI⟩ := id A
  subst hst
  exact W.afterCall A (callSS X hx hown (mvT hZ wl) (mvT hZ ws) (mvT hZ wz) (mvT hZ wc) hy (conBack (Wt := Wt) (len := 3) hC hZ wc wz hE hr.1 hr.2.1) (g := mkF m pc ls (as.reverse ++ rest)) rfl (by rw [hml]; exact hls) (lenOf hps hlen) rfl (by show 2 * 0 + _ ≤ _; omega) (hb hby hd) (fun _ _ => ⟨rfl, hH, by show cells + _ ≤ _; have := hr.2.2.1; omega, by show slots + _ ≤ _; have := hr.2.2.2; omega⟩)) next
theorem W.callI {ps : List FieldType} {r : Option FieldType} {a : Addr} (Wt : Nat) (rest : List Value) (hd : decode bytes pc = .ok (.invokespecial idx, 3)) (hy1 : y.name = "<init>") (wl : (Cond.methodLink own idx y).before a0 Z = true) (wi : (Cond.instanceMethod y).before a0 Z = true) (wz : (Cond.initialized y.cls).before a0 Z = true) (wc : (Cond.code y cb cm none).before a0 Z = true)
    (hC : Con Z EL y cb cm none rm (.ref a :: as) D Q') (hy : okCls y) (hps : parseMethodDescriptor y.desc = some ⟨ps, r⟩) (hlen : as.length = ps.length) (hst : as.reverse ++ .ref a :: rest = st) (hls : ls.size = ml) (hW : (rest.map fun v => v.category).sum = Wt) (hr : Rooms R rm Wt cm k n)
    (next : ∀ v D', Q' v D' → W Z EL R own nm bytes ml ret Q D' (k + rm.cells) (n + rm.slots) (pc + 3) ls (v.toList ++ rest)) : W Z EL R own nm bytes ml ret Q D k n pc ls st := by
  intro p l e s m args below meth c T vm0 k0 locs cells slots A
  obtain ⟨X, hS, hk0, hx, hby, hml, hown, hZ, r1, r2, r3, hN, hH, hc, hl, hE, hNI⟩ := id A
  subst hst
  exact W.afterCall A (X.specialBackS hx hy1 hown (mvT hZ wl) (mvT hZ wi) (mvT hZ wc) hy (conBack (Wt := Wt) (len := 3) hC hZ wc wz hE hr.1 hr.2.1) (g := mkF m pc ls (as.reverse ++ .ref a :: rest)) rfl (by rw [hml]; exact hls) (Steps.refl _) (lenOf hps hlen) rfl (by show 2 * 0 + _ ≤ _; omega) (hb hby hd) (fun _ _ => ⟨rfl, hH, by show cells + _ ≤ _; have := hr.2.2.1; omega, by show slots + _ ≤ _; have := hr.2.2.2; omega⟩)) next
theorem W.callV {z : MethodName} {ps : List FieldType} {r : Option FieldType} {a : Addr} {C C' : String} (Wt : Nat) (rest : List Value) (hd : decode bytes pc = .ok (.invokevirtual idx, 3)) (wl : (Cond.methodLink own idx y).before a0 Z = true) (wdl : (Cond.declares y).before a0 Z = true) (wsy : (Cond.selects C' y y).before a0 Z = true) (wse : (Cond.selects C y z).before a0 Z = true) (wi : (Cond.instanceMethod z).before a0 Z = true) (wz : (Cond.initialized z.cls).before a0 Z = true) (wc : (Cond.code z cb cm cr).before a0 Z = true)
    (hI : ∀ vm h, Hp Z EL D vm h → Exa Z h a C) (hC : Con Z EL z cb cm cr rm (.ref a :: as) D Q') (hy : okCls y) (hps : parseMethodDescriptor y.desc = some ⟨ps, r⟩) (hlen : as.length = ps.length) (hst : as.reverse ++ .ref a :: rest = st) (hls : ls.size = ml) (hW : (rest.map fun v => v.category).sum = Wt) (hr : Rooms R rm Wt cm k n)
    (next : ∀ v D', Q' v D' → W Z EL R own nm bytes ml ret Q D' (k + rm.cells) (n + rm.slots) (pc + 3) ls (v.toList ++ rest)) : W Z EL R own nm bytes ml ret Q D k n pc ls st := by
  intro p l e s m args below meth c T vm0 k0 locs cells slots A
  obtain ⟨X, hS, hk0, hx, hby, hml, hown, hZ, r1, r2, r3, hN, hH, hc, hl, hE, hNI⟩ := id A
  subst hst
  obtain ⟨cq, kq, qa, qb, qc⟩ := isOf (s := s.setVm vm0) hZ rfl (hI _ _ hH)
  exact W.afterCall A (X.virtualBackS hx hown (mvT hZ wl) (mvT hZ wdl) (notFace_of_selects (args := #[]) (mvT hZ wsy)) (mvT hZ wse) (mvT hZ wi) hy (conBack (Wt := Wt) (len := 3) hC hZ wc wz hE hr.1 hr.2.1) qa qc (g := mkF m pc ls (as.reverse ++ .ref a :: rest)) rfl (by rw [hml]; exact hls) (Steps.refl _) (lenOf hps hlen) rfl (by show 2 * 0 + _ ≤ _; omega) (hb hby hd) (fun _ _ => ⟨rfl, hH, by show cells + _ ≤ _; have := hr.2.2.1; omega, by show slots + _ ≤ _; have := hr.2.2.2; omega⟩)) next
end Calls
end Jvm.Wk
namespace Jvm.Wk
open Jvm Jvm.ClassFile Sem Op Lib Bundle Jvm.Free Jvm.Stand Jvm.LawKit Jvm.RoadKit
abbrev vi (x : Int32) : Value := .int x
abbrev vr (a : Addr) : Value := .ref a
abbrev uu : Slot := .unset
abbrev ar (ad : String) (ty : FieldType) (vs : List Value) : Desc := .inr (ad, ty, vs)
theorem m0 {α : Type} {x : α} {l : List α} : x ∈ x :: l := List.mem_cons_self ..
theorem mS {α : Type} {x y : α} {l : List α} (h : x ∈ l) : x ∈ y :: l := List.mem_cons_of_mem _ h
theorem m1 {α : Type} {x y1 : α} {l : List α} : x ∈ y1 :: x :: l := mS m0
theorem m2 {α : Type} {x y1 y2 : α} {l : List α} : x ∈ y1 :: y2 :: x :: l := mS m1
theorem m3 {α : Type} {x y1 y2 y3 : α} {l : List α} : x ∈ y1 :: y2 :: y3 :: x :: l := mS m2
theorem m4 {α : Type} {x y1 y2 y3 y4 : α} {l : List α} : x ∈ y1 :: y2 :: y3 :: y4 :: x :: l := mS m3
theorem i_lt {x y : Int32} (h : x < y) : x.toInt < y.toInt := Int32.lt_iff_toInt_lt.mp h
theorem i_eq {x y : Int32} (h : x = y) : x.toInt = y.toInt := by rw [h]
theorem i_ne {x y : Int32} (h : ¬ x = y) : x.toInt ≠ y.toInt := fun e => h (Int32.toInt_inj.mp e)
theorem eqI {x y : Int32} (h : x.toInt = y.toInt) : x = y := Int32.toInt_inj.mp h
section C
variable {x y : Int32}
theorem y_eq (h : x.toInt = y.toInt) : Cd .eq x y := eqI h
theorem n_eq (h : x.toInt ≠ y.toInt) : ¬ Cd .eq x y := fun e => h (i_eq e)
theorem y_ne (h : x.toInt ≠ y.toInt) : Cd .ne x y := fun e => h (i_eq e)
theorem n_ne (h : x.toInt = y.toInt) : ¬ Cd .ne x y := fun e => e (eqI h)
theorem y_lt (h : x.toInt < y.toInt) : Cd .lt x y := Int32.lt_iff_toInt_lt.mpr h
theorem n_lt (h : y.toInt ≤ x.toInt) : ¬ Cd .lt x y := fun e => by have := i_lt e; omega
theorem y_ge (h : y.toInt ≤ x.toInt) : Cd .ge x y := fun e => by have := i_lt e; omega
theorem n_ge (h : x.toInt < y.toInt) : ¬ Cd .ge x y := fun e => e (Int32.lt_iff_toInt_lt.mpr h)
theorem y_le (h : x.toInt ≤ y.toInt) : Cd .le x y := fun e => by have := i_lt e; omega
theorem t_eq (h : Cd .eq x y) : x.toInt = y.toInt := i_eq h
theorem f_eq (h : ¬ Cd .eq x y) : x.toInt ≠ y.toInt := i_ne h
theorem t_ne (h : Cd .ne x y) : x.toInt ≠ y.toInt := i_ne h
theorem f_ne (h : ¬ Cd .ne x y) : x.toInt = y.toInt := i_eq (Classical.not_not.mp h)
end C
theorem a_and (x m : Int32) (k : Nat) (M : Int) (hk : k ≤ 31) (hm : m.toBitVec.toNat = 2 ^ k - 1) (hM : ((2 ^ k : Nat) : Int) = M) : (x &&& m).toInt = x.toInt % M := by rw [← hM]; exact c_mask x m k hk hm
theorem a_ushr (x q : Int32) (k : Nat) (M : Int) (hk : q.toBitVec.toNat % 32 = k) (h0 : 0 < k) (hM : ((2 ^ k : Nat) : Int) = M) : (XT.ushr x q).toInt = (x.toInt % 4294967296) / M := by rw [← hM]; exact c_iushr x q k hk h0
theorem a_rem (x y : Int32) (d : Int) (hy : y.toInt = d) (hd : 0 < d) : (0 ≤ x.toInt → (x % y).toInt = x.toInt % d) ∧ (x.toInt < 0 → (x % y).toInt = -((-x.toInt) % d)) := c_irem x y d hy
theorem a_i2c (x : Int32) : (x.toUInt32.toUInt16.toUInt32.toInt32.toInt - x.toInt) % 65536 = 0 ∧ 0 ≤ x.toUInt32.toUInt16.toUInt32.toInt32.toInt ∧ x.toUInt32.toUInt16.toUInt32.toInt32.toInt < 65536 := c_i2c x
theorem a_i2b (x : Int32) : (x.toInt8.toInt32.toInt - x.toInt) % 256 = 0 ∧ -128 ≤ x.toInt8.toInt32.toInt ∧ x.toInt8.toInt32.toInt < 128 := c_i2b x
theorem a_xor (x y : Int32) (k : Nat) (M : Int) (hk : k ≤ 31) (hM : ((2 ^ k : Nat) : Int) = M) (h1 : 0 ≤ x.toInt ∧ x.toInt < M) (h2 : 0 ≤ y.toInt ∧ y.toInt < M) : 0 ≤ (x ^^^ y).toInt ∧ (x ^^^ y).toInt < M := by
  have key : ∀ z : Int32, 0 ≤ z.toInt → z.toInt = (z.toBitVec.toNat : Int) := fun z hz => by
    have : z.toInt = z.toBitVec.toInt := rfl
    rw [this] at hz ⊢
    rw [BitVec.toInt_eq_toNat_cond] at hz ⊢
    split at hz
    · rename_i q; rw [if_pos q]
    · have := z.toBitVec.isLt; omega
  have hx := key x h1.1
  have hy := key y h2.1
  have hkk : (2 : Nat) ^ k ≤ 2 ^ 31 := Nat.pow_le_pow_right (by decide) hk
  have e1 : x.toBitVec.toNat < 2 ^ k := by have := h1.2; rw [hx, ← hM] at this; omega
  have e2 : y.toBitVec.toNat < 2 ^ k := by have := h2.2; rw [hy, ← hM] at this; omega
  have e3 : (x ^^^ y).toBitVec.toNat < 2 ^ k := by
    have : (x ^^^ y).toBitVec = x.toBitVec ^^^ y.toBitVec := rfl
    rw [this, BitVec.toNat_xor]; exact Nat.xor_lt_two_pow e1 e2
  have e4 : (x ^^^ y).toInt = ((x ^^^ y).toBitVec.toNat : Int) := by
    have : (x ^^^ y).toInt = (x ^^^ y).toBitVec.toInt := rfl
    rw [this, BitVec.toInt_eq_toNat_cond, if_pos (by omega)]
  rw [e4, ← hM]; omega
theorem z_i2c {x : Int32} (h : 0 ≤ x.toInt ∧ x.toInt ≤ 65535) : x.toUInt32.toUInt16.toUInt32.toInt32 = x := eqI (by have := a_i2c x; omega)
theorem z_i2b {x : Int32} (h : -128 ≤ x.toInt ∧ x.toInt ≤ 127) : x.toInt8.toInt32 = x := eqI (by have := a_i2b x; omega)
theorem z_narC {x : Int32} (h : 0 ≤ x.toInt ∧ x.toInt ≤ 65535) : nar .char x = x := z_i2c h
theorem z_narB {x : Int32} (h : -128 ≤ x.toInt ∧ x.toInt ≤ 127) : nar .byte x = x := z_i2b h
theorem nw_byte {x : Int32} (h : -128 ≤ x.toInt ∧ x.toInt ≤ 127) : narrow .byte (.int x) = .int x := by have e := z_i2b h; have := XT.narrow_b x; rw [e] at this; exact this
theorem nw_bool {x : Int32} (h : 0 ≤ x.toInt ∧ x.toInt ≤ 1) : narrow .boolean (.int x) = .int x := by
  have : x = 0 ∨ x = 1 := by
    rcases (by omega : x.toInt = 0 ∨ x.toInt = 1) with q | q
    · exact Or.inl (eqI q)
    · exact Or.inr (eqI q)
  rcases this with rfl | rfl <;> rfl
theorem ft_byte {x : Int32} (h : -128 ≤ x.toInt ∧ x.toInt ≤ 127) : fits .byte (.int x) = true := by have := fits_nar_byte x; rw [z_i2b h] at this; exact this
end Jvm.Wk
namespace Jvm.Wk
open Jvm Jvm.ClassFile Sem Op Lib Bundle Jvm.Free Jvm.Stand Jvm.LawKit Jvm.RoadKit
section Walk
variable {Z : State} {EL : Bool × List (String × Nat)} {R : Room} {own nm : String} {bytes : ByteArray} {ml : Nat} {ret : Option FieldType} {Q : Option Value → List Ent → Prop} {D D' : List Ent} {k n pc : Nat} {ls ls' : Array Slot} {st : List Value} {a0 : Array Value}
theorem W.dropAt (i : Nat) (hD : D.eraseIdx i = D') (next : W Z EL R own nm bytes ml ret Q D' k n pc ls st) : W Z EL R own nm bytes ml ret Q D k n pc ls st := W.heap (fun _ _ H => hD ▸ H.sub (List.eraseIdx_sublist ..)) next
theorem Hp.ne {i j : Nat} {x y : Ent} {vm : Vm} {h : Heap} (H : Hp Z EL D vm h) (hij : i ≠ j) (hi : D[i]? = some x) (hj : D[j]? = some y) (w : x.2.1 = true ∨ y.2.1 = true) : x.1 ≠ y.1 := by
  have P := H.2.2.2
  obtain ⟨i1, rfl⟩ := List.getElem?_eq_some_iff.mp hi
  obtain ⟨j1, rfl⟩ := List.getElem?_eq_some_iff.mp hj
  rw [List.pairwise_iff_getElem] at P
  rcases Nat.lt_or_gt_of_ne hij with q | q
  · exact P i j i1 j1 q w
  · exact (P j i j1 i1 q w.symm).symm
theorem wS_of (h1 : (Cond.initialized "java/lang/String").before a0 Z = true) (h2 : (Cond.instantiable "java/lang/String" 4).before a0 Z = true) (h3 : (Cond.arrayClass .byte).before a0 Z = true) (h4 : (Cond.laysFinal "java/lang/String" "java/lang/String" "value" "[B").before a0 Z = true) (h5 : (Cond.laysFinal "java/lang/String" "java/lang/String" "coder" "B").before a0 Z = true) (h6 : (Cond.soleField "java/lang/String" "value").before a0 Z = true) (h7 : (Cond.soleField "java/lang/String" "coder").before a0 Z = true) :
    ∀ a ∈ Bundle.stringAtoms, a.before a0 Z = true := fun a ha => by
  simp only [Bundle.stringAtoms, Bundle.sN, List.mem_cons, List.not_mem_nil, or_false] at ha
  rcases ha with rfl | rfl | rfl | rfl | rfl | rfl | rfl <;> assumption
theorem W.isubK {x y : Int32} (z : Int32) (hd : decode bytes pc = .ok (.isub, 1)) (hz : x - y = z) (next : W Z EL R own nm bytes ml ret Q D k n (pc + 1) ls (.int z :: st)) : W Z EL R own nm bytes ml ret Q D k n pc ls (.int y :: .int x :: st) := W.isub hd (hz ▸ next)
theorem W.ixorK {x y : Int32} (z : Int32) (hd : decode bytes pc = .ok (.ixor, 1)) (hz : x ^^^ y = z) (next : W Z EL R own nm bytes ml ret Q D k n (pc + 1) ls (.int z :: st)) : W Z EL R own nm bytes ml ret Q D k n pc ls (.int y :: .int x :: st) := W.ixor hd (hz ▸ next)
theorem W.iushrK {x y : Int32} (z : Int32) (hd : decode bytes pc = .ok (.iushr, 1)) (hz : XT.ushr x y = z) (next : W Z EL R own nm bytes ml ret Q D k n (pc + 1) ls (.int z :: st)) : W Z EL R own nm bytes ml ret Q D k n pc ls (.int y :: .int x :: st) := W.iushr hd (hz ▸ next)
theorem W.i2bK {x : Int32} (z : Int32) (hd : decode bytes pc = .ok (.i2b, 1)) (hz : x.toInt8.toInt32 = z) (next : W Z EL R own nm bytes ml ret Q D k n (pc + 1) ls (.int z :: st)) : W Z EL R own nm bytes ml ret Q D k n pc ls (.int x :: st) := W.i2b hd (hz ▸ next)
theorem W.i2cK {x : Int32} (z : Int32) (hd : decode bytes pc = .ok (.i2c, 1)) (hz : x.toUInt32.toUInt16.toUInt32.toInt32 = z) (next : W Z EL R own nm bytes ml ret Q D k n (pc + 1) ls (.int z :: st)) : W Z EL R own nm bytes ml ret Q D k n pc ls (.int x :: st) := W.i2c hd (hz ▸ next)
theorem W.iincK {i : Nat} {cst : Int} {x : Int32} (v r : Int32) (hd : decode bytes pc = .ok (.iinc i cst, 3)) (hv : Int32.ofInt cst = v) (hl : ls[i]? = some (.val (.int x))) (hr : x + v = r) (hl' : storeLocals ls i (.int r) = some ls') (next : W Z EL R own nm bytes ml ret Q D k n (pc + 3) ls' st) : W Z EL R own nm bytes ml ret Q D k n pc ls st :=
  W.iinc v hd hv hl (hr ▸ hl') next
end Walk
theorem z_xor0 (x : Int32) : x ^^^ 0 = x := by simp
section L
variable {x y : Int64}
end L
def si (Z : State) (C n d : String) : Int32 := match (Term.static C n d).eval #[] Z none [] Z with | some (.int x) => x | _ => 0
def sa (Z : State) (C n d : String) : Addr := match (Term.static C n d).eval #[] Z none [] Z with | some (.ref a) => a | _ => 0
theorem eval_static {Z : State} {a b : Array Value} {C n d : String} : (Term.static C n d).eval a Z none [] Z = (Term.static C n d).eval b Z none [] Z := rfl
theorem si_of {Z : State} {C n d : String} {x : Int32} {a : Array Value} (h : (Term.static C n d).eval a Z none [] Z = some (.int x)) : si Z C n d = x := by
  unfold si; rw [eval_static (b := a), h]
theorem sa_of {Z : State} {C n d : String} {x : Addr} {a : Array Value} (h : (Term.static C n d).eval a Z none [] Z = some (.ref x)) : sa Z C n d = x := by
  unfold sa; rw [eval_static (b := a), h]
end Jvm.Wk
namespace Jvm.Wk
open Jvm Jvm.ClassFile Sem Op Lib Bundle Jvm.Free Jvm.Stand Jvm.LawKit Jvm.RoadKit
section Natives
variable {Z : State} {EL : Bool × List (String × Nat)} {R : Room} {own nm : String} {bytes : ByteArray} {ml : Nat} {ret : Option FieldType} {Q : Option Value → List Ent → Prop} {D D' : List Ent} {k n pc : Nat} {ls ls' : Array Slot} {st : List Value} {a0 : Array Value} {idx : Nat}
end Natives
end Jvm.Wk
namespace Jvm.Wk
open Jvm Jvm.ClassFile Sem Op Lib Bundle Jvm.Free Jvm.Stand Jvm.LawKit Jvm.RoadKit
section Start
variable {s : State} {args : Array Value} {C n d C' n' d' K : String}
theorem sf_int (hi : (Cond.initializedFor C n d).before args s = true) (h : (Cond.isInt (.static C n d)).before args s = true) : Sta s s.heap C n d (.int (si s C n d)) := by
  obtain ⟨x, e⟩ := is_v (Cond.before_iff.mp h)
  rw [si_of e]; exact Sta.start e (Or.inl hi)
theorem sf_nz (h : (Cond.isInt (.static C n d)).before args s = true) (hz : (Cond.not (.eq (.static C n d) (.int 0))).before args s = true) : (si s C n d).toInt ≠ 0 := by
  obtain ⟨x, e⟩ := is_v (Cond.before_iff.mp h)
  rw [si_of e]
  intro q
  have : x = 0 := eqI q
  subst this
  have h2 := not_v (Cond.before_iff.mp hz)
  rw [eq_i e (Term.int_eval 0) rfl] at h2
  cases h2
theorem sf_enum (hz : (Cond.initialized C).before args s = true) (hl : (Cond.laysStatic C n d).before args s = true) (h : (Cond.exactly (.static C n d) K).value args s none s [] = some true) : Sta s s.heap C n d (.ref (sa s C n d)) := by
  obtain ⟨x, e⟩ := exa_v h
  rw [sa_of e]; exact Sta.start e (Or.inr ⟨hz, hl⟩)
theorem sf_ne {O f t : String} {i j : Int32} (h1 : (Cond.eq (.field (.static C n d) O f t) (.int i)).value args s none s [] = some true) (h2 : (Cond.eq (.field (.static C' n' d') O f t) (.int j)).value args s none s [] = some true) (hij : i ≠ j) : sa s C n d ≠ sa s C' n' d' := by
  obtain ⟨x, y, e1, e2, -, -⟩ := cmp_v (Or.inl h1)
  obtain ⟨x', y', e1', e2', -, -⟩ := cmp_v (Or.inl h2)
  obtain ⟨a, ea⟩ := fld_v e1
  obtain ⟨b, eb⟩ := fld_v e1'
  rw [sa_of ea, sa_of eb]
  intro q
  subst q
  have g1 := (fld_at (C := O) (n := f) (dd := t) ea).symm.trans e1
  have g2 := (fld_at (C := O) (n := f) (dd := t) eb).symm.trans e1'
  have k1 : x = x' := Option.some.inj (g1.symm.trans g2)
  subst k1
  have c1 : y = .int i := Option.some.inj (e2.symm.trans (Term.int_eval i))
  have c2 : y' = .int j := Option.some.inj (e2'.symm.trans (Term.int_eval j))
  subst c1 c2
  have m1 : x = .int i := by
    cases x <;> simp [Cond.value, e1, e2] at h1
    rw [h1]
  have m2 : x = .int j := by
    cases x <;> simp [Cond.value, e1', e2'] at h2
    rw [h2]
  exact hij (by injection m1.symm.trans m2)
end Start
theorem CHv.nil {Z : State} {vm : Vm} {h : Heap} : CHv Z [] vm h := fun p hp => by cases hp
theorem Hp.start {Z : State} {EL : Bool × List (String × Nat)} (H : CHv Z EL.2 Z.vm Z.heap) : Hp Z EL [] Z.vm Z.heap := ⟨⟨Nat.le_refl _, fun _ _ q => q⟩, H, fun x hx => (by cases hx), List.Pairwise.nil⟩
end Jvm.Wk
namespace Jvm.Wk
open Jvm Jvm.ClassFile Sem Op Lib Bundle Jvm.Free Jvm.Stand Jvm.LawKit Jvm.RoadKit
theorem Con.mono {Z : State} {EL : Bool × List (String × Nat)} {y : MethodName} {bytes : ByteArray} {maxL : Nat} {ret : Option FieldType} {rm : Room} {as : List Value} {D : List Ent} {Q Q' : Option Value → List Ent → Prop} (h : Con Z EL y bytes maxL ret rm as D Q) (q : ∀ v D', Q v D' → Q' v D') : Con Z EL y bytes maxL ret rm as D Q' := by
  intro hE l ws
  refine MetFree.mono (h hE l ws) (fun _ _ p => p) (fun _ _ _ _ _ p => p) ?_
  intro a s o t _ r
  obtain ⟨v, L, h1, h2, ⟨D', h3, h4⟩, h5⟩ := r
  exact ⟨v, L, h1, h2, ⟨D', h3, q v D' h4⟩, h5⟩
end Jvm.Wk
namespace Jvm.Wk
open Jvm Jvm.ClassFile Sem Op Lib Bundle Jvm.Free Jvm.Stand Jvm.LawKit Jvm.RoadKit
end Jvm.Wk
namespace Jvm.Wk
open Jvm Jvm.ClassFile Sem Op Lib Bundle Jvm.Free Jvm.Stand Jvm.LawKit Jvm.RoadKit
section Old
variable {s : State} {args : Array Value} {t : Term} {O f d K : String} {EL : Bool × List (String × Nat)} {D : List Ent} {a : Addr} {de : Desc}
end Old
end Jvm.Wk
namespace Jvm.Wk
end Jvm.Wk
namespace Jvm.Wk
open Jvm Jvm.ClassFile Sem Op Lib Bundle Jvm.Free Jvm.Stand Jvm.LawKit Jvm.RoadKit
end Jvm.Wk
namespace Jvm.Wk
open Jvm Jvm.ClassFile Sem Op Lib Bundle Jvm.Free Jvm.Stand Jvm.LawKit Jvm.RoadKit
end Jvm.Wk
namespace Jvm.Wk
open Jvm Jvm.ClassFile Sem Op Lib Bundle Jvm.Free Jvm.Stand Jvm.LawKit Jvm.RoadKit
end Jvm.Wk

namespace Jvm.Pilot.@@N@@
open Jvm Jvm.ClassFile Sem Op Lib Jvm.Free Jvm.Stand Jvm.LawKit Jvm.RoadKit Bundle Jvm.Wk Jvm.Pilot.@@N@@.Jvm.D
abbrev EL : Bool × List (String × Nat) := (false, consts_1)
def csv (Z : State) : Int32 := si Z "java/lang/String" "COMPACT_STRINGS" "Z"
def kWORD (Z : State) : Addr := sa Z "com/example/rochester/rochester/JdqlLexer$Kind" "WORD" "Lcom/example/rochester/rochester/JdqlLexer$Kind;"
def kSTRING (Z : State) : Addr := sa Z "com/example/rochester/rochester/JdqlLexer$Kind" "STRING" "Lcom/example/rochester/rochester/JdqlLexer$Kind;"
def kINTEGER (Z : State) : Addr := sa Z "com/example/rochester/rochester/JdqlLexer$Kind" "INTEGER" "Lcom/example/rochester/rochester/JdqlLexer$Kind;"
def kDECIMAL (Z : State) : Addr := sa Z "com/example/rochester/rochester/JdqlLexer$Kind" "DECIMAL" "Lcom/example/rochester/rochester/JdqlLexer$Kind;"
def kPARAMETER (Z : State) : Addr := sa Z "com/example/rochester/rochester/JdqlLexer$Kind" "PARAMETER" "Lcom/example/rochester/rochester/JdqlLexer$Kind;"
def kSYMBOL (Z : State) : Addr := sa Z "com/example/rochester/rochester/JdqlLexer$Kind" "SYMBOL" "Lcom/example/rochester/rochester/JdqlLexer$Kind;"
def kEND (Z : State) : Addr := sa Z "com/example/rochester/rochester/JdqlLexer$Kind" "END" "Lcom/example/rochester/rochester/JdqlLexer$Kind;"
def SF (Z : State) : Prop := Sta Z Z.heap "java/lang/String" "COMPACT_STRINGS" "Z" (.int (csv Z)) ∧ (csv Z).toInt ≠ 0 ∧ Sta Z Z.heap "com/example/rochester/rochester/JdqlLexer$Kind" "WORD" "Lcom/example/rochester/rochester/JdqlLexer$Kind;" (.ref (kWORD Z)) ∧ Sta Z Z.heap "com/example/rochester/rochester/JdqlLexer$Kind" "STRING" "Lcom/example/rochester/rochester/JdqlLexer$Kind;" (.ref (kSTRING Z)) ∧ Sta Z Z.heap "com/example/rochester/rochester/JdqlLexer$Kind" "INTEGER" "Lcom/example/rochester/rochester/JdqlLexer$Kind;" (.ref (kINTEGER Z)) ∧ Sta Z Z.heap "com/example/rochester/rochester/JdqlLexer$Kind" "DECIMAL" "Lcom/example/rochester/rochester/JdqlLexer$Kind;" (.ref (kDECIMAL Z)) ∧ Sta Z Z.heap "com/example/rochester/rochester/JdqlLexer$Kind" "PARAMETER" "Lcom/example/rochester/rochester/JdqlLexer$Kind;" (.ref (kPARAMETER Z)) ∧ Sta Z Z.heap "com/example/rochester/rochester/JdqlLexer$Kind" "SYMBOL" "Lcom/example/rochester/rochester/JdqlLexer$Kind;" (.ref (kSYMBOL Z)) ∧ Sta Z Z.heap "com/example/rochester/rochester/JdqlLexer$Kind" "END" "Lcom/example/rochester/rochester/JdqlLexer$Kind;" (.ref (kEND Z)) ∧ (kEND Z) ≠ (kSYMBOL Z) ∧ (kPARAMETER Z) ≠ (kSYMBOL Z) ∧ (kDECIMAL Z) ≠ (kSYMBOL Z) ∧ (kINTEGER Z) ≠ (kSYMBOL Z) ∧ (kSTRING Z) ≠ (kSYMBOL Z) ∧ (kWORD Z) ≠ (kSYMBOL Z) ∧ True
set_option maxRecDepth 65536
abbrev HW (a0 : Array Value) (Z : State) : Prop := ∀ d ∈ tables_1, d.before a0 Z = true
abbrev rmm (a b c d : Nat) : Room := { frames := a, cells := b, slots := c, locals := d }
theorem w0 {Z a0} (hw : HW a0 Z) : ((Jvm.Cond.constant "com/example/rochester/rochester/TokenIsSymbolPinLaw" (36 : Nat) (2147483647 : Int32)) : Jvm.Cond).before a0 Z = true := hw _ (List.mem_of_getElem? (i := 0) rfl)
theorem q255 : (255 : Int32).toInt = 255 := by decide
theorem am_255 (x : Int32) : (x &&& (255 : Int32)).toInt = x.toInt % 256 := a_and x 255 8 256 (by decide) (by decide) (by decide)
theorem q8 : (8 : Int32).toInt = 8 := by decide
theorem aushr_8 (x : Int32) : (XT.ushr x (8 : Int32)).toInt = (x.toInt % 4294967296) / 256 := a_ushr x 8 8 256 (by decide) (by decide) (by decide)
theorem q16 : (16 : Int32).toInt = 16 := by decide
theorem aushr_16 (x : Int32) : (XT.ushr x (16 : Int32)).toInt = (x.toInt % 4294967296) / 65536 := a_ushr x 16 16 65536 (by decide) (by decide) (by decide)
theorem q0 : (0 : Int32).toInt = 0 := by decide
theorem q5 : (5 : Int32).toInt = 5 := by decide
theorem aushr_5 (x : Int32) : (XT.ushr x (5 : Int32)).toInt = (x.toInt % 4294967296) / 32 := a_ushr x 5 5 32 (by decide) (by decide) (by decide)
theorem q1 : (1 : Int32).toInt = 1 := by decide
theorem am_1 (x : Int32) : (x &&& (1 : Int32)).toInt = x.toInt % 2 := a_and x 1 1 2 (by decide) (by decide) (by decide)
theorem q6 : (6 : Int32).toInt = 6 := by decide
theorem aushr_6 (x : Int32) : (XT.ushr x (6 : Int32)).toInt = (x.toInt % 4294967296) / 64 := a_ushr x 6 6 64 (by decide) (by decide) (by decide)
theorem q7 : (7 : Int32).toInt = 7 := by decide
theorem aushr_7 (x : Int32) : (XT.ushr x (7 : Int32)).toInt = (x.toInt % 4294967296) / 128 := a_ushr x 7 7 128 (by decide) (by decide) (by decide)
theorem d1_0 : decode method_3_code 0 = .ok (.iload_n 0, 1) := by decide +kernel
theorem d1_1 : decode method_3_code 1 = .ok (.ifCond .ne 14, 3) := by decide +kernel
theorem d1_15 : decode method_3_code 15 = .ok (.iload_n 0, 1) := by decide +kernel
theorem d1_16 : decode method_3_code 16 = .ok (.iconst 1, 1) := by decide +kernel
theorem d1_17 : decode method_3_code 17 = .ok (.if_icmp .ne 23, 3) := by decide +kernel
theorem d1_40 : decode method_3_code 40 = .ok (.iload_n 0, 1) := by decide +kernel
theorem d1_41 : decode method_3_code 41 = .ok (.iconst 2, 1) := by decide +kernel
theorem d1_42 : decode method_3_code 42 = .ok (.if_icmp .ne 28, 3) := by decide +kernel
theorem d1_70 : decode method_3_code 70 = .ok (.iconst 3, 1) := by decide +kernel
theorem d1_71 : decode method_3_code 71 = .ok (.newarray .char, 2) := by decide +kernel
theorem w5 {Z a0} (hw : HW a0 Z) : ((Jvm.Cond.arrayClass Jvm.ClassFile.FieldType.char) : Jvm.Cond).before a0 Z = true := hw _ (List.mem_of_getElem? (i := 5) rfl)
theorem ix3 : Idx (3 : Int32) 3 := by unfold Idx; decide
theorem d1_73 : decode method_3_code 73 = .ok (.astore 4, 2) := by decide +kernel
theorem d1_75 : decode method_3_code 75 = .ok (.aload 4, 2) := by decide +kernel
theorem d1_77 : decode method_3_code 77 = .ok (.iconst 0, 1) := by decide +kernel
theorem d1_78 : decode method_3_code 78 = .ok (.iload_n 1, 1) := by decide +kernel
theorem d1_79 : decode method_3_code 79 = .ok (.castore, 1) := by decide +kernel
theorem q2 : (2 : Int32).toInt = 2 := by decide
theorem ix0 : Idx (0 : Int32) 0 := by unfold Idx; decide
theorem d1_80 : decode method_3_code 80 = .ok (.aload 4, 2) := by decide +kernel
theorem d1_82 : decode method_3_code 82 = .ok (.iconst 1, 1) := by decide +kernel
theorem d1_83 : decode method_3_code 83 = .ok (.iload_n 2, 1) := by decide +kernel
theorem d1_84 : decode method_3_code 84 = .ok (.castore, 1) := by decide +kernel
theorem ix1 : Idx (1 : Int32) 1 := by unfold Idx; decide
theorem d1_85 : decode method_3_code 85 = .ok (.aload 4, 2) := by decide +kernel
theorem d1_87 : decode method_3_code 87 = .ok (.iconst 2, 1) := by decide +kernel
theorem d1_88 : decode method_3_code 88 = .ok (.iload_n 3, 1) := by decide +kernel
theorem d1_89 : decode method_3_code 89 = .ok (.castore, 1) := by decide +kernel
theorem ix2 : Idx (2 : Int32) 2 := by unfold Idx; decide
theorem d1_90 : decode method_3_code 90 = .ok (.new 31, 3) := by decide +kernel
theorem w34 {Z a0} (hw : HW a0 Z) : ((Jvm.Cond.laysFinal "java/lang/String" "java/lang/String" "value" "[B") : Jvm.Cond).before a0 Z = true := hw _ (List.mem_of_getElem? (i := 34) rfl)
theorem w32 {Z a0} (hw : HW a0 Z) : ((Jvm.Cond.laysFinal "java/lang/String" "java/lang/String" "coder" "B") : Jvm.Cond).before a0 Z = true := hw _ (List.mem_of_getElem? (i := 32) rfl)
theorem laString {Z a0} (hw : HW a0 Z) : LaidAll Z a0 "java/lang/String" [("java/lang/String", "value", "[B", .null), ("java/lang/String", "coder", "B", (vi 0))] := ⟨⟨Or.inr (w34 hw), (.array .byte), by decide, rfl⟩, ⟨⟨Or.inr (w32 hw), .byte, by decide, rfl⟩, trivial⟩⟩
theorem w6 {Z a0} (hw : HW a0 Z) : ((Jvm.Cond.classLink "com/example/rochester/rochester/TokenIsSymbolPinLaw" (31 : Nat) "java/lang/String") : Jvm.Cond).before a0 Z = true := hw _ (List.mem_of_getElem? (i := 6) rfl)
theorem w7 {Z a0} (hw : HW a0 Z) : ((Jvm.Cond.instantiable "java/lang/String" (4 : Nat)) : Jvm.Cond).before a0 Z = true := hw _ (List.mem_of_getElem? (i := 7) rfl)
theorem w8 {Z a0} (hw : HW a0 Z) : ((Jvm.Cond.initialized "java/lang/String") : Jvm.Cond).before a0 Z = true := hw _ (List.mem_of_getElem? (i := 8) rfl)
theorem d1_93 : decode method_3_code 93 = .ok (.dup, 1) := by decide +kernel
theorem d1_94 : decode method_3_code 94 = .ok (.aload 4, 2) := by decide +kernel
theorem d1_96 : decode method_3_code 96 = .ok (.invokespecial 33, 3) := by decide +kernel
theorem d2_0 : decode jdk_42_method_3_code 0 = .ok (.aload_n 0, 1) := by decide +kernel
theorem d2_1 : decode jdk_42_method_3_code 1 = .ok (.aload_n 1, 1) := by decide +kernel
theorem d2_2 : decode jdk_42_method_3_code 2 = .ok (.iconst 0, 1) := by decide +kernel
theorem d2_3 : decode jdk_42_method_3_code 3 = .ok (.aload_n 1, 1) := by decide +kernel
theorem d2_4 : decode jdk_42_method_3_code 4 = .ok (.arraylength, 1) := by decide +kernel
theorem d2_5 : decode jdk_42_method_3_code 5 = .ok (.aconst_null, 1) := by decide +kernel
theorem d2_6 : decode jdk_42_method_3_code 6 = .ok (.invokespecial 27, 3) := by decide +kernel
theorem d3_0 : decode jdk_42_method_149_code 0 = .ok (.aload_n 0, 1) := by decide +kernel
theorem d3_1 : decode jdk_42_method_149_code 1 = .ok (.invokespecial 1, 3) := by decide +kernel
theorem w16 {Z a0} (hw : HW a0 Z) : ((Jvm.Cond.methodLink "java/lang/String" (1 : Nat) ({ cls := "java/lang/Object", name := "<init>", desc := "()V" } : Jvm.MethodName)) : Jvm.Cond).before a0 Z = true := hw _ (List.mem_of_getElem? (i := 16) rfl)
theorem w17 {Z a0} (hw : HW a0 Z) : ((Jvm.Cond.instanceMethod ({ cls := "java/lang/Object", name := "<init>", desc := "()V" } : Jvm.MethodName)) : Jvm.Cond).before a0 Z = true := hw _ (List.mem_of_getElem? (i := 17) rfl)
theorem w18 {Z a0} (hw : HW a0 Z) : ((Jvm.Cond.code ({ cls := "java/lang/Object", name := "<init>", desc := "()V" } : Jvm.MethodName) object_method_1_code (1 : Nat) (Option.none : Option Jvm.ClassFile.FieldType)) : Jvm.Cond).before a0 Z = true := hw _ (List.mem_of_getElem? (i := 18) rfl)
theorem d3_4 : decode jdk_42_method_149_code 4 = .ok (.iload_n 3, 1) := by decide +kernel
theorem d3_5 : decode jdk_42_method_149_code 5 = .ok (.ifCond .ne 22, 3) := by decide +kernel
theorem d3_27 : decode jdk_42_method_149_code 27 = .ok (.getstatic 38, 3) := by decide +kernel
theorem w19 {Z a0} (hw : HW a0 Z) : ((Jvm.Cond.fieldLink "java/lang/String" (38 : Nat) "java/lang/String" "COMPACT_STRINGS" "Z") : Jvm.Cond).before a0 Z = true := hw _ (List.mem_of_getElem? (i := 19) rfl)
theorem d3_30 : decode jdk_42_method_149_code 30 = .ok (.ifCond .eq 28, 3) := by decide +kernel
theorem d3_33 : decode jdk_42_method_149_code 33 = .ok (.aload_n 1, 1) := by decide +kernel
theorem d3_34 : decode jdk_42_method_149_code 34 = .ok (.iload_n 2, 1) := by decide +kernel
theorem d3_35 : decode jdk_42_method_149_code 35 = .ok (.iload_n 3, 1) := by decide +kernel
theorem d3_36 : decode jdk_42_method_149_code 36 = .ok (.invokestatic 177, 3) := by decide +kernel
theorem d5_0 : decode jdk_52_method_16_code 0 = .ok (.iload_n 2, 1) := by decide +kernel
theorem d5_1 : decode jdk_52_method_16_code 1 = .ok (.newarray .byte, 2) := by decide +kernel
theorem w24 {Z a0} (hw : HW a0 Z) : ((Jvm.Cond.arrayClass Jvm.ClassFile.FieldType.byte) : Jvm.Cond).before a0 Z = true := hw _ (List.mem_of_getElem? (i := 24) rfl)
theorem d5_3 : decode jdk_52_method_16_code 3 = .ok (.astore_n 3, 1) := by decide +kernel
theorem d5_4 : decode jdk_52_method_16_code 4 = .ok (.aload_n 0, 1) := by decide +kernel
theorem d5_5 : decode jdk_52_method_16_code 5 = .ok (.iload_n 1, 1) := by decide +kernel
theorem d5_6 : decode jdk_52_method_16_code 6 = .ok (.aload_n 3, 1) := by decide +kernel
theorem d5_7 : decode jdk_52_method_16_code 7 = .ok (.iconst 0, 1) := by decide +kernel
theorem d5_8 : decode jdk_52_method_16_code 8 = .ok (.iload_n 2, 1) := by decide +kernel
theorem d5_9 : decode jdk_52_method_16_code 9 = .ok (.invokestatic 115, 3) := by decide +kernel
theorem d6_0 : decode jdk_52_method_21_code 0 = .ok (.iconst 0, 1) := by decide +kernel
theorem d6_1 : decode jdk_52_method_21_code 1 = .ok (.istore 5, 2) := by decide +kernel
theorem d6_3 : decode jdk_52_method_21_code 3 = .ok (.iload 5, 2) := by decide +kernel
theorem d6_5 : decode jdk_52_method_21_code 5 = .ok (.iload 4, 2) := by decide +kernel
theorem d6_7 : decode jdk_52_method_21_code 7 = .ok (.if_icmp .ge 37, 3) := by decide +kernel
theorem d6_10 : decode jdk_52_method_21_code 10 = .ok (.aload_n 0, 1) := by decide +kernel
theorem d6_11 : decode jdk_52_method_21_code 11 = .ok (.iload_n 1, 1) := by decide +kernel
theorem d6_12 : decode jdk_52_method_21_code 12 = .ok (.caload, 1) := by decide +kernel
theorem d6_13 : decode jdk_52_method_21_code 13 = .ok (.istore 6, 2) := by decide +kernel
theorem d6_15 : decode jdk_52_method_21_code 15 = .ok (.iload 6, 2) := by decide +kernel
theorem d6_17 : decode jdk_52_method_21_code 17 = .ok (.sipush 255, 3) := by decide +kernel
theorem d6_20 : decode jdk_52_method_21_code 20 = .ok (.if_icmp .le 6, 3) := by decide +kernel
theorem d6_26 : decode jdk_52_method_21_code 26 = .ok (.aload_n 2, 1) := by decide +kernel
theorem d6_27 : decode jdk_52_method_21_code 27 = .ok (.iload_n 3, 1) := by decide +kernel
theorem d6_28 : decode jdk_52_method_21_code 28 = .ok (.iload 6, 2) := by decide +kernel
theorem d6_30 : decode jdk_52_method_21_code 30 = .ok (.i2b, 1) := by decide +kernel
theorem d6_31 : decode jdk_52_method_21_code 31 = .ok (.bastore, 1) := by decide +kernel
theorem d6_32 : decode jdk_52_method_21_code 32 = .ok (.iinc 1 1, 3) := by decide +kernel
theorem d6_35 : decode jdk_52_method_21_code 35 = .ok (.iinc 3 1, 3) := by decide +kernel
theorem d6_38 : decode jdk_52_method_21_code 38 = .ok (.iinc 5 1, 3) := by decide +kernel
theorem d6_41 : decode jdk_52_method_21_code 41 = .ok (.goto (-38), 3) := by decide +kernel
theorem d6_44 : decode jdk_52_method_21_code 44 = .ok (.iload 4, 2) := by decide +kernel
theorem d6_46 : decode jdk_52_method_21_code 46 = .ok (.ireturn, 1) := by decide +kernel
theorem c5_compress {Z a0} (hw : HW a0 Z) (hs : SF Z) {p1 p2 : Addr} {x1 : Int32} (hx1 : 0 ≤ x1.toInt ∧ x1.toInt ≤ 255) {x2 : Int32} (hx2 : 0 ≤ x2.toInt ∧ x2.toInt ≤ 255) {x3 : Int32} (hx3 : 0 ≤ x3.toInt ∧ x3.toInt ≤ 255) {ad_p2 : String} {w_p1 : Bool} {ad_p1 : String} {F : List Ent} (mp1 : (p1, w_p1, ar ad_p1 .char [(vi x1), (vi x2), (vi x3)]) ∈ F) : Con Z EL (⟨"java/lang/StringUTF16", "compress", "([CI[BII)I"⟩ : MethodName) jdk_52_method_21_code 7 (Option.some Jvm.ClassFile.FieldType.int) (rmm 0 0 0 0) [(vr p1), (vi 0), (vr p2), (vi 0), (vi 3)] ((p2, true, ar ad_p2 .byte [(vi 0), (vi 0), (vi 0)]) :: F) (fun v D' => (v = some (vi 3) ∧ (p2, true, ar ad_p2 .byte [(vi x1.toInt8.toInt32), (vi x2.toInt8.toInt32), (vi x3.toInt8.toInt32)]) :: F = D')) := by
  refine Con.of (ls := #[rv p1, iv 0, rv p2, iv 0, iv 3, uu, uu]) (by decide +kernel) rfl ?_
  show W Z EL _ "java/lang/StringUTF16" "compress" _ _ _ _ _ _ _ _ _ _
  refine W.iconst (pc := 0) (0) d6_0 (by decide) ?_
  refine W.istore (pc := 1) (ls' := #[rv p1, iv 0, rv p2, iv 0, iv 3, iv 0, uu]) d6_1 rfl ?_
  refine W.iload (pc := 3) d6_3 rfl ?_
  refine W.iload (pc := 5) d6_5 rfl ?_
  refine W.icmpN (pc := 7) d6_7 (n_ge (by decide)) ?_
  refine W.aloadN (pc := 10) d6_10 rfl rfl ?_
  refine W.iloadN (pc := 11) d6_11 rfl ?_
  refine W.caload (pc := 12) 0 d6_12 (mS mp1) ix0 rfl ?_
  refine W.istore (pc := 13) (ls' := #[rv p1, iv 0, rv p2, iv 0, iv 3, iv 0, iv x1]) d6_13 rfl ?_
  refine W.iload (pc := 15) d6_15 rfl ?_
  refine W.sipush (pc := 17) (255) d6_17 (by decide) ?_
  refine W.icmpY (pc := 20) 26 d6_20 (y_le (by have := q255; omega)) (by decide) ?_
  refine W.aloadN (pc := 26) d6_26 rfl rfl ?_
  refine W.iloadN (pc := 27) d6_27 rfl ?_
  refine W.iload (pc := 28) d6_28 rfl ?_
  refine W.i2b (pc := 30) d6_30 ?_
  refine W.bastore (pc := 31) (D' := (p2, true, ar ad_p2 .byte [(vi x1.toInt8.toInt32), (vi 0), (vi 0)]) :: F) 0 0 d6_31 rfl ix0 (Nat.le_of_ble_eq_true rfl) (z_narB (by have := a_i2b x1; omega)) rfl ?_
  refine W.iincK (pc := 32) (ls' := #[rv p1, iv 1, rv p2, iv 0, iv 3, iv 0, iv x1]) (1) (1 : Int32) d6_32 (by decide) rfl (by decide) rfl ?_
  refine W.iincK (pc := 35) (ls' := #[rv p1, iv 1, rv p2, iv 1, iv 3, iv 0, iv x1]) (1) (1 : Int32) d6_35 (by decide) rfl (by decide) rfl ?_
  refine W.iincK (pc := 38) (ls' := #[rv p1, iv 1, rv p2, iv 1, iv 3, iv 1, iv x1]) (1) (1 : Int32) d6_38 (by decide) rfl (by decide) rfl ?_
  refine W.goto (pc := 41) 3 d6_41 (by decide) ?_
  refine W.iload (pc := 3) d6_3 rfl ?_
  refine W.iload (pc := 5) d6_5 rfl ?_
  refine W.icmpN (pc := 7) d6_7 (n_ge (by decide)) ?_
  refine W.aloadN (pc := 10) d6_10 rfl rfl ?_
  refine W.iloadN (pc := 11) d6_11 rfl ?_
  refine W.caload (pc := 12) 1 d6_12 (mS mp1) ix1 rfl ?_
  refine W.istore (pc := 13) (ls' := #[rv p1, iv 1, rv p2, iv 1, iv 3, iv 1, iv x2]) d6_13 rfl ?_
  refine W.iload (pc := 15) d6_15 rfl ?_
  refine W.sipush (pc := 17) (255) d6_17 (by decide) ?_
  refine W.icmpY (pc := 20) 26 d6_20 (y_le (by have := q255; omega)) (by decide) ?_
  refine W.aloadN (pc := 26) d6_26 rfl rfl ?_
  refine W.iloadN (pc := 27) d6_27 rfl ?_
  refine W.iload (pc := 28) d6_28 rfl ?_
  refine W.i2b (pc := 30) d6_30 ?_
  refine W.bastore (pc := 31) (D' := (p2, true, ar ad_p2 .byte [(vi x1.toInt8.toInt32), (vi x2.toInt8.toInt32), (vi 0)]) :: F) 0 1 d6_31 rfl ix1 (Nat.le_of_ble_eq_true rfl) (z_narB (by have := a_i2b x2; omega)) rfl ?_
  refine W.iincK (pc := 32) (ls' := #[rv p1, iv 2, rv p2, iv 1, iv 3, iv 1, iv x2]) (1) (2 : Int32) d6_32 (by decide) rfl (by decide) rfl ?_
  refine W.iincK (pc := 35) (ls' := #[rv p1, iv 2, rv p2, iv 2, iv 3, iv 1, iv x2]) (1) (2 : Int32) d6_35 (by decide) rfl (by decide) rfl ?_
  refine W.iincK (pc := 38) (ls' := #[rv p1, iv 2, rv p2, iv 2, iv 3, iv 2, iv x2]) (1) (2 : Int32) d6_38 (by decide) rfl (by decide) rfl ?_
  refine W.goto (pc := 41) 3 d6_41 (by decide) ?_
  refine W.iload (pc := 3) d6_3 rfl ?_
  refine W.iload (pc := 5) d6_5 rfl ?_
  refine W.icmpN (pc := 7) d6_7 (n_ge (by decide)) ?_
  refine W.aloadN (pc := 10) d6_10 rfl rfl ?_
  refine W.iloadN (pc := 11) d6_11 rfl ?_
  refine W.caload (pc := 12) 2 d6_12 (mS mp1) ix2 rfl ?_
  refine W.istore (pc := 13) (ls' := #[rv p1, iv 2, rv p2, iv 2, iv 3, iv 2, iv x3]) d6_13 rfl ?_
  refine W.iload (pc := 15) d6_15 rfl ?_
  refine W.sipush (pc := 17) (255) d6_17 (by decide) ?_
  refine W.icmpY (pc := 20) 26 d6_20 (y_le (by have := q255; omega)) (by decide) ?_
  refine W.aloadN (pc := 26) d6_26 rfl rfl ?_
  refine W.iloadN (pc := 27) d6_27 rfl ?_
  refine W.iload (pc := 28) d6_28 rfl ?_
  refine W.i2b (pc := 30) d6_30 ?_
  refine W.bastore (pc := 31) (D' := (p2, true, ar ad_p2 .byte [(vi x1.toInt8.toInt32), (vi x2.toInt8.toInt32), (vi x3.toInt8.toInt32)]) :: F) 0 2 d6_31 rfl ix2 (Nat.le_of_ble_eq_true rfl) (z_narB (by have := a_i2b x3; omega)) rfl ?_
  refine W.iincK (pc := 32) (ls' := #[rv p1, iv 3, rv p2, iv 2, iv 3, iv 2, iv x3]) (1) (3 : Int32) d6_32 (by decide) rfl (by decide) rfl ?_
  refine W.iincK (pc := 35) (ls' := #[rv p1, iv 3, rv p2, iv 3, iv 3, iv 2, iv x3]) (1) (3 : Int32) d6_35 (by decide) rfl (by decide) rfl ?_
  refine W.iincK (pc := 38) (ls' := #[rv p1, iv 3, rv p2, iv 3, iv 3, iv 3, iv x3]) (1) (3 : Int32) d6_38 (by decide) rfl (by decide) rfl ?_
  refine W.goto (pc := 41) 3 d6_41 (by decide) ?_
  refine W.iload (pc := 3) d6_3 rfl ?_
  refine W.iload (pc := 5) d6_5 rfl ?_
  refine W.icmpY (pc := 7) 44 d6_7 (y_ge (by decide)) (by decide) ?_
  refine W.iload (pc := 44) d6_44 rfl ?_
  exact W.ireturn (pc := 46) d6_46 rfl (Or.inl rfl) rfl (by decide) ⟨rfl, rfl⟩
theorem pd__CI_BII_I : parseMethodDescriptor "([CI[BII)I" = some ⟨[(.array .char), .int, (.array .byte), .int, .int], some .int⟩ := by decide +kernel
theorem w25 {Z a0} (hw : HW a0 Z) : ((Jvm.Cond.methodLink "java/lang/StringUTF16" (115 : Nat) ({ cls := "java/lang/StringUTF16", name := "compress", desc := "([CI[BII)I" } : Jvm.MethodName)) : Jvm.Cond).before a0 Z = true := hw _ (List.mem_of_getElem? (i := 25) rfl)
theorem w26 {Z a0} (hw : HW a0 Z) : ((Jvm.Cond.static ({ cls := "java/lang/StringUTF16", name := "compress", desc := "([CI[BII)I" } : Jvm.MethodName)) : Jvm.Cond).before a0 Z = true := hw _ (List.mem_of_getElem? (i := 26) rfl)
theorem w22 {Z a0} (hw : HW a0 Z) : ((Jvm.Cond.initialized "java/lang/StringUTF16") : Jvm.Cond).before a0 Z = true := hw _ (List.mem_of_getElem? (i := 22) rfl)
theorem w27 {Z a0} (hw : HW a0 Z) : ((Jvm.Cond.code ({ cls := "java/lang/StringUTF16", name := "compress", desc := "([CI[BII)I" } : Jvm.MethodName) jdk_52_method_21_code (7 : Nat) (Option.some Jvm.ClassFile.FieldType.int)) : Jvm.Cond).before a0 Z = true := hw _ (List.mem_of_getElem? (i := 27) rfl)
theorem d5_12 : decode jdk_52_method_16_code 12 = .ok (.istore 4, 2) := by decide +kernel
theorem d5_14 : decode jdk_52_method_16_code 14 = .ok (.iload 4, 2) := by decide +kernel
theorem d5_16 : decode jdk_52_method_16_code 16 = .ok (.iload_n 2, 1) := by decide +kernel
theorem d5_17 : decode jdk_52_method_16_code 17 = .ok (.if_icmp .eq 40, 3) := by decide +kernel
theorem d5_57 : decode jdk_52_method_16_code 57 = .ok (.aload_n 3, 1) := by decide +kernel
theorem d5_58 : decode jdk_52_method_16_code 58 = .ok (.areturn, 1) := by decide +kernel
theorem c4_compress {Z a0} (hw : HW a0 Z) (hs : SF Z) {p1 : Addr} {x1 : Int32} (hx1 : 0 ≤ x1.toInt ∧ x1.toInt ≤ 255) {x2 : Int32} (hx2 : 0 ≤ x2.toInt ∧ x2.toInt ≤ 255) {x3 : Int32} (hx3 : 0 ≤ x3.toInt ∧ x3.toInt ≤ 255) {w_p1 : Bool} {ad_p1 : String} {F : List Ent} (mp1 : (p1, w_p1, ar ad_p1 .char [(vi x1), (vi x2), (vi x3)]) ∈ F) : Con Z EL (⟨"java/lang/StringUTF16", "compress", "([CII)[B"⟩ : MethodName) jdk_52_method_16_code 6 (Option.some (Jvm.ClassFile.FieldType.array Jvm.ClassFile.FieldType.byte)) (rmm 1 1 3 18) [(vr p1), (vi 0), (vi 3)] (F) (fun v D' => (∃ a1 : Addr, v = some (vr a1) ∧ (a1, true, ar "[B" .byte [(vi x1.toInt8.toInt32), (vi x2.toInt8.toInt32), (vi x3.toInt8.toInt32)]) :: F = D')) := by
  refine Con.of (ls := #[rv p1, iv 0, iv 3, uu, uu, uu]) (by decide +kernel) rfl ?_
  show W Z EL _ "java/lang/StringUTF16" "compress" _ _ _ _ _ _ _ _ _ _
  refine W.iloadN (pc := 0) d5_0 rfl ?_
  refine W.newarr (pc := 1) 3 (ad := "[B") (ty := .byte) d5_1 rfl (w24 hw) ix3 rfl (by decide) (by decide) (fun a1 => ?_)
  show W _ _ _ _ _ _ _ _ _ _ _ _ 3 _ [(vr a1)]
  refine W.astoreN (pc := 3) (ls' := #[rv p1, iv 0, iv 3, rv a1, uu, uu]) d5_3 rfl rfl ?_
  refine W.aloadN (pc := 4) d5_4 rfl rfl ?_
  refine W.iloadN (pc := 5) d5_5 rfl ?_
  refine W.aloadN (pc := 6) d5_6 rfl rfl ?_
  refine W.iconst (pc := 7) (0) d5_7 (by decide) ?_
  refine W.iloadN (pc := 8) d5_8 rfl ?_
  refine W.callS (pc := 9) (as := [(vr p1), (vi 0), (vr a1), (vi 0), (vi 3)]) 0 [] d5_9 (w25 hw) (w26 hw) (w22 hw) (w27 hw) (c5_compress hw hs (p1 := p1) (p2 := a1) (x1 := x1) (hx1 := hx1) (x2 := x2) (hx2 := hx2) (x3 := x3) (hx3 := hx3) (mp1 := mp1)) (by decide) pd__CI_BII_I rfl rfl rfl rfl (by decide) (fun v D' h => ?_)
  obtain ⟨rfl, rfl⟩ := h
  show W _ _ _ _ _ _ _ _ _ _ _ _ 12 _ [(vi 3)]
  refine W.istore (pc := 12) (ls' := #[rv p1, iv 0, iv 3, rv a1, iv 3, uu]) d5_12 rfl ?_
  refine W.iload (pc := 14) d5_14 rfl ?_
  refine W.iloadN (pc := 16) d5_16 rfl ?_
  refine W.icmpY (pc := 17) 57 d5_17 (y_eq (by decide)) (by decide) ?_
  refine W.aloadN (pc := 57) d5_57 rfl rfl ?_
  exact W.areturn (pc := 58) d5_58 rfl rfl rfl (by decide) ⟨a1, rfl, rfl⟩
theorem pd__CII__B : parseMethodDescriptor "([CII)[B" = some ⟨[(.array .char), .int, .int], some (.array .byte)⟩ := by decide +kernel
theorem w20 {Z a0} (hw : HW a0 Z) : ((Jvm.Cond.methodLink "java/lang/String" (177 : Nat) ({ cls := "java/lang/StringUTF16", name := "compress", desc := "([CII)[B" } : Jvm.MethodName)) : Jvm.Cond).before a0 Z = true := hw _ (List.mem_of_getElem? (i := 20) rfl)
theorem w21 {Z a0} (hw : HW a0 Z) : ((Jvm.Cond.static ({ cls := "java/lang/StringUTF16", name := "compress", desc := "([CII)[B" } : Jvm.MethodName)) : Jvm.Cond).before a0 Z = true := hw _ (List.mem_of_getElem? (i := 21) rfl)
theorem w23 {Z a0} (hw : HW a0 Z) : ((Jvm.Cond.code ({ cls := "java/lang/StringUTF16", name := "compress", desc := "([CII)[B" } : Jvm.MethodName) jdk_52_method_16_code (6 : Nat) (Option.some (Jvm.ClassFile.FieldType.array Jvm.ClassFile.FieldType.byte))) : Jvm.Cond).before a0 Z = true := hw _ (List.mem_of_getElem? (i := 23) rfl)
theorem d3_39 : decode jdk_42_method_149_code 39 = .ok (.astore 5, 2) := by decide +kernel
theorem d3_41 : decode jdk_42_method_149_code 41 = .ok (.aload_n 0, 1) := by decide +kernel
theorem d3_42 : decode jdk_42_method_149_code 42 = .ok (.aload 5, 2) := by decide +kernel
theorem d3_44 : decode jdk_42_method_149_code 44 = .ok (.iload_n 3, 1) := by decide +kernel
theorem d3_45 : decode jdk_42_method_149_code 45 = .ok (.invokestatic 47, 3) := by decide +kernel
theorem d7_0 : decode jdk_52_method_15_code 0 = .ok (.iload_n 1, 1) := by decide +kernel
theorem d7_1 : decode jdk_52_method_15_code 1 = .ok (.aload_n 0, 1) := by decide +kernel
theorem d7_2 : decode jdk_52_method_15_code 2 = .ok (.arraylength, 1) := by decide +kernel
theorem d7_3 : decode jdk_52_method_15_code 3 = .ok (.isub, 1) := by decide +kernel
theorem d7_4 : decode jdk_52_method_15_code 4 = .ok (.bipush 31, 2) := by decide +kernel
theorem d7_6 : decode jdk_52_method_15_code 6 = .ok (.iushr, 1) := by decide +kernel
theorem d7_7 : decode jdk_52_method_15_code 7 = .ok (.i2b, 1) := by decide +kernel
theorem d7_8 : decode jdk_52_method_15_code 8 = .ok (.ireturn, 1) := by decide +kernel
theorem c6_coderFromArrayLen {Z a0} (hw : HW a0 Z) (hs : SF Z) {p1 : Addr} {x1 : Int32} (hx1 : -128 ≤ x1.toInt ∧ x1.toInt ≤ 127) {x2 : Int32} (hx2 : -128 ≤ x2.toInt ∧ x2.toInt ≤ 127) {x3 : Int32} (hx3 : -128 ≤ x3.toInt ∧ x3.toInt ≤ 127) {w_p1 : Bool} {ad_p1 : String} {F : List Ent} (mp1 : (p1, w_p1, ar ad_p1 .byte [(vi x1), (vi x2), (vi x3)]) ∈ F) : Con Z EL (⟨"java/lang/StringUTF16", "coderFromArrayLen", "([BI)B"⟩ : MethodName) jdk_52_method_15_code 2 (Option.some Jvm.ClassFile.FieldType.byte) (rmm 0 0 0 0) [(vr p1), (vi 3)] (F) (fun v D' => (v = some (vi 0) ∧ F = D')) := by
  refine Con.of (ls := #[rv p1, iv 3]) (by decide +kernel) rfl ?_
  show W Z EL _ "java/lang/StringUTF16" "coderFromArrayLen" _ _ _ _ _ _ _ _ _ _
  refine W.iloadN (pc := 0) d7_0 rfl ?_
  refine W.aloadN (pc := 1) d7_1 rfl rfl ?_
  refine W.alen (pc := 2) (3) d7_2 mp1 rfl ?_
  refine W.isubK (pc := 3) (0 : Int32) d7_3 (by decide) ?_
  refine W.bipush (pc := 4) (31) d7_4 (by decide) ?_
  refine W.iushrK (pc := 6) (0 : Int32) d7_6 (by decide) ?_
  refine W.i2bK (pc := 7) (0 : Int32) d7_7 (by decide) ?_
  exact W.ireturn (pc := 8) d7_8 rfl (Or.inr (Or.inr (Or.inl rfl))) (nw_byte (by decide)) (by decide) ⟨rfl, rfl⟩
theorem pd__BI_B : parseMethodDescriptor "([BI)B" = some ⟨[(.array .byte), .int], some .byte⟩ := by decide +kernel
theorem w28 {Z a0} (hw : HW a0 Z) : ((Jvm.Cond.methodLink "java/lang/String" (47 : Nat) ({ cls := "java/lang/StringUTF16", name := "coderFromArrayLen", desc := "([BI)B" } : Jvm.MethodName)) : Jvm.Cond).before a0 Z = true := hw _ (List.mem_of_getElem? (i := 28) rfl)
theorem w29 {Z a0} (hw : HW a0 Z) : ((Jvm.Cond.static ({ cls := "java/lang/StringUTF16", name := "coderFromArrayLen", desc := "([BI)B" } : Jvm.MethodName)) : Jvm.Cond).before a0 Z = true := hw _ (List.mem_of_getElem? (i := 29) rfl)
theorem w30 {Z a0} (hw : HW a0 Z) : ((Jvm.Cond.code ({ cls := "java/lang/StringUTF16", name := "coderFromArrayLen", desc := "([BI)B" } : Jvm.MethodName) jdk_52_method_15_code (2 : Nat) (Option.some Jvm.ClassFile.FieldType.byte)) : Jvm.Cond).before a0 Z = true := hw _ (List.mem_of_getElem? (i := 30) rfl)
theorem d3_48 : decode jdk_42_method_149_code 48 = .ok (.putfield 15, 3) := by decide +kernel
theorem pfB : parseFieldDescriptor "B" = some .byte := by decide
abbrev oString (f0 f1 : Value) : Desc := .inl ("java/lang/String", [("java/lang/String", "value", "[B", f0), ("java/lang/String", "coder", "B", f1)])
theorem w31 {Z a0} (hw : HW a0 Z) : ((Jvm.Cond.fieldLink "java/lang/String" (15 : Nat) "java/lang/String" "coder" "B") : Jvm.Cond).before a0 Z = true := hw _ (List.mem_of_getElem? (i := 31) rfl)
theorem d3_51 : decode jdk_42_method_149_code 51 = .ok (.aload_n 0, 1) := by decide +kernel
theorem d3_52 : decode jdk_42_method_149_code 52 = .ok (.aload 5, 2) := by decide +kernel
theorem d3_54 : decode jdk_42_method_149_code 54 = .ok (.putfield 9, 3) := by decide +kernel
theorem pf_B : parseFieldDescriptor "[B" = some (.array .byte) := by decide
theorem w33 {Z a0} (hw : HW a0 Z) : ((Jvm.Cond.fieldLink "java/lang/String" (9 : Nat) "java/lang/String" "value" "[B") : Jvm.Cond).before a0 Z = true := hw _ (List.mem_of_getElem? (i := 33) rfl)
theorem d3_57 : decode jdk_42_method_149_code 57 = .ok (.return_, 1) := by decide +kernel
theorem c3_init {Z a0} (hw : HW a0 Z) (hs : SF Z) {p1 p2 : Addr} {x1 : Int32} (hx1 : 0 ≤ x1.toInt ∧ x1.toInt ≤ 255) {x2 : Int32} (hx2 : 0 ≤ x2.toInt ∧ x2.toInt ≤ 255) {x3 : Int32} (hx3 : 0 ≤ x3.toInt ∧ x3.toInt ≤ 255) {w_p2 : Bool} {ad_p2 : String} {F : List Ent} (mp2 : (p2, w_p2, ar ad_p2 .char [(vi x1), (vi x2), (vi x3)]) ∈ F) : Con Z EL (⟨"java/lang/String", "<init>", "([CIILjava/lang/Void;)V"⟩ : MethodName) jdk_42_method_149_code 6 (Option.none : Option Jvm.ClassFile.FieldType) (rmm 2 1 3 35) [(vr p1), (vr p2), (vi 0), (vi 3), .null] ((p1, true, oString .null (vi 0)) :: F) (fun v D' => (∃ a1 : Addr, v = none ∧ (a1, true, ar "[B" .byte [(vi x1.toInt8.toInt32), (vi x2.toInt8.toInt32), (vi x3.toInt8.toInt32)]) :: (p1, true, oString (vr a1) (vi 0)) :: F = D')) := by
  refine Con.of (ls := #[rv p1, rv p2, iv 0, iv 3, .val .null, uu]) (by decide +kernel) rfl ?_
  show W Z EL _ "java/lang/String" "<init>" _ _ _ _ _ _ _ _ _ _
  refine W.aloadN (pc := 0) d3_0 rfl rfl ?_
  refine W.initO (pc := 1) 0 d3_1 (w16 hw) (w17 hw) (w18 hw) rfl rfl (by decide) ?_
  refine W.iloadN (pc := 4) d3_4 rfl ?_
  refine W.ifY (pc := 5) 27 d3_5 (y_ne (by decide)) (by decide) ?_
  refine W.gets (pc := 27) d3_27 (w19 hw) Via.refl hs.1 ?_
  refine W.ifN (pc := 30) d3_30 (n_eq (by have := hs.2.1; have := q0; omega)) ?_
  refine W.aloadN (pc := 33) d3_33 rfl rfl ?_
  refine W.iloadN (pc := 34) d3_34 rfl ?_
  refine W.iloadN (pc := 35) d3_35 rfl ?_
  refine W.callS (pc := 36) (as := [(vr p2), (vi 0), (vi 3)]) 0 [] d3_36 (w20 hw) (w21 hw) (w22 hw) (w23 hw) (c4_compress hw hs (p1 := p2) (x1 := x1) (hx1 := hx1) (x2 := x2) (hx2 := hx2) (x3 := x3) (hx3 := hx3) (mp1 := (mS mp2))) (by decide) pd__CII__B rfl rfl rfl rfl (by decide) (fun v D' h => ?_)
  obtain ⟨a1, rfl, rfl⟩ := h
  show W _ _ _ _ _ _ _ _ _ _ _ _ 39 _ [(vr a1)]
  refine W.astore (pc := 39) (ls' := #[rv p1, rv p2, iv 0, iv 3, .val .null, rv a1]) d3_39 rfl rfl ?_
  refine W.aloadN (pc := 41) d3_41 rfl rfl ?_
  refine W.aload (pc := 42) 5 d3_42 rfl rfl ?_
  refine W.iloadN (pc := 44) d3_44 rfl ?_
  refine W.callS (pc := 45) (as := [(vr a1), (vi 3)]) 1 [(vr p1)] d3_45 (w28 hw) (w29 hw) (w22 hw) (w30 hw) (c6_coderFromArrayLen hw hs (p1 := a1) (x1 := x1.toInt8.toInt32) (hx1 := (by have := a_i2b x1; omega)) (x2 := x2.toInt8.toInt32) (hx2 := (by have := a_i2b x2; omega)) (x3 := x3.toInt8.toInt32) (hx3 := (by have := a_i2b x3; omega)) (mp1 := m0)) (by decide) pd__BI_B rfl rfl rfl rfl (by decide) (fun v D' h => ?_)
  obtain ⟨rfl, rfl⟩ := h
  show W _ _ _ _ _ _ _ _ _ _ _ _ 48 _ [(vi 0), (vr p1)]
  refine W.putf (pc := 48) (D' := (a1, true, ar "[B" .byte [(vi x1.toInt8.toInt32), (vi x2.toInt8.toInt32), (vi x3.toInt8.toInt32)]) :: (p1, true, oString .null (vi 0)) :: F) 1 1 d3_48 (w31 hw) Via.refl rfl rfl (Or.inr ⟨(w32 hw), rfl, rfl⟩) (w7 hw) pfB (nw_byte (by decide)) (ft_byte (by decide)) rfl ?_
  refine W.aloadN (pc := 51) d3_51 rfl rfl ?_
  refine W.aload (pc := 52) 5 d3_52 rfl rfl ?_
  refine W.putf (pc := 54) (D' := (a1, true, ar "[B" .byte [(vi x1.toInt8.toInt32), (vi x2.toInt8.toInt32), (vi x3.toInt8.toInt32)]) :: (p1, true, oString (vr a1) (vi 0)) :: F) 1 0 d3_54 (w33 hw) Via.refl rfl rfl (Or.inr ⟨(w34 hw), rfl, rfl⟩) (w7 hw) pf_B rfl rfl rfl ?_
  exact W.return_ (pc := 57) d3_57 rfl (by decide) ⟨a1, rfl, rfl⟩
theorem pd__CIILjava_lang_Void__V : parseMethodDescriptor "([CIILjava/lang/Void;)V" = some ⟨[(.array .char), .int, .int, (.object "java/lang/Void")], none⟩ := by decide +kernel
theorem w12 {Z a0} (hw : HW a0 Z) : ((Jvm.Cond.methodLink "java/lang/String" (27 : Nat) ({ cls := "java/lang/String", name := "<init>", desc := "([CIILjava/lang/Void;)V" } : Jvm.MethodName)) : Jvm.Cond).before a0 Z = true := hw _ (List.mem_of_getElem? (i := 12) rfl)
theorem w13 {Z a0} (hw : HW a0 Z) : ((Jvm.Cond.instanceMethod ({ cls := "java/lang/String", name := "<init>", desc := "([CIILjava/lang/Void;)V" } : Jvm.MethodName)) : Jvm.Cond).before a0 Z = true := hw _ (List.mem_of_getElem? (i := 13) rfl)
theorem w15 {Z a0} (hw : HW a0 Z) : ((Jvm.Cond.code ({ cls := "java/lang/String", name := "<init>", desc := "([CIILjava/lang/Void;)V" } : Jvm.MethodName) jdk_42_method_149_code (6 : Nat) (Option.none : Option Jvm.ClassFile.FieldType)) : Jvm.Cond).before a0 Z = true := hw _ (List.mem_of_getElem? (i := 15) rfl)
theorem d2_9 : decode jdk_42_method_3_code 9 = .ok (.return_, 1) := by decide +kernel
theorem c2_init {Z a0} (hw : HW a0 Z) (hs : SF Z) {p1 p2 : Addr} {x1 : Int32} (hx1 : 0 ≤ x1.toInt ∧ x1.toInt ≤ 255) {x2 : Int32} (hx2 : 0 ≤ x2.toInt ∧ x2.toInt ≤ 255) {x3 : Int32} (hx3 : 0 ≤ x3.toInt ∧ x3.toInt ≤ 255) {w_p2 : Bool} {ad_p2 : String} {F : List Ent} (mp2 : (p2, w_p2, ar ad_p2 .char [(vi x1), (vi x2), (vi x3)]) ∈ F) : Con Z EL (⟨"java/lang/String", "<init>", "([C)V"⟩ : MethodName) jdk_42_method_3_code 2 (Option.none : Option Jvm.ClassFile.FieldType) (rmm 3 1 3 52) [(vr p1), (vr p2)] ((p1, true, oString .null (vi 0)) :: F) (fun v D' => (∃ a1 : Addr, v = none ∧ (a1, true, ar "[B" .byte [(vi x1.toInt8.toInt32), (vi x2.toInt8.toInt32), (vi x3.toInt8.toInt32)]) :: (p1, true, oString (vr a1) (vi 0)) :: F = D')) := by
  refine Con.of (ls := #[rv p1, rv p2]) (by decide +kernel) rfl ?_
  show W Z EL _ "java/lang/String" "<init>" _ _ _ _ _ _ _ _ _ _
  refine W.aloadN (pc := 0) d2_0 rfl rfl ?_
  refine W.aloadN (pc := 1) d2_1 rfl rfl ?_
  refine W.iconst (pc := 2) (0) d2_2 (by decide) ?_
  refine W.aloadN (pc := 3) d2_3 rfl rfl ?_
  refine W.alen (pc := 4) (3) d2_4 (mS mp2) rfl ?_
  refine W.aconstNull (pc := 5) d2_5 ?_
  refine W.callI (pc := 6) (as := [(vr p2), (vi 0), (vi 3), .null]) 0 [] d2_6 rfl (w12 hw) (w13 hw) (w8 hw) (w15 hw) (c3_init hw hs (p1 := p1) (p2 := p2) (x1 := x1) (hx1 := hx1) (x2 := x2) (hx2 := hx2) (x3 := x3) (hx3 := hx3) (mp2 := mp2)) (by decide) pd__CIILjava_lang_Void__V rfl rfl rfl rfl (by decide) (fun v D' h => ?_)
  obtain ⟨a1, rfl, rfl⟩ := h
  show W _ _ _ _ _ _ _ _ _ _ _ _ 9 _ []
  exact W.return_ (pc := 9) d2_9 rfl (by decide) ⟨a1, rfl, rfl⟩
theorem pd__C_V : parseMethodDescriptor "([C)V" = some ⟨[(.array .char)], none⟩ := by decide +kernel
theorem w9 {Z a0} (hw : HW a0 Z) : ((Jvm.Cond.methodLink "com/example/rochester/rochester/TokenIsSymbolPinLaw" (33 : Nat) ({ cls := "java/lang/String", name := "<init>", desc := "([C)V" } : Jvm.MethodName)) : Jvm.Cond).before a0 Z = true := hw _ (List.mem_of_getElem? (i := 9) rfl)
theorem w10 {Z a0} (hw : HW a0 Z) : ((Jvm.Cond.instanceMethod ({ cls := "java/lang/String", name := "<init>", desc := "([C)V" } : Jvm.MethodName)) : Jvm.Cond).before a0 Z = true := hw _ (List.mem_of_getElem? (i := 10) rfl)
theorem w11 {Z a0} (hw : HW a0 Z) : ((Jvm.Cond.code ({ cls := "java/lang/String", name := "<init>", desc := "([C)V" } : Jvm.MethodName) jdk_42_method_3_code (2 : Nat) (Option.none : Option Jvm.ClassFile.FieldType)) : Jvm.Cond).before a0 Z = true := hw _ (List.mem_of_getElem? (i := 11) rfl)
theorem d1_99 : decode method_3_code 99 = .ok (.areturn, 1) := by decide +kernel
theorem d1_45 : decode method_3_code 45 = .ok (.iconst 2, 1) := by decide +kernel
theorem d1_46 : decode method_3_code 46 = .ok (.newarray .char, 2) := by decide +kernel
theorem d1_48 : decode method_3_code 48 = .ok (.astore 4, 2) := by decide +kernel
theorem d1_50 : decode method_3_code 50 = .ok (.aload 4, 2) := by decide +kernel
theorem d1_52 : decode method_3_code 52 = .ok (.iconst 0, 1) := by decide +kernel
theorem d1_53 : decode method_3_code 53 = .ok (.iload_n 1, 1) := by decide +kernel
theorem d1_54 : decode method_3_code 54 = .ok (.castore, 1) := by decide +kernel
theorem d1_55 : decode method_3_code 55 = .ok (.aload 4, 2) := by decide +kernel
theorem d1_57 : decode method_3_code 57 = .ok (.iconst 1, 1) := by decide +kernel
theorem d1_58 : decode method_3_code 58 = .ok (.iload_n 2, 1) := by decide +kernel
theorem d1_59 : decode method_3_code 59 = .ok (.castore, 1) := by decide +kernel
theorem d1_60 : decode method_3_code 60 = .ok (.new 31, 3) := by decide +kernel
theorem d1_63 : decode method_3_code 63 = .ok (.dup, 1) := by decide +kernel
theorem d1_64 : decode method_3_code 64 = .ok (.aload 4, 2) := by decide +kernel
theorem d1_66 : decode method_3_code 66 = .ok (.invokespecial 33, 3) := by decide +kernel
theorem c10_compress {Z a0} (hw : HW a0 Z) (hs : SF Z) {p1 p2 : Addr} {x1 : Int32} (hx1 : 0 ≤ x1.toInt ∧ x1.toInt ≤ 255) {x2 : Int32} (hx2 : 0 ≤ x2.toInt ∧ x2.toInt ≤ 255) {ad_p2 : String} {w_p1 : Bool} {ad_p1 : String} {F : List Ent} (mp1 : (p1, w_p1, ar ad_p1 .char [(vi x1), (vi x2)]) ∈ F) : Con Z EL (⟨"java/lang/StringUTF16", "compress", "([CI[BII)I"⟩ : MethodName) jdk_52_method_21_code 7 (Option.some Jvm.ClassFile.FieldType.int) (rmm 0 0 0 0) [(vr p1), (vi 0), (vr p2), (vi 0), (vi 2)] ((p2, true, ar ad_p2 .byte [(vi 0), (vi 0)]) :: F) (fun v D' => (v = some (vi 2) ∧ (p2, true, ar ad_p2 .byte [(vi x1.toInt8.toInt32), (vi x2.toInt8.toInt32)]) :: F = D')) := by
  refine Con.of (ls := #[rv p1, iv 0, rv p2, iv 0, iv 2, uu, uu]) (by decide +kernel) rfl ?_
  show W Z EL _ "java/lang/StringUTF16" "compress" _ _ _ _ _ _ _ _ _ _
  refine W.iconst (pc := 0) (0) d6_0 (by decide) ?_
  refine W.istore (pc := 1) (ls' := #[rv p1, iv 0, rv p2, iv 0, iv 2, iv 0, uu]) d6_1 rfl ?_
  refine W.iload (pc := 3) d6_3 rfl ?_
  refine W.iload (pc := 5) d6_5 rfl ?_
  refine W.icmpN (pc := 7) d6_7 (n_ge (by decide)) ?_
  refine W.aloadN (pc := 10) d6_10 rfl rfl ?_
  refine W.iloadN (pc := 11) d6_11 rfl ?_
  refine W.caload (pc := 12) 0 d6_12 (mS mp1) ix0 rfl ?_
  refine W.istore (pc := 13) (ls' := #[rv p1, iv 0, rv p2, iv 0, iv 2, iv 0, iv x1]) d6_13 rfl ?_
  refine W.iload (pc := 15) d6_15 rfl ?_
  refine W.sipush (pc := 17) (255) d6_17 (by decide) ?_
  refine W.icmpY (pc := 20) 26 d6_20 (y_le (by have := q255; omega)) (by decide) ?_
  refine W.aloadN (pc := 26) d6_26 rfl rfl ?_
  refine W.iloadN (pc := 27) d6_27 rfl ?_
  refine W.iload (pc := 28) d6_28 rfl ?_
  refine W.i2b (pc := 30) d6_30 ?_
  refine W.bastore (pc := 31) (D' := (p2, true, ar ad_p2 .byte [(vi x1.toInt8.toInt32), (vi 0)]) :: F) 0 0 d6_31 rfl ix0 (Nat.le_of_ble_eq_true rfl) (z_narB (by have := a_i2b x1; omega)) rfl ?_
  refine W.iincK (pc := 32) (ls' := #[rv p1, iv 1, rv p2, iv 0, iv 2, iv 0, iv x1]) (1) (1 : Int32) d6_32 (by decide) rfl (by decide) rfl ?_
  refine W.iincK (pc := 35) (ls' := #[rv p1, iv 1, rv p2, iv 1, iv 2, iv 0, iv x1]) (1) (1 : Int32) d6_35 (by decide) rfl (by decide) rfl ?_
  refine W.iincK (pc := 38) (ls' := #[rv p1, iv 1, rv p2, iv 1, iv 2, iv 1, iv x1]) (1) (1 : Int32) d6_38 (by decide) rfl (by decide) rfl ?_
  refine W.goto (pc := 41) 3 d6_41 (by decide) ?_
  refine W.iload (pc := 3) d6_3 rfl ?_
  refine W.iload (pc := 5) d6_5 rfl ?_
  refine W.icmpN (pc := 7) d6_7 (n_ge (by decide)) ?_
  refine W.aloadN (pc := 10) d6_10 rfl rfl ?_
  refine W.iloadN (pc := 11) d6_11 rfl ?_
  refine W.caload (pc := 12) 1 d6_12 (mS mp1) ix1 rfl ?_
  refine W.istore (pc := 13) (ls' := #[rv p1, iv 1, rv p2, iv 1, iv 2, iv 1, iv x2]) d6_13 rfl ?_
  refine W.iload (pc := 15) d6_15 rfl ?_
  refine W.sipush (pc := 17) (255) d6_17 (by decide) ?_
  refine W.icmpY (pc := 20) 26 d6_20 (y_le (by have := q255; omega)) (by decide) ?_
  refine W.aloadN (pc := 26) d6_26 rfl rfl ?_
  refine W.iloadN (pc := 27) d6_27 rfl ?_
  refine W.iload (pc := 28) d6_28 rfl ?_
  refine W.i2b (pc := 30) d6_30 ?_
  refine W.bastore (pc := 31) (D' := (p2, true, ar ad_p2 .byte [(vi x1.toInt8.toInt32), (vi x2.toInt8.toInt32)]) :: F) 0 1 d6_31 rfl ix1 (Nat.le_of_ble_eq_true rfl) (z_narB (by have := a_i2b x2; omega)) rfl ?_
  refine W.iincK (pc := 32) (ls' := #[rv p1, iv 2, rv p2, iv 1, iv 2, iv 1, iv x2]) (1) (2 : Int32) d6_32 (by decide) rfl (by decide) rfl ?_
  refine W.iincK (pc := 35) (ls' := #[rv p1, iv 2, rv p2, iv 2, iv 2, iv 1, iv x2]) (1) (2 : Int32) d6_35 (by decide) rfl (by decide) rfl ?_
  refine W.iincK (pc := 38) (ls' := #[rv p1, iv 2, rv p2, iv 2, iv 2, iv 2, iv x2]) (1) (2 : Int32) d6_38 (by decide) rfl (by decide) rfl ?_
  refine W.goto (pc := 41) 3 d6_41 (by decide) ?_
  refine W.iload (pc := 3) d6_3 rfl ?_
  refine W.iload (pc := 5) d6_5 rfl ?_
  refine W.icmpY (pc := 7) 44 d6_7 (y_ge (by decide)) (by decide) ?_
  refine W.iload (pc := 44) d6_44 rfl ?_
  exact W.ireturn (pc := 46) d6_46 rfl (Or.inl rfl) rfl (by decide) ⟨rfl, rfl⟩
theorem c9_compress {Z a0} (hw : HW a0 Z) (hs : SF Z) {p1 : Addr} {x1 : Int32} (hx1 : 0 ≤ x1.toInt ∧ x1.toInt ≤ 255) {x2 : Int32} (hx2 : 0 ≤ x2.toInt ∧ x2.toInt ≤ 255) {w_p1 : Bool} {ad_p1 : String} {F : List Ent} (mp1 : (p1, w_p1, ar ad_p1 .char [(vi x1), (vi x2)]) ∈ F) : Con Z EL (⟨"java/lang/StringUTF16", "compress", "([CII)[B"⟩ : MethodName) jdk_52_method_16_code 6 (Option.some (Jvm.ClassFile.FieldType.array Jvm.ClassFile.FieldType.byte)) (rmm 1 1 2 18) [(vr p1), (vi 0), (vi 2)] (F) (fun v D' => (∃ a1 : Addr, v = some (vr a1) ∧ (a1, true, ar "[B" .byte [(vi x1.toInt8.toInt32), (vi x2.toInt8.toInt32)]) :: F = D')) := by
  refine Con.of (ls := #[rv p1, iv 0, iv 2, uu, uu, uu]) (by decide +kernel) rfl ?_
  show W Z EL _ "java/lang/StringUTF16" "compress" _ _ _ _ _ _ _ _ _ _
  refine W.iloadN (pc := 0) d5_0 rfl ?_
  refine W.newarr (pc := 1) 2 (ad := "[B") (ty := .byte) d5_1 rfl (w24 hw) ix2 rfl (by decide) (by decide) (fun a1 => ?_)
  show W _ _ _ _ _ _ _ _ _ _ _ _ 3 _ [(vr a1)]
  refine W.astoreN (pc := 3) (ls' := #[rv p1, iv 0, iv 2, rv a1, uu, uu]) d5_3 rfl rfl ?_
  refine W.aloadN (pc := 4) d5_4 rfl rfl ?_
  refine W.iloadN (pc := 5) d5_5 rfl ?_
  refine W.aloadN (pc := 6) d5_6 rfl rfl ?_
  refine W.iconst (pc := 7) (0) d5_7 (by decide) ?_
  refine W.iloadN (pc := 8) d5_8 rfl ?_
  refine W.callS (pc := 9) (as := [(vr p1), (vi 0), (vr a1), (vi 0), (vi 2)]) 0 [] d5_9 (w25 hw) (w26 hw) (w22 hw) (w27 hw) (c10_compress hw hs (p1 := p1) (p2 := a1) (x1 := x1) (hx1 := hx1) (x2 := x2) (hx2 := hx2) (mp1 := mp1)) (by decide) pd__CI_BII_I rfl rfl rfl rfl (by decide) (fun v D' h => ?_)
  obtain ⟨rfl, rfl⟩ := h
  show W _ _ _ _ _ _ _ _ _ _ _ _ 12 _ [(vi 2)]
  refine W.istore (pc := 12) (ls' := #[rv p1, iv 0, iv 2, rv a1, iv 2, uu]) d5_12 rfl ?_
  refine W.iload (pc := 14) d5_14 rfl ?_
  refine W.iloadN (pc := 16) d5_16 rfl ?_
  refine W.icmpY (pc := 17) 57 d5_17 (y_eq (by decide)) (by decide) ?_
  refine W.aloadN (pc := 57) d5_57 rfl rfl ?_
  exact W.areturn (pc := 58) d5_58 rfl rfl rfl (by decide) ⟨a1, rfl, rfl⟩
theorem c11_coderFromArrayLen {Z a0} (hw : HW a0 Z) (hs : SF Z) {p1 : Addr} {x1 : Int32} (hx1 : -128 ≤ x1.toInt ∧ x1.toInt ≤ 127) {x2 : Int32} (hx2 : -128 ≤ x2.toInt ∧ x2.toInt ≤ 127) {w_p1 : Bool} {ad_p1 : String} {F : List Ent} (mp1 : (p1, w_p1, ar ad_p1 .byte [(vi x1), (vi x2)]) ∈ F) : Con Z EL (⟨"java/lang/StringUTF16", "coderFromArrayLen", "([BI)B"⟩ : MethodName) jdk_52_method_15_code 2 (Option.some Jvm.ClassFile.FieldType.byte) (rmm 0 0 0 0) [(vr p1), (vi 2)] (F) (fun v D' => (v = some (vi 0) ∧ F = D')) := by
  refine Con.of (ls := #[rv p1, iv 2]) (by decide +kernel) rfl ?_
  show W Z EL _ "java/lang/StringUTF16" "coderFromArrayLen" _ _ _ _ _ _ _ _ _ _
  refine W.iloadN (pc := 0) d7_0 rfl ?_
  refine W.aloadN (pc := 1) d7_1 rfl rfl ?_
  refine W.alen (pc := 2) (2) d7_2 mp1 rfl ?_
  refine W.isubK (pc := 3) (0 : Int32) d7_3 (by decide) ?_
  refine W.bipush (pc := 4) (31) d7_4 (by decide) ?_
  refine W.iushrK (pc := 6) (0 : Int32) d7_6 (by decide) ?_
  refine W.i2bK (pc := 7) (0 : Int32) d7_7 (by decide) ?_
  exact W.ireturn (pc := 8) d7_8 rfl (Or.inr (Or.inr (Or.inl rfl))) (nw_byte (by decide)) (by decide) ⟨rfl, rfl⟩
theorem c8_init {Z a0} (hw : HW a0 Z) (hs : SF Z) {p1 p2 : Addr} {x1 : Int32} (hx1 : 0 ≤ x1.toInt ∧ x1.toInt ≤ 255) {x2 : Int32} (hx2 : 0 ≤ x2.toInt ∧ x2.toInt ≤ 255) {w_p2 : Bool} {ad_p2 : String} {F : List Ent} (mp2 : (p2, w_p2, ar ad_p2 .char [(vi x1), (vi x2)]) ∈ F) : Con Z EL (⟨"java/lang/String", "<init>", "([CIILjava/lang/Void;)V"⟩ : MethodName) jdk_42_method_149_code 6 (Option.none : Option Jvm.ClassFile.FieldType) (rmm 2 1 2 35) [(vr p1), (vr p2), (vi 0), (vi 2), .null] ((p1, true, oString .null (vi 0)) :: F) (fun v D' => (∃ a1 : Addr, v = none ∧ (a1, true, ar "[B" .byte [(vi x1.toInt8.toInt32), (vi x2.toInt8.toInt32)]) :: (p1, true, oString (vr a1) (vi 0)) :: F = D')) := by
  refine Con.of (ls := #[rv p1, rv p2, iv 0, iv 2, .val .null, uu]) (by decide +kernel) rfl ?_
  show W Z EL _ "java/lang/String" "<init>" _ _ _ _ _ _ _ _ _ _
  refine W.aloadN (pc := 0) d3_0 rfl rfl ?_
  refine W.initO (pc := 1) 0 d3_1 (w16 hw) (w17 hw) (w18 hw) rfl rfl (by decide) ?_
  refine W.iloadN (pc := 4) d3_4 rfl ?_
  refine W.ifY (pc := 5) 27 d3_5 (y_ne (by decide)) (by decide) ?_
  refine W.gets (pc := 27) d3_27 (w19 hw) Via.refl hs.1 ?_
  refine W.ifN (pc := 30) d3_30 (n_eq (by have := hs.2.1; have := q0; omega)) ?_
  refine W.aloadN (pc := 33) d3_33 rfl rfl ?_
  refine W.iloadN (pc := 34) d3_34 rfl ?_
  refine W.iloadN (pc := 35) d3_35 rfl ?_
  refine W.callS (pc := 36) (as := [(vr p2), (vi 0), (vi 2)]) 0 [] d3_36 (w20 hw) (w21 hw) (w22 hw) (w23 hw) (c9_compress hw hs (p1 := p2) (x1 := x1) (hx1 := hx1) (x2 := x2) (hx2 := hx2) (mp1 := (mS mp2))) (by decide) pd__CII__B rfl rfl rfl rfl (by decide) (fun v D' h => ?_)
  obtain ⟨a1, rfl, rfl⟩ := h
  show W _ _ _ _ _ _ _ _ _ _ _ _ 39 _ [(vr a1)]
  refine W.astore (pc := 39) (ls' := #[rv p1, rv p2, iv 0, iv 2, .val .null, rv a1]) d3_39 rfl rfl ?_
  refine W.aloadN (pc := 41) d3_41 rfl rfl ?_
  refine W.aload (pc := 42) 5 d3_42 rfl rfl ?_
  refine W.iloadN (pc := 44) d3_44 rfl ?_
  refine W.callS (pc := 45) (as := [(vr a1), (vi 2)]) 1 [(vr p1)] d3_45 (w28 hw) (w29 hw) (w22 hw) (w30 hw) (c11_coderFromArrayLen hw hs (p1 := a1) (x1 := x1.toInt8.toInt32) (hx1 := (by have := a_i2b x1; omega)) (x2 := x2.toInt8.toInt32) (hx2 := (by have := a_i2b x2; omega)) (mp1 := m0)) (by decide) pd__BI_B rfl rfl rfl rfl (by decide) (fun v D' h => ?_)
  obtain ⟨rfl, rfl⟩ := h
  show W _ _ _ _ _ _ _ _ _ _ _ _ 48 _ [(vi 0), (vr p1)]
  refine W.putf (pc := 48) (D' := (a1, true, ar "[B" .byte [(vi x1.toInt8.toInt32), (vi x2.toInt8.toInt32)]) :: (p1, true, oString .null (vi 0)) :: F) 1 1 d3_48 (w31 hw) Via.refl rfl rfl (Or.inr ⟨(w32 hw), rfl, rfl⟩) (w7 hw) pfB (nw_byte (by decide)) (ft_byte (by decide)) rfl ?_
  refine W.aloadN (pc := 51) d3_51 rfl rfl ?_
  refine W.aload (pc := 52) 5 d3_52 rfl rfl ?_
  refine W.putf (pc := 54) (D' := (a1, true, ar "[B" .byte [(vi x1.toInt8.toInt32), (vi x2.toInt8.toInt32)]) :: (p1, true, oString (vr a1) (vi 0)) :: F) 1 0 d3_54 (w33 hw) Via.refl rfl rfl (Or.inr ⟨(w34 hw), rfl, rfl⟩) (w7 hw) pf_B rfl rfl rfl ?_
  exact W.return_ (pc := 57) d3_57 rfl (by decide) ⟨a1, rfl, rfl⟩
theorem c7_init {Z a0} (hw : HW a0 Z) (hs : SF Z) {p1 p2 : Addr} {x1 : Int32} (hx1 : 0 ≤ x1.toInt ∧ x1.toInt ≤ 255) {x2 : Int32} (hx2 : 0 ≤ x2.toInt ∧ x2.toInt ≤ 255) {w_p2 : Bool} {ad_p2 : String} {F : List Ent} (mp2 : (p2, w_p2, ar ad_p2 .char [(vi x1), (vi x2)]) ∈ F) : Con Z EL (⟨"java/lang/String", "<init>", "([C)V"⟩ : MethodName) jdk_42_method_3_code 2 (Option.none : Option Jvm.ClassFile.FieldType) (rmm 3 1 2 52) [(vr p1), (vr p2)] ((p1, true, oString .null (vi 0)) :: F) (fun v D' => (∃ a1 : Addr, v = none ∧ (a1, true, ar "[B" .byte [(vi x1.toInt8.toInt32), (vi x2.toInt8.toInt32)]) :: (p1, true, oString (vr a1) (vi 0)) :: F = D')) := by
  refine Con.of (ls := #[rv p1, rv p2]) (by decide +kernel) rfl ?_
  show W Z EL _ "java/lang/String" "<init>" _ _ _ _ _ _ _ _ _ _
  refine W.aloadN (pc := 0) d2_0 rfl rfl ?_
  refine W.aloadN (pc := 1) d2_1 rfl rfl ?_
  refine W.iconst (pc := 2) (0) d2_2 (by decide) ?_
  refine W.aloadN (pc := 3) d2_3 rfl rfl ?_
  refine W.alen (pc := 4) (2) d2_4 (mS mp2) rfl ?_
  refine W.aconstNull (pc := 5) d2_5 ?_
  refine W.callI (pc := 6) (as := [(vr p2), (vi 0), (vi 2), .null]) 0 [] d2_6 rfl (w12 hw) (w13 hw) (w8 hw) (w15 hw) (c8_init hw hs (p1 := p1) (p2 := p2) (x1 := x1) (hx1 := hx1) (x2 := x2) (hx2 := hx2) (mp2 := mp2)) (by decide) pd__CIILjava_lang_Void__V rfl rfl rfl rfl (by decide) (fun v D' h => ?_)
  obtain ⟨a1, rfl, rfl⟩ := h
  show W _ _ _ _ _ _ _ _ _ _ _ _ 9 _ []
  exact W.return_ (pc := 9) d2_9 rfl (by decide) ⟨a1, rfl, rfl⟩
theorem d1_69 : decode method_3_code 69 = .ok (.areturn, 1) := by decide +kernel
theorem d1_20 : decode method_3_code 20 = .ok (.iconst 1, 1) := by decide +kernel
theorem d1_21 : decode method_3_code 21 = .ok (.newarray .char, 2) := by decide +kernel
theorem d1_23 : decode method_3_code 23 = .ok (.astore 4, 2) := by decide +kernel
theorem d1_25 : decode method_3_code 25 = .ok (.aload 4, 2) := by decide +kernel
theorem d1_27 : decode method_3_code 27 = .ok (.iconst 0, 1) := by decide +kernel
theorem d1_28 : decode method_3_code 28 = .ok (.iload_n 1, 1) := by decide +kernel
theorem d1_29 : decode method_3_code 29 = .ok (.castore, 1) := by decide +kernel
theorem d1_30 : decode method_3_code 30 = .ok (.new 31, 3) := by decide +kernel
theorem d1_33 : decode method_3_code 33 = .ok (.dup, 1) := by decide +kernel
theorem d1_34 : decode method_3_code 34 = .ok (.aload 4, 2) := by decide +kernel
theorem d1_36 : decode method_3_code 36 = .ok (.invokespecial 33, 3) := by decide +kernel
theorem c15_compress {Z a0} (hw : HW a0 Z) (hs : SF Z) {p1 p2 : Addr} {x1 : Int32} (hx1 : 0 ≤ x1.toInt ∧ x1.toInt ≤ 255) {ad_p2 : String} {w_p1 : Bool} {ad_p1 : String} {F : List Ent} (mp1 : (p1, w_p1, ar ad_p1 .char [(vi x1)]) ∈ F) : Con Z EL (⟨"java/lang/StringUTF16", "compress", "([CI[BII)I"⟩ : MethodName) jdk_52_method_21_code 7 (Option.some Jvm.ClassFile.FieldType.int) (rmm 0 0 0 0) [(vr p1), (vi 0), (vr p2), (vi 0), (vi 1)] ((p2, true, ar ad_p2 .byte [(vi 0)]) :: F) (fun v D' => (v = some (vi 1) ∧ (p2, true, ar ad_p2 .byte [(vi x1.toInt8.toInt32)]) :: F = D')) := by
  refine Con.of (ls := #[rv p1, iv 0, rv p2, iv 0, iv 1, uu, uu]) (by decide +kernel) rfl ?_
  show W Z EL _ "java/lang/StringUTF16" "compress" _ _ _ _ _ _ _ _ _ _
  refine W.iconst (pc := 0) (0) d6_0 (by decide) ?_
  refine W.istore (pc := 1) (ls' := #[rv p1, iv 0, rv p2, iv 0, iv 1, iv 0, uu]) d6_1 rfl ?_
  refine W.iload (pc := 3) d6_3 rfl ?_
  refine W.iload (pc := 5) d6_5 rfl ?_
  refine W.icmpN (pc := 7) d6_7 (n_ge (by decide)) ?_
  refine W.aloadN (pc := 10) d6_10 rfl rfl ?_
  refine W.iloadN (pc := 11) d6_11 rfl ?_
  refine W.caload (pc := 12) 0 d6_12 (mS mp1) ix0 rfl ?_
  refine W.istore (pc := 13) (ls' := #[rv p1, iv 0, rv p2, iv 0, iv 1, iv 0, iv x1]) d6_13 rfl ?_
  refine W.iload (pc := 15) d6_15 rfl ?_
  refine W.sipush (pc := 17) (255) d6_17 (by decide) ?_
  refine W.icmpY (pc := 20) 26 d6_20 (y_le (by have := q255; omega)) (by decide) ?_
  refine W.aloadN (pc := 26) d6_26 rfl rfl ?_
  refine W.iloadN (pc := 27) d6_27 rfl ?_
  refine W.iload (pc := 28) d6_28 rfl ?_
  refine W.i2b (pc := 30) d6_30 ?_
  refine W.bastore (pc := 31) (D' := (p2, true, ar ad_p2 .byte [(vi x1.toInt8.toInt32)]) :: F) 0 0 d6_31 rfl ix0 (Nat.le_of_ble_eq_true rfl) (z_narB (by have := a_i2b x1; omega)) rfl ?_
  refine W.iincK (pc := 32) (ls' := #[rv p1, iv 1, rv p2, iv 0, iv 1, iv 0, iv x1]) (1) (1 : Int32) d6_32 (by decide) rfl (by decide) rfl ?_
  refine W.iincK (pc := 35) (ls' := #[rv p1, iv 1, rv p2, iv 1, iv 1, iv 0, iv x1]) (1) (1 : Int32) d6_35 (by decide) rfl (by decide) rfl ?_
  refine W.iincK (pc := 38) (ls' := #[rv p1, iv 1, rv p2, iv 1, iv 1, iv 1, iv x1]) (1) (1 : Int32) d6_38 (by decide) rfl (by decide) rfl ?_
  refine W.goto (pc := 41) 3 d6_41 (by decide) ?_
  refine W.iload (pc := 3) d6_3 rfl ?_
  refine W.iload (pc := 5) d6_5 rfl ?_
  refine W.icmpY (pc := 7) 44 d6_7 (y_ge (by decide)) (by decide) ?_
  refine W.iload (pc := 44) d6_44 rfl ?_
  exact W.ireturn (pc := 46) d6_46 rfl (Or.inl rfl) rfl (by decide) ⟨rfl, rfl⟩
theorem c14_compress {Z a0} (hw : HW a0 Z) (hs : SF Z) {p1 : Addr} {x1 : Int32} (hx1 : 0 ≤ x1.toInt ∧ x1.toInt ≤ 255) {w_p1 : Bool} {ad_p1 : String} {F : List Ent} (mp1 : (p1, w_p1, ar ad_p1 .char [(vi x1)]) ∈ F) : Con Z EL (⟨"java/lang/StringUTF16", "compress", "([CII)[B"⟩ : MethodName) jdk_52_method_16_code 6 (Option.some (Jvm.ClassFile.FieldType.array Jvm.ClassFile.FieldType.byte)) (rmm 1 1 1 18) [(vr p1), (vi 0), (vi 1)] (F) (fun v D' => (∃ a1 : Addr, v = some (vr a1) ∧ (a1, true, ar "[B" .byte [(vi x1.toInt8.toInt32)]) :: F = D')) := by
  refine Con.of (ls := #[rv p1, iv 0, iv 1, uu, uu, uu]) (by decide +kernel) rfl ?_
  show W Z EL _ "java/lang/StringUTF16" "compress" _ _ _ _ _ _ _ _ _ _
  refine W.iloadN (pc := 0) d5_0 rfl ?_
  refine W.newarr (pc := 1) 1 (ad := "[B") (ty := .byte) d5_1 rfl (w24 hw) ix1 rfl (by decide) (by decide) (fun a1 => ?_)
  show W _ _ _ _ _ _ _ _ _ _ _ _ 3 _ [(vr a1)]
  refine W.astoreN (pc := 3) (ls' := #[rv p1, iv 0, iv 1, rv a1, uu, uu]) d5_3 rfl rfl ?_
  refine W.aloadN (pc := 4) d5_4 rfl rfl ?_
  refine W.iloadN (pc := 5) d5_5 rfl ?_
  refine W.aloadN (pc := 6) d5_6 rfl rfl ?_
  refine W.iconst (pc := 7) (0) d5_7 (by decide) ?_
  refine W.iloadN (pc := 8) d5_8 rfl ?_
  refine W.callS (pc := 9) (as := [(vr p1), (vi 0), (vr a1), (vi 0), (vi 1)]) 0 [] d5_9 (w25 hw) (w26 hw) (w22 hw) (w27 hw) (c15_compress hw hs (p1 := p1) (p2 := a1) (x1 := x1) (hx1 := hx1) (mp1 := mp1)) (by decide) pd__CI_BII_I rfl rfl rfl rfl (by decide) (fun v D' h => ?_)
  obtain ⟨rfl, rfl⟩ := h
  show W _ _ _ _ _ _ _ _ _ _ _ _ 12 _ [(vi 1)]
  refine W.istore (pc := 12) (ls' := #[rv p1, iv 0, iv 1, rv a1, iv 1, uu]) d5_12 rfl ?_
  refine W.iload (pc := 14) d5_14 rfl ?_
  refine W.iloadN (pc := 16) d5_16 rfl ?_
  refine W.icmpY (pc := 17) 57 d5_17 (y_eq (by decide)) (by decide) ?_
  refine W.aloadN (pc := 57) d5_57 rfl rfl ?_
  exact W.areturn (pc := 58) d5_58 rfl rfl rfl (by decide) ⟨a1, rfl, rfl⟩
theorem c16_coderFromArrayLen {Z a0} (hw : HW a0 Z) (hs : SF Z) {p1 : Addr} {x1 : Int32} (hx1 : -128 ≤ x1.toInt ∧ x1.toInt ≤ 127) {w_p1 : Bool} {ad_p1 : String} {F : List Ent} (mp1 : (p1, w_p1, ar ad_p1 .byte [(vi x1)]) ∈ F) : Con Z EL (⟨"java/lang/StringUTF16", "coderFromArrayLen", "([BI)B"⟩ : MethodName) jdk_52_method_15_code 2 (Option.some Jvm.ClassFile.FieldType.byte) (rmm 0 0 0 0) [(vr p1), (vi 1)] (F) (fun v D' => (v = some (vi 0) ∧ F = D')) := by
  refine Con.of (ls := #[rv p1, iv 1]) (by decide +kernel) rfl ?_
  show W Z EL _ "java/lang/StringUTF16" "coderFromArrayLen" _ _ _ _ _ _ _ _ _ _
  refine W.iloadN (pc := 0) d7_0 rfl ?_
  refine W.aloadN (pc := 1) d7_1 rfl rfl ?_
  refine W.alen (pc := 2) (1) d7_2 mp1 rfl ?_
  refine W.isubK (pc := 3) (0 : Int32) d7_3 (by decide) ?_
  refine W.bipush (pc := 4) (31) d7_4 (by decide) ?_
  refine W.iushrK (pc := 6) (0 : Int32) d7_6 (by decide) ?_
  refine W.i2bK (pc := 7) (0 : Int32) d7_7 (by decide) ?_
  exact W.ireturn (pc := 8) d7_8 rfl (Or.inr (Or.inr (Or.inl rfl))) (nw_byte (by decide)) (by decide) ⟨rfl, rfl⟩
theorem c13_init {Z a0} (hw : HW a0 Z) (hs : SF Z) {p1 p2 : Addr} {x1 : Int32} (hx1 : 0 ≤ x1.toInt ∧ x1.toInt ≤ 255) {w_p2 : Bool} {ad_p2 : String} {F : List Ent} (mp2 : (p2, w_p2, ar ad_p2 .char [(vi x1)]) ∈ F) : Con Z EL (⟨"java/lang/String", "<init>", "([CIILjava/lang/Void;)V"⟩ : MethodName) jdk_42_method_149_code 6 (Option.none : Option Jvm.ClassFile.FieldType) (rmm 2 1 1 35) [(vr p1), (vr p2), (vi 0), (vi 1), .null] ((p1, true, oString .null (vi 0)) :: F) (fun v D' => (∃ a1 : Addr, v = none ∧ (a1, true, ar "[B" .byte [(vi x1.toInt8.toInt32)]) :: (p1, true, oString (vr a1) (vi 0)) :: F = D')) := by
  refine Con.of (ls := #[rv p1, rv p2, iv 0, iv 1, .val .null, uu]) (by decide +kernel) rfl ?_
  show W Z EL _ "java/lang/String" "<init>" _ _ _ _ _ _ _ _ _ _
  refine W.aloadN (pc := 0) d3_0 rfl rfl ?_
  refine W.initO (pc := 1) 0 d3_1 (w16 hw) (w17 hw) (w18 hw) rfl rfl (by decide) ?_
  refine W.iloadN (pc := 4) d3_4 rfl ?_
  refine W.ifY (pc := 5) 27 d3_5 (y_ne (by decide)) (by decide) ?_
  refine W.gets (pc := 27) d3_27 (w19 hw) Via.refl hs.1 ?_
  refine W.ifN (pc := 30) d3_30 (n_eq (by have := hs.2.1; have := q0; omega)) ?_
  refine W.aloadN (pc := 33) d3_33 rfl rfl ?_
  refine W.iloadN (pc := 34) d3_34 rfl ?_
  refine W.iloadN (pc := 35) d3_35 rfl ?_
  refine W.callS (pc := 36) (as := [(vr p2), (vi 0), (vi 1)]) 0 [] d3_36 (w20 hw) (w21 hw) (w22 hw) (w23 hw) (c14_compress hw hs (p1 := p2) (x1 := x1) (hx1 := hx1) (mp1 := (mS mp2))) (by decide) pd__CII__B rfl rfl rfl rfl (by decide) (fun v D' h => ?_)
  obtain ⟨a1, rfl, rfl⟩ := h
  show W _ _ _ _ _ _ _ _ _ _ _ _ 39 _ [(vr a1)]
  refine W.astore (pc := 39) (ls' := #[rv p1, rv p2, iv 0, iv 1, .val .null, rv a1]) d3_39 rfl rfl ?_
  refine W.aloadN (pc := 41) d3_41 rfl rfl ?_
  refine W.aload (pc := 42) 5 d3_42 rfl rfl ?_
  refine W.iloadN (pc := 44) d3_44 rfl ?_
  refine W.callS (pc := 45) (as := [(vr a1), (vi 1)]) 1 [(vr p1)] d3_45 (w28 hw) (w29 hw) (w22 hw) (w30 hw) (c16_coderFromArrayLen hw hs (p1 := a1) (x1 := x1.toInt8.toInt32) (hx1 := (by have := a_i2b x1; omega)) (mp1 := m0)) (by decide) pd__BI_B rfl rfl rfl rfl (by decide) (fun v D' h => ?_)
  obtain ⟨rfl, rfl⟩ := h
  show W _ _ _ _ _ _ _ _ _ _ _ _ 48 _ [(vi 0), (vr p1)]
  refine W.putf (pc := 48) (D' := (a1, true, ar "[B" .byte [(vi x1.toInt8.toInt32)]) :: (p1, true, oString .null (vi 0)) :: F) 1 1 d3_48 (w31 hw) Via.refl rfl rfl (Or.inr ⟨(w32 hw), rfl, rfl⟩) (w7 hw) pfB (nw_byte (by decide)) (ft_byte (by decide)) rfl ?_
  refine W.aloadN (pc := 51) d3_51 rfl rfl ?_
  refine W.aload (pc := 52) 5 d3_52 rfl rfl ?_
  refine W.putf (pc := 54) (D' := (a1, true, ar "[B" .byte [(vi x1.toInt8.toInt32)]) :: (p1, true, oString (vr a1) (vi 0)) :: F) 1 0 d3_54 (w33 hw) Via.refl rfl rfl (Or.inr ⟨(w34 hw), rfl, rfl⟩) (w7 hw) pf_B rfl rfl rfl ?_
  exact W.return_ (pc := 57) d3_57 rfl (by decide) ⟨a1, rfl, rfl⟩
theorem c12_init {Z a0} (hw : HW a0 Z) (hs : SF Z) {p1 p2 : Addr} {x1 : Int32} (hx1 : 0 ≤ x1.toInt ∧ x1.toInt ≤ 255) {w_p2 : Bool} {ad_p2 : String} {F : List Ent} (mp2 : (p2, w_p2, ar ad_p2 .char [(vi x1)]) ∈ F) : Con Z EL (⟨"java/lang/String", "<init>", "([C)V"⟩ : MethodName) jdk_42_method_3_code 2 (Option.none : Option Jvm.ClassFile.FieldType) (rmm 3 1 1 52) [(vr p1), (vr p2)] ((p1, true, oString .null (vi 0)) :: F) (fun v D' => (∃ a1 : Addr, v = none ∧ (a1, true, ar "[B" .byte [(vi x1.toInt8.toInt32)]) :: (p1, true, oString (vr a1) (vi 0)) :: F = D')) := by
  refine Con.of (ls := #[rv p1, rv p2]) (by decide +kernel) rfl ?_
  show W Z EL _ "java/lang/String" "<init>" _ _ _ _ _ _ _ _ _ _
  refine W.aloadN (pc := 0) d2_0 rfl rfl ?_
  refine W.aloadN (pc := 1) d2_1 rfl rfl ?_
  refine W.iconst (pc := 2) (0) d2_2 (by decide) ?_
  refine W.aloadN (pc := 3) d2_3 rfl rfl ?_
  refine W.alen (pc := 4) (1) d2_4 (mS mp2) rfl ?_
  refine W.aconstNull (pc := 5) d2_5 ?_
  refine W.callI (pc := 6) (as := [(vr p2), (vi 0), (vi 1), .null]) 0 [] d2_6 rfl (w12 hw) (w13 hw) (w8 hw) (w15 hw) (c13_init hw hs (p1 := p1) (p2 := p2) (x1 := x1) (hx1 := hx1) (mp2 := mp2)) (by decide) pd__CIILjava_lang_Void__V rfl rfl rfl rfl (by decide) (fun v D' h => ?_)
  obtain ⟨a1, rfl, rfl⟩ := h
  show W _ _ _ _ _ _ _ _ _ _ _ _ 9 _ []
  exact W.return_ (pc := 9) d2_9 rfl (by decide) ⟨a1, rfl, rfl⟩
theorem d1_39 : decode method_3_code 39 = .ok (.areturn, 1) := by decide +kernel
theorem d1_4 : decode method_3_code 4 = .ok (.new 31, 3) := by decide +kernel
theorem d1_7 : decode method_3_code 7 = .ok (.dup, 1) := by decide +kernel
theorem d1_8 : decode method_3_code 8 = .ok (.iconst 0, 1) := by decide +kernel
theorem d1_9 : decode method_3_code 9 = .ok (.newarray .char, 2) := by decide +kernel
theorem d1_11 : decode method_3_code 11 = .ok (.invokespecial 33, 3) := by decide +kernel
theorem d3_8 : decode jdk_42_method_149_code 8 = .ok (.aload_n 0, 1) := by decide +kernel
theorem d3_9 : decode jdk_42_method_149_code 9 = .ok (.ldc 7, 2) := by decide +kernel
theorem w35 {Z a0} (hw : HW a0 Z) : ((Jvm.Cond.stringLink "java/lang/String" (7 : Nat) "") : Jvm.Cond).before a0 Z = true := hw _ (List.mem_of_getElem? (i := 35) rfl)
theorem tx_ : (∀ c ∈ ("" : String).toList, c.toNat < 256) ∧ ("" : String).toList.map (fun c => Value.int (Jvm.Lit.byteI c.toNat.toUInt16)) = [] := by decide
theorem w36 {Z a0} (hw : HW a0 Z) : ((Jvm.Cond.soleField "java/lang/String" "value") : Jvm.Cond).before a0 Z = true := hw _ (List.mem_of_getElem? (i := 36) rfl)
theorem w37 {Z a0} (hw : HW a0 Z) : ((Jvm.Cond.soleField "java/lang/String" "coder") : Jvm.Cond).before a0 Z = true := hw _ (List.mem_of_getElem? (i := 37) rfl)
theorem wS {Z a0} (hw : HW a0 Z) : ∀ a ∈ Bundle.stringAtoms, a.before a0 Z = true := wS_of (w8 hw) (w7 hw) (w24 hw) (w34 hw) (w32 hw) (w36 hw) (w37 hw)
theorem d3_11 : decode jdk_42_method_149_code 11 = .ok (.getfield 9, 3) := by decide +kernel
theorem d3_14 : decode jdk_42_method_149_code 14 = .ok (.putfield 9, 3) := by decide +kernel
theorem d3_17 : decode jdk_42_method_149_code 17 = .ok (.aload_n 0, 1) := by decide +kernel
theorem d3_18 : decode jdk_42_method_149_code 18 = .ok (.ldc 7, 2) := by decide +kernel
theorem d3_20 : decode jdk_42_method_149_code 20 = .ok (.getfield 15, 3) := by decide +kernel
theorem d3_23 : decode jdk_42_method_149_code 23 = .ok (.putfield 15, 3) := by decide +kernel
theorem d3_26 : decode jdk_42_method_149_code 26 = .ok (.return_, 1) := by decide +kernel
theorem c18_init {Z a0} (hw : HW a0 Z) (hs : SF Z) {p1 p2 : Addr} {F : List Ent} : Con Z EL (⟨"java/lang/String", "<init>", "([CIILjava/lang/Void;)V"⟩ : MethodName) jdk_42_method_149_code 6 (Option.none : Option Jvm.ClassFile.FieldType) (rmm 1 4 8 12) [(vr p1), (vr p2), (vi 0), (vi 0), .null] ((p1, true, oString .null (vi 0)) :: F) (fun v D' => (∃ a2 : Addr, v = none ∧ (a2, false, ar "" .byte []) :: (p1, true, oString (vr a2) (vi 0)) :: F = D')) := by
  refine Con.of (ls := #[rv p1, rv p2, iv 0, iv 0, .val .null, uu]) (by decide +kernel) rfl ?_
  show W Z EL _ "java/lang/String" "<init>" _ _ _ _ _ _ _ _ _ _
  refine W.aloadN (pc := 0) d3_0 rfl rfl ?_
  refine W.initO (pc := 1) 0 d3_1 (w16 hw) (w17 hw) (w18 hw) rfl rfl (by decide) ?_
  refine W.iloadN (pc := 4) d3_4 rfl ?_
  refine W.ifN (pc := 5) d3_5 (n_ne (by decide)) ?_
  refine W.aloadN (pc := 8) d3_8 rfl rfl ?_
  refine W.ldcT (pc := 9) 0 (vs := []) rfl d3_9 (w35 hw) (wS hw) m0 tx_ (by decide) (by decide) (by decide) (fun a1 a2 => ?_)
  show W _ _ _ _ _ _ _ _ _ _ _ _ 11 _ [(vr a1), (vr p1)]
  refine W.getf (pc := 11) d3_11 (w33 hw) Via.refl m0 m0 ?_
  refine W.putf (pc := 14) (D' := (a1, false, oString (vr a2) (vi 0)) :: (a2, false, ar "" .byte []) :: (p1, true, oString (vr a2) (vi 0)) :: F) 2 0 d3_14 (w33 hw) Via.refl rfl rfl (Or.inr ⟨(w34 hw), rfl, rfl⟩) (w7 hw) pf_B rfl rfl rfl ?_
  refine W.aloadN (pc := 17) d3_17 rfl rfl ?_
  refine W.ldcT (pc := 18) 0 (vs := []) rfl d3_18 (w35 hw) (wS hw) m0 tx_ (by decide) (by decide) (by decide) (fun a3 a4 => ?_)
  show W _ _ _ _ _ _ _ _ _ _ _ _ 20 _ [(vr a3), (vr p1)]
  refine W.getf (pc := 20) d3_20 (w31 hw) Via.refl m0 m1 ?_
  refine W.putf (pc := 23) (D' := (a3, false, oString (vr a4) (vi 0)) :: (a4, false, ar "" .byte []) :: (a1, false, oString (vr a2) (vi 0)) :: (a2, false, ar "" .byte []) :: (p1, true, oString (vr a2) (vi 0)) :: F) 4 1 d3_23 (w31 hw) Via.refl rfl rfl (Or.inr ⟨(w32 hw), rfl, rfl⟩) (w7 hw) pfB (nw_byte (by decide)) (ft_byte (by decide)) rfl ?_
  refine W.dropAt 0 (D' := (a4, false, ar "" .byte []) :: (a1, false, oString (vr a2) (vi 0)) :: (a2, false, ar "" .byte []) :: (p1, true, oString (vr a2) (vi 0)) :: F) rfl ?_
  refine W.dropAt 0 (D' := (a1, false, oString (vr a2) (vi 0)) :: (a2, false, ar "" .byte []) :: (p1, true, oString (vr a2) (vi 0)) :: F) rfl ?_
  refine W.dropAt 0 (D' := (a2, false, ar "" .byte []) :: (p1, true, oString (vr a2) (vi 0)) :: F) rfl ?_
  exact W.return_ (pc := 26) d3_26 rfl (by decide) ⟨a2, rfl, rfl⟩
theorem c17_init {Z a0} (hw : HW a0 Z) (hs : SF Z) {p1 p2 : Addr} {w_p2 : Bool} {ad_p2 : String} {F : List Ent} (mp2 : (p2, w_p2, ar ad_p2 .char []) ∈ F) : Con Z EL (⟨"java/lang/String", "<init>", "([C)V"⟩ : MethodName) jdk_42_method_3_code 2 (Option.none : Option Jvm.ClassFile.FieldType) (rmm 2 4 8 29) [(vr p1), (vr p2)] ((p1, true, oString .null (vi 0)) :: F) (fun v D' => (∃ a1 : Addr, v = none ∧ (a1, false, ar "" .byte []) :: (p1, true, oString (vr a1) (vi 0)) :: F = D')) := by
  refine Con.of (ls := #[rv p1, rv p2]) (by decide +kernel) rfl ?_
  show W Z EL _ "java/lang/String" "<init>" _ _ _ _ _ _ _ _ _ _
  refine W.aloadN (pc := 0) d2_0 rfl rfl ?_
  refine W.aloadN (pc := 1) d2_1 rfl rfl ?_
  refine W.iconst (pc := 2) (0) d2_2 (by decide) ?_
  refine W.aloadN (pc := 3) d2_3 rfl rfl ?_
  refine W.alen (pc := 4) (0) d2_4 (mS mp2) rfl ?_
  refine W.aconstNull (pc := 5) d2_5 ?_
  refine W.callI (pc := 6) (as := [(vr p2), (vi 0), (vi 0), .null]) 0 [] d2_6 rfl (w12 hw) (w13 hw) (w8 hw) (w15 hw) (c18_init hw hs (p1 := p1) (p2 := p2)) (by decide) pd__CIILjava_lang_Void__V rfl rfl rfl rfl (by decide) (fun v D' h => ?_)
  obtain ⟨a1, rfl, rfl⟩ := h
  show W _ _ _ _ _ _ _ _ _ _ _ _ 9 _ []
  exact W.return_ (pc := 9) d2_9 rfl (by decide) ⟨a1, rfl, rfl⟩
theorem d1_14 : decode method_3_code 14 = .ok (.areturn, 1) := by decide +kernel
theorem c1_mk {Z a0} (hw : HW a0 Z) (hs : SF Z) {x1 : Int32} (hx1 : 0 ≤ x1.toInt ∧ x1.toInt ≤ 127) {x2 : Int32} (hx2 : 0 ≤ x2.toInt ∧ x2.toInt ≤ 255) {x3 : Int32} (hx3 : 0 ≤ x3.toInt ∧ x3.toInt ≤ 255) {x4 : Int32} (hx4 : 0 ≤ x4.toInt ∧ x4.toInt ≤ 255) {F : List Ent} : Con Z EL (⟨"com/example/rochester/rochester/TokenIsSymbolPinLaw", "mk", "(ICCC)Ljava/lang/String;"⟩ : MethodName) method_3_code 5 (Option.some (Jvm.ClassFile.FieldType.object "java/lang/String")) (rmm 4 6 12 66) [(vi x1), (vi x2), (vi x3), (vi x4)] (F) (fun v D' => (∃ a2 a3 : Addr, Cd .ne x1 (0 : Int32) ∧ Cd .ne x1 (1 : Int32) ∧ Cd .ne x1 (2 : Int32) ∧ v = some (vr a2) ∧ (a3, true, ar "[B" .byte [(vi x2.toInt8.toInt32), (vi x3.toInt8.toInt32), (vi x4.toInt8.toInt32)]) :: (a2, true, oString (vr a3) (vi 0)) :: F = D') ∨ (∃ a5 a6 : Addr, Cd .ne x1 (0 : Int32) ∧ Cd .ne x1 (1 : Int32) ∧ ¬ Cd .ne x1 (2 : Int32) ∧ v = some (vr a5) ∧ (a6, true, ar "[B" .byte [(vi x2.toInt8.toInt32), (vi x3.toInt8.toInt32)]) :: (a5, true, oString (vr a6) (vi 0)) :: F = D') ∨ (∃ a8 a9 : Addr, Cd .ne x1 (0 : Int32) ∧ ¬ Cd .ne x1 (1 : Int32) ∧ v = some (vr a8) ∧ (a9, true, ar "[B" .byte [(vi x2.toInt8.toInt32)]) :: (a8, true, oString (vr a9) (vi 0)) :: F = D') ∨ (∃ a10 a12 : Addr, ¬ Cd .ne x1 (0 : Int32) ∧ v = some (vr a10) ∧ (a12, false, ar "" .byte []) :: (a10, true, oString (vr a12) (vi 0)) :: F = D')) := by
  refine Con.of (ls := #[iv x1, iv x2, iv x3, iv x4, uu]) (by decide +kernel) rfl ?_
  show W Z EL _ "com/example/rochester/rochester/TokenIsSymbolPinLaw" "mk" _ _ _ _ _ _ _ _ _ _
  refine W.iloadN (pc := 0) d1_0 rfl ?_
  refine W.if (pc := 1) 15 d1_1 (by decide) (fun h1 => ?_) (fun h1 => ?_)
  ·
   have ih1 := t_ne h1
   refine W.iloadN (pc := 15) d1_15 rfl ?_
   refine W.iconst (pc := 16) (1) d1_16 (by decide) ?_
   refine W.icmp (pc := 17) 40 d1_17 (by decide) (fun h2 => ?_) (fun h2 => ?_)
   ·
    have ih2 := t_ne h2
    refine W.iloadN (pc := 40) d1_40 rfl ?_
    refine W.iconst (pc := 41) (2) d1_41 (by decide) ?_
    refine W.icmp (pc := 42) 70 d1_42 (by decide) (fun h3 => ?_) (fun h3 => ?_)
    ·
     have ih3 := t_ne h3
     refine W.iconst (pc := 70) (3) d1_70 (by decide) ?_
     refine W.newarr (pc := 71) 3 (ad := "[C") (ty := .char) d1_71 rfl (w5 hw) ix3 rfl (by decide) (by decide) (fun a1 => ?_)
     show W _ _ _ _ _ _ _ _ _ _ _ _ 73 _ [(vr a1)]
     refine W.astore (pc := 73) (ls' := #[iv x1, iv x2, iv x3, iv x4, rv a1]) d1_73 rfl rfl ?_
     refine W.aload (pc := 75) 4 d1_75 rfl rfl ?_
     refine W.iconst (pc := 77) (0) d1_77 (by decide) ?_
     refine W.iloadN (pc := 78) d1_78 rfl ?_
     refine W.castore (pc := 79) (D' := (a1, true, ar "[C" .char [(vi x2), (vi 0), (vi 0)]) :: F) 0 0 d1_79 rfl ix0 (Nat.le_of_ble_eq_true rfl) (z_narC (by have := q0; have := q1; have := q2; omega)) rfl ?_
     refine W.aload (pc := 80) 4 d1_80 rfl rfl ?_
     refine W.iconst (pc := 82) (1) d1_82 (by decide) ?_
     refine W.iloadN (pc := 83) d1_83 rfl ?_
     refine W.castore (pc := 84) (D' := (a1, true, ar "[C" .char [(vi x2), (vi x3), (vi 0)]) :: F) 0 1 d1_84 rfl ix1 (Nat.le_of_ble_eq_true rfl) (z_narC (by have := q0; have := q1; have := q2; omega)) rfl ?_
     refine W.aload (pc := 85) 4 d1_85 rfl rfl ?_
     refine W.iconst (pc := 87) (2) d1_87 (by decide) ?_
     refine W.iloadN (pc := 88) d1_88 rfl ?_
     refine W.castore (pc := 89) (D' := (a1, true, ar "[C" .char [(vi x2), (vi x3), (vi x4)]) :: F) 0 2 d1_89 rfl ix2 (Nat.le_of_ble_eq_true rfl) (z_narC (by have := q0; have := q1; have := q2; omega)) rfl ?_
     refine W.new (pc := 90) d1_90 (w6 hw) (w7 hw) (w8 hw) (laString hw) (by decide) (by decide) (fun a2 => ?_)
     show W _ _ _ _ _ _ _ _ _ _ _ _ 93 _ [(vr a2)]
     refine W.dup (pc := 93) d1_93 rfl ?_
     refine W.aload (pc := 94) 4 d1_94 rfl rfl ?_
     refine W.callI (pc := 96) (as := [(vr a1)]) 1 [(vr a2)] d1_96 rfl (w9 hw) (w10 hw) (w8 hw) (w11 hw) (c2_init hw hs (p1 := a2) (p2 := a1) (x1 := x2) (hx1 := hx2) (x2 := x3) (hx2 := hx3) (x3 := x4) (hx3 := hx4) (mp2 := m0)) (by decide) pd__C_V rfl rfl rfl rfl (by decide) (fun v D' h => ?_)
     obtain ⟨a3, rfl, rfl⟩ := h
     show W _ _ _ _ _ _ _ _ _ _ _ _ 99 _ [(vr a2)]
     refine W.dropAt 2 (D' := (a3, true, ar "[B" .byte [(vi x2.toInt8.toInt32), (vi x3.toInt8.toInt32), (vi x4.toInt8.toInt32)]) :: (a2, true, oString (vr a3) (vi 0)) :: F) rfl ?_
     exact W.areturn (pc := 99) d1_99 rfl rfl rfl (by decide) (Or.inl ⟨a2, a3, h1, h2, h3, rfl, rfl⟩)
    ·
     have ih3 := f_ne h3
     refine W.iconst (pc := 45) (2) d1_45 (by decide) ?_
     refine W.newarr (pc := 46) 2 (ad := "[C") (ty := .char) d1_46 rfl (w5 hw) ix2 rfl (by decide) (by decide) (fun a4 => ?_)
     show W _ _ _ _ _ _ _ _ _ _ _ _ 48 _ [(vr a4)]
     refine W.astore (pc := 48) (ls' := #[iv x1, iv x2, iv x3, iv x4, rv a4]) d1_48 rfl rfl ?_
     refine W.aload (pc := 50) 4 d1_50 rfl rfl ?_
     refine W.iconst (pc := 52) (0) d1_52 (by decide) ?_
     refine W.iloadN (pc := 53) d1_53 rfl ?_
     refine W.castore (pc := 54) (D' := (a4, true, ar "[C" .char [(vi x2), (vi 0)]) :: F) 0 0 d1_54 rfl ix0 (Nat.le_of_ble_eq_true rfl) (z_narC (by have := q0; have := q1; have := q2; omega)) rfl ?_
     refine W.aload (pc := 55) 4 d1_55 rfl rfl ?_
     refine W.iconst (pc := 57) (1) d1_57 (by decide) ?_
     refine W.iloadN (pc := 58) d1_58 rfl ?_
     refine W.castore (pc := 59) (D' := (a4, true, ar "[C" .char [(vi x2), (vi x3)]) :: F) 0 1 d1_59 rfl ix1 (Nat.le_of_ble_eq_true rfl) (z_narC (by have := q0; have := q1; have := q2; omega)) rfl ?_
     refine W.new (pc := 60) d1_60 (w6 hw) (w7 hw) (w8 hw) (laString hw) (by decide) (by decide) (fun a5 => ?_)
     show W _ _ _ _ _ _ _ _ _ _ _ _ 63 _ [(vr a5)]
     refine W.dup (pc := 63) d1_63 rfl ?_
     refine W.aload (pc := 64) 4 d1_64 rfl rfl ?_
     refine W.callI (pc := 66) (as := [(vr a4)]) 1 [(vr a5)] d1_66 rfl (w9 hw) (w10 hw) (w8 hw) (w11 hw) (c7_init hw hs (p1 := a5) (p2 := a4) (x1 := x2) (hx1 := hx2) (x2 := x3) (hx2 := hx3) (mp2 := m0)) (by decide) pd__C_V rfl rfl rfl rfl (by decide) (fun v D' h => ?_)
     obtain ⟨a6, rfl, rfl⟩ := h
     show W _ _ _ _ _ _ _ _ _ _ _ _ 69 _ [(vr a5)]
     refine W.dropAt 2 (D' := (a6, true, ar "[B" .byte [(vi x2.toInt8.toInt32), (vi x3.toInt8.toInt32)]) :: (a5, true, oString (vr a6) (vi 0)) :: F) rfl ?_
     exact W.areturn (pc := 69) d1_69 rfl rfl rfl (by decide) (Or.inr (Or.inl ⟨a5, a6, h1, h2, h3, rfl, rfl⟩))
   ·
    have ih2 := f_ne h2
    refine W.iconst (pc := 20) (1) d1_20 (by decide) ?_
    refine W.newarr (pc := 21) 1 (ad := "[C") (ty := .char) d1_21 rfl (w5 hw) ix1 rfl (by decide) (by decide) (fun a7 => ?_)
    show W _ _ _ _ _ _ _ _ _ _ _ _ 23 _ [(vr a7)]
    refine W.astore (pc := 23) (ls' := #[iv x1, iv x2, iv x3, iv x4, rv a7]) d1_23 rfl rfl ?_
    refine W.aload (pc := 25) 4 d1_25 rfl rfl ?_
    refine W.iconst (pc := 27) (0) d1_27 (by decide) ?_
    refine W.iloadN (pc := 28) d1_28 rfl ?_
    refine W.castore (pc := 29) (D' := (a7, true, ar "[C" .char [(vi x2)]) :: F) 0 0 d1_29 rfl ix0 (Nat.le_of_ble_eq_true rfl) (z_narC (by have := q0; have := q1; omega)) rfl ?_
    refine W.new (pc := 30) d1_30 (w6 hw) (w7 hw) (w8 hw) (laString hw) (by decide) (by decide) (fun a8 => ?_)
    show W _ _ _ _ _ _ _ _ _ _ _ _ 33 _ [(vr a8)]
    refine W.dup (pc := 33) d1_33 rfl ?_
    refine W.aload (pc := 34) 4 d1_34 rfl rfl ?_
    refine W.callI (pc := 36) (as := [(vr a7)]) 1 [(vr a8)] d1_36 rfl (w9 hw) (w10 hw) (w8 hw) (w11 hw) (c12_init hw hs (p1 := a8) (p2 := a7) (x1 := x2) (hx1 := hx2) (mp2 := m0)) (by decide) pd__C_V rfl rfl rfl rfl (by decide) (fun v D' h => ?_)
    obtain ⟨a9, rfl, rfl⟩ := h
    show W _ _ _ _ _ _ _ _ _ _ _ _ 39 _ [(vr a8)]
    refine W.dropAt 2 (D' := (a9, true, ar "[B" .byte [(vi x2.toInt8.toInt32)]) :: (a8, true, oString (vr a9) (vi 0)) :: F) rfl ?_
    exact W.areturn (pc := 39) d1_39 rfl rfl rfl (by decide) (Or.inr (Or.inr (Or.inl ⟨a8, a9, h1, h2, rfl, rfl⟩)))
  ·
   have ih1 := f_ne h1
   refine W.new (pc := 4) d1_4 (w6 hw) (w7 hw) (w8 hw) (laString hw) (by decide) (by decide) (fun a10 => ?_)
   show W _ _ _ _ _ _ _ _ _ _ _ _ 7 _ [(vr a10)]
   refine W.dup (pc := 7) d1_7 rfl ?_
   refine W.iconst (pc := 8) (0) d1_8 (by decide) ?_
   refine W.newarr (pc := 9) 0 (ad := "[C") (ty := .char) d1_9 rfl (w5 hw) ix0 rfl (by decide) (by decide) (fun a11 => ?_)
   show W _ _ _ _ _ _ _ _ _ _ _ _ 11 _ [(vr a11), (vr a10), (vr a10)]
   refine W.front 1 (D' := (a10, true, oString .null (vi 0)) :: (a11, true, ar "[C" .char []) :: F) rfl rfl ?_
   refine W.callI (pc := 11) (as := [(vr a11)]) 1 [(vr a10)] d1_11 rfl (w9 hw) (w10 hw) (w8 hw) (w11 hw) (c17_init hw hs (p1 := a10) (p2 := a11) (mp2 := m0)) (by decide) pd__C_V rfl rfl rfl rfl (by decide) (fun v D' h => ?_)
   obtain ⟨a12, rfl, rfl⟩ := h
   show W _ _ _ _ _ _ _ _ _ _ _ _ 14 _ [(vr a10)]
   refine W.dropAt 2 (D' := (a12, false, ar "" .byte []) :: (a10, true, oString (vr a12) (vi 0)) :: F) rfl ?_
   exact W.areturn (pc := 14) d1_14 rfl rfl rfl (by decide) (Or.inr (Or.inr (Or.inr ⟨a10, a12, h1, rfl, rfl⟩)))
theorem pd_ICCC_Ljava_lang_String_ : parseMethodDescriptor "(ICCC)Ljava/lang/String;" = some ⟨[.int, .char, .char, .char], some (.object "java/lang/String")⟩ := by decide +kernel
theorem w1 {Z a0} (hw : HW a0 Z) : ((Jvm.Cond.methodLink "com/example/rochester/rochester/TokenIsSymbolPinLaw" (37 : Nat) ({ cls := "com/example/rochester/rochester/TokenIsSymbolPinLaw", name := "mk", desc := "(ICCC)Ljava/lang/String;" } : Jvm.MethodName)) : Jvm.Cond).before a0 Z = true := hw _ (List.mem_of_getElem? (i := 1) rfl)
theorem w2 {Z a0} (hw : HW a0 Z) : ((Jvm.Cond.static ({ cls := "com/example/rochester/rochester/TokenIsSymbolPinLaw", name := "mk", desc := "(ICCC)Ljava/lang/String;" } : Jvm.MethodName)) : Jvm.Cond).before a0 Z = true := hw _ (List.mem_of_getElem? (i := 2) rfl)
theorem w3 {Z a0} (hw : HW a0 Z) : ((Jvm.Cond.initialized "com/example/rochester/rochester/TokenIsSymbolPinLaw") : Jvm.Cond).before a0 Z = true := hw _ (List.mem_of_getElem? (i := 3) rfl)
theorem w4 {Z a0} (hw : HW a0 Z) : ((Jvm.Cond.code ({ cls := "com/example/rochester/rochester/TokenIsSymbolPinLaw", name := "mk", desc := "(ICCC)Ljava/lang/String;" } : Jvm.MethodName) method_3_code (5 : Nat) (Option.some (Jvm.ClassFile.FieldType.object "java/lang/String"))) : Jvm.Cond).before a0 Z = true := hw _ (List.mem_of_getElem? (i := 4) rfl)
theorem w57 {Z a0} (hw : HW a0 Z) : ((Jvm.Cond.laysFinal "com/example/rochester/rochester/JdqlLexer$Token" "com/example/rochester/rochester/JdqlLexer$Token" "kind" "Lcom/example/rochester/rochester/JdqlLexer$Kind;") : Jvm.Cond).before a0 Z = true := hw _ (List.mem_of_getElem? (i := 57) rfl)
theorem w59 {Z a0} (hw : HW a0 Z) : ((Jvm.Cond.laysFinal "com/example/rochester/rochester/JdqlLexer$Token" "com/example/rochester/rochester/JdqlLexer$Token" "text" "Ljava/lang/String;") : Jvm.Cond).before a0 Z = true := hw _ (List.mem_of_getElem? (i := 59) rfl)
theorem w61 {Z a0} (hw : HW a0 Z) : ((Jvm.Cond.laysFinal "com/example/rochester/rochester/JdqlLexer$Token" "com/example/rochester/rochester/JdqlLexer$Token" "start" "I") : Jvm.Cond).before a0 Z = true := hw _ (List.mem_of_getElem? (i := 61) rfl)
theorem w63 {Z a0} (hw : HW a0 Z) : ((Jvm.Cond.laysFinal "com/example/rochester/rochester/JdqlLexer$Token" "com/example/rochester/rochester/JdqlLexer$Token" "end" "I") : Jvm.Cond).before a0 Z = true := hw _ (List.mem_of_getElem? (i := 63) rfl)
theorem laJdqlLexer_Token {Z a0} (hw : HW a0 Z) : LaidAll Z a0 "com/example/rochester/rochester/JdqlLexer$Token" [("com/example/rochester/rochester/JdqlLexer$Token", "kind", "Lcom/example/rochester/rochester/JdqlLexer$Kind;", .null), ("com/example/rochester/rochester/JdqlLexer$Token", "text", "Ljava/lang/String;", .null), ("com/example/rochester/rochester/JdqlLexer$Token", "start", "I", (vi 0)), ("com/example/rochester/rochester/JdqlLexer$Token", "end", "I", (vi 0))] := ⟨⟨Or.inr (w57 hw), (.object "com/example/rochester/rochester/JdqlLexer$Kind"), by decide, rfl⟩, ⟨⟨Or.inr (w59 hw), (.object "java/lang/String"), by decide, rfl⟩, ⟨⟨Or.inr (w61 hw), .int, by decide, rfl⟩, ⟨⟨Or.inr (w63 hw), .int, by decide, rfl⟩, trivial⟩⟩⟩⟩
theorem w38 {Z a0} (hw : HW a0 Z) : ((Jvm.Cond.classLink "com/example/rochester/rochester/TokenIsSymbolPinLaw" (43 : Nat) "com/example/rochester/rochester/JdqlLexer$Token") : Jvm.Cond).before a0 Z = true := hw _ (List.mem_of_getElem? (i := 38) rfl)
theorem w39 {Z a0} (hw : HW a0 Z) : ((Jvm.Cond.instantiable "com/example/rochester/rochester/JdqlLexer$Token" (4 : Nat)) : Jvm.Cond).before a0 Z = true := hw _ (List.mem_of_getElem? (i := 39) rfl)
theorem w40 {Z a0} (hw : HW a0 Z) : ((Jvm.Cond.initialized "com/example/rochester/rochester/JdqlLexer$Token") : Jvm.Cond).before a0 Z = true := hw _ (List.mem_of_getElem? (i := 40) rfl)
theorem d8_0 : decode method_2_code 0 = .ok (.iload_n 0, 1) := by decide +kernel
theorem d8_1 : decode method_2_code 1 = .ok (.ifCond .ne 7, 3) := by decide +kernel
theorem d8_8 : decode method_2_code 8 = .ok (.iload_n 0, 1) := by decide +kernel
theorem d8_9 : decode method_2_code 9 = .ok (.iconst 1, 1) := by decide +kernel
theorem d8_10 : decode method_2_code 10 = .ok (.if_icmp .ne 7, 3) := by decide +kernel
theorem d8_17 : decode method_2_code 17 = .ok (.iload_n 0, 1) := by decide +kernel
theorem d8_18 : decode method_2_code 18 = .ok (.iconst 2, 1) := by decide +kernel
theorem d8_19 : decode method_2_code 19 = .ok (.if_icmp .ne 7, 3) := by decide +kernel
theorem d8_26 : decode method_2_code 26 = .ok (.iload_n 0, 1) := by decide +kernel
theorem d8_27 : decode method_2_code 27 = .ok (.iconst 3, 1) := by decide +kernel
theorem d8_28 : decode method_2_code 28 = .ok (.if_icmp .ne 7, 3) := by decide +kernel
theorem d8_35 : decode method_2_code 35 = .ok (.iload_n 0, 1) := by decide +kernel
theorem d8_36 : decode method_2_code 36 = .ok (.iconst 4, 1) := by decide +kernel
theorem d8_37 : decode method_2_code 37 = .ok (.if_icmp .ne 7, 3) := by decide +kernel
theorem d8_44 : decode method_2_code 44 = .ok (.iload_n 0, 1) := by decide +kernel
theorem d8_45 : decode method_2_code 45 = .ok (.iconst 5, 1) := by decide +kernel
theorem d8_46 : decode method_2_code 46 = .ok (.if_icmp .ne 7, 3) := by decide +kernel
theorem d8_53 : decode method_2_code 53 = .ok (.getstatic 28, 3) := by decide +kernel
theorem w79 {Z a0} (hw : HW a0 Z) : ((Jvm.Cond.fieldLink "com/example/rochester/rochester/TokenIsSymbolPinLaw" (28 : Nat) "com/example/rochester/rochester/JdqlLexer$Kind" "END" "Lcom/example/rochester/rochester/JdqlLexer$Kind;") : Jvm.Cond).before a0 Z = true := hw _ (List.mem_of_getElem? (i := 79) rfl)
theorem d8_56 : decode method_2_code 56 = .ok (.areturn, 1) := by decide +kernel
theorem d8_49 : decode method_2_code 49 = .ok (.getstatic 25, 3) := by decide +kernel
theorem w81 {Z a0} (hw : HW a0 Z) : ((Jvm.Cond.fieldLink "com/example/rochester/rochester/TokenIsSymbolPinLaw" (25 : Nat) "com/example/rochester/rochester/JdqlLexer$Kind" "SYMBOL" "Lcom/example/rochester/rochester/JdqlLexer$Kind;") : Jvm.Cond).before a0 Z = true := hw _ (List.mem_of_getElem? (i := 81) rfl)
theorem d8_52 : decode method_2_code 52 = .ok (.areturn, 1) := by decide +kernel
theorem d8_40 : decode method_2_code 40 = .ok (.getstatic 22, 3) := by decide +kernel
theorem w71 {Z a0} (hw : HW a0 Z) : ((Jvm.Cond.fieldLink "com/example/rochester/rochester/TokenIsSymbolPinLaw" (22 : Nat) "com/example/rochester/rochester/JdqlLexer$Kind" "PARAMETER" "Lcom/example/rochester/rochester/JdqlLexer$Kind;") : Jvm.Cond).before a0 Z = true := hw _ (List.mem_of_getElem? (i := 71) rfl)
theorem d8_43 : decode method_2_code 43 = .ok (.areturn, 1) := by decide +kernel
theorem d8_31 : decode method_2_code 31 = .ok (.getstatic 19, 3) := by decide +kernel
theorem w77 {Z a0} (hw : HW a0 Z) : ((Jvm.Cond.fieldLink "com/example/rochester/rochester/TokenIsSymbolPinLaw" (19 : Nat) "com/example/rochester/rochester/JdqlLexer$Kind" "DECIMAL" "Lcom/example/rochester/rochester/JdqlLexer$Kind;") : Jvm.Cond).before a0 Z = true := hw _ (List.mem_of_getElem? (i := 77) rfl)
theorem d8_34 : decode method_2_code 34 = .ok (.areturn, 1) := by decide +kernel
theorem d8_22 : decode method_2_code 22 = .ok (.getstatic 16, 3) := by decide +kernel
theorem w73 {Z a0} (hw : HW a0 Z) : ((Jvm.Cond.fieldLink "com/example/rochester/rochester/TokenIsSymbolPinLaw" (16 : Nat) "com/example/rochester/rochester/JdqlLexer$Kind" "INTEGER" "Lcom/example/rochester/rochester/JdqlLexer$Kind;") : Jvm.Cond).before a0 Z = true := hw _ (List.mem_of_getElem? (i := 73) rfl)
theorem d8_25 : decode method_2_code 25 = .ok (.areturn, 1) := by decide +kernel
theorem d8_13 : decode method_2_code 13 = .ok (.getstatic 13, 3) := by decide +kernel
theorem w75 {Z a0} (hw : HW a0 Z) : ((Jvm.Cond.fieldLink "com/example/rochester/rochester/TokenIsSymbolPinLaw" (13 : Nat) "com/example/rochester/rochester/JdqlLexer$Kind" "STRING" "Lcom/example/rochester/rochester/JdqlLexer$Kind;") : Jvm.Cond).before a0 Z = true := hw _ (List.mem_of_getElem? (i := 75) rfl)
theorem d8_16 : decode method_2_code 16 = .ok (.areturn, 1) := by decide +kernel
theorem d8_4 : decode method_2_code 4 = .ok (.getstatic 7, 3) := by decide +kernel
theorem w44 {Z a0} (hw : HW a0 Z) : ((Jvm.Cond.fieldLink "com/example/rochester/rochester/TokenIsSymbolPinLaw" (7 : Nat) "com/example/rochester/rochester/JdqlLexer$Kind" "WORD" "Lcom/example/rochester/rochester/JdqlLexer$Kind;") : Jvm.Cond).before a0 Z = true := hw _ (List.mem_of_getElem? (i := 44) rfl)
theorem d8_7 : decode method_2_code 7 = .ok (.areturn, 1) := by decide +kernel
theorem c19_kindOf {Z a0} (hw : HW a0 Z) (hs : SF Z) {x1 : Int32} (hx1 : 0 ≤ x1.toInt ∧ x1.toInt ≤ 127) {F : List Ent} : Con Z EL (⟨"com/example/rochester/rochester/TokenIsSymbolPinLaw", "kindOf", "(I)Lcom/example/rochester/rochester/JdqlLexer$Kind;"⟩ : MethodName) method_2_code 1 (Option.some (Jvm.ClassFile.FieldType.object "com/example/rochester/rochester/JdqlLexer$Kind")) (rmm 0 0 0 0) [(vi x1)] (F) (fun v D' => (Cd .ne x1 (0 : Int32) ∧ Cd .ne x1 (1 : Int32) ∧ Cd .ne x1 (2 : Int32) ∧ Cd .ne x1 (3 : Int32) ∧ Cd .ne x1 (4 : Int32) ∧ Cd .ne x1 (5 : Int32) ∧ v = some (vr (kEND Z)) ∧ F = D') ∨ (Cd .ne x1 (0 : Int32) ∧ Cd .ne x1 (1 : Int32) ∧ Cd .ne x1 (2 : Int32) ∧ Cd .ne x1 (3 : Int32) ∧ Cd .ne x1 (4 : Int32) ∧ ¬ Cd .ne x1 (5 : Int32) ∧ v = some (vr (kSYMBOL Z)) ∧ F = D') ∨ (Cd .ne x1 (0 : Int32) ∧ Cd .ne x1 (1 : Int32) ∧ Cd .ne x1 (2 : Int32) ∧ Cd .ne x1 (3 : Int32) ∧ ¬ Cd .ne x1 (4 : Int32) ∧ v = some (vr (kPARAMETER Z)) ∧ F = D') ∨ (Cd .ne x1 (0 : Int32) ∧ Cd .ne x1 (1 : Int32) ∧ Cd .ne x1 (2 : Int32) ∧ ¬ Cd .ne x1 (3 : Int32) ∧ v = some (vr (kDECIMAL Z)) ∧ F = D') ∨ (Cd .ne x1 (0 : Int32) ∧ Cd .ne x1 (1 : Int32) ∧ ¬ Cd .ne x1 (2 : Int32) ∧ v = some (vr (kINTEGER Z)) ∧ F = D') ∨ (Cd .ne x1 (0 : Int32) ∧ ¬ Cd .ne x1 (1 : Int32) ∧ v = some (vr (kSTRING Z)) ∧ F = D') ∨ (¬ Cd .ne x1 (0 : Int32) ∧ v = some (vr (kWORD Z)) ∧ F = D')) := by
  refine Con.of (ls := #[iv x1]) (by decide +kernel) rfl ?_
  show W Z EL _ "com/example/rochester/rochester/TokenIsSymbolPinLaw" "kindOf" _ _ _ _ _ _ _ _ _ _
  refine W.iloadN (pc := 0) d8_0 rfl ?_
  refine W.if (pc := 1) 8 d8_1 (by decide) (fun h1 => ?_) (fun h1 => ?_)
  ·
   have ih1 := t_ne h1
   refine W.iloadN (pc := 8) d8_8 rfl ?_
   refine W.iconst (pc := 9) (1) d8_9 (by decide) ?_
   refine W.icmp (pc := 10) 17 d8_10 (by decide) (fun h2 => ?_) (fun h2 => ?_)
   ·
    have ih2 := t_ne h2
    refine W.iloadN (pc := 17) d8_17 rfl ?_
    refine W.iconst (pc := 18) (2) d8_18 (by decide) ?_
    refine W.icmp (pc := 19) 26 d8_19 (by decide) (fun h3 => ?_) (fun h3 => ?_)
    ·
     have ih3 := t_ne h3
     refine W.iloadN (pc := 26) d8_26 rfl ?_
     refine W.iconst (pc := 27) (3) d8_27 (by decide) ?_
     refine W.icmp (pc := 28) 35 d8_28 (by decide) (fun h4 => ?_) (fun h4 => ?_)
     ·
      have ih4 := t_ne h4
      refine W.iloadN (pc := 35) d8_35 rfl ?_
      refine W.iconst (pc := 36) (4) d8_36 (by decide) ?_
      refine W.icmp (pc := 37) 44 d8_37 (by decide) (fun h5 => ?_) (fun h5 => ?_)
      ·
       have ih5 := t_ne h5
       refine W.iloadN (pc := 44) d8_44 rfl ?_
       refine W.iconst (pc := 45) (5) d8_45 (by decide) ?_
       refine W.icmp (pc := 46) 53 d8_46 (by decide) (fun h6 => ?_) (fun h6 => ?_)
       ·
        have ih6 := t_ne h6
        refine W.gets (pc := 53) d8_53 (w79 hw) Via.refl hs.2.2.2.2.2.2.2.2.1 ?_
        exact W.areturn (pc := 56) d8_56 rfl rfl rfl (by decide) (Or.inl ⟨h1, h2, h3, h4, h5, h6, rfl, rfl⟩)
       ·
        have ih6 := f_ne h6
        refine W.gets (pc := 49) d8_49 (w81 hw) Via.refl hs.2.2.2.2.2.2.2.1 ?_
        exact W.areturn (pc := 52) d8_52 rfl rfl rfl (by decide) (Or.inr (Or.inl ⟨h1, h2, h3, h4, h5, h6, rfl, rfl⟩))
      ·
       have ih5 := f_ne h5
       refine W.gets (pc := 40) d8_40 (w71 hw) Via.refl hs.2.2.2.2.2.2.1 ?_
       exact W.areturn (pc := 43) d8_43 rfl rfl rfl (by decide) (Or.inr (Or.inr (Or.inl ⟨h1, h2, h3, h4, h5, rfl, rfl⟩)))
     ·
      have ih4 := f_ne h4
      refine W.gets (pc := 31) d8_31 (w77 hw) Via.refl hs.2.2.2.2.2.1 ?_
      exact W.areturn (pc := 34) d8_34 rfl rfl rfl (by decide) (Or.inr (Or.inr (Or.inr (Or.inl ⟨h1, h2, h3, h4, rfl, rfl⟩))))
    ·
     have ih3 := f_ne h3
     refine W.gets (pc := 22) d8_22 (w73 hw) Via.refl hs.2.2.2.2.1 ?_
     exact W.areturn (pc := 25) d8_25 rfl rfl rfl (by decide) (Or.inr (Or.inr (Or.inr (Or.inr (Or.inl ⟨h1, h2, h3, rfl, rfl⟩)))))
   ·
    have ih2 := f_ne h2
    refine W.gets (pc := 13) d8_13 (w75 hw) Via.refl hs.2.2.2.1 ?_
    exact W.areturn (pc := 16) d8_16 rfl rfl rfl (by decide) (Or.inr (Or.inr (Or.inr (Or.inr (Or.inr (Or.inl ⟨h1, h2, rfl, rfl⟩))))))
  ·
   have ih1 := f_ne h1
   refine W.gets (pc := 4) d8_4 (w44 hw) Via.refl hs.2.2.1 ?_
   exact W.areturn (pc := 7) d8_7 rfl rfl rfl (by decide) (Or.inr (Or.inr (Or.inr (Or.inr (Or.inr (Or.inr ⟨h1, rfl, rfl⟩))))))
theorem q3 : (3 : Int32).toInt = 3 := by decide
theorem q4 : (4 : Int32).toInt = 4 := by decide
theorem c19_kindOfm {Z a0} (hw : HW a0 Z) (hs : SF Z) {x1 : Int32} (hx1 : 0 ≤ x1.toInt ∧ x1.toInt ≤ 127) {F : List Ent} : Con Z EL (⟨"com/example/rochester/rochester/TokenIsSymbolPinLaw", "kindOf", "(I)Lcom/example/rochester/rochester/JdqlLexer$Kind;"⟩ : MethodName) method_2_code 1 (Option.some (Jvm.ClassFile.FieldType.object "com/example/rochester/rochester/JdqlLexer$Kind")) (rmm 0 0 0 0) [(vi x1)] (F) (fun v D' => (Cd .eq x1 (5 : Int32) ∧ v = some (.ref (kSYMBOL Z)) ∧ F = D') ∨ (∃ r : Addr, r ≠ (kSYMBOL Z) ∧ ¬ Cd .eq x1 (5 : Int32) ∧ v = some (.ref r) ∧ F = D')) := Con.mono (c19_kindOf hw hs (x1 := x1) (hx1 := hx1)) (fun v D' h => by
  rcases h with ⟨h0, h1, h2, h3, h4, h5, rfl, rfl⟩ | ⟨h0, h1, h2, h3, h4, h5, rfl, rfl⟩ | ⟨h0, h1, h2, h3, h4, rfl, rfl⟩ | ⟨h0, h1, h2, h3, rfl, rfl⟩ | ⟨h0, h1, h2, rfl, rfl⟩ | ⟨h0, h1, rfl, rfl⟩ | ⟨h0, rfl, rfl⟩
  · exact Or.inr ⟨_, hs.2.2.2.2.2.2.2.2.2.1, n_eq (by have := t_ne h0; have := t_ne h1; have := t_ne h2; have := t_ne h3; have := t_ne h4; have := t_ne h5; have := q0; have := q1; have := q2; have := q3; have := q4; have := q5; omega), rfl, rfl⟩
  · exact Or.inl ⟨y_eq (by have := t_ne h0; have := t_ne h1; have := t_ne h2; have := t_ne h3; have := t_ne h4; have := f_ne h5; have := q0; have := q1; have := q2; have := q3; have := q4; have := q5; omega), rfl, rfl⟩
  · exact Or.inr ⟨_, hs.2.2.2.2.2.2.2.2.2.2.1, n_eq (by have := t_ne h0; have := t_ne h1; have := t_ne h2; have := t_ne h3; have := f_ne h4; have := q0; have := q1; have := q2; have := q3; have := q4; have := q5; omega), rfl, rfl⟩
  · exact Or.inr ⟨_, hs.2.2.2.2.2.2.2.2.2.2.2.1, n_eq (by have := t_ne h0; have := t_ne h1; have := t_ne h2; have := f_ne h3; have := q0; have := q1; have := q2; have := q3; have := q5; omega), rfl, rfl⟩
  · exact Or.inr ⟨_, hs.2.2.2.2.2.2.2.2.2.2.2.2.1, n_eq (by have := t_ne h0; have := t_ne h1; have := f_ne h2; have := q0; have := q1; have := q2; have := q5; omega), rfl, rfl⟩
  · exact Or.inr ⟨_, hs.2.2.2.2.2.2.2.2.2.2.2.2.2.1, n_eq (by have := t_ne h0; have := f_ne h1; have := q0; have := q1; have := q5; omega), rfl, rfl⟩
  · exact Or.inr ⟨_, hs.2.2.2.2.2.2.2.2.2.2.2.2.2.2.1, n_eq (by have := f_ne h0; have := q0; have := q5; omega), rfl, rfl⟩)
theorem pd_I_Lcom_example_rochester_rochester_JdqlLexer_Kind_ : parseMethodDescriptor "(I)Lcom/example/rochester/rochester/JdqlLexer$Kind;" = some ⟨[.int], some (.object "com/example/rochester/rochester/JdqlLexer$Kind")⟩ := by decide +kernel
theorem w41 {Z a0} (hw : HW a0 Z) : ((Jvm.Cond.methodLink "com/example/rochester/rochester/TokenIsSymbolPinLaw" (45 : Nat) ({ cls := "com/example/rochester/rochester/TokenIsSymbolPinLaw", name := "kindOf", desc := "(I)Lcom/example/rochester/rochester/JdqlLexer$Kind;" } : Jvm.MethodName)) : Jvm.Cond).before a0 Z = true := hw _ (List.mem_of_getElem? (i := 41) rfl)
theorem w42 {Z a0} (hw : HW a0 Z) : ((Jvm.Cond.static ({ cls := "com/example/rochester/rochester/TokenIsSymbolPinLaw", name := "kindOf", desc := "(I)Lcom/example/rochester/rochester/JdqlLexer$Kind;" } : Jvm.MethodName)) : Jvm.Cond).before a0 Z = true := hw _ (List.mem_of_getElem? (i := 42) rfl)
theorem w43 {Z a0} (hw : HW a0 Z) : ((Jvm.Cond.code ({ cls := "com/example/rochester/rochester/TokenIsSymbolPinLaw", name := "kindOf", desc := "(I)Lcom/example/rochester/rochester/JdqlLexer$Kind;" } : Jvm.MethodName) method_2_code (1 : Nat) (Option.some (Jvm.ClassFile.FieldType.object "com/example/rochester/rochester/JdqlLexer$Kind"))) : Jvm.Cond).before a0 Z = true := hw _ (List.mem_of_getElem? (i := 43) rfl)
theorem d9_0 : decode prog_12_method_1_code 0 = .ok (.aload_n 0, 1) := by decide +kernel
theorem d9_1 : decode prog_12_method_1_code 1 = .ok (.invokespecial 1, 3) := by decide +kernel
theorem d10_0 : decode jdk_30_method_1_code 0 = .ok (.aload_n 0, 1) := by decide +kernel
theorem d10_1 : decode jdk_30_method_1_code 1 = .ok (.invokespecial 1, 3) := by decide +kernel
theorem w55 {Z a0} (hw : HW a0 Z) : ((Jvm.Cond.methodLink "java/lang/Record" (1 : Nat) ({ cls := "java/lang/Object", name := "<init>", desc := "()V" } : Jvm.MethodName)) : Jvm.Cond).before a0 Z = true := hw _ (List.mem_of_getElem? (i := 55) rfl)
theorem d10_4 : decode jdk_30_method_1_code 4 = .ok (.return_, 1) := by decide +kernel
abbrev oJdqlLexer_Token (f0 f1 f2 f3 : Value) : Desc := .inl ("com/example/rochester/rochester/JdqlLexer$Token", [("com/example/rochester/rochester/JdqlLexer$Token", "kind", "Lcom/example/rochester/rochester/JdqlLexer$Kind;", f0), ("com/example/rochester/rochester/JdqlLexer$Token", "text", "Ljava/lang/String;", f1), ("com/example/rochester/rochester/JdqlLexer$Token", "start", "I", f2), ("com/example/rochester/rochester/JdqlLexer$Token", "end", "I", f3)])
theorem c21_init {Z a0} (hw : HW a0 Z) (hs : SF Z) {p1 : Addr} {F : List Ent} : Con Z EL (⟨"java/lang/Record", "<init>", "()V"⟩ : MethodName) jdk_30_method_1_code 1 (Option.none : Option Jvm.ClassFile.FieldType) (rmm 1 0 0 12) [(vr p1)] (F) (fun v D' => (v = none ∧ F = D')) := by
  refine Con.of (ls := #[rv p1]) (by decide +kernel) rfl ?_
  show W Z EL _ "java/lang/Record" "<init>" _ _ _ _ _ _ _ _ _ _
  refine W.aloadN (pc := 0) d10_0 rfl rfl ?_
  refine W.initO (pc := 1) 0 d10_1 (w55 hw) (w17 hw) (w18 hw) rfl rfl (by decide) ?_
  exact W.return_ (pc := 4) d10_4 rfl (by decide) ⟨rfl, rfl⟩
theorem pd__V : parseMethodDescriptor "()V" = some ⟨[], none⟩ := by decide +kernel
theorem w50 {Z a0} (hw : HW a0 Z) : ((Jvm.Cond.methodLink "com/example/rochester/rochester/JdqlLexer$Token" (1 : Nat) ({ cls := "java/lang/Record", name := "<init>", desc := "()V" } : Jvm.MethodName)) : Jvm.Cond).before a0 Z = true := hw _ (List.mem_of_getElem? (i := 50) rfl)
theorem w51 {Z a0} (hw : HW a0 Z) : ((Jvm.Cond.instanceMethod ({ cls := "java/lang/Record", name := "<init>", desc := "()V" } : Jvm.MethodName)) : Jvm.Cond).before a0 Z = true := hw _ (List.mem_of_getElem? (i := 51) rfl)
theorem w53 {Z a0} (hw : HW a0 Z) : ((Jvm.Cond.initialized "java/lang/Record") : Jvm.Cond).before a0 Z = true := hw _ (List.mem_of_getElem? (i := 53) rfl)
theorem w54 {Z a0} (hw : HW a0 Z) : ((Jvm.Cond.code ({ cls := "java/lang/Record", name := "<init>", desc := "()V" } : Jvm.MethodName) jdk_30_method_1_code (1 : Nat) (Option.none : Option Jvm.ClassFile.FieldType)) : Jvm.Cond).before a0 Z = true := hw _ (List.mem_of_getElem? (i := 54) rfl)
theorem d9_4 : decode prog_12_method_1_code 4 = .ok (.aload_n 0, 1) := by decide +kernel
theorem d9_5 : decode prog_12_method_1_code 5 = .ok (.aload_n 1, 1) := by decide +kernel
theorem d9_6 : decode prog_12_method_1_code 6 = .ok (.putfield 7, 3) := by decide +kernel
theorem pfLcom_example_rochester_rochester_JdqlLexer_Kind_ : parseFieldDescriptor "Lcom/example/rochester/rochester/JdqlLexer$Kind;" = some (.object "com/example/rochester/rochester/JdqlLexer$Kind") := by decide
theorem w56 {Z a0} (hw : HW a0 Z) : ((Jvm.Cond.fieldLink "com/example/rochester/rochester/JdqlLexer$Token" (7 : Nat) "com/example/rochester/rochester/JdqlLexer$Token" "kind" "Lcom/example/rochester/rochester/JdqlLexer$Kind;") : Jvm.Cond).before a0 Z = true := hw _ (List.mem_of_getElem? (i := 56) rfl)
theorem d9_9 : decode prog_12_method_1_code 9 = .ok (.aload_n 0, 1) := by decide +kernel
theorem d9_10 : decode prog_12_method_1_code 10 = .ok (.aload_n 2, 1) := by decide +kernel
theorem d9_11 : decode prog_12_method_1_code 11 = .ok (.putfield 13, 3) := by decide +kernel
theorem pfLjava_lang_String_ : parseFieldDescriptor "Ljava/lang/String;" = some (.object "java/lang/String") := by decide
theorem w58 {Z a0} (hw : HW a0 Z) : ((Jvm.Cond.fieldLink "com/example/rochester/rochester/JdqlLexer$Token" (13 : Nat) "com/example/rochester/rochester/JdqlLexer$Token" "text" "Ljava/lang/String;") : Jvm.Cond).before a0 Z = true := hw _ (List.mem_of_getElem? (i := 58) rfl)
theorem d9_14 : decode prog_12_method_1_code 14 = .ok (.aload_n 0, 1) := by decide +kernel
theorem d9_15 : decode prog_12_method_1_code 15 = .ok (.iload_n 3, 1) := by decide +kernel
theorem d9_16 : decode prog_12_method_1_code 16 = .ok (.putfield 17, 3) := by decide +kernel
theorem pfI : parseFieldDescriptor "I" = some .int := by decide
theorem w60 {Z a0} (hw : HW a0 Z) : ((Jvm.Cond.fieldLink "com/example/rochester/rochester/JdqlLexer$Token" (17 : Nat) "com/example/rochester/rochester/JdqlLexer$Token" "start" "I") : Jvm.Cond).before a0 Z = true := hw _ (List.mem_of_getElem? (i := 60) rfl)
theorem d9_19 : decode prog_12_method_1_code 19 = .ok (.aload_n 0, 1) := by decide +kernel
theorem d9_20 : decode prog_12_method_1_code 20 = .ok (.iload 4, 2) := by decide +kernel
theorem d9_22 : decode prog_12_method_1_code 22 = .ok (.putfield 21, 3) := by decide +kernel
theorem w62 {Z a0} (hw : HW a0 Z) : ((Jvm.Cond.fieldLink "com/example/rochester/rochester/JdqlLexer$Token" (21 : Nat) "com/example/rochester/rochester/JdqlLexer$Token" "end" "I") : Jvm.Cond).before a0 Z = true := hw _ (List.mem_of_getElem? (i := 62) rfl)
theorem d9_25 : decode prog_12_method_1_code 25 = .ok (.return_, 1) := by decide +kernel
theorem c20_init {Z a0} (hw : HW a0 Z) (hs : SF Z) {p1 p2 p3 : Addr} {x1 : Int32} {x2 : Int32} {x3 : Int32} (hx3 : -128 ≤ x3.toInt ∧ x3.toInt ≤ 127) {x4 : Int32} (hx4 : -128 ≤ x4.toInt ∧ x4.toInt ≤ 127) {x5 : Int32} (hx5 : -128 ≤ x5.toInt ∧ x5.toInt ≤ 127) {F : List Ent} : Con Z EL (⟨"com/example/rochester/rochester/JdqlLexer$Token", "<init>", "(Lcom/example/rochester/rochester/JdqlLexer$Kind;Ljava/lang/String;II)V"⟩ : MethodName) prog_12_method_1_code 5 (Option.none : Option Jvm.ClassFile.FieldType) (rmm 2 0 0 24) [(vr p1), (vr (kSYMBOL Z)), (vr p2), (vi x1), (vi x2)] ((p1, true, oJdqlLexer_Token .null .null (vi 0) (vi 0)) :: F) (fun v D' => (v = none ∧ (p1, true, oJdqlLexer_Token (vr (kSYMBOL Z)) (vr p2) (vi x1) (vi x2)) :: F = D')) := by
  refine Con.of (ls := #[rv p1, rv (kSYMBOL Z), rv p2, iv x1, iv x2]) (by decide +kernel) rfl ?_
  show W Z EL _ "com/example/rochester/rochester/JdqlLexer$Token" "<init>" _ _ _ _ _ _ _ _ _ _
  refine W.aloadN (pc := 0) d9_0 rfl rfl ?_
  refine W.callI (pc := 1) (as := []) 0 [] d9_1 rfl (w50 hw) (w51 hw) (w53 hw) (w54 hw) (c21_init hw hs (p1 := p1)) (by decide) pd__V rfl rfl rfl rfl (by decide) (fun v D' h => ?_)
  obtain ⟨rfl, rfl⟩ := h
  show W _ _ _ _ _ _ _ _ _ _ _ _ 4 _ []
  refine W.aloadN (pc := 4) d9_4 rfl rfl ?_
  refine W.aloadN (pc := 5) d9_5 rfl rfl ?_
  refine W.putf (pc := 6) (D' := (p1, true, oJdqlLexer_Token (vr (kSYMBOL Z)) .null (vi 0) (vi 0)) :: F) 0 0 d9_6 (w56 hw) Via.refl rfl rfl (Or.inr ⟨(w57 hw), rfl, rfl⟩) (w39 hw) pfLcom_example_rochester_rochester_JdqlLexer_Kind_ rfl rfl rfl ?_
  refine W.aloadN (pc := 9) d9_9 rfl rfl ?_
  refine W.aloadN (pc := 10) d9_10 rfl rfl ?_
  refine W.putf (pc := 11) (D' := (p1, true, oJdqlLexer_Token (vr (kSYMBOL Z)) (vr p2) (vi 0) (vi 0)) :: F) 0 1 d9_11 (w58 hw) Via.refl rfl rfl (Or.inr ⟨(w59 hw), rfl, rfl⟩) (w39 hw) pfLjava_lang_String_ rfl rfl rfl ?_
  refine W.aloadN (pc := 14) d9_14 rfl rfl ?_
  refine W.iloadN (pc := 15) d9_15 rfl ?_
  refine W.putf (pc := 16) (D' := (p1, true, oJdqlLexer_Token (vr (kSYMBOL Z)) (vr p2) (vi x1) (vi 0)) :: F) 0 2 d9_16 (w60 hw) Via.refl rfl rfl (Or.inr ⟨(w61 hw), rfl, rfl⟩) (w39 hw) pfI rfl rfl rfl ?_
  refine W.aloadN (pc := 19) d9_19 rfl rfl ?_
  refine W.iload (pc := 20) d9_20 rfl ?_
  refine W.putf (pc := 22) (D' := (p1, true, oJdqlLexer_Token (vr (kSYMBOL Z)) (vr p2) (vi x1) (vi x2)) :: F) 0 3 d9_22 (w62 hw) Via.refl rfl rfl (Or.inr ⟨(w63 hw), rfl, rfl⟩) (w39 hw) pfI rfl rfl rfl ?_
  exact W.return_ (pc := 25) d9_25 rfl (by decide) ⟨rfl, rfl⟩
theorem pd_Lcom_example_rochester_rochester_JdqlLexer_Kind_Ljava_lang_String_II_V : parseMethodDescriptor "(Lcom/example/rochester/rochester/JdqlLexer$Kind;Ljava/lang/String;II)V" = some ⟨[(.object "com/example/rochester/rochester/JdqlLexer$Kind"), (.object "java/lang/String"), .int, .int], none⟩ := by decide +kernel
theorem w47 {Z a0} (hw : HW a0 Z) : ((Jvm.Cond.methodLink "com/example/rochester/rochester/TokenIsSymbolPinLaw" (49 : Nat) ({ cls := "com/example/rochester/rochester/JdqlLexer$Token", name := "<init>", desc := "(Lcom/example/rochester/rochester/JdqlLexer$Kind;Ljava/lang/String;II)V" } : Jvm.MethodName)) : Jvm.Cond).before a0 Z = true := hw _ (List.mem_of_getElem? (i := 47) rfl)
theorem w48 {Z a0} (hw : HW a0 Z) : ((Jvm.Cond.instanceMethod ({ cls := "com/example/rochester/rochester/JdqlLexer$Token", name := "<init>", desc := "(Lcom/example/rochester/rochester/JdqlLexer$Kind;Ljava/lang/String;II)V" } : Jvm.MethodName)) : Jvm.Cond).before a0 Z = true := hw _ (List.mem_of_getElem? (i := 48) rfl)
theorem w49 {Z a0} (hw : HW a0 Z) : ((Jvm.Cond.code ({ cls := "com/example/rochester/rochester/JdqlLexer$Token", name := "<init>", desc := "(Lcom/example/rochester/rochester/JdqlLexer$Kind;Ljava/lang/String;II)V" } : Jvm.MethodName) prog_12_method_1_code (5 : Nat) (Option.none : Option Jvm.ClassFile.FieldType)) : Jvm.Cond).before a0 Z = true := hw _ (List.mem_of_getElem? (i := 49) rfl)
theorem d11_0 : decode prog_12_method_3_code 0 = .ok (.aload_n 0, 1) := by decide +kernel
theorem d11_1 : decode prog_12_method_3_code 1 = .ok (.getfield 7, 3) := by decide +kernel
theorem d11_4 : decode prog_12_method_3_code 4 = .ok (.getstatic 39, 3) := by decide +kernel
theorem w69 {Z a0} (hw : HW a0 Z) : ((Jvm.Cond.fieldLink "com/example/rochester/rochester/JdqlLexer$Token" (39 : Nat) "com/example/rochester/rochester/JdqlLexer$Kind" "SYMBOL" "Lcom/example/rochester/rochester/JdqlLexer$Kind;") : Jvm.Cond).before a0 Z = true := hw _ (List.mem_of_getElem? (i := 69) rfl)
theorem d11_7 : decode prog_12_method_3_code 7 = .ok (.if_acmp .ne 18, 3) := by decide +kernel
theorem d11_10 : decode prog_12_method_3_code 10 = .ok (.aload_n 0, 1) := by decide +kernel
theorem d11_11 : decode prog_12_method_3_code 11 = .ok (.getfield 13, 3) := by decide +kernel
theorem d11_14 : decode prog_12_method_3_code 14 = .ok (.aload_n 1, 1) := by decide +kernel
theorem d11_15 : decode prog_12_method_3_code 15 = .ok (.invokevirtual 33, 3) := by decide +kernel
theorem d12_0 : decode jdk_42_method_66_code 0 = .ok (.aload_n 0, 1) := by decide +kernel
theorem d12_1 : decode jdk_42_method_66_code 1 = .ok (.aload_n 1, 1) := by decide +kernel
theorem d12_2 : decode jdk_42_method_66_code 2 = .ok (.if_acmp .ne 5, 3) := by decide +kernel
theorem d12_7 : decode jdk_42_method_66_code 7 = .ok (.aload_n 1, 1) := by decide +kernel
theorem d12_8 : decode jdk_42_method_66_code 8 = .ok (.instanceof 10, 3) := by decide +kernel
theorem w87 {Z a0} (hw : HW a0 Z) : ((Jvm.Cond.classLink "java/lang/String" (10 : Nat) "java/lang/String") : Jvm.Cond).before a0 Z = true := hw _ (List.mem_of_getElem? (i := 87) rfl)
theorem d12_11 : decode jdk_42_method_66_code 11 = .ok (.ifCond .eq 43, 3) := by decide +kernel
theorem d12_14 : decode jdk_42_method_66_code 14 = .ok (.aload_n 1, 1) := by decide +kernel
theorem d12_15 : decode jdk_42_method_66_code 15 = .ok (.checkcast 10, 3) := by decide +kernel
theorem d12_18 : decode jdk_42_method_66_code 18 = .ok (.astore_n 2, 1) := by decide +kernel
theorem d12_19 : decode jdk_42_method_66_code 19 = .ok (.getstatic 38, 3) := by decide +kernel
theorem d12_22 : decode jdk_42_method_66_code 22 = .ok (.ifCond .eq 14, 3) := by decide +kernel
theorem d12_25 : decode jdk_42_method_66_code 25 = .ok (.aload_n 0, 1) := by decide +kernel
theorem d12_26 : decode jdk_42_method_66_code 26 = .ok (.getfield 15, 3) := by decide +kernel
theorem d12_29 : decode jdk_42_method_66_code 29 = .ok (.aload_n 2, 1) := by decide +kernel
theorem d12_30 : decode jdk_42_method_66_code 30 = .ok (.getfield 15, 3) := by decide +kernel
theorem d12_33 : decode jdk_42_method_66_code 33 = .ok (.if_icmp .ne 21, 3) := by decide +kernel
theorem d12_36 : decode jdk_42_method_66_code 36 = .ok (.aload_n 0, 1) := by decide +kernel
theorem d12_37 : decode jdk_42_method_66_code 37 = .ok (.getfield 9, 3) := by decide +kernel
theorem d12_40 : decode jdk_42_method_66_code 40 = .ok (.aload_n 2, 1) := by decide +kernel
theorem d12_41 : decode jdk_42_method_66_code 41 = .ok (.getfield 9, 3) := by decide +kernel
theorem d12_44 : decode jdk_42_method_66_code 44 = .ok (.invokestatic 541, 3) := by decide +kernel
theorem d13_0 : decode jdk_43_method_13_code 0 = .ok (.aload_n 0, 1) := by decide +kernel
theorem d13_1 : decode jdk_43_method_13_code 1 = .ok (.arraylength, 1) := by decide +kernel
theorem d13_2 : decode jdk_43_method_13_code 2 = .ok (.aload_n 1, 1) := by decide +kernel
theorem d13_3 : decode jdk_43_method_13_code 3 = .ok (.arraylength, 1) := by decide +kernel
theorem d13_4 : decode jdk_43_method_13_code 4 = .ok (.if_icmp .ne 30, 3) := by decide +kernel
theorem d13_7 : decode jdk_43_method_13_code 7 = .ok (.iconst 0, 1) := by decide +kernel
theorem d13_8 : decode jdk_43_method_13_code 8 = .ok (.istore_n 2, 1) := by decide +kernel
theorem d13_9 : decode jdk_43_method_13_code 9 = .ok (.iload_n 2, 1) := by decide +kernel
theorem d13_10 : decode jdk_43_method_13_code 10 = .ok (.aload_n 0, 1) := by decide +kernel
theorem d13_11 : decode jdk_43_method_13_code 11 = .ok (.arraylength, 1) := by decide +kernel
theorem d13_12 : decode jdk_43_method_13_code 12 = .ok (.if_icmp .ge 20, 3) := by decide +kernel
theorem d13_15 : decode jdk_43_method_13_code 15 = .ok (.aload_n 0, 1) := by decide +kernel
theorem d13_16 : decode jdk_43_method_13_code 16 = .ok (.iload_n 2, 1) := by decide +kernel
theorem d13_17 : decode jdk_43_method_13_code 17 = .ok (.baload, 1) := by decide +kernel
theorem d13_18 : decode jdk_43_method_13_code 18 = .ok (.aload_n 1, 1) := by decide +kernel
theorem d13_19 : decode jdk_43_method_13_code 19 = .ok (.iload_n 2, 1) := by decide +kernel
theorem d13_20 : decode jdk_43_method_13_code 20 = .ok (.baload, 1) := by decide +kernel
theorem d13_21 : decode jdk_43_method_13_code 21 = .ok (.if_icmp .eq 5, 3) := by decide +kernel
theorem d13_26 : decode jdk_43_method_13_code 26 = .ok (.iinc 2 1, 3) := by decide +kernel
theorem d13_29 : decode jdk_43_method_13_code 29 = .ok (.goto (-20), 3) := by decide +kernel
theorem d13_32 : decode jdk_43_method_13_code 32 = .ok (.iconst 1, 1) := by decide +kernel
theorem d13_33 : decode jdk_43_method_13_code 33 = .ok (.ireturn, 1) := by decide +kernel
theorem d13_24 : decode jdk_43_method_13_code 24 = .ok (.iconst 0, 1) := by decide +kernel
theorem d13_25 : decode jdk_43_method_13_code 25 = .ok (.ireturn, 1) := by decide +kernel
theorem c24_equals {Z a0} (hw : HW a0 Z) (hs : SF Z) {p1 p2 : Addr} {x1 : Int32} (hx1 : -128 ≤ x1.toInt ∧ x1.toInt ≤ 127) {x2 : Int32} (hx2 : -128 ≤ x2.toInt ∧ x2.toInt ≤ 127) {x3 : Int32} (hx3 : -128 ≤ x3.toInt ∧ x3.toInt ≤ 127) {x4 : Int32} (hx4 : -128 ≤ x4.toInt ∧ x4.toInt ≤ 127) {x5 : Int32} (hx5 : -128 ≤ x5.toInt ∧ x5.toInt ≤ 127) {x6 : Int32} (hx6 : -128 ≤ x6.toInt ∧ x6.toInt ≤ 127) {w_p1 : Bool} {ad_p1 : String} {w_p2 : Bool} {ad_p2 : String} {F : List Ent} (mp1 : (p1, w_p1, ar ad_p1 .byte [(vi x1), (vi x2), (vi x3)]) ∈ F) (mp2 : (p2, w_p2, ar ad_p2 .byte [(vi x4), (vi x5), (vi x6)]) ∈ F) : Con Z EL (⟨"java/lang/StringLatin1", "equals", "([B[B)Z"⟩ : MethodName) jdk_43_method_13_code 3 (Option.some Jvm.ClassFile.FieldType.boolean) (rmm 0 0 0 0) [(vr p1), (vr p2)] (F) (fun v D' => (Cd .eq x1 x4 ∧ Cd .eq x2 x5 ∧ Cd .eq x3 x6 ∧ v = some (vi 1) ∧ F = D') ∨ (Cd .eq x1 x4 ∧ Cd .eq x2 x5 ∧ ¬ Cd .eq x3 x6 ∧ v = some (vi 0) ∧ F = D') ∨ (Cd .eq x1 x4 ∧ ¬ Cd .eq x2 x5 ∧ v = some (vi 0) ∧ F = D') ∨ (¬ Cd .eq x1 x4 ∧ v = some (vi 0) ∧ F = D')) := by
  refine Con.of (ls := #[rv p1, rv p2, uu]) (by decide +kernel) rfl ?_
  show W Z EL _ "java/lang/StringLatin1" "equals" _ _ _ _ _ _ _ _ _ _
  refine W.aloadN (pc := 0) d13_0 rfl rfl ?_
  refine W.alen (pc := 1) (3) d13_1 mp1 rfl ?_
  refine W.aloadN (pc := 2) d13_2 rfl rfl ?_
  refine W.alen (pc := 3) (3) d13_3 mp2 rfl ?_
  refine W.icmpN (pc := 4) d13_4 (n_ne (by decide)) ?_
  refine W.iconst (pc := 7) (0) d13_7 (by decide) ?_
  refine W.istoreN (pc := 8) (ls' := #[rv p1, rv p2, iv 0]) d13_8 rfl ?_
  refine W.iloadN (pc := 9) d13_9 rfl ?_
  refine W.aloadN (pc := 10) d13_10 rfl rfl ?_
  refine W.alen (pc := 11) (3) d13_11 mp1 rfl ?_
  refine W.icmpN (pc := 12) d13_12 (n_ge (by decide)) ?_
  refine W.aloadN (pc := 15) d13_15 rfl rfl ?_
  refine W.iloadN (pc := 16) d13_16 rfl ?_
  refine W.baload (pc := 17) 0 d13_17 mp1 ix0 rfl ?_
  refine W.aloadN (pc := 18) d13_18 rfl rfl ?_
  refine W.iloadN (pc := 19) d13_19 rfl ?_
  refine W.baload (pc := 20) 0 d13_20 mp2 ix0 rfl ?_
  refine W.icmp (pc := 21) 26 d13_21 (by decide) (fun h1 => ?_) (fun h1 => ?_)
  ·
   have ih1 := t_eq h1
   refine W.iincK (pc := 26) (ls' := #[rv p1, rv p2, iv 1]) (1) (1 : Int32) d13_26 (by decide) rfl (by decide) rfl ?_
   refine W.goto (pc := 29) 9 d13_29 (by decide) ?_
   refine W.iloadN (pc := 9) d13_9 rfl ?_
   refine W.aloadN (pc := 10) d13_10 rfl rfl ?_
   refine W.alen (pc := 11) (3) d13_11 mp1 rfl ?_
   refine W.icmpN (pc := 12) d13_12 (n_ge (by decide)) ?_
   refine W.aloadN (pc := 15) d13_15 rfl rfl ?_
   refine W.iloadN (pc := 16) d13_16 rfl ?_
   refine W.baload (pc := 17) 1 d13_17 mp1 ix1 rfl ?_
   refine W.aloadN (pc := 18) d13_18 rfl rfl ?_
   refine W.iloadN (pc := 19) d13_19 rfl ?_
   refine W.baload (pc := 20) 1 d13_20 mp2 ix1 rfl ?_
   refine W.icmp (pc := 21) 26 d13_21 (by decide) (fun h2 => ?_) (fun h2 => ?_)
   ·
    have ih2 := t_eq h2
    refine W.iincK (pc := 26) (ls' := #[rv p1, rv p2, iv 2]) (1) (2 : Int32) d13_26 (by decide) rfl (by decide) rfl ?_
    refine W.goto (pc := 29) 9 d13_29 (by decide) ?_
    refine W.iloadN (pc := 9) d13_9 rfl ?_
    refine W.aloadN (pc := 10) d13_10 rfl rfl ?_
    refine W.alen (pc := 11) (3) d13_11 mp1 rfl ?_
    refine W.icmpN (pc := 12) d13_12 (n_ge (by decide)) ?_
    refine W.aloadN (pc := 15) d13_15 rfl rfl ?_
    refine W.iloadN (pc := 16) d13_16 rfl ?_
    refine W.baload (pc := 17) 2 d13_17 mp1 ix2 rfl ?_
    refine W.aloadN (pc := 18) d13_18 rfl rfl ?_
    refine W.iloadN (pc := 19) d13_19 rfl ?_
    refine W.baload (pc := 20) 2 d13_20 mp2 ix2 rfl ?_
    refine W.icmp (pc := 21) 26 d13_21 (by decide) (fun h3 => ?_) (fun h3 => ?_)
    ·
     have ih3 := t_eq h3
     refine W.iincK (pc := 26) (ls' := #[rv p1, rv p2, iv 3]) (1) (3 : Int32) d13_26 (by decide) rfl (by decide) rfl ?_
     refine W.goto (pc := 29) 9 d13_29 (by decide) ?_
     refine W.iloadN (pc := 9) d13_9 rfl ?_
     refine W.aloadN (pc := 10) d13_10 rfl rfl ?_
     refine W.alen (pc := 11) (3) d13_11 mp1 rfl ?_
     refine W.icmpY (pc := 12) 32 d13_12 (y_ge (by decide)) (by decide) ?_
     refine W.iconst (pc := 32) (1) d13_32 (by decide) ?_
     exact W.ireturn (pc := 33) d13_33 rfl (Or.inr (Or.inl rfl)) (nw_bool (by decide)) (by decide) (Or.inl ⟨h1, h2, h3, rfl, rfl⟩)
    ·
     have ih3 := f_eq h3
     refine W.iconst (pc := 24) (0) d13_24 (by decide) ?_
     exact W.ireturn (pc := 25) d13_25 rfl (Or.inr (Or.inl rfl)) (nw_bool (by decide)) (by decide) (Or.inr (Or.inl ⟨h1, h2, h3, rfl, rfl⟩))
   ·
    have ih2 := f_eq h2
    refine W.iconst (pc := 24) (0) d13_24 (by decide) ?_
    exact W.ireturn (pc := 25) d13_25 rfl (Or.inr (Or.inl rfl)) (nw_bool (by decide)) (by decide) (Or.inr (Or.inr (Or.inl ⟨h1, h2, rfl, rfl⟩)))
  ·
   have ih1 := f_eq h1
   refine W.iconst (pc := 24) (0) d13_24 (by decide) ?_
   exact W.ireturn (pc := 25) d13_25 rfl (Or.inr (Or.inl rfl)) (nw_bool (by decide)) (by decide) (Or.inr (Or.inr (Or.inr ⟨h1, rfl, rfl⟩)))
theorem pd__B_B_Z : parseMethodDescriptor "([B[B)Z" = some ⟨[(.array .byte), (.array .byte)], some .boolean⟩ := by decide +kernel
theorem w88 {Z a0} (hw : HW a0 Z) : ((Jvm.Cond.methodLink "java/lang/String" (541 : Nat) ({ cls := "java/lang/StringLatin1", name := "equals", desc := "([B[B)Z" } : Jvm.MethodName)) : Jvm.Cond).before a0 Z = true := hw _ (List.mem_of_getElem? (i := 88) rfl)
theorem w89 {Z a0} (hw : HW a0 Z) : ((Jvm.Cond.static ({ cls := "java/lang/StringLatin1", name := "equals", desc := "([B[B)Z" } : Jvm.MethodName)) : Jvm.Cond).before a0 Z = true := hw _ (List.mem_of_getElem? (i := 89) rfl)
theorem w90 {Z a0} (hw : HW a0 Z) : ((Jvm.Cond.initialized "java/lang/StringLatin1") : Jvm.Cond).before a0 Z = true := hw _ (List.mem_of_getElem? (i := 90) rfl)
theorem w91 {Z a0} (hw : HW a0 Z) : ((Jvm.Cond.code ({ cls := "java/lang/StringLatin1", name := "equals", desc := "([B[B)Z" } : Jvm.MethodName) jdk_43_method_13_code (3 : Nat) (Option.some Jvm.ClassFile.FieldType.boolean)) : Jvm.Cond).before a0 Z = true := hw _ (List.mem_of_getElem? (i := 91) rfl)
theorem d12_47 : decode jdk_42_method_66_code 47 = .ok (.ifCond .eq 7, 3) := by decide +kernel
theorem d12_50 : decode jdk_42_method_66_code 50 = .ok (.iconst 1, 1) := by decide +kernel
theorem d12_51 : decode jdk_42_method_66_code 51 = .ok (.goto 4, 3) := by decide +kernel
theorem d12_55 : decode jdk_42_method_66_code 55 = .ok (.ireturn, 1) := by decide +kernel
theorem d12_54 : decode jdk_42_method_66_code 54 = .ok (.iconst 0, 1) := by decide +kernel
theorem c23_equals {Z a0} (hw : HW a0 Z) (hs : SF Z) {p1 p2 p3 p4 : Addr} {x1 : Int32} (hx1 : -128 ≤ x1.toInt ∧ x1.toInt ≤ 127) {x2 : Int32} (hx2 : -128 ≤ x2.toInt ∧ x2.toInt ≤ 127) {x3 : Int32} (hx3 : -128 ≤ x3.toInt ∧ x3.toInt ≤ 127) {x4 : Int32} (hx4 : -128 ≤ x4.toInt ∧ x4.toInt ≤ 127) {x5 : Int32} (hx5 : -128 ≤ x5.toInt ∧ x5.toInt ≤ 127) {x6 : Int32} (hx6 : -128 ≤ x6.toInt ∧ x6.toInt ≤ 127) {w_p2 : Bool} {w_p1 : Bool} {w_p3 : Bool} {ad_p3 : String} {w_p4 : Bool} {ad_p4 : String} (ne_p1_p2 : p1 ≠ p2) {F : List Ent} (mp2 : (p2, w_p2, oString (vr p4) (vi 0)) ∈ F) (mp1 : (p1, w_p1, oString (vr p3) (vi 0)) ∈ F) (mp3 : (p3, w_p3, ar ad_p3 .byte [(vi x1), (vi x2), (vi x3)]) ∈ F) (mp4 : (p4, w_p4, ar ad_p4 .byte [(vi x4), (vi x5), (vi x6)]) ∈ F) : Con Z EL (⟨"java/lang/String", "equals", "(Ljava/lang/Object;)Z"⟩ : MethodName) jdk_42_method_66_code 3 (Option.some Jvm.ClassFile.FieldType.boolean) (rmm 1 0 0 14) [(vr p1), (vr p2)] (F) (fun v D' => (Cd .eq x1 x4 ∧ Cd .eq x2 x5 ∧ Cd .eq x3 x6 ∧ v = some (vi 1) ∧ F = D') ∨ (Cd .eq x1 x4 ∧ Cd .eq x2 x5 ∧ ¬ Cd .eq x3 x6 ∧ v = some (vi 0) ∧ F = D') ∨ (Cd .eq x1 x4 ∧ ¬ Cd .eq x2 x5 ∧ v = some (vi 0) ∧ F = D') ∨ (¬ Cd .eq x1 x4 ∧ v = some (vi 0) ∧ F = D')) := by
  refine Con.of (ls := #[rv p1, rv p2, uu]) (by decide +kernel) rfl ?_
  show W Z EL _ "java/lang/String" "equals" _ _ _ _ _ _ _ _ _ _
  refine W.aloadN (pc := 0) d12_0 rfl rfl ?_
  refine W.aloadN (pc := 1) d12_1 rfl rfl ?_
  refine W.acmpY (pc := 2) 7 d12_2 rfl rfl (show Ca .ne _ _ from (fun z => ne_p1_p2 (by injection z))) (by decide) ?_
  refine W.aloadN (pc := 7) d12_7 rfl rfl ?_
  refine W.instY (pc := 8) d12_8 (w87 hw) (Hp.ins mp2) ?_
  refine W.ifN (pc := 11) d12_11 (n_eq (by decide)) ?_
  refine W.aloadN (pc := 14) d12_14 rfl rfl ?_
  refine W.castY (pc := 15) d12_15 (w87 hw) (Hp.ins mp2) ?_
  refine W.astoreN (pc := 18) (ls' := #[rv p1, rv p2, rv p2]) d12_18 rfl rfl ?_
  refine W.gets (pc := 19) d12_19 (w19 hw) Via.refl hs.1 ?_
  refine W.ifN (pc := 22) d12_22 (n_eq (by have := hs.2.1; have := q0; omega)) ?_
  refine W.aloadN (pc := 25) d12_25 rfl rfl ?_
  refine W.getf (pc := 26) d12_26 (w31 hw) Via.refl mp1 m1 ?_
  refine W.aloadN (pc := 29) d12_29 rfl rfl ?_
  refine W.getf (pc := 30) d12_30 (w31 hw) Via.refl mp2 m1 ?_
  refine W.icmpN (pc := 33) d12_33 (n_ne (by decide)) ?_
  refine W.aloadN (pc := 36) d12_36 rfl rfl ?_
  refine W.getf (pc := 37) d12_37 (w33 hw) Via.refl mp1 m0 ?_
  refine W.aloadN (pc := 40) d12_40 rfl rfl ?_
  refine W.getf (pc := 41) d12_41 (w33 hw) Via.refl mp2 m0 ?_
  refine W.callS (pc := 44) (as := [(vr p3), (vr p4)]) 0 [] d12_44 (w88 hw) (w89 hw) (w90 hw) (w91 hw) (c24_equals hw hs (p1 := p3) (p2 := p4) (x1 := x1) (hx1 := hx1) (x2 := x2) (hx2 := hx2) (x3 := x3) (hx3 := hx3) (x4 := x4) (hx4 := hx4) (x5 := x5) (hx5 := hx5) (x6 := x6) (hx6 := hx6) (mp1 := mp3) (mp2 := mp4)) (by decide) pd__B_B_Z rfl rfl rfl rfl (by decide) (fun v D' h => ?_)
  rcases h with ⟨h1, h2, h3, rfl, rfl⟩ | ⟨h4, h5, h6, rfl, rfl⟩ | ⟨h7, h8, rfl, rfl⟩ | ⟨h9, rfl, rfl⟩
  ·
   have ih1 := t_eq h1
   have ih2 := t_eq h2
   have ih3 := t_eq h3
   show W _ _ _ _ _ _ _ _ _ _ _ _ 47 _ [(vi 1)]
   refine W.ifN (pc := 47) d12_47 (n_eq (by decide)) ?_
   refine W.iconst (pc := 50) (1) d12_50 (by decide) ?_
   refine W.goto (pc := 51) 55 d12_51 (by decide) ?_
   exact W.ireturn (pc := 55) d12_55 rfl (Or.inr (Or.inl rfl)) (nw_bool (by decide)) (by decide) (Or.inl ⟨h1, h2, h3, rfl, rfl⟩)
  ·
   have ih4 := t_eq h4
   have ih5 := t_eq h5
   have ih6 := f_eq h6
   show W _ _ _ _ _ _ _ _ _ _ _ _ 47 _ [(vi 0)]
   refine W.ifY (pc := 47) 54 d12_47 (y_eq (by decide)) (by decide) ?_
   refine W.iconst (pc := 54) (0) d12_54 (by decide) ?_
   exact W.ireturn (pc := 55) d12_55 rfl (Or.inr (Or.inl rfl)) (nw_bool (by decide)) (by decide) (Or.inr (Or.inl ⟨h4, h5, h6, rfl, rfl⟩))
  ·
   have ih7 := t_eq h7
   have ih8 := f_eq h8
   show W _ _ _ _ _ _ _ _ _ _ _ _ 47 _ [(vi 0)]
   refine W.ifY (pc := 47) 54 d12_47 (y_eq (by decide)) (by decide) ?_
   refine W.iconst (pc := 54) (0) d12_54 (by decide) ?_
   exact W.ireturn (pc := 55) d12_55 rfl (Or.inr (Or.inl rfl)) (nw_bool (by decide)) (by decide) (Or.inr (Or.inr (Or.inl ⟨h7, h8, rfl, rfl⟩)))
  ·
   have ih9 := f_eq h9
   show W _ _ _ _ _ _ _ _ _ _ _ _ 47 _ [(vi 0)]
   refine W.ifY (pc := 47) 54 d12_47 (y_eq (by decide)) (by decide) ?_
   refine W.iconst (pc := 54) (0) d12_54 (by decide) ?_
   exact W.ireturn (pc := 55) d12_55 rfl (Or.inr (Or.inl rfl)) (nw_bool (by decide)) (by decide) (Or.inr (Or.inr (Or.inr ⟨h9, rfl, rfl⟩)))
theorem pd_Ljava_lang_Object__Z : parseMethodDescriptor "(Ljava/lang/Object;)Z" = some ⟨[(.object "java/lang/Object")], some .boolean⟩ := by decide +kernel
theorem w82 {Z a0} (hw : HW a0 Z) : ((Jvm.Cond.methodLink "com/example/rochester/rochester/JdqlLexer$Token" (33 : Nat) ({ cls := "java/lang/String", name := "equals", desc := "(Ljava/lang/Object;)Z" } : Jvm.MethodName)) : Jvm.Cond).before a0 Z = true := hw _ (List.mem_of_getElem? (i := 82) rfl)
theorem w83 {Z a0} (hw : HW a0 Z) : ((Jvm.Cond.declares ({ cls := "java/lang/String", name := "equals", desc := "(Ljava/lang/Object;)Z" } : Jvm.MethodName)) : Jvm.Cond).before a0 Z = true := hw _ (List.mem_of_getElem? (i := 83) rfl)
theorem w85 {Z a0} (hw : HW a0 Z) : ((Jvm.Cond.selects "java/lang/String" ({ cls := "java/lang/String", name := "equals", desc := "(Ljava/lang/Object;)Z" } : Jvm.MethodName) ({ cls := "java/lang/String", name := "equals", desc := "(Ljava/lang/Object;)Z" } : Jvm.MethodName)) : Jvm.Cond).before a0 Z = true := hw _ (List.mem_of_getElem? (i := 85) rfl)
theorem w84 {Z a0} (hw : HW a0 Z) : ((Jvm.Cond.instanceMethod ({ cls := "java/lang/String", name := "equals", desc := "(Ljava/lang/Object;)Z" } : Jvm.MethodName)) : Jvm.Cond).before a0 Z = true := hw _ (List.mem_of_getElem? (i := 84) rfl)
theorem w86 {Z a0} (hw : HW a0 Z) : ((Jvm.Cond.code ({ cls := "java/lang/String", name := "equals", desc := "(Ljava/lang/Object;)Z" } : Jvm.MethodName) jdk_42_method_66_code (3 : Nat) (Option.some Jvm.ClassFile.FieldType.boolean)) : Jvm.Cond).before a0 Z = true := hw _ (List.mem_of_getElem? (i := 86) rfl)
theorem d11_18 : decode prog_12_method_3_code 18 = .ok (.ifCond .eq 7, 3) := by decide +kernel
theorem d11_21 : decode prog_12_method_3_code 21 = .ok (.iconst 1, 1) := by decide +kernel
theorem d11_22 : decode prog_12_method_3_code 22 = .ok (.goto 4, 3) := by decide +kernel
theorem d11_26 : decode prog_12_method_3_code 26 = .ok (.ireturn, 1) := by decide +kernel
theorem d11_25 : decode prog_12_method_3_code 25 = .ok (.iconst 0, 1) := by decide +kernel
theorem c22_isSymbol {Z a0} (hw : HW a0 Z) (hs : SF Z) {p1 p2 p3 p4 p5 : Addr} {x1 : Int32} {x2 : Int32} {x3 : Int32} (hx3 : -128 ≤ x3.toInt ∧ x3.toInt ≤ 127) {x4 : Int32} (hx4 : -128 ≤ x4.toInt ∧ x4.toInt ≤ 127) {x5 : Int32} (hx5 : -128 ≤ x5.toInt ∧ x5.toInt ≤ 127) {x6 : Int32} (hx6 : -128 ≤ x6.toInt ∧ x6.toInt ≤ 127) {x7 : Int32} (hx7 : -128 ≤ x7.toInt ∧ x7.toInt ≤ 127) {x8 : Int32} (hx8 : -128 ≤ x8.toInt ∧ x8.toInt ≤ 127) {w_p1 : Bool} {w_p3 : Bool} {w_p2 : Bool} {w_p5 : Bool} {ad_p5 : String} {w_p4 : Bool} {ad_p4 : String} (ne_p1_p2 : p1 ≠ p2) (ne_p2_p3 : p2 ≠ p3) {F : List Ent} (mp1 : (p1, w_p1, oJdqlLexer_Token (vr (kSYMBOL Z)) (vr p3) (vi x1) (vi x2)) ∈ F) (mp3 : (p3, w_p3, oString (vr p5) (vi 0)) ∈ F) (mp2 : (p2, w_p2, oString (vr p4) (vi 0)) ∈ F) (mp5 : (p5, w_p5, ar ad_p5 .byte [(vi x6), (vi x7), (vi x8)]) ∈ F) (mp4 : (p4, w_p4, ar ad_p4 .byte [(vi x3), (vi x4), (vi x5)]) ∈ F) : Con Z EL (⟨"com/example/rochester/rochester/JdqlLexer$Token", "isSymbol", "(Ljava/lang/String;)Z"⟩ : MethodName) prog_12_method_3_code 2 (Option.some Jvm.ClassFile.FieldType.boolean) (rmm 2 0 0 28) [(vr p1), (vr p2)] (F) (fun v D' => (Cd .eq x6 x3 ∧ Cd .eq x7 x4 ∧ Cd .eq x8 x5 ∧ v = some (vi 1) ∧ F = D') ∨ (Cd .eq x6 x3 ∧ Cd .eq x7 x4 ∧ ¬ Cd .eq x8 x5 ∧ v = some (vi 0) ∧ F = D') ∨ (Cd .eq x6 x3 ∧ ¬ Cd .eq x7 x4 ∧ v = some (vi 0) ∧ F = D') ∨ (¬ Cd .eq x6 x3 ∧ v = some (vi 0) ∧ F = D')) := by
  refine Con.of (ls := #[rv p1, rv p2]) (by decide +kernel) rfl ?_
  show W Z EL _ "com/example/rochester/rochester/JdqlLexer$Token" "isSymbol" _ _ _ _ _ _ _ _ _ _
  refine W.aloadN (pc := 0) d11_0 rfl rfl ?_
  refine W.getf (pc := 1) d11_1 (w56 hw) Via.refl mp1 m0 ?_
  refine W.gets (pc := 4) d11_4 (w69 hw) Via.refl hs.2.2.2.2.2.2.2.1 ?_
  refine W.acmpN (pc := 7) d11_7 rfl rfl (fun z => z rfl) ?_
  refine W.aloadN (pc := 10) d11_10 rfl rfl ?_
  refine W.getf (pc := 11) d11_11 (w58 hw) Via.refl mp1 m1 ?_
  refine W.aloadN (pc := 14) d11_14 rfl rfl ?_
  refine W.callV (pc := 15) (as := [(vr p2)]) 0 [] d11_15 (w82 hw) (w83 hw) (w85 hw) (w85 hw) (w84 hw) (w8 hw) (w86 hw) (Hp.exa mp3) (c23_equals hw hs (p1 := p3) (p2 := p2) (p3 := p5) (p4 := p4) (x1 := x6) (hx1 := hx6) (x2 := x7) (hx2 := hx7) (x3 := x8) (hx3 := hx8) (x4 := x3) (hx4 := hx3) (x5 := x4) (hx5 := hx4) (x6 := x5) (hx6 := hx5) (mp2 := mp2) (mp1 := mp3) (mp3 := mp5) (mp4 := mp4) (ne_p1_p2 := (Ne.symm ne_p2_p3))) (by decide) pd_Ljava_lang_Object__Z rfl rfl rfl rfl (by decide) (fun v D' h => ?_)
  rcases h with ⟨h1, h2, h3, rfl, rfl⟩ | ⟨h4, h5, h6, rfl, rfl⟩ | ⟨h7, h8, rfl, rfl⟩ | ⟨h9, rfl, rfl⟩
  ·
   have ih1 := t_eq h1
   have ih2 := t_eq h2
   have ih3 := t_eq h3
   show W _ _ _ _ _ _ _ _ _ _ _ _ 18 _ [(vi 1)]
   refine W.ifN (pc := 18) d11_18 (n_eq (by decide)) ?_
   refine W.iconst (pc := 21) (1) d11_21 (by decide) ?_
   refine W.goto (pc := 22) 26 d11_22 (by decide) ?_
   exact W.ireturn (pc := 26) d11_26 rfl (Or.inr (Or.inl rfl)) (nw_bool (by decide)) (by decide) (Or.inl ⟨h1, h2, h3, rfl, rfl⟩)
  ·
   have ih4 := t_eq h4
   have ih5 := t_eq h5
   have ih6 := f_eq h6
   show W _ _ _ _ _ _ _ _ _ _ _ _ 18 _ [(vi 0)]
   refine W.ifY (pc := 18) 25 d11_18 (y_eq (by decide)) (by decide) ?_
   refine W.iconst (pc := 25) (0) d11_25 (by decide) ?_
   exact W.ireturn (pc := 26) d11_26 rfl (Or.inr (Or.inl rfl)) (nw_bool (by decide)) (by decide) (Or.inr (Or.inl ⟨h4, h5, h6, rfl, rfl⟩))
  ·
   have ih7 := t_eq h7
   have ih8 := f_eq h8
   show W _ _ _ _ _ _ _ _ _ _ _ _ 18 _ [(vi 0)]
   refine W.ifY (pc := 18) 25 d11_18 (y_eq (by decide)) (by decide) ?_
   refine W.iconst (pc := 25) (0) d11_25 (by decide) ?_
   exact W.ireturn (pc := 26) d11_26 rfl (Or.inr (Or.inl rfl)) (nw_bool (by decide)) (by decide) (Or.inr (Or.inr (Or.inl ⟨h7, h8, rfl, rfl⟩)))
  ·
   have ih9 := f_eq h9
   show W _ _ _ _ _ _ _ _ _ _ _ _ 18 _ [(vi 0)]
   refine W.ifY (pc := 18) 25 d11_18 (y_eq (by decide)) (by decide) ?_
   refine W.iconst (pc := 25) (0) d11_25 (by decide) ?_
   exact W.ireturn (pc := 26) d11_26 rfl (Or.inr (Or.inl rfl)) (nw_bool (by decide)) (by decide) (Or.inr (Or.inr (Or.inr ⟨h9, rfl, rfl⟩)))
theorem pd_Ljava_lang_String__Z : parseMethodDescriptor "(Ljava/lang/String;)Z" = some ⟨[(.object "java/lang/String")], some .boolean⟩ := by decide +kernel
theorem w64 {Z a0} (hw : HW a0 Z) : ((Jvm.Cond.methodLink "com/example/rochester/rochester/TokenIsSymbolPinLaw" (52 : Nat) ({ cls := "com/example/rochester/rochester/JdqlLexer$Token", name := "isSymbol", desc := "(Ljava/lang/String;)Z" } : Jvm.MethodName)) : Jvm.Cond).before a0 Z = true := hw _ (List.mem_of_getElem? (i := 64) rfl)
theorem w65 {Z a0} (hw : HW a0 Z) : ((Jvm.Cond.declares ({ cls := "com/example/rochester/rochester/JdqlLexer$Token", name := "isSymbol", desc := "(Ljava/lang/String;)Z" } : Jvm.MethodName)) : Jvm.Cond).before a0 Z = true := hw _ (List.mem_of_getElem? (i := 65) rfl)
theorem w67 {Z a0} (hw : HW a0 Z) : ((Jvm.Cond.selects "com/example/rochester/rochester/JdqlLexer$Token" ({ cls := "com/example/rochester/rochester/JdqlLexer$Token", name := "isSymbol", desc := "(Ljava/lang/String;)Z" } : Jvm.MethodName) ({ cls := "com/example/rochester/rochester/JdqlLexer$Token", name := "isSymbol", desc := "(Ljava/lang/String;)Z" } : Jvm.MethodName)) : Jvm.Cond).before a0 Z = true := hw _ (List.mem_of_getElem? (i := 67) rfl)
theorem w66 {Z a0} (hw : HW a0 Z) : ((Jvm.Cond.instanceMethod ({ cls := "com/example/rochester/rochester/JdqlLexer$Token", name := "isSymbol", desc := "(Ljava/lang/String;)Z" } : Jvm.MethodName)) : Jvm.Cond).before a0 Z = true := hw _ (List.mem_of_getElem? (i := 66) rfl)
theorem w68 {Z a0} (hw : HW a0 Z) : ((Jvm.Cond.code ({ cls := "com/example/rochester/rochester/JdqlLexer$Token", name := "isSymbol", desc := "(Ljava/lang/String;)Z" } : Jvm.MethodName) prog_12_method_3_code (2 : Nat) (Option.some Jvm.ClassFile.FieldType.boolean)) : Jvm.Cond).before a0 Z = true := hw _ (List.mem_of_getElem? (i := 68) rfl)
theorem c25_init {Z a0} (hw : HW a0 Z) (hs : SF Z) {p1 p2 p3 p4 : Addr} {x1 : Int32} {x2 : Int32} {x3 : Int32} (hx3 : -128 ≤ x3.toInt ∧ x3.toInt ≤ 127) {x4 : Int32} (hx4 : -128 ≤ x4.toInt ∧ x4.toInt ≤ 127) {x5 : Int32} (hx5 : -128 ≤ x5.toInt ∧ x5.toInt ≤ 127) {F : List Ent} : Con Z EL (⟨"com/example/rochester/rochester/JdqlLexer$Token", "<init>", "(Lcom/example/rochester/rochester/JdqlLexer$Kind;Ljava/lang/String;II)V"⟩ : MethodName) prog_12_method_1_code 5 (Option.none : Option Jvm.ClassFile.FieldType) (rmm 2 0 0 24) [(vr p1), (vr p2), (vr p3), (vi x1), (vi x2)] ((p1, true, oJdqlLexer_Token .null .null (vi 0) (vi 0)) :: F) (fun v D' => (v = none ∧ (p1, true, oJdqlLexer_Token (vr p2) (vr p3) (vi x1) (vi x2)) :: F = D')) := by
  refine Con.of (ls := #[rv p1, rv p2, rv p3, iv x1, iv x2]) (by decide +kernel) rfl ?_
  show W Z EL _ "com/example/rochester/rochester/JdqlLexer$Token" "<init>" _ _ _ _ _ _ _ _ _ _
  refine W.aloadN (pc := 0) d9_0 rfl rfl ?_
  refine W.callI (pc := 1) (as := []) 0 [] d9_1 rfl (w50 hw) (w51 hw) (w53 hw) (w54 hw) (c21_init hw hs (p1 := p1)) (by decide) pd__V rfl rfl rfl rfl (by decide) (fun v D' h => ?_)
  obtain ⟨rfl, rfl⟩ := h
  show W _ _ _ _ _ _ _ _ _ _ _ _ 4 _ []
  refine W.aloadN (pc := 4) d9_4 rfl rfl ?_
  refine W.aloadN (pc := 5) d9_5 rfl rfl ?_
  refine W.putf (pc := 6) (D' := (p1, true, oJdqlLexer_Token (vr p2) .null (vi 0) (vi 0)) :: F) 0 0 d9_6 (w56 hw) Via.refl rfl rfl (Or.inr ⟨(w57 hw), rfl, rfl⟩) (w39 hw) pfLcom_example_rochester_rochester_JdqlLexer_Kind_ rfl rfl rfl ?_
  refine W.aloadN (pc := 9) d9_9 rfl rfl ?_
  refine W.aloadN (pc := 10) d9_10 rfl rfl ?_
  refine W.putf (pc := 11) (D' := (p1, true, oJdqlLexer_Token (vr p2) (vr p3) (vi 0) (vi 0)) :: F) 0 1 d9_11 (w58 hw) Via.refl rfl rfl (Or.inr ⟨(w59 hw), rfl, rfl⟩) (w39 hw) pfLjava_lang_String_ rfl rfl rfl ?_
  refine W.aloadN (pc := 14) d9_14 rfl rfl ?_
  refine W.iloadN (pc := 15) d9_15 rfl ?_
  refine W.putf (pc := 16) (D' := (p1, true, oJdqlLexer_Token (vr p2) (vr p3) (vi x1) (vi 0)) :: F) 0 2 d9_16 (w60 hw) Via.refl rfl rfl (Or.inr ⟨(w61 hw), rfl, rfl⟩) (w39 hw) pfI rfl rfl rfl ?_
  refine W.aloadN (pc := 19) d9_19 rfl rfl ?_
  refine W.iload (pc := 20) d9_20 rfl ?_
  refine W.putf (pc := 22) (D' := (p1, true, oJdqlLexer_Token (vr p2) (vr p3) (vi x1) (vi x2)) :: F) 0 3 d9_22 (w62 hw) Via.refl rfl rfl (Or.inr ⟨(w63 hw), rfl, rfl⟩) (w39 hw) pfI rfl rfl rfl ?_
  exact W.return_ (pc := 25) d9_25 rfl (by decide) ⟨rfl, rfl⟩
theorem c26_isSymbol {Z a0} (hw : HW a0 Z) (hs : SF Z) {p1 p2 p3 p4 p5 p6 : Addr} {x1 : Int32} {x2 : Int32} {x3 : Int32} (hx3 : -128 ≤ x3.toInt ∧ x3.toInt ≤ 127) {x4 : Int32} (hx4 : -128 ≤ x4.toInt ∧ x4.toInt ≤ 127) {x5 : Int32} (hx5 : -128 ≤ x5.toInt ∧ x5.toInt ≤ 127) {x6 : Int32} (hx6 : -128 ≤ x6.toInt ∧ x6.toInt ≤ 127) {x7 : Int32} (hx7 : -128 ≤ x7.toInt ∧ x7.toInt ≤ 127) {x8 : Int32} (hx8 : -128 ≤ x8.toInt ∧ x8.toInt ≤ 127) {w_p1 : Bool} (ne_p3_kSYMBOLZ : p3 ≠ (kSYMBOL Z)) {F : List Ent} (mp1 : (p1, w_p1, oJdqlLexer_Token (vr p3) (vr p4) (vi x1) (vi x2)) ∈ F) : Con Z EL (⟨"com/example/rochester/rochester/JdqlLexer$Token", "isSymbol", "(Ljava/lang/String;)Z"⟩ : MethodName) prog_12_method_3_code 2 (Option.some Jvm.ClassFile.FieldType.boolean) (rmm 0 0 0 0) [(vr p1), (vr p2)] (F) (fun v D' => (v = some (vi 0) ∧ F = D')) := by
  refine Con.of (ls := #[rv p1, rv p2]) (by decide +kernel) rfl ?_
  show W Z EL _ "com/example/rochester/rochester/JdqlLexer$Token" "isSymbol" _ _ _ _ _ _ _ _ _ _
  refine W.aloadN (pc := 0) d11_0 rfl rfl ?_
  refine W.getf (pc := 1) d11_1 (w56 hw) Via.refl mp1 m0 ?_
  refine W.gets (pc := 4) d11_4 (w69 hw) Via.refl hs.2.2.2.2.2.2.2.1 ?_
  refine W.acmpY (pc := 7) 25 d11_7 rfl rfl (show Ca .ne _ _ from (fun z => ne_p3_kSYMBOLZ (by injection z))) (by decide) ?_
  refine W.iconst (pc := 25) (0) d11_25 (by decide) ?_
  exact W.ireturn (pc := 26) d11_26 rfl (Or.inr (Or.inl rfl)) (nw_bool (by decide)) (by decide) ⟨rfl, rfl⟩
theorem d13_34 : decode jdk_43_method_13_code 34 = .ok (.iconst 0, 1) := by decide +kernel
theorem d13_35 : decode jdk_43_method_13_code 35 = .ok (.ireturn, 1) := by decide +kernel
theorem c29_equals {Z a0} (hw : HW a0 Z) (hs : SF Z) {p1 p2 : Addr} {x1 : Int32} (hx1 : -128 ≤ x1.toInt ∧ x1.toInt ≤ 127) {x2 : Int32} (hx2 : -128 ≤ x2.toInt ∧ x2.toInt ≤ 127) {x3 : Int32} (hx3 : -128 ≤ x3.toInt ∧ x3.toInt ≤ 127) {x4 : Int32} (hx4 : -128 ≤ x4.toInt ∧ x4.toInt ≤ 127) {x5 : Int32} (hx5 : -128 ≤ x5.toInt ∧ x5.toInt ≤ 127) {w_p1 : Bool} {ad_p1 : String} {w_p2 : Bool} {ad_p2 : String} {F : List Ent} (mp1 : (p1, w_p1, ar ad_p1 .byte [(vi x1), (vi x2), (vi x3)]) ∈ F) (mp2 : (p2, w_p2, ar ad_p2 .byte [(vi x4), (vi x5)]) ∈ F) : Con Z EL (⟨"java/lang/StringLatin1", "equals", "([B[B)Z"⟩ : MethodName) jdk_43_method_13_code 3 (Option.some Jvm.ClassFile.FieldType.boolean) (rmm 0 0 0 0) [(vr p1), (vr p2)] (F) (fun v D' => (v = some (vi 0) ∧ F = D')) := by
  refine Con.of (ls := #[rv p1, rv p2, uu]) (by decide +kernel) rfl ?_
  show W Z EL _ "java/lang/StringLatin1" "equals" _ _ _ _ _ _ _ _ _ _
  refine W.aloadN (pc := 0) d13_0 rfl rfl ?_
  refine W.alen (pc := 1) (3) d13_1 mp1 rfl ?_
  refine W.aloadN (pc := 2) d13_2 rfl rfl ?_
  refine W.alen (pc := 3) (2) d13_3 mp2 rfl ?_
  refine W.icmpY (pc := 4) 34 d13_4 (y_ne (by decide)) (by decide) ?_
  refine W.iconst (pc := 34) (0) d13_34 (by decide) ?_
  exact W.ireturn (pc := 35) d13_35 rfl (Or.inr (Or.inl rfl)) (nw_bool (by decide)) (by decide) ⟨rfl, rfl⟩
theorem c28_equals {Z a0} (hw : HW a0 Z) (hs : SF Z) {p1 p2 p3 p4 : Addr} {x1 : Int32} (hx1 : -128 ≤ x1.toInt ∧ x1.toInt ≤ 127) {x2 : Int32} (hx2 : -128 ≤ x2.toInt ∧ x2.toInt ≤ 127) {x3 : Int32} (hx3 : -128 ≤ x3.toInt ∧ x3.toInt ≤ 127) {x4 : Int32} (hx4 : -128 ≤ x4.toInt ∧ x4.toInt ≤ 127) {x5 : Int32} (hx5 : -128 ≤ x5.toInt ∧ x5.toInt ≤ 127) {w_p2 : Bool} {w_p1 : Bool} {w_p3 : Bool} {ad_p3 : String} {w_p4 : Bool} {ad_p4 : String} (ne_p1_p2 : p1 ≠ p2) {F : List Ent} (mp2 : (p2, w_p2, oString (vr p4) (vi 0)) ∈ F) (mp1 : (p1, w_p1, oString (vr p3) (vi 0)) ∈ F) (mp3 : (p3, w_p3, ar ad_p3 .byte [(vi x1), (vi x2), (vi x3)]) ∈ F) (mp4 : (p4, w_p4, ar ad_p4 .byte [(vi x4), (vi x5)]) ∈ F) : Con Z EL (⟨"java/lang/String", "equals", "(Ljava/lang/Object;)Z"⟩ : MethodName) jdk_42_method_66_code 3 (Option.some Jvm.ClassFile.FieldType.boolean) (rmm 1 0 0 14) [(vr p1), (vr p2)] (F) (fun v D' => (v = some (vi 0) ∧ F = D')) := by
  refine Con.of (ls := #[rv p1, rv p2, uu]) (by decide +kernel) rfl ?_
  show W Z EL _ "java/lang/String" "equals" _ _ _ _ _ _ _ _ _ _
  refine W.aloadN (pc := 0) d12_0 rfl rfl ?_
  refine W.aloadN (pc := 1) d12_1 rfl rfl ?_
  refine W.acmpY (pc := 2) 7 d12_2 rfl rfl (show Ca .ne _ _ from (fun z => ne_p1_p2 (by injection z))) (by decide) ?_
  refine W.aloadN (pc := 7) d12_7 rfl rfl ?_
  refine W.instY (pc := 8) d12_8 (w87 hw) (Hp.ins mp2) ?_
  refine W.ifN (pc := 11) d12_11 (n_eq (by decide)) ?_
  refine W.aloadN (pc := 14) d12_14 rfl rfl ?_
  refine W.castY (pc := 15) d12_15 (w87 hw) (Hp.ins mp2) ?_
  refine W.astoreN (pc := 18) (ls' := #[rv p1, rv p2, rv p2]) d12_18 rfl rfl ?_
  refine W.gets (pc := 19) d12_19 (w19 hw) Via.refl hs.1 ?_
  refine W.ifN (pc := 22) d12_22 (n_eq (by have := hs.2.1; have := q0; omega)) ?_
  refine W.aloadN (pc := 25) d12_25 rfl rfl ?_
  refine W.getf (pc := 26) d12_26 (w31 hw) Via.refl mp1 m1 ?_
  refine W.aloadN (pc := 29) d12_29 rfl rfl ?_
  refine W.getf (pc := 30) d12_30 (w31 hw) Via.refl mp2 m1 ?_
  refine W.icmpN (pc := 33) d12_33 (n_ne (by decide)) ?_
  refine W.aloadN (pc := 36) d12_36 rfl rfl ?_
  refine W.getf (pc := 37) d12_37 (w33 hw) Via.refl mp1 m0 ?_
  refine W.aloadN (pc := 40) d12_40 rfl rfl ?_
  refine W.getf (pc := 41) d12_41 (w33 hw) Via.refl mp2 m0 ?_
  refine W.callS (pc := 44) (as := [(vr p3), (vr p4)]) 0 [] d12_44 (w88 hw) (w89 hw) (w90 hw) (w91 hw) (c29_equals hw hs (p1 := p3) (p2 := p4) (x1 := x1) (hx1 := hx1) (x2 := x2) (hx2 := hx2) (x3 := x3) (hx3 := hx3) (x4 := x4) (hx4 := hx4) (x5 := x5) (hx5 := hx5) (mp1 := mp3) (mp2 := mp4)) (by decide) pd__B_B_Z rfl rfl rfl rfl (by decide) (fun v D' h => ?_)
  obtain ⟨rfl, rfl⟩ := h
  show W _ _ _ _ _ _ _ _ _ _ _ _ 47 _ [(vi 0)]
  refine W.ifY (pc := 47) 54 d12_47 (y_eq (by decide)) (by decide) ?_
  refine W.iconst (pc := 54) (0) d12_54 (by decide) ?_
  exact W.ireturn (pc := 55) d12_55 rfl (Or.inr (Or.inl rfl)) (nw_bool (by decide)) (by decide) ⟨rfl, rfl⟩
theorem c27_isSymbol {Z a0} (hw : HW a0 Z) (hs : SF Z) {p1 p2 p3 p4 p5 : Addr} {x1 : Int32} {x2 : Int32} {x3 : Int32} (hx3 : -128 ≤ x3.toInt ∧ x3.toInt ≤ 127) {x4 : Int32} (hx4 : -128 ≤ x4.toInt ∧ x4.toInt ≤ 127) {x5 : Int32} (hx5 : -128 ≤ x5.toInt ∧ x5.toInt ≤ 127) {x6 : Int32} (hx6 : -128 ≤ x6.toInt ∧ x6.toInt ≤ 127) {x7 : Int32} (hx7 : -128 ≤ x7.toInt ∧ x7.toInt ≤ 127) {w_p1 : Bool} {w_p3 : Bool} {w_p2 : Bool} {w_p5 : Bool} {ad_p5 : String} {w_p4 : Bool} {ad_p4 : String} (ne_p1_p2 : p1 ≠ p2) (ne_p2_p3 : p2 ≠ p3) {F : List Ent} (mp1 : (p1, w_p1, oJdqlLexer_Token (vr (kSYMBOL Z)) (vr p3) (vi x1) (vi x2)) ∈ F) (mp3 : (p3, w_p3, oString (vr p5) (vi 0)) ∈ F) (mp2 : (p2, w_p2, oString (vr p4) (vi 0)) ∈ F) (mp5 : (p5, w_p5, ar ad_p5 .byte [(vi x5), (vi x6), (vi x7)]) ∈ F) (mp4 : (p4, w_p4, ar ad_p4 .byte [(vi x3), (vi x4)]) ∈ F) : Con Z EL (⟨"com/example/rochester/rochester/JdqlLexer$Token", "isSymbol", "(Ljava/lang/String;)Z"⟩ : MethodName) prog_12_method_3_code 2 (Option.some Jvm.ClassFile.FieldType.boolean) (rmm 2 0 0 28) [(vr p1), (vr p2)] (F) (fun v D' => (v = some (vi 0) ∧ F = D')) := by
  refine Con.of (ls := #[rv p1, rv p2]) (by decide +kernel) rfl ?_
  show W Z EL _ "com/example/rochester/rochester/JdqlLexer$Token" "isSymbol" _ _ _ _ _ _ _ _ _ _
  refine W.aloadN (pc := 0) d11_0 rfl rfl ?_
  refine W.getf (pc := 1) d11_1 (w56 hw) Via.refl mp1 m0 ?_
  refine W.gets (pc := 4) d11_4 (w69 hw) Via.refl hs.2.2.2.2.2.2.2.1 ?_
  refine W.acmpN (pc := 7) d11_7 rfl rfl (fun z => z rfl) ?_
  refine W.aloadN (pc := 10) d11_10 rfl rfl ?_
  refine W.getf (pc := 11) d11_11 (w58 hw) Via.refl mp1 m1 ?_
  refine W.aloadN (pc := 14) d11_14 rfl rfl ?_
  refine W.callV (pc := 15) (as := [(vr p2)]) 0 [] d11_15 (w82 hw) (w83 hw) (w85 hw) (w85 hw) (w84 hw) (w8 hw) (w86 hw) (Hp.exa mp3) (c28_equals hw hs (p1 := p3) (p2 := p2) (p3 := p5) (p4 := p4) (x1 := x5) (hx1 := hx5) (x2 := x6) (hx2 := hx6) (x3 := x7) (hx3 := hx7) (x4 := x3) (hx4 := hx3) (x5 := x4) (hx5 := hx4) (mp2 := mp2) (mp1 := mp3) (mp3 := mp5) (mp4 := mp4) (ne_p1_p2 := (Ne.symm ne_p2_p3))) (by decide) pd_Ljava_lang_Object__Z rfl rfl rfl rfl (by decide) (fun v D' h => ?_)
  obtain ⟨rfl, rfl⟩ := h
  show W _ _ _ _ _ _ _ _ _ _ _ _ 18 _ [(vi 0)]
  refine W.ifY (pc := 18) 25 d11_18 (y_eq (by decide)) (by decide) ?_
  refine W.iconst (pc := 25) (0) d11_25 (by decide) ?_
  exact W.ireturn (pc := 26) d11_26 rfl (Or.inr (Or.inl rfl)) (nw_bool (by decide)) (by decide) ⟨rfl, rfl⟩
theorem c30_isSymbol {Z a0} (hw : HW a0 Z) (hs : SF Z) {p1 p2 p3 p4 p5 p6 : Addr} {x1 : Int32} {x2 : Int32} {x3 : Int32} (hx3 : -128 ≤ x3.toInt ∧ x3.toInt ≤ 127) {x4 : Int32} (hx4 : -128 ≤ x4.toInt ∧ x4.toInt ≤ 127) {x5 : Int32} (hx5 : -128 ≤ x5.toInt ∧ x5.toInt ≤ 127) {x6 : Int32} (hx6 : -128 ≤ x6.toInt ∧ x6.toInt ≤ 127) {x7 : Int32} (hx7 : -128 ≤ x7.toInt ∧ x7.toInt ≤ 127) {w_p1 : Bool} (ne_p3_kSYMBOLZ : p3 ≠ (kSYMBOL Z)) {F : List Ent} (mp1 : (p1, w_p1, oJdqlLexer_Token (vr p3) (vr p4) (vi x1) (vi x2)) ∈ F) : Con Z EL (⟨"com/example/rochester/rochester/JdqlLexer$Token", "isSymbol", "(Ljava/lang/String;)Z"⟩ : MethodName) prog_12_method_3_code 2 (Option.some Jvm.ClassFile.FieldType.boolean) (rmm 0 0 0 0) [(vr p1), (vr p2)] (F) (fun v D' => (v = some (vi 0) ∧ F = D')) := by
  refine Con.of (ls := #[rv p1, rv p2]) (by decide +kernel) rfl ?_
  show W Z EL _ "com/example/rochester/rochester/JdqlLexer$Token" "isSymbol" _ _ _ _ _ _ _ _ _ _
  refine W.aloadN (pc := 0) d11_0 rfl rfl ?_
  refine W.getf (pc := 1) d11_1 (w56 hw) Via.refl mp1 m0 ?_
  refine W.gets (pc := 4) d11_4 (w69 hw) Via.refl hs.2.2.2.2.2.2.2.1 ?_
  refine W.acmpY (pc := 7) 25 d11_7 rfl rfl (show Ca .ne _ _ from (fun z => ne_p3_kSYMBOLZ (by injection z))) (by decide) ?_
  refine W.iconst (pc := 25) (0) d11_25 (by decide) ?_
  exact W.ireturn (pc := 26) d11_26 rfl (Or.inr (Or.inl rfl)) (nw_bool (by decide)) (by decide) ⟨rfl, rfl⟩
theorem c33_equals {Z a0} (hw : HW a0 Z) (hs : SF Z) {p1 p2 : Addr} {x1 : Int32} (hx1 : -128 ≤ x1.toInt ∧ x1.toInt ≤ 127) {x2 : Int32} (hx2 : -128 ≤ x2.toInt ∧ x2.toInt ≤ 127) {x3 : Int32} (hx3 : -128 ≤ x3.toInt ∧ x3.toInt ≤ 127) {x4 : Int32} (hx4 : -128 ≤ x4.toInt ∧ x4.toInt ≤ 127) {w_p1 : Bool} {ad_p1 : String} {w_p2 : Bool} {ad_p2 : String} {F : List Ent} (mp1 : (p1, w_p1, ar ad_p1 .byte [(vi x1), (vi x2), (vi x3)]) ∈ F) (mp2 : (p2, w_p2, ar ad_p2 .byte [(vi x4)]) ∈ F) : Con Z EL (⟨"java/lang/StringLatin1", "equals", "([B[B)Z"⟩ : MethodName) jdk_43_method_13_code 3 (Option.some Jvm.ClassFile.FieldType.boolean) (rmm 0 0 0 0) [(vr p1), (vr p2)] (F) (fun v D' => (v = some (vi 0) ∧ F = D')) := by
  refine Con.of (ls := #[rv p1, rv p2, uu]) (by decide +kernel) rfl ?_
  show W Z EL _ "java/lang/StringLatin1" "equals" _ _ _ _ _ _ _ _ _ _
  refine W.aloadN (pc := 0) d13_0 rfl rfl ?_
  refine W.alen (pc := 1) (3) d13_1 mp1 rfl ?_
  refine W.aloadN (pc := 2) d13_2 rfl rfl ?_
  refine W.alen (pc := 3) (1) d13_3 mp2 rfl ?_
  refine W.icmpY (pc := 4) 34 d13_4 (y_ne (by decide)) (by decide) ?_
  refine W.iconst (pc := 34) (0) d13_34 (by decide) ?_
  exact W.ireturn (pc := 35) d13_35 rfl (Or.inr (Or.inl rfl)) (nw_bool (by decide)) (by decide) ⟨rfl, rfl⟩
theorem c32_equals {Z a0} (hw : HW a0 Z) (hs : SF Z) {p1 p2 p3 p4 : Addr} {x1 : Int32} (hx1 : -128 ≤ x1.toInt ∧ x1.toInt ≤ 127) {x2 : Int32} (hx2 : -128 ≤ x2.toInt ∧ x2.toInt ≤ 127) {x3 : Int32} (hx3 : -128 ≤ x3.toInt ∧ x3.toInt ≤ 127) {x4 : Int32} (hx4 : -128 ≤ x4.toInt ∧ x4.toInt ≤ 127) {w_p2 : Bool} {w_p1 : Bool} {w_p3 : Bool} {ad_p3 : String} {w_p4 : Bool} {ad_p4 : String} (ne_p1_p2 : p1 ≠ p2) {F : List Ent} (mp2 : (p2, w_p2, oString (vr p4) (vi 0)) ∈ F) (mp1 : (p1, w_p1, oString (vr p3) (vi 0)) ∈ F) (mp3 : (p3, w_p3, ar ad_p3 .byte [(vi x1), (vi x2), (vi x3)]) ∈ F) (mp4 : (p4, w_p4, ar ad_p4 .byte [(vi x4)]) ∈ F) : Con Z EL (⟨"java/lang/String", "equals", "(Ljava/lang/Object;)Z"⟩ : MethodName) jdk_42_method_66_code 3 (Option.some Jvm.ClassFile.FieldType.boolean) (rmm 1 0 0 14) [(vr p1), (vr p2)] (F) (fun v D' => (v = some (vi 0) ∧ F = D')) := by
  refine Con.of (ls := #[rv p1, rv p2, uu]) (by decide +kernel) rfl ?_
  show W Z EL _ "java/lang/String" "equals" _ _ _ _ _ _ _ _ _ _
  refine W.aloadN (pc := 0) d12_0 rfl rfl ?_
  refine W.aloadN (pc := 1) d12_1 rfl rfl ?_
  refine W.acmpY (pc := 2) 7 d12_2 rfl rfl (show Ca .ne _ _ from (fun z => ne_p1_p2 (by injection z))) (by decide) ?_
  refine W.aloadN (pc := 7) d12_7 rfl rfl ?_
  refine W.instY (pc := 8) d12_8 (w87 hw) (Hp.ins mp2) ?_
  refine W.ifN (pc := 11) d12_11 (n_eq (by decide)) ?_
  refine W.aloadN (pc := 14) d12_14 rfl rfl ?_
  refine W.castY (pc := 15) d12_15 (w87 hw) (Hp.ins mp2) ?_
  refine W.astoreN (pc := 18) (ls' := #[rv p1, rv p2, rv p2]) d12_18 rfl rfl ?_
  refine W.gets (pc := 19) d12_19 (w19 hw) Via.refl hs.1 ?_
  refine W.ifN (pc := 22) d12_22 (n_eq (by have := hs.2.1; have := q0; omega)) ?_
  refine W.aloadN (pc := 25) d12_25 rfl rfl ?_
  refine W.getf (pc := 26) d12_26 (w31 hw) Via.refl mp1 m1 ?_
  refine W.aloadN (pc := 29) d12_29 rfl rfl ?_
  refine W.getf (pc := 30) d12_30 (w31 hw) Via.refl mp2 m1 ?_
  refine W.icmpN (pc := 33) d12_33 (n_ne (by decide)) ?_
  refine W.aloadN (pc := 36) d12_36 rfl rfl ?_
  refine W.getf (pc := 37) d12_37 (w33 hw) Via.refl mp1 m0 ?_
  refine W.aloadN (pc := 40) d12_40 rfl rfl ?_
  refine W.getf (pc := 41) d12_41 (w33 hw) Via.refl mp2 m0 ?_
  refine W.callS (pc := 44) (as := [(vr p3), (vr p4)]) 0 [] d12_44 (w88 hw) (w89 hw) (w90 hw) (w91 hw) (c33_equals hw hs (p1 := p3) (p2 := p4) (x1 := x1) (hx1 := hx1) (x2 := x2) (hx2 := hx2) (x3 := x3) (hx3 := hx3) (x4 := x4) (hx4 := hx4) (mp1 := mp3) (mp2 := mp4)) (by decide) pd__B_B_Z rfl rfl rfl rfl (by decide) (fun v D' h => ?_)
  obtain ⟨rfl, rfl⟩ := h
  show W _ _ _ _ _ _ _ _ _ _ _ _ 47 _ [(vi 0)]
  refine W.ifY (pc := 47) 54 d12_47 (y_eq (by decide)) (by decide) ?_
  refine W.iconst (pc := 54) (0) d12_54 (by decide) ?_
  exact W.ireturn (pc := 55) d12_55 rfl (Or.inr (Or.inl rfl)) (nw_bool (by decide)) (by decide) ⟨rfl, rfl⟩
theorem c31_isSymbol {Z a0} (hw : HW a0 Z) (hs : SF Z) {p1 p2 p3 p4 p5 : Addr} {x1 : Int32} {x2 : Int32} {x3 : Int32} (hx3 : -128 ≤ x3.toInt ∧ x3.toInt ≤ 127) {x4 : Int32} (hx4 : -128 ≤ x4.toInt ∧ x4.toInt ≤ 127) {x5 : Int32} (hx5 : -128 ≤ x5.toInt ∧ x5.toInt ≤ 127) {x6 : Int32} (hx6 : -128 ≤ x6.toInt ∧ x6.toInt ≤ 127) {w_p1 : Bool} {w_p3 : Bool} {w_p2 : Bool} {w_p5 : Bool} {ad_p5 : String} {w_p4 : Bool} {ad_p4 : String} (ne_p1_p2 : p1 ≠ p2) (ne_p2_p3 : p2 ≠ p3) {F : List Ent} (mp1 : (p1, w_p1, oJdqlLexer_Token (vr (kSYMBOL Z)) (vr p3) (vi x1) (vi x2)) ∈ F) (mp3 : (p3, w_p3, oString (vr p5) (vi 0)) ∈ F) (mp2 : (p2, w_p2, oString (vr p4) (vi 0)) ∈ F) (mp5 : (p5, w_p5, ar ad_p5 .byte [(vi x4), (vi x5), (vi x6)]) ∈ F) (mp4 : (p4, w_p4, ar ad_p4 .byte [(vi x3)]) ∈ F) : Con Z EL (⟨"com/example/rochester/rochester/JdqlLexer$Token", "isSymbol", "(Ljava/lang/String;)Z"⟩ : MethodName) prog_12_method_3_code 2 (Option.some Jvm.ClassFile.FieldType.boolean) (rmm 2 0 0 28) [(vr p1), (vr p2)] (F) (fun v D' => (v = some (vi 0) ∧ F = D')) := by
  refine Con.of (ls := #[rv p1, rv p2]) (by decide +kernel) rfl ?_
  show W Z EL _ "com/example/rochester/rochester/JdqlLexer$Token" "isSymbol" _ _ _ _ _ _ _ _ _ _
  refine W.aloadN (pc := 0) d11_0 rfl rfl ?_
  refine W.getf (pc := 1) d11_1 (w56 hw) Via.refl mp1 m0 ?_
  refine W.gets (pc := 4) d11_4 (w69 hw) Via.refl hs.2.2.2.2.2.2.2.1 ?_
  refine W.acmpN (pc := 7) d11_7 rfl rfl (fun z => z rfl) ?_
  refine W.aloadN (pc := 10) d11_10 rfl rfl ?_
  refine W.getf (pc := 11) d11_11 (w58 hw) Via.refl mp1 m1 ?_
  refine W.aloadN (pc := 14) d11_14 rfl rfl ?_
  refine W.callV (pc := 15) (as := [(vr p2)]) 0 [] d11_15 (w82 hw) (w83 hw) (w85 hw) (w85 hw) (w84 hw) (w8 hw) (w86 hw) (Hp.exa mp3) (c32_equals hw hs (p1 := p3) (p2 := p2) (p3 := p5) (p4 := p4) (x1 := x4) (hx1 := hx4) (x2 := x5) (hx2 := hx5) (x3 := x6) (hx3 := hx6) (x4 := x3) (hx4 := hx3) (mp2 := mp2) (mp1 := mp3) (mp3 := mp5) (mp4 := mp4) (ne_p1_p2 := (Ne.symm ne_p2_p3))) (by decide) pd_Ljava_lang_Object__Z rfl rfl rfl rfl (by decide) (fun v D' h => ?_)
  obtain ⟨rfl, rfl⟩ := h
  show W _ _ _ _ _ _ _ _ _ _ _ _ 18 _ [(vi 0)]
  refine W.ifY (pc := 18) 25 d11_18 (y_eq (by decide)) (by decide) ?_
  refine W.iconst (pc := 25) (0) d11_25 (by decide) ?_
  exact W.ireturn (pc := 26) d11_26 rfl (Or.inr (Or.inl rfl)) (nw_bool (by decide)) (by decide) ⟨rfl, rfl⟩
theorem c34_isSymbol {Z a0} (hw : HW a0 Z) (hs : SF Z) {p1 p2 p3 p4 p5 p6 : Addr} {x1 : Int32} {x2 : Int32} {x3 : Int32} (hx3 : -128 ≤ x3.toInt ∧ x3.toInt ≤ 127) {x4 : Int32} (hx4 : -128 ≤ x4.toInt ∧ x4.toInt ≤ 127) {x5 : Int32} (hx5 : -128 ≤ x5.toInt ∧ x5.toInt ≤ 127) {x6 : Int32} (hx6 : -128 ≤ x6.toInt ∧ x6.toInt ≤ 127) {w_p1 : Bool} (ne_p3_kSYMBOLZ : p3 ≠ (kSYMBOL Z)) {F : List Ent} (mp1 : (p1, w_p1, oJdqlLexer_Token (vr p3) (vr p4) (vi x1) (vi x2)) ∈ F) : Con Z EL (⟨"com/example/rochester/rochester/JdqlLexer$Token", "isSymbol", "(Ljava/lang/String;)Z"⟩ : MethodName) prog_12_method_3_code 2 (Option.some Jvm.ClassFile.FieldType.boolean) (rmm 0 0 0 0) [(vr p1), (vr p2)] (F) (fun v D' => (v = some (vi 0) ∧ F = D')) := by
  refine Con.of (ls := #[rv p1, rv p2]) (by decide +kernel) rfl ?_
  show W Z EL _ "com/example/rochester/rochester/JdqlLexer$Token" "isSymbol" _ _ _ _ _ _ _ _ _ _
  refine W.aloadN (pc := 0) d11_0 rfl rfl ?_
  refine W.getf (pc := 1) d11_1 (w56 hw) Via.refl mp1 m0 ?_
  refine W.gets (pc := 4) d11_4 (w69 hw) Via.refl hs.2.2.2.2.2.2.2.1 ?_
  refine W.acmpY (pc := 7) 25 d11_7 rfl rfl (show Ca .ne _ _ from (fun z => ne_p3_kSYMBOLZ (by injection z))) (by decide) ?_
  refine W.iconst (pc := 25) (0) d11_25 (by decide) ?_
  exact W.ireturn (pc := 26) d11_26 rfl (Or.inr (Or.inl rfl)) (nw_bool (by decide)) (by decide) ⟨rfl, rfl⟩
theorem c37_equals {Z a0} (hw : HW a0 Z) (hs : SF Z) {p1 p2 : Addr} {x1 : Int32} (hx1 : -128 ≤ x1.toInt ∧ x1.toInt ≤ 127) {x2 : Int32} (hx2 : -128 ≤ x2.toInt ∧ x2.toInt ≤ 127) {x3 : Int32} (hx3 : -128 ≤ x3.toInt ∧ x3.toInt ≤ 127) {w_p1 : Bool} {ad_p1 : String} {w_p2 : Bool} {ad_p2 : String} {F : List Ent} (mp1 : (p1, w_p1, ar ad_p1 .byte [(vi x1), (vi x2), (vi x3)]) ∈ F) (mp2 : (p2, w_p2, ar ad_p2 .byte []) ∈ F) : Con Z EL (⟨"java/lang/StringLatin1", "equals", "([B[B)Z"⟩ : MethodName) jdk_43_method_13_code 3 (Option.some Jvm.ClassFile.FieldType.boolean) (rmm 0 0 0 0) [(vr p1), (vr p2)] (F) (fun v D' => (v = some (vi 0) ∧ F = D')) := by
  refine Con.of (ls := #[rv p1, rv p2, uu]) (by decide +kernel) rfl ?_
  show W Z EL _ "java/lang/StringLatin1" "equals" _ _ _ _ _ _ _ _ _ _
  refine W.aloadN (pc := 0) d13_0 rfl rfl ?_
  refine W.alen (pc := 1) (3) d13_1 mp1 rfl ?_
  refine W.aloadN (pc := 2) d13_2 rfl rfl ?_
  refine W.alen (pc := 3) (0) d13_3 mp2 rfl ?_
  refine W.icmpY (pc := 4) 34 d13_4 (y_ne (by decide)) (by decide) ?_
  refine W.iconst (pc := 34) (0) d13_34 (by decide) ?_
  exact W.ireturn (pc := 35) d13_35 rfl (Or.inr (Or.inl rfl)) (nw_bool (by decide)) (by decide) ⟨rfl, rfl⟩
theorem c36_equals {Z a0} (hw : HW a0 Z) (hs : SF Z) {p1 p2 p3 p4 : Addr} {x1 : Int32} (hx1 : -128 ≤ x1.toInt ∧ x1.toInt ≤ 127) {x2 : Int32} (hx2 : -128 ≤ x2.toInt ∧ x2.toInt ≤ 127) {x3 : Int32} (hx3 : -128 ≤ x3.toInt ∧ x3.toInt ≤ 127) {w_p2 : Bool} {w_p1 : Bool} {w_p3 : Bool} {ad_p3 : String} {w_p4 : Bool} {ad_p4 : String} (ne_p1_p2 : p1 ≠ p2) {F : List Ent} (mp2 : (p2, w_p2, oString (vr p4) (vi 0)) ∈ F) (mp1 : (p1, w_p1, oString (vr p3) (vi 0)) ∈ F) (mp3 : (p3, w_p3, ar ad_p3 .byte [(vi x1), (vi x2), (vi x3)]) ∈ F) (mp4 : (p4, w_p4, ar ad_p4 .byte []) ∈ F) : Con Z EL (⟨"java/lang/String", "equals", "(Ljava/lang/Object;)Z"⟩ : MethodName) jdk_42_method_66_code 3 (Option.some Jvm.ClassFile.FieldType.boolean) (rmm 1 0 0 14) [(vr p1), (vr p2)] (F) (fun v D' => (v = some (vi 0) ∧ F = D')) := by
  refine Con.of (ls := #[rv p1, rv p2, uu]) (by decide +kernel) rfl ?_
  show W Z EL _ "java/lang/String" "equals" _ _ _ _ _ _ _ _ _ _
  refine W.aloadN (pc := 0) d12_0 rfl rfl ?_
  refine W.aloadN (pc := 1) d12_1 rfl rfl ?_
  refine W.acmpY (pc := 2) 7 d12_2 rfl rfl (show Ca .ne _ _ from (fun z => ne_p1_p2 (by injection z))) (by decide) ?_
  refine W.aloadN (pc := 7) d12_7 rfl rfl ?_
  refine W.instY (pc := 8) d12_8 (w87 hw) (Hp.ins mp2) ?_
  refine W.ifN (pc := 11) d12_11 (n_eq (by decide)) ?_
  refine W.aloadN (pc := 14) d12_14 rfl rfl ?_
  refine W.castY (pc := 15) d12_15 (w87 hw) (Hp.ins mp2) ?_
  refine W.astoreN (pc := 18) (ls' := #[rv p1, rv p2, rv p2]) d12_18 rfl rfl ?_
  refine W.gets (pc := 19) d12_19 (w19 hw) Via.refl hs.1 ?_
  refine W.ifN (pc := 22) d12_22 (n_eq (by have := hs.2.1; have := q0; omega)) ?_
  refine W.aloadN (pc := 25) d12_25 rfl rfl ?_
  refine W.getf (pc := 26) d12_26 (w31 hw) Via.refl mp1 m1 ?_
  refine W.aloadN (pc := 29) d12_29 rfl rfl ?_
  refine W.getf (pc := 30) d12_30 (w31 hw) Via.refl mp2 m1 ?_
  refine W.icmpN (pc := 33) d12_33 (n_ne (by decide)) ?_
  refine W.aloadN (pc := 36) d12_36 rfl rfl ?_
  refine W.getf (pc := 37) d12_37 (w33 hw) Via.refl mp1 m0 ?_
  refine W.aloadN (pc := 40) d12_40 rfl rfl ?_
  refine W.getf (pc := 41) d12_41 (w33 hw) Via.refl mp2 m0 ?_
  refine W.callS (pc := 44) (as := [(vr p3), (vr p4)]) 0 [] d12_44 (w88 hw) (w89 hw) (w90 hw) (w91 hw) (c37_equals hw hs (p1 := p3) (p2 := p4) (x1 := x1) (hx1 := hx1) (x2 := x2) (hx2 := hx2) (x3 := x3) (hx3 := hx3) (mp1 := mp3) (mp2 := mp4)) (by decide) pd__B_B_Z rfl rfl rfl rfl (by decide) (fun v D' h => ?_)
  obtain ⟨rfl, rfl⟩ := h
  show W _ _ _ _ _ _ _ _ _ _ _ _ 47 _ [(vi 0)]
  refine W.ifY (pc := 47) 54 d12_47 (y_eq (by decide)) (by decide) ?_
  refine W.iconst (pc := 54) (0) d12_54 (by decide) ?_
  exact W.ireturn (pc := 55) d12_55 rfl (Or.inr (Or.inl rfl)) (nw_bool (by decide)) (by decide) ⟨rfl, rfl⟩
theorem c35_isSymbol {Z a0} (hw : HW a0 Z) (hs : SF Z) {p1 p2 p3 p4 p5 : Addr} {x1 : Int32} {x2 : Int32} {x3 : Int32} (hx3 : -128 ≤ x3.toInt ∧ x3.toInt ≤ 127) {x4 : Int32} (hx4 : -128 ≤ x4.toInt ∧ x4.toInt ≤ 127) {x5 : Int32} (hx5 : -128 ≤ x5.toInt ∧ x5.toInt ≤ 127) {w_p1 : Bool} {w_p3 : Bool} {w_p2 : Bool} {w_p5 : Bool} {ad_p5 : String} {w_p4 : Bool} {ad_p4 : String} (ne_p1_p2 : p1 ≠ p2) (ne_p2_p3 : p2 ≠ p3) {F : List Ent} (mp1 : (p1, w_p1, oJdqlLexer_Token (vr (kSYMBOL Z)) (vr p3) (vi x1) (vi x2)) ∈ F) (mp3 : (p3, w_p3, oString (vr p5) (vi 0)) ∈ F) (mp2 : (p2, w_p2, oString (vr p4) (vi 0)) ∈ F) (mp5 : (p5, w_p5, ar ad_p5 .byte [(vi x3), (vi x4), (vi x5)]) ∈ F) (mp4 : (p4, w_p4, ar ad_p4 .byte []) ∈ F) : Con Z EL (⟨"com/example/rochester/rochester/JdqlLexer$Token", "isSymbol", "(Ljava/lang/String;)Z"⟩ : MethodName) prog_12_method_3_code 2 (Option.some Jvm.ClassFile.FieldType.boolean) (rmm 2 0 0 28) [(vr p1), (vr p2)] (F) (fun v D' => (v = some (vi 0) ∧ F = D')) := by
  refine Con.of (ls := #[rv p1, rv p2]) (by decide +kernel) rfl ?_
  show W Z EL _ "com/example/rochester/rochester/JdqlLexer$Token" "isSymbol" _ _ _ _ _ _ _ _ _ _
  refine W.aloadN (pc := 0) d11_0 rfl rfl ?_
  refine W.getf (pc := 1) d11_1 (w56 hw) Via.refl mp1 m0 ?_
  refine W.gets (pc := 4) d11_4 (w69 hw) Via.refl hs.2.2.2.2.2.2.2.1 ?_
  refine W.acmpN (pc := 7) d11_7 rfl rfl (fun z => z rfl) ?_
  refine W.aloadN (pc := 10) d11_10 rfl rfl ?_
  refine W.getf (pc := 11) d11_11 (w58 hw) Via.refl mp1 m1 ?_
  refine W.aloadN (pc := 14) d11_14 rfl rfl ?_
  refine W.callV (pc := 15) (as := [(vr p2)]) 0 [] d11_15 (w82 hw) (w83 hw) (w85 hw) (w85 hw) (w84 hw) (w8 hw) (w86 hw) (Hp.exa mp3) (c36_equals hw hs (p1 := p3) (p2 := p2) (p3 := p5) (p4 := p4) (x1 := x3) (hx1 := hx3) (x2 := x4) (hx2 := hx4) (x3 := x5) (hx3 := hx5) (mp2 := mp2) (mp1 := mp3) (mp3 := mp5) (mp4 := mp4) (ne_p1_p2 := (Ne.symm ne_p2_p3))) (by decide) pd_Ljava_lang_Object__Z rfl rfl rfl rfl (by decide) (fun v D' h => ?_)
  obtain ⟨rfl, rfl⟩ := h
  show W _ _ _ _ _ _ _ _ _ _ _ _ 18 _ [(vi 0)]
  refine W.ifY (pc := 18) 25 d11_18 (y_eq (by decide)) (by decide) ?_
  refine W.iconst (pc := 25) (0) d11_25 (by decide) ?_
  exact W.ireturn (pc := 26) d11_26 rfl (Or.inr (Or.inl rfl)) (nw_bool (by decide)) (by decide) ⟨rfl, rfl⟩
theorem c38_isSymbol {Z a0} (hw : HW a0 Z) (hs : SF Z) {p1 p2 p3 p4 p5 p6 : Addr} {x1 : Int32} {x2 : Int32} {x3 : Int32} (hx3 : -128 ≤ x3.toInt ∧ x3.toInt ≤ 127) {x4 : Int32} (hx4 : -128 ≤ x4.toInt ∧ x4.toInt ≤ 127) {x5 : Int32} (hx5 : -128 ≤ x5.toInt ∧ x5.toInt ≤ 127) {w_p1 : Bool} (ne_p3_kSYMBOLZ : p3 ≠ (kSYMBOL Z)) {F : List Ent} (mp1 : (p1, w_p1, oJdqlLexer_Token (vr p3) (vr p4) (vi x1) (vi x2)) ∈ F) : Con Z EL (⟨"com/example/rochester/rochester/JdqlLexer$Token", "isSymbol", "(Ljava/lang/String;)Z"⟩ : MethodName) prog_12_method_3_code 2 (Option.some Jvm.ClassFile.FieldType.boolean) (rmm 0 0 0 0) [(vr p1), (vr p2)] (F) (fun v D' => (v = some (vi 0) ∧ F = D')) := by
  refine Con.of (ls := #[rv p1, rv p2]) (by decide +kernel) rfl ?_
  show W Z EL _ "com/example/rochester/rochester/JdqlLexer$Token" "isSymbol" _ _ _ _ _ _ _ _ _ _
  refine W.aloadN (pc := 0) d11_0 rfl rfl ?_
  refine W.getf (pc := 1) d11_1 (w56 hw) Via.refl mp1 m0 ?_
  refine W.gets (pc := 4) d11_4 (w69 hw) Via.refl hs.2.2.2.2.2.2.2.1 ?_
  refine W.acmpY (pc := 7) 25 d11_7 rfl rfl (show Ca .ne _ _ from (fun z => ne_p3_kSYMBOLZ (by injection z))) (by decide) ?_
  refine W.iconst (pc := 25) (0) d11_25 (by decide) ?_
  exact W.ireturn (pc := 26) d11_26 rfl (Or.inr (Or.inl rfl)) (nw_bool (by decide)) (by decide) ⟨rfl, rfl⟩
theorem c39_init {Z a0} (hw : HW a0 Z) (hs : SF Z) {p1 p2 p3 : Addr} {x1 : Int32} {x2 : Int32} {x3 : Int32} (hx3 : -128 ≤ x3.toInt ∧ x3.toInt ≤ 127) {x4 : Int32} (hx4 : -128 ≤ x4.toInt ∧ x4.toInt ≤ 127) {F : List Ent} : Con Z EL (⟨"com/example/rochester/rochester/JdqlLexer$Token", "<init>", "(Lcom/example/rochester/rochester/JdqlLexer$Kind;Ljava/lang/String;II)V"⟩ : MethodName) prog_12_method_1_code 5 (Option.none : Option Jvm.ClassFile.FieldType) (rmm 2 0 0 24) [(vr p1), (vr (kSYMBOL Z)), (vr p2), (vi x1), (vi x2)] ((p1, true, oJdqlLexer_Token .null .null (vi 0) (vi 0)) :: F) (fun v D' => (v = none ∧ (p1, true, oJdqlLexer_Token (vr (kSYMBOL Z)) (vr p2) (vi x1) (vi x2)) :: F = D')) := by
  refine Con.of (ls := #[rv p1, rv (kSYMBOL Z), rv p2, iv x1, iv x2]) (by decide +kernel) rfl ?_
  show W Z EL _ "com/example/rochester/rochester/JdqlLexer$Token" "<init>" _ _ _ _ _ _ _ _ _ _
  refine W.aloadN (pc := 0) d9_0 rfl rfl ?_
  refine W.callI (pc := 1) (as := []) 0 [] d9_1 rfl (w50 hw) (w51 hw) (w53 hw) (w54 hw) (c21_init hw hs (p1 := p1)) (by decide) pd__V rfl rfl rfl rfl (by decide) (fun v D' h => ?_)
  obtain ⟨rfl, rfl⟩ := h
  show W _ _ _ _ _ _ _ _ _ _ _ _ 4 _ []
  refine W.aloadN (pc := 4) d9_4 rfl rfl ?_
  refine W.aloadN (pc := 5) d9_5 rfl rfl ?_
  refine W.putf (pc := 6) (D' := (p1, true, oJdqlLexer_Token (vr (kSYMBOL Z)) .null (vi 0) (vi 0)) :: F) 0 0 d9_6 (w56 hw) Via.refl rfl rfl (Or.inr ⟨(w57 hw), rfl, rfl⟩) (w39 hw) pfLcom_example_rochester_rochester_JdqlLexer_Kind_ rfl rfl rfl ?_
  refine W.aloadN (pc := 9) d9_9 rfl rfl ?_
  refine W.aloadN (pc := 10) d9_10 rfl rfl ?_
  refine W.putf (pc := 11) (D' := (p1, true, oJdqlLexer_Token (vr (kSYMBOL Z)) (vr p2) (vi 0) (vi 0)) :: F) 0 1 d9_11 (w58 hw) Via.refl rfl rfl (Or.inr ⟨(w59 hw), rfl, rfl⟩) (w39 hw) pfLjava_lang_String_ rfl rfl rfl ?_
  refine W.aloadN (pc := 14) d9_14 rfl rfl ?_
  refine W.iloadN (pc := 15) d9_15 rfl ?_
  refine W.putf (pc := 16) (D' := (p1, true, oJdqlLexer_Token (vr (kSYMBOL Z)) (vr p2) (vi x1) (vi 0)) :: F) 0 2 d9_16 (w60 hw) Via.refl rfl rfl (Or.inr ⟨(w61 hw), rfl, rfl⟩) (w39 hw) pfI rfl rfl rfl ?_
  refine W.aloadN (pc := 19) d9_19 rfl rfl ?_
  refine W.iload (pc := 20) d9_20 rfl ?_
  refine W.putf (pc := 22) (D' := (p1, true, oJdqlLexer_Token (vr (kSYMBOL Z)) (vr p2) (vi x1) (vi x2)) :: F) 0 3 d9_22 (w62 hw) Via.refl rfl rfl (Or.inr ⟨(w63 hw), rfl, rfl⟩) (w39 hw) pfI rfl rfl rfl ?_
  exact W.return_ (pc := 25) d9_25 rfl (by decide) ⟨rfl, rfl⟩
theorem c42_equals {Z a0} (hw : HW a0 Z) (hs : SF Z) {p1 p2 : Addr} {x1 : Int32} (hx1 : -128 ≤ x1.toInt ∧ x1.toInt ≤ 127) {x2 : Int32} (hx2 : -128 ≤ x2.toInt ∧ x2.toInt ≤ 127) {x3 : Int32} (hx3 : -128 ≤ x3.toInt ∧ x3.toInt ≤ 127) {x4 : Int32} (hx4 : -128 ≤ x4.toInt ∧ x4.toInt ≤ 127) {x5 : Int32} (hx5 : -128 ≤ x5.toInt ∧ x5.toInt ≤ 127) {w_p1 : Bool} {ad_p1 : String} {w_p2 : Bool} {ad_p2 : String} {F : List Ent} (mp1 : (p1, w_p1, ar ad_p1 .byte [(vi x1), (vi x2)]) ∈ F) (mp2 : (p2, w_p2, ar ad_p2 .byte [(vi x3), (vi x4), (vi x5)]) ∈ F) : Con Z EL (⟨"java/lang/StringLatin1", "equals", "([B[B)Z"⟩ : MethodName) jdk_43_method_13_code 3 (Option.some Jvm.ClassFile.FieldType.boolean) (rmm 0 0 0 0) [(vr p1), (vr p2)] (F) (fun v D' => (v = some (vi 0) ∧ F = D')) := by
  refine Con.of (ls := #[rv p1, rv p2, uu]) (by decide +kernel) rfl ?_
  show W Z EL _ "java/lang/StringLatin1" "equals" _ _ _ _ _ _ _ _ _ _
  refine W.aloadN (pc := 0) d13_0 rfl rfl ?_
  refine W.alen (pc := 1) (2) d13_1 mp1 rfl ?_
  refine W.aloadN (pc := 2) d13_2 rfl rfl ?_
  refine W.alen (pc := 3) (3) d13_3 mp2 rfl ?_
  refine W.icmpY (pc := 4) 34 d13_4 (y_ne (by decide)) (by decide) ?_
  refine W.iconst (pc := 34) (0) d13_34 (by decide) ?_
  exact W.ireturn (pc := 35) d13_35 rfl (Or.inr (Or.inl rfl)) (nw_bool (by decide)) (by decide) ⟨rfl, rfl⟩
theorem c41_equals {Z a0} (hw : HW a0 Z) (hs : SF Z) {p1 p2 p3 p4 : Addr} {x1 : Int32} (hx1 : -128 ≤ x1.toInt ∧ x1.toInt ≤ 127) {x2 : Int32} (hx2 : -128 ≤ x2.toInt ∧ x2.toInt ≤ 127) {x3 : Int32} (hx3 : -128 ≤ x3.toInt ∧ x3.toInt ≤ 127) {x4 : Int32} (hx4 : -128 ≤ x4.toInt ∧ x4.toInt ≤ 127) {x5 : Int32} (hx5 : -128 ≤ x5.toInt ∧ x5.toInt ≤ 127) {w_p2 : Bool} {w_p1 : Bool} {w_p3 : Bool} {ad_p3 : String} {w_p4 : Bool} {ad_p4 : String} (ne_p1_p2 : p1 ≠ p2) {F : List Ent} (mp2 : (p2, w_p2, oString (vr p4) (vi 0)) ∈ F) (mp1 : (p1, w_p1, oString (vr p3) (vi 0)) ∈ F) (mp3 : (p3, w_p3, ar ad_p3 .byte [(vi x1), (vi x2)]) ∈ F) (mp4 : (p4, w_p4, ar ad_p4 .byte [(vi x3), (vi x4), (vi x5)]) ∈ F) : Con Z EL (⟨"java/lang/String", "equals", "(Ljava/lang/Object;)Z"⟩ : MethodName) jdk_42_method_66_code 3 (Option.some Jvm.ClassFile.FieldType.boolean) (rmm 1 0 0 14) [(vr p1), (vr p2)] (F) (fun v D' => (v = some (vi 0) ∧ F = D')) := by
  refine Con.of (ls := #[rv p1, rv p2, uu]) (by decide +kernel) rfl ?_
  show W Z EL _ "java/lang/String" "equals" _ _ _ _ _ _ _ _ _ _
  refine W.aloadN (pc := 0) d12_0 rfl rfl ?_
  refine W.aloadN (pc := 1) d12_1 rfl rfl ?_
  refine W.acmpY (pc := 2) 7 d12_2 rfl rfl (show Ca .ne _ _ from (fun z => ne_p1_p2 (by injection z))) (by decide) ?_
  refine W.aloadN (pc := 7) d12_7 rfl rfl ?_
  refine W.instY (pc := 8) d12_8 (w87 hw) (Hp.ins mp2) ?_
  refine W.ifN (pc := 11) d12_11 (n_eq (by decide)) ?_
  refine W.aloadN (pc := 14) d12_14 rfl rfl ?_
  refine W.castY (pc := 15) d12_15 (w87 hw) (Hp.ins mp2) ?_
  refine W.astoreN (pc := 18) (ls' := #[rv p1, rv p2, rv p2]) d12_18 rfl rfl ?_
  refine W.gets (pc := 19) d12_19 (w19 hw) Via.refl hs.1 ?_
  refine W.ifN (pc := 22) d12_22 (n_eq (by have := hs.2.1; have := q0; omega)) ?_
  refine W.aloadN (pc := 25) d12_25 rfl rfl ?_
  refine W.getf (pc := 26) d12_26 (w31 hw) Via.refl mp1 m1 ?_
  refine W.aloadN (pc := 29) d12_29 rfl rfl ?_
  refine W.getf (pc := 30) d12_30 (w31 hw) Via.refl mp2 m1 ?_
  refine W.icmpN (pc := 33) d12_33 (n_ne (by decide)) ?_
  refine W.aloadN (pc := 36) d12_36 rfl rfl ?_
  refine W.getf (pc := 37) d12_37 (w33 hw) Via.refl mp1 m0 ?_
  refine W.aloadN (pc := 40) d12_40 rfl rfl ?_
  refine W.getf (pc := 41) d12_41 (w33 hw) Via.refl mp2 m0 ?_
  refine W.callS (pc := 44) (as := [(vr p3), (vr p4)]) 0 [] d12_44 (w88 hw) (w89 hw) (w90 hw) (w91 hw) (c42_equals hw hs (p1 := p3) (p2 := p4) (x1 := x1) (hx1 := hx1) (x2 := x2) (hx2 := hx2) (x3 := x3) (hx3 := hx3) (x4 := x4) (hx4 := hx4) (x5 := x5) (hx5 := hx5) (mp1 := mp3) (mp2 := mp4)) (by decide) pd__B_B_Z rfl rfl rfl rfl (by decide) (fun v D' h => ?_)
  obtain ⟨rfl, rfl⟩ := h
  show W _ _ _ _ _ _ _ _ _ _ _ _ 47 _ [(vi 0)]
  refine W.ifY (pc := 47) 54 d12_47 (y_eq (by decide)) (by decide) ?_
  refine W.iconst (pc := 54) (0) d12_54 (by decide) ?_
  exact W.ireturn (pc := 55) d12_55 rfl (Or.inr (Or.inl rfl)) (nw_bool (by decide)) (by decide) ⟨rfl, rfl⟩
theorem c40_isSymbol {Z a0} (hw : HW a0 Z) (hs : SF Z) {p1 p2 p3 p4 p5 : Addr} {x1 : Int32} {x2 : Int32} {x3 : Int32} (hx3 : -128 ≤ x3.toInt ∧ x3.toInt ≤ 127) {x4 : Int32} (hx4 : -128 ≤ x4.toInt ∧ x4.toInt ≤ 127) {x5 : Int32} (hx5 : -128 ≤ x5.toInt ∧ x5.toInt ≤ 127) {x6 : Int32} (hx6 : -128 ≤ x6.toInt ∧ x6.toInt ≤ 127) {x7 : Int32} (hx7 : -128 ≤ x7.toInt ∧ x7.toInt ≤ 127) {w_p1 : Bool} {w_p3 : Bool} {w_p2 : Bool} {w_p5 : Bool} {ad_p5 : String} {w_p4 : Bool} {ad_p4 : String} (ne_p1_p2 : p1 ≠ p2) (ne_p2_p3 : p2 ≠ p3) {F : List Ent} (mp1 : (p1, w_p1, oJdqlLexer_Token (vr (kSYMBOL Z)) (vr p3) (vi x1) (vi x2)) ∈ F) (mp3 : (p3, w_p3, oString (vr p5) (vi 0)) ∈ F) (mp2 : (p2, w_p2, oString (vr p4) (vi 0)) ∈ F) (mp5 : (p5, w_p5, ar ad_p5 .byte [(vi x6), (vi x7)]) ∈ F) (mp4 : (p4, w_p4, ar ad_p4 .byte [(vi x3), (vi x4), (vi x5)]) ∈ F) : Con Z EL (⟨"com/example/rochester/rochester/JdqlLexer$Token", "isSymbol", "(Ljava/lang/String;)Z"⟩ : MethodName) prog_12_method_3_code 2 (Option.some Jvm.ClassFile.FieldType.boolean) (rmm 2 0 0 28) [(vr p1), (vr p2)] (F) (fun v D' => (v = some (vi 0) ∧ F = D')) := by
  refine Con.of (ls := #[rv p1, rv p2]) (by decide +kernel) rfl ?_
  show W Z EL _ "com/example/rochester/rochester/JdqlLexer$Token" "isSymbol" _ _ _ _ _ _ _ _ _ _
  refine W.aloadN (pc := 0) d11_0 rfl rfl ?_
  refine W.getf (pc := 1) d11_1 (w56 hw) Via.refl mp1 m0 ?_
  refine W.gets (pc := 4) d11_4 (w69 hw) Via.refl hs.2.2.2.2.2.2.2.1 ?_
  refine W.acmpN (pc := 7) d11_7 rfl rfl (fun z => z rfl) ?_
  refine W.aloadN (pc := 10) d11_10 rfl rfl ?_
  refine W.getf (pc := 11) d11_11 (w58 hw) Via.refl mp1 m1 ?_
  refine W.aloadN (pc := 14) d11_14 rfl rfl ?_
  refine W.callV (pc := 15) (as := [(vr p2)]) 0 [] d11_15 (w82 hw) (w83 hw) (w85 hw) (w85 hw) (w84 hw) (w8 hw) (w86 hw) (Hp.exa mp3) (c41_equals hw hs (p1 := p3) (p2 := p2) (p3 := p5) (p4 := p4) (x1 := x6) (hx1 := hx6) (x2 := x7) (hx2 := hx7) (x3 := x3) (hx3 := hx3) (x4 := x4) (hx4 := hx4) (x5 := x5) (hx5 := hx5) (mp2 := mp2) (mp1 := mp3) (mp3 := mp5) (mp4 := mp4) (ne_p1_p2 := (Ne.symm ne_p2_p3))) (by decide) pd_Ljava_lang_Object__Z rfl rfl rfl rfl (by decide) (fun v D' h => ?_)
  obtain ⟨rfl, rfl⟩ := h
  show W _ _ _ _ _ _ _ _ _ _ _ _ 18 _ [(vi 0)]
  refine W.ifY (pc := 18) 25 d11_18 (y_eq (by decide)) (by decide) ?_
  refine W.iconst (pc := 25) (0) d11_25 (by decide) ?_
  exact W.ireturn (pc := 26) d11_26 rfl (Or.inr (Or.inl rfl)) (nw_bool (by decide)) (by decide) ⟨rfl, rfl⟩
theorem c43_init {Z a0} (hw : HW a0 Z) (hs : SF Z) {p1 p2 p3 p4 : Addr} {x1 : Int32} {x2 : Int32} {x3 : Int32} (hx3 : -128 ≤ x3.toInt ∧ x3.toInt ≤ 127) {x4 : Int32} (hx4 : -128 ≤ x4.toInt ∧ x4.toInt ≤ 127) {F : List Ent} : Con Z EL (⟨"com/example/rochester/rochester/JdqlLexer$Token", "<init>", "(Lcom/example/rochester/rochester/JdqlLexer$Kind;Ljava/lang/String;II)V"⟩ : MethodName) prog_12_method_1_code 5 (Option.none : Option Jvm.ClassFile.FieldType) (rmm 2 0 0 24) [(vr p1), (vr p2), (vr p3), (vi x1), (vi x2)] ((p1, true, oJdqlLexer_Token .null .null (vi 0) (vi 0)) :: F) (fun v D' => (v = none ∧ (p1, true, oJdqlLexer_Token (vr p2) (vr p3) (vi x1) (vi x2)) :: F = D')) := by
  refine Con.of (ls := #[rv p1, rv p2, rv p3, iv x1, iv x2]) (by decide +kernel) rfl ?_
  show W Z EL _ "com/example/rochester/rochester/JdqlLexer$Token" "<init>" _ _ _ _ _ _ _ _ _ _
  refine W.aloadN (pc := 0) d9_0 rfl rfl ?_
  refine W.callI (pc := 1) (as := []) 0 [] d9_1 rfl (w50 hw) (w51 hw) (w53 hw) (w54 hw) (c21_init hw hs (p1 := p1)) (by decide) pd__V rfl rfl rfl rfl (by decide) (fun v D' h => ?_)
  obtain ⟨rfl, rfl⟩ := h
  show W _ _ _ _ _ _ _ _ _ _ _ _ 4 _ []
  refine W.aloadN (pc := 4) d9_4 rfl rfl ?_
  refine W.aloadN (pc := 5) d9_5 rfl rfl ?_
  refine W.putf (pc := 6) (D' := (p1, true, oJdqlLexer_Token (vr p2) .null (vi 0) (vi 0)) :: F) 0 0 d9_6 (w56 hw) Via.refl rfl rfl (Or.inr ⟨(w57 hw), rfl, rfl⟩) (w39 hw) pfLcom_example_rochester_rochester_JdqlLexer_Kind_ rfl rfl rfl ?_
  refine W.aloadN (pc := 9) d9_9 rfl rfl ?_
  refine W.aloadN (pc := 10) d9_10 rfl rfl ?_
  refine W.putf (pc := 11) (D' := (p1, true, oJdqlLexer_Token (vr p2) (vr p3) (vi 0) (vi 0)) :: F) 0 1 d9_11 (w58 hw) Via.refl rfl rfl (Or.inr ⟨(w59 hw), rfl, rfl⟩) (w39 hw) pfLjava_lang_String_ rfl rfl rfl ?_
  refine W.aloadN (pc := 14) d9_14 rfl rfl ?_
  refine W.iloadN (pc := 15) d9_15 rfl ?_
  refine W.putf (pc := 16) (D' := (p1, true, oJdqlLexer_Token (vr p2) (vr p3) (vi x1) (vi 0)) :: F) 0 2 d9_16 (w60 hw) Via.refl rfl rfl (Or.inr ⟨(w61 hw), rfl, rfl⟩) (w39 hw) pfI rfl rfl rfl ?_
  refine W.aloadN (pc := 19) d9_19 rfl rfl ?_
  refine W.iload (pc := 20) d9_20 rfl ?_
  refine W.putf (pc := 22) (D' := (p1, true, oJdqlLexer_Token (vr p2) (vr p3) (vi x1) (vi x2)) :: F) 0 3 d9_22 (w62 hw) Via.refl rfl rfl (Or.inr ⟨(w63 hw), rfl, rfl⟩) (w39 hw) pfI rfl rfl rfl ?_
  exact W.return_ (pc := 25) d9_25 rfl (by decide) ⟨rfl, rfl⟩
theorem c44_isSymbol {Z a0} (hw : HW a0 Z) (hs : SF Z) {p1 p2 p3 p4 p5 p6 : Addr} {x1 : Int32} {x2 : Int32} {x3 : Int32} (hx3 : -128 ≤ x3.toInt ∧ x3.toInt ≤ 127) {x4 : Int32} (hx4 : -128 ≤ x4.toInt ∧ x4.toInt ≤ 127) {x5 : Int32} (hx5 : -128 ≤ x5.toInt ∧ x5.toInt ≤ 127) {x6 : Int32} (hx6 : -128 ≤ x6.toInt ∧ x6.toInt ≤ 127) {x7 : Int32} (hx7 : -128 ≤ x7.toInt ∧ x7.toInt ≤ 127) {w_p1 : Bool} (ne_p3_kSYMBOLZ : p3 ≠ (kSYMBOL Z)) {F : List Ent} (mp1 : (p1, w_p1, oJdqlLexer_Token (vr p3) (vr p4) (vi x1) (vi x2)) ∈ F) : Con Z EL (⟨"com/example/rochester/rochester/JdqlLexer$Token", "isSymbol", "(Ljava/lang/String;)Z"⟩ : MethodName) prog_12_method_3_code 2 (Option.some Jvm.ClassFile.FieldType.boolean) (rmm 0 0 0 0) [(vr p1), (vr p2)] (F) (fun v D' => (v = some (vi 0) ∧ F = D')) := by
  refine Con.of (ls := #[rv p1, rv p2]) (by decide +kernel) rfl ?_
  show W Z EL _ "com/example/rochester/rochester/JdqlLexer$Token" "isSymbol" _ _ _ _ _ _ _ _ _ _
  refine W.aloadN (pc := 0) d11_0 rfl rfl ?_
  refine W.getf (pc := 1) d11_1 (w56 hw) Via.refl mp1 m0 ?_
  refine W.gets (pc := 4) d11_4 (w69 hw) Via.refl hs.2.2.2.2.2.2.2.1 ?_
  refine W.acmpY (pc := 7) 25 d11_7 rfl rfl (show Ca .ne _ _ from (fun z => ne_p3_kSYMBOLZ (by injection z))) (by decide) ?_
  refine W.iconst (pc := 25) (0) d11_25 (by decide) ?_
  exact W.ireturn (pc := 26) d11_26 rfl (Or.inr (Or.inl rfl)) (nw_bool (by decide)) (by decide) ⟨rfl, rfl⟩
theorem c47_equals {Z a0} (hw : HW a0 Z) (hs : SF Z) {p1 p2 : Addr} {x1 : Int32} (hx1 : -128 ≤ x1.toInt ∧ x1.toInt ≤ 127) {x2 : Int32} (hx2 : -128 ≤ x2.toInt ∧ x2.toInt ≤ 127) {x3 : Int32} (hx3 : -128 ≤ x3.toInt ∧ x3.toInt ≤ 127) {x4 : Int32} (hx4 : -128 ≤ x4.toInt ∧ x4.toInt ≤ 127) {w_p1 : Bool} {ad_p1 : String} {w_p2 : Bool} {ad_p2 : String} {F : List Ent} (mp1 : (p1, w_p1, ar ad_p1 .byte [(vi x1), (vi x2)]) ∈ F) (mp2 : (p2, w_p2, ar ad_p2 .byte [(vi x3), (vi x4)]) ∈ F) : Con Z EL (⟨"java/lang/StringLatin1", "equals", "([B[B)Z"⟩ : MethodName) jdk_43_method_13_code 3 (Option.some Jvm.ClassFile.FieldType.boolean) (rmm 0 0 0 0) [(vr p1), (vr p2)] (F) (fun v D' => (Cd .eq x1 x3 ∧ Cd .eq x2 x4 ∧ v = some (vi 1) ∧ F = D') ∨ (Cd .eq x1 x3 ∧ ¬ Cd .eq x2 x4 ∧ v = some (vi 0) ∧ F = D') ∨ (¬ Cd .eq x1 x3 ∧ v = some (vi 0) ∧ F = D')) := by
  refine Con.of (ls := #[rv p1, rv p2, uu]) (by decide +kernel) rfl ?_
  show W Z EL _ "java/lang/StringLatin1" "equals" _ _ _ _ _ _ _ _ _ _
  refine W.aloadN (pc := 0) d13_0 rfl rfl ?_
  refine W.alen (pc := 1) (2) d13_1 mp1 rfl ?_
  refine W.aloadN (pc := 2) d13_2 rfl rfl ?_
  refine W.alen (pc := 3) (2) d13_3 mp2 rfl ?_
  refine W.icmpN (pc := 4) d13_4 (n_ne (by decide)) ?_
  refine W.iconst (pc := 7) (0) d13_7 (by decide) ?_
  refine W.istoreN (pc := 8) (ls' := #[rv p1, rv p2, iv 0]) d13_8 rfl ?_
  refine W.iloadN (pc := 9) d13_9 rfl ?_
  refine W.aloadN (pc := 10) d13_10 rfl rfl ?_
  refine W.alen (pc := 11) (2) d13_11 mp1 rfl ?_
  refine W.icmpN (pc := 12) d13_12 (n_ge (by decide)) ?_
  refine W.aloadN (pc := 15) d13_15 rfl rfl ?_
  refine W.iloadN (pc := 16) d13_16 rfl ?_
  refine W.baload (pc := 17) 0 d13_17 mp1 ix0 rfl ?_
  refine W.aloadN (pc := 18) d13_18 rfl rfl ?_
  refine W.iloadN (pc := 19) d13_19 rfl ?_
  refine W.baload (pc := 20) 0 d13_20 mp2 ix0 rfl ?_
  refine W.icmp (pc := 21) 26 d13_21 (by decide) (fun h1 => ?_) (fun h1 => ?_)
  ·
   have ih1 := t_eq h1
   refine W.iincK (pc := 26) (ls' := #[rv p1, rv p2, iv 1]) (1) (1 : Int32) d13_26 (by decide) rfl (by decide) rfl ?_
   refine W.goto (pc := 29) 9 d13_29 (by decide) ?_
   refine W.iloadN (pc := 9) d13_9 rfl ?_
   refine W.aloadN (pc := 10) d13_10 rfl rfl ?_
   refine W.alen (pc := 11) (2) d13_11 mp1 rfl ?_
   refine W.icmpN (pc := 12) d13_12 (n_ge (by decide)) ?_
   refine W.aloadN (pc := 15) d13_15 rfl rfl ?_
   refine W.iloadN (pc := 16) d13_16 rfl ?_
   refine W.baload (pc := 17) 1 d13_17 mp1 ix1 rfl ?_
   refine W.aloadN (pc := 18) d13_18 rfl rfl ?_
   refine W.iloadN (pc := 19) d13_19 rfl ?_
   refine W.baload (pc := 20) 1 d13_20 mp2 ix1 rfl ?_
   refine W.icmp (pc := 21) 26 d13_21 (by decide) (fun h2 => ?_) (fun h2 => ?_)
   ·
    have ih2 := t_eq h2
    refine W.iincK (pc := 26) (ls' := #[rv p1, rv p2, iv 2]) (1) (2 : Int32) d13_26 (by decide) rfl (by decide) rfl ?_
    refine W.goto (pc := 29) 9 d13_29 (by decide) ?_
    refine W.iloadN (pc := 9) d13_9 rfl ?_
    refine W.aloadN (pc := 10) d13_10 rfl rfl ?_
    refine W.alen (pc := 11) (2) d13_11 mp1 rfl ?_
    refine W.icmpY (pc := 12) 32 d13_12 (y_ge (by decide)) (by decide) ?_
    refine W.iconst (pc := 32) (1) d13_32 (by decide) ?_
    exact W.ireturn (pc := 33) d13_33 rfl (Or.inr (Or.inl rfl)) (nw_bool (by decide)) (by decide) (Or.inl ⟨h1, h2, rfl, rfl⟩)
   ·
    have ih2 := f_eq h2
    refine W.iconst (pc := 24) (0) d13_24 (by decide) ?_
    exact W.ireturn (pc := 25) d13_25 rfl (Or.inr (Or.inl rfl)) (nw_bool (by decide)) (by decide) (Or.inr (Or.inl ⟨h1, h2, rfl, rfl⟩))
  ·
   have ih1 := f_eq h1
   refine W.iconst (pc := 24) (0) d13_24 (by decide) ?_
   exact W.ireturn (pc := 25) d13_25 rfl (Or.inr (Or.inl rfl)) (nw_bool (by decide)) (by decide) (Or.inr (Or.inr ⟨h1, rfl, rfl⟩))
theorem c46_equals {Z a0} (hw : HW a0 Z) (hs : SF Z) {p1 p2 p3 p4 : Addr} {x1 : Int32} (hx1 : -128 ≤ x1.toInt ∧ x1.toInt ≤ 127) {x2 : Int32} (hx2 : -128 ≤ x2.toInt ∧ x2.toInt ≤ 127) {x3 : Int32} (hx3 : -128 ≤ x3.toInt ∧ x3.toInt ≤ 127) {x4 : Int32} (hx4 : -128 ≤ x4.toInt ∧ x4.toInt ≤ 127) {w_p2 : Bool} {w_p1 : Bool} {w_p3 : Bool} {ad_p3 : String} {w_p4 : Bool} {ad_p4 : String} (ne_p1_p2 : p1 ≠ p2) {F : List Ent} (mp2 : (p2, w_p2, oString (vr p4) (vi 0)) ∈ F) (mp1 : (p1, w_p1, oString (vr p3) (vi 0)) ∈ F) (mp3 : (p3, w_p3, ar ad_p3 .byte [(vi x1), (vi x2)]) ∈ F) (mp4 : (p4, w_p4, ar ad_p4 .byte [(vi x3), (vi x4)]) ∈ F) : Con Z EL (⟨"java/lang/String", "equals", "(Ljava/lang/Object;)Z"⟩ : MethodName) jdk_42_method_66_code 3 (Option.some Jvm.ClassFile.FieldType.boolean) (rmm 1 0 0 14) [(vr p1), (vr p2)] (F) (fun v D' => (Cd .eq x1 x3 ∧ Cd .eq x2 x4 ∧ v = some (vi 1) ∧ F = D') ∨ (Cd .eq x1 x3 ∧ ¬ Cd .eq x2 x4 ∧ v = some (vi 0) ∧ F = D') ∨ (¬ Cd .eq x1 x3 ∧ v = some (vi 0) ∧ F = D')) := by
  refine Con.of (ls := #[rv p1, rv p2, uu]) (by decide +kernel) rfl ?_
  show W Z EL _ "java/lang/String" "equals" _ _ _ _ _ _ _ _ _ _
  refine W.aloadN (pc := 0) d12_0 rfl rfl ?_
  refine W.aloadN (pc := 1) d12_1 rfl rfl ?_
  refine W.acmpY (pc := 2) 7 d12_2 rfl rfl (show Ca .ne _ _ from (fun z => ne_p1_p2 (by injection z))) (by decide) ?_
  refine W.aloadN (pc := 7) d12_7 rfl rfl ?_
  refine W.instY (pc := 8) d12_8 (w87 hw) (Hp.ins mp2) ?_
  refine W.ifN (pc := 11) d12_11 (n_eq (by decide)) ?_
  refine W.aloadN (pc := 14) d12_14 rfl rfl ?_
  refine W.castY (pc := 15) d12_15 (w87 hw) (Hp.ins mp2) ?_
  refine W.astoreN (pc := 18) (ls' := #[rv p1, rv p2, rv p2]) d12_18 rfl rfl ?_
  refine W.gets (pc := 19) d12_19 (w19 hw) Via.refl hs.1 ?_
  refine W.ifN (pc := 22) d12_22 (n_eq (by have := hs.2.1; have := q0; omega)) ?_
  refine W.aloadN (pc := 25) d12_25 rfl rfl ?_
  refine W.getf (pc := 26) d12_26 (w31 hw) Via.refl mp1 m1 ?_
  refine W.aloadN (pc := 29) d12_29 rfl rfl ?_
  refine W.getf (pc := 30) d12_30 (w31 hw) Via.refl mp2 m1 ?_
  refine W.icmpN (pc := 33) d12_33 (n_ne (by decide)) ?_
  refine W.aloadN (pc := 36) d12_36 rfl rfl ?_
  refine W.getf (pc := 37) d12_37 (w33 hw) Via.refl mp1 m0 ?_
  refine W.aloadN (pc := 40) d12_40 rfl rfl ?_
  refine W.getf (pc := 41) d12_41 (w33 hw) Via.refl mp2 m0 ?_
  refine W.callS (pc := 44) (as := [(vr p3), (vr p4)]) 0 [] d12_44 (w88 hw) (w89 hw) (w90 hw) (w91 hw) (c47_equals hw hs (p1 := p3) (p2 := p4) (x1 := x1) (hx1 := hx1) (x2 := x2) (hx2 := hx2) (x3 := x3) (hx3 := hx3) (x4 := x4) (hx4 := hx4) (mp1 := mp3) (mp2 := mp4)) (by decide) pd__B_B_Z rfl rfl rfl rfl (by decide) (fun v D' h => ?_)
  rcases h with ⟨h1, h2, rfl, rfl⟩ | ⟨h3, h4, rfl, rfl⟩ | ⟨h5, rfl, rfl⟩
  ·
   have ih1 := t_eq h1
   have ih2 := t_eq h2
   show W _ _ _ _ _ _ _ _ _ _ _ _ 47 _ [(vi 1)]
   refine W.ifN (pc := 47) d12_47 (n_eq (by decide)) ?_
   refine W.iconst (pc := 50) (1) d12_50 (by decide) ?_
   refine W.goto (pc := 51) 55 d12_51 (by decide) ?_
   exact W.ireturn (pc := 55) d12_55 rfl (Or.inr (Or.inl rfl)) (nw_bool (by decide)) (by decide) (Or.inl ⟨h1, h2, rfl, rfl⟩)
  ·
   have ih3 := t_eq h3
   have ih4 := f_eq h4
   show W _ _ _ _ _ _ _ _ _ _ _ _ 47 _ [(vi 0)]
   refine W.ifY (pc := 47) 54 d12_47 (y_eq (by decide)) (by decide) ?_
   refine W.iconst (pc := 54) (0) d12_54 (by decide) ?_
   exact W.ireturn (pc := 55) d12_55 rfl (Or.inr (Or.inl rfl)) (nw_bool (by decide)) (by decide) (Or.inr (Or.inl ⟨h3, h4, rfl, rfl⟩))
  ·
   have ih5 := f_eq h5
   show W _ _ _ _ _ _ _ _ _ _ _ _ 47 _ [(vi 0)]
   refine W.ifY (pc := 47) 54 d12_47 (y_eq (by decide)) (by decide) ?_
   refine W.iconst (pc := 54) (0) d12_54 (by decide) ?_
   exact W.ireturn (pc := 55) d12_55 rfl (Or.inr (Or.inl rfl)) (nw_bool (by decide)) (by decide) (Or.inr (Or.inr ⟨h5, rfl, rfl⟩))
theorem c45_isSymbol {Z a0} (hw : HW a0 Z) (hs : SF Z) {p1 p2 p3 p4 p5 : Addr} {x1 : Int32} {x2 : Int32} {x3 : Int32} (hx3 : -128 ≤ x3.toInt ∧ x3.toInt ≤ 127) {x4 : Int32} (hx4 : -128 ≤ x4.toInt ∧ x4.toInt ≤ 127) {x5 : Int32} (hx5 : -128 ≤ x5.toInt ∧ x5.toInt ≤ 127) {x6 : Int32} (hx6 : -128 ≤ x6.toInt ∧ x6.toInt ≤ 127) {w_p1 : Bool} {w_p3 : Bool} {w_p2 : Bool} {w_p5 : Bool} {ad_p5 : String} {w_p4 : Bool} {ad_p4 : String} (ne_p1_p2 : p1 ≠ p2) (ne_p2_p3 : p2 ≠ p3) {F : List Ent} (mp1 : (p1, w_p1, oJdqlLexer_Token (vr (kSYMBOL Z)) (vr p3) (vi x1) (vi x2)) ∈ F) (mp3 : (p3, w_p3, oString (vr p5) (vi 0)) ∈ F) (mp2 : (p2, w_p2, oString (vr p4) (vi 0)) ∈ F) (mp5 : (p5, w_p5, ar ad_p5 .byte [(vi x5), (vi x6)]) ∈ F) (mp4 : (p4, w_p4, ar ad_p4 .byte [(vi x3), (vi x4)]) ∈ F) : Con Z EL (⟨"com/example/rochester/rochester/JdqlLexer$Token", "isSymbol", "(Ljava/lang/String;)Z"⟩ : MethodName) prog_12_method_3_code 2 (Option.some Jvm.ClassFile.FieldType.boolean) (rmm 2 0 0 28) [(vr p1), (vr p2)] (F) (fun v D' => (Cd .eq x5 x3 ∧ Cd .eq x6 x4 ∧ v = some (vi 1) ∧ F = D') ∨ (Cd .eq x5 x3 ∧ ¬ Cd .eq x6 x4 ∧ v = some (vi 0) ∧ F = D') ∨ (¬ Cd .eq x5 x3 ∧ v = some (vi 0) ∧ F = D')) := by
  refine Con.of (ls := #[rv p1, rv p2]) (by decide +kernel) rfl ?_
  show W Z EL _ "com/example/rochester/rochester/JdqlLexer$Token" "isSymbol" _ _ _ _ _ _ _ _ _ _
  refine W.aloadN (pc := 0) d11_0 rfl rfl ?_
  refine W.getf (pc := 1) d11_1 (w56 hw) Via.refl mp1 m0 ?_
  refine W.gets (pc := 4) d11_4 (w69 hw) Via.refl hs.2.2.2.2.2.2.2.1 ?_
  refine W.acmpN (pc := 7) d11_7 rfl rfl (fun z => z rfl) ?_
  refine W.aloadN (pc := 10) d11_10 rfl rfl ?_
  refine W.getf (pc := 11) d11_11 (w58 hw) Via.refl mp1 m1 ?_
  refine W.aloadN (pc := 14) d11_14 rfl rfl ?_
  refine W.callV (pc := 15) (as := [(vr p2)]) 0 [] d11_15 (w82 hw) (w83 hw) (w85 hw) (w85 hw) (w84 hw) (w8 hw) (w86 hw) (Hp.exa mp3) (c46_equals hw hs (p1 := p3) (p2 := p2) (p3 := p5) (p4 := p4) (x1 := x5) (hx1 := hx5) (x2 := x6) (hx2 := hx6) (x3 := x3) (hx3 := hx3) (x4 := x4) (hx4 := hx4) (mp2 := mp2) (mp1 := mp3) (mp3 := mp5) (mp4 := mp4) (ne_p1_p2 := (Ne.symm ne_p2_p3))) (by decide) pd_Ljava_lang_Object__Z rfl rfl rfl rfl (by decide) (fun v D' h => ?_)
  rcases h with ⟨h1, h2, rfl, rfl⟩ | ⟨h3, h4, rfl, rfl⟩ | ⟨h5, rfl, rfl⟩
  ·
   have ih1 := t_eq h1
   have ih2 := t_eq h2
   show W _ _ _ _ _ _ _ _ _ _ _ _ 18 _ [(vi 1)]
   refine W.ifN (pc := 18) d11_18 (n_eq (by decide)) ?_
   refine W.iconst (pc := 21) (1) d11_21 (by decide) ?_
   refine W.goto (pc := 22) 26 d11_22 (by decide) ?_
   exact W.ireturn (pc := 26) d11_26 rfl (Or.inr (Or.inl rfl)) (nw_bool (by decide)) (by decide) (Or.inl ⟨h1, h2, rfl, rfl⟩)
  ·
   have ih3 := t_eq h3
   have ih4 := f_eq h4
   show W _ _ _ _ _ _ _ _ _ _ _ _ 18 _ [(vi 0)]
   refine W.ifY (pc := 18) 25 d11_18 (y_eq (by decide)) (by decide) ?_
   refine W.iconst (pc := 25) (0) d11_25 (by decide) ?_
   exact W.ireturn (pc := 26) d11_26 rfl (Or.inr (Or.inl rfl)) (nw_bool (by decide)) (by decide) (Or.inr (Or.inl ⟨h3, h4, rfl, rfl⟩))
  ·
   have ih5 := f_eq h5
   show W _ _ _ _ _ _ _ _ _ _ _ _ 18 _ [(vi 0)]
   refine W.ifY (pc := 18) 25 d11_18 (y_eq (by decide)) (by decide) ?_
   refine W.iconst (pc := 25) (0) d11_25 (by decide) ?_
   exact W.ireturn (pc := 26) d11_26 rfl (Or.inr (Or.inl rfl)) (nw_bool (by decide)) (by decide) (Or.inr (Or.inr ⟨h5, rfl, rfl⟩))
theorem c48_isSymbol {Z a0} (hw : HW a0 Z) (hs : SF Z) {p1 p2 p3 p4 p5 p6 : Addr} {x1 : Int32} {x2 : Int32} {x3 : Int32} (hx3 : -128 ≤ x3.toInt ∧ x3.toInt ≤ 127) {x4 : Int32} (hx4 : -128 ≤ x4.toInt ∧ x4.toInt ≤ 127) {x5 : Int32} (hx5 : -128 ≤ x5.toInt ∧ x5.toInt ≤ 127) {x6 : Int32} (hx6 : -128 ≤ x6.toInt ∧ x6.toInt ≤ 127) {w_p1 : Bool} (ne_p3_kSYMBOLZ : p3 ≠ (kSYMBOL Z)) {F : List Ent} (mp1 : (p1, w_p1, oJdqlLexer_Token (vr p3) (vr p4) (vi x1) (vi x2)) ∈ F) : Con Z EL (⟨"com/example/rochester/rochester/JdqlLexer$Token", "isSymbol", "(Ljava/lang/String;)Z"⟩ : MethodName) prog_12_method_3_code 2 (Option.some Jvm.ClassFile.FieldType.boolean) (rmm 0 0 0 0) [(vr p1), (vr p2)] (F) (fun v D' => (v = some (vi 0) ∧ F = D')) := by
  refine Con.of (ls := #[rv p1, rv p2]) (by decide +kernel) rfl ?_
  show W Z EL _ "com/example/rochester/rochester/JdqlLexer$Token" "isSymbol" _ _ _ _ _ _ _ _ _ _
  refine W.aloadN (pc := 0) d11_0 rfl rfl ?_
  refine W.getf (pc := 1) d11_1 (w56 hw) Via.refl mp1 m0 ?_
  refine W.gets (pc := 4) d11_4 (w69 hw) Via.refl hs.2.2.2.2.2.2.2.1 ?_
  refine W.acmpY (pc := 7) 25 d11_7 rfl rfl (show Ca .ne _ _ from (fun z => ne_p3_kSYMBOLZ (by injection z))) (by decide) ?_
  refine W.iconst (pc := 25) (0) d11_25 (by decide) ?_
  exact W.ireturn (pc := 26) d11_26 rfl (Or.inr (Or.inl rfl)) (nw_bool (by decide)) (by decide) ⟨rfl, rfl⟩
theorem c51_equals {Z a0} (hw : HW a0 Z) (hs : SF Z) {p1 p2 : Addr} {x1 : Int32} (hx1 : -128 ≤ x1.toInt ∧ x1.toInt ≤ 127) {x2 : Int32} (hx2 : -128 ≤ x2.toInt ∧ x2.toInt ≤ 127) {x3 : Int32} (hx3 : -128 ≤ x3.toInt ∧ x3.toInt ≤ 127) {w_p1 : Bool} {ad_p1 : String} {w_p2 : Bool} {ad_p2 : String} {F : List Ent} (mp1 : (p1, w_p1, ar ad_p1 .byte [(vi x1), (vi x2)]) ∈ F) (mp2 : (p2, w_p2, ar ad_p2 .byte [(vi x3)]) ∈ F) : Con Z EL (⟨"java/lang/StringLatin1", "equals", "([B[B)Z"⟩ : MethodName) jdk_43_method_13_code 3 (Option.some Jvm.ClassFile.FieldType.boolean) (rmm 0 0 0 0) [(vr p1), (vr p2)] (F) (fun v D' => (v = some (vi 0) ∧ F = D')) := by
  refine Con.of (ls := #[rv p1, rv p2, uu]) (by decide +kernel) rfl ?_
  show W Z EL _ "java/lang/StringLatin1" "equals" _ _ _ _ _ _ _ _ _ _
  refine W.aloadN (pc := 0) d13_0 rfl rfl ?_
  refine W.alen (pc := 1) (2) d13_1 mp1 rfl ?_
  refine W.aloadN (pc := 2) d13_2 rfl rfl ?_
  refine W.alen (pc := 3) (1) d13_3 mp2 rfl ?_
  refine W.icmpY (pc := 4) 34 d13_4 (y_ne (by decide)) (by decide) ?_
  refine W.iconst (pc := 34) (0) d13_34 (by decide) ?_
  exact W.ireturn (pc := 35) d13_35 rfl (Or.inr (Or.inl rfl)) (nw_bool (by decide)) (by decide) ⟨rfl, rfl⟩
theorem c50_equals {Z a0} (hw : HW a0 Z) (hs : SF Z) {p1 p2 p3 p4 : Addr} {x1 : Int32} (hx1 : -128 ≤ x1.toInt ∧ x1.toInt ≤ 127) {x2 : Int32} (hx2 : -128 ≤ x2.toInt ∧ x2.toInt ≤ 127) {x3 : Int32} (hx3 : -128 ≤ x3.toInt ∧ x3.toInt ≤ 127) {w_p2 : Bool} {w_p1 : Bool} {w_p3 : Bool} {ad_p3 : String} {w_p4 : Bool} {ad_p4 : String} (ne_p1_p2 : p1 ≠ p2) {F : List Ent} (mp2 : (p2, w_p2, oString (vr p4) (vi 0)) ∈ F) (mp1 : (p1, w_p1, oString (vr p3) (vi 0)) ∈ F) (mp3 : (p3, w_p3, ar ad_p3 .byte [(vi x1), (vi x2)]) ∈ F) (mp4 : (p4, w_p4, ar ad_p4 .byte [(vi x3)]) ∈ F) : Con Z EL (⟨"java/lang/String", "equals", "(Ljava/lang/Object;)Z"⟩ : MethodName) jdk_42_method_66_code 3 (Option.some Jvm.ClassFile.FieldType.boolean) (rmm 1 0 0 14) [(vr p1), (vr p2)] (F) (fun v D' => (v = some (vi 0) ∧ F = D')) := by
  refine Con.of (ls := #[rv p1, rv p2, uu]) (by decide +kernel) rfl ?_
  show W Z EL _ "java/lang/String" "equals" _ _ _ _ _ _ _ _ _ _
  refine W.aloadN (pc := 0) d12_0 rfl rfl ?_
  refine W.aloadN (pc := 1) d12_1 rfl rfl ?_
  refine W.acmpY (pc := 2) 7 d12_2 rfl rfl (show Ca .ne _ _ from (fun z => ne_p1_p2 (by injection z))) (by decide) ?_
  refine W.aloadN (pc := 7) d12_7 rfl rfl ?_
  refine W.instY (pc := 8) d12_8 (w87 hw) (Hp.ins mp2) ?_
  refine W.ifN (pc := 11) d12_11 (n_eq (by decide)) ?_
  refine W.aloadN (pc := 14) d12_14 rfl rfl ?_
  refine W.castY (pc := 15) d12_15 (w87 hw) (Hp.ins mp2) ?_
  refine W.astoreN (pc := 18) (ls' := #[rv p1, rv p2, rv p2]) d12_18 rfl rfl ?_
  refine W.gets (pc := 19) d12_19 (w19 hw) Via.refl hs.1 ?_
  refine W.ifN (pc := 22) d12_22 (n_eq (by have := hs.2.1; have := q0; omega)) ?_
  refine W.aloadN (pc := 25) d12_25 rfl rfl ?_
  refine W.getf (pc := 26) d12_26 (w31 hw) Via.refl mp1 m1 ?_
  refine W.aloadN (pc := 29) d12_29 rfl rfl ?_
  refine W.getf (pc := 30) d12_30 (w31 hw) Via.refl mp2 m1 ?_
  refine W.icmpN (pc := 33) d12_33 (n_ne (by decide)) ?_
  refine W.aloadN (pc := 36) d12_36 rfl rfl ?_
  refine W.getf (pc := 37) d12_37 (w33 hw) Via.refl mp1 m0 ?_
  refine W.aloadN (pc := 40) d12_40 rfl rfl ?_
  refine W.getf (pc := 41) d12_41 (w33 hw) Via.refl mp2 m0 ?_
  refine W.callS (pc := 44) (as := [(vr p3), (vr p4)]) 0 [] d12_44 (w88 hw) (w89 hw) (w90 hw) (w91 hw) (c51_equals hw hs (p1 := p3) (p2 := p4) (x1 := x1) (hx1 := hx1) (x2 := x2) (hx2 := hx2) (x3 := x3) (hx3 := hx3) (mp1 := mp3) (mp2 := mp4)) (by decide) pd__B_B_Z rfl rfl rfl rfl (by decide) (fun v D' h => ?_)
  obtain ⟨rfl, rfl⟩ := h
  show W _ _ _ _ _ _ _ _ _ _ _ _ 47 _ [(vi 0)]
  refine W.ifY (pc := 47) 54 d12_47 (y_eq (by decide)) (by decide) ?_
  refine W.iconst (pc := 54) (0) d12_54 (by decide) ?_
  exact W.ireturn (pc := 55) d12_55 rfl (Or.inr (Or.inl rfl)) (nw_bool (by decide)) (by decide) ⟨rfl, rfl⟩
theorem c49_isSymbol {Z a0} (hw : HW a0 Z) (hs : SF Z) {p1 p2 p3 p4 p5 : Addr} {x1 : Int32} {x2 : Int32} {x3 : Int32} (hx3 : -128 ≤ x3.toInt ∧ x3.toInt ≤ 127) {x4 : Int32} (hx4 : -128 ≤ x4.toInt ∧ x4.toInt ≤ 127) {x5 : Int32} (hx5 : -128 ≤ x5.toInt ∧ x5.toInt ≤ 127) {w_p1 : Bool} {w_p3 : Bool} {w_p2 : Bool} {w_p5 : Bool} {ad_p5 : String} {w_p4 : Bool} {ad_p4 : String} (ne_p1_p2 : p1 ≠ p2) (ne_p2_p3 : p2 ≠ p3) {F : List Ent} (mp1 : (p1, w_p1, oJdqlLexer_Token (vr (kSYMBOL Z)) (vr p3) (vi x1) (vi x2)) ∈ F) (mp3 : (p3, w_p3, oString (vr p5) (vi 0)) ∈ F) (mp2 : (p2, w_p2, oString (vr p4) (vi 0)) ∈ F) (mp5 : (p5, w_p5, ar ad_p5 .byte [(vi x4), (vi x5)]) ∈ F) (mp4 : (p4, w_p4, ar ad_p4 .byte [(vi x3)]) ∈ F) : Con Z EL (⟨"com/example/rochester/rochester/JdqlLexer$Token", "isSymbol", "(Ljava/lang/String;)Z"⟩ : MethodName) prog_12_method_3_code 2 (Option.some Jvm.ClassFile.FieldType.boolean) (rmm 2 0 0 28) [(vr p1), (vr p2)] (F) (fun v D' => (v = some (vi 0) ∧ F = D')) := by
  refine Con.of (ls := #[rv p1, rv p2]) (by decide +kernel) rfl ?_
  show W Z EL _ "com/example/rochester/rochester/JdqlLexer$Token" "isSymbol" _ _ _ _ _ _ _ _ _ _
  refine W.aloadN (pc := 0) d11_0 rfl rfl ?_
  refine W.getf (pc := 1) d11_1 (w56 hw) Via.refl mp1 m0 ?_
  refine W.gets (pc := 4) d11_4 (w69 hw) Via.refl hs.2.2.2.2.2.2.2.1 ?_
  refine W.acmpN (pc := 7) d11_7 rfl rfl (fun z => z rfl) ?_
  refine W.aloadN (pc := 10) d11_10 rfl rfl ?_
  refine W.getf (pc := 11) d11_11 (w58 hw) Via.refl mp1 m1 ?_
  refine W.aloadN (pc := 14) d11_14 rfl rfl ?_
  refine W.callV (pc := 15) (as := [(vr p2)]) 0 [] d11_15 (w82 hw) (w83 hw) (w85 hw) (w85 hw) (w84 hw) (w8 hw) (w86 hw) (Hp.exa mp3) (c50_equals hw hs (p1 := p3) (p2 := p2) (p3 := p5) (p4 := p4) (x1 := x4) (hx1 := hx4) (x2 := x5) (hx2 := hx5) (x3 := x3) (hx3 := hx3) (mp2 := mp2) (mp1 := mp3) (mp3 := mp5) (mp4 := mp4) (ne_p1_p2 := (Ne.symm ne_p2_p3))) (by decide) pd_Ljava_lang_Object__Z rfl rfl rfl rfl (by decide) (fun v D' h => ?_)
  obtain ⟨rfl, rfl⟩ := h
  show W _ _ _ _ _ _ _ _ _ _ _ _ 18 _ [(vi 0)]
  refine W.ifY (pc := 18) 25 d11_18 (y_eq (by decide)) (by decide) ?_
  refine W.iconst (pc := 25) (0) d11_25 (by decide) ?_
  exact W.ireturn (pc := 26) d11_26 rfl (Or.inr (Or.inl rfl)) (nw_bool (by decide)) (by decide) ⟨rfl, rfl⟩
theorem c52_isSymbol {Z a0} (hw : HW a0 Z) (hs : SF Z) {p1 p2 p3 p4 p5 p6 : Addr} {x1 : Int32} {x2 : Int32} {x3 : Int32} (hx3 : -128 ≤ x3.toInt ∧ x3.toInt ≤ 127) {x4 : Int32} (hx4 : -128 ≤ x4.toInt ∧ x4.toInt ≤ 127) {x5 : Int32} (hx5 : -128 ≤ x5.toInt ∧ x5.toInt ≤ 127) {w_p1 : Bool} (ne_p3_kSYMBOLZ : p3 ≠ (kSYMBOL Z)) {F : List Ent} (mp1 : (p1, w_p1, oJdqlLexer_Token (vr p3) (vr p4) (vi x1) (vi x2)) ∈ F) : Con Z EL (⟨"com/example/rochester/rochester/JdqlLexer$Token", "isSymbol", "(Ljava/lang/String;)Z"⟩ : MethodName) prog_12_method_3_code 2 (Option.some Jvm.ClassFile.FieldType.boolean) (rmm 0 0 0 0) [(vr p1), (vr p2)] (F) (fun v D' => (v = some (vi 0) ∧ F = D')) := by
  refine Con.of (ls := #[rv p1, rv p2]) (by decide +kernel) rfl ?_
  show W Z EL _ "com/example/rochester/rochester/JdqlLexer$Token" "isSymbol" _ _ _ _ _ _ _ _ _ _
  refine W.aloadN (pc := 0) d11_0 rfl rfl ?_
  refine W.getf (pc := 1) d11_1 (w56 hw) Via.refl mp1 m0 ?_
  refine W.gets (pc := 4) d11_4 (w69 hw) Via.refl hs.2.2.2.2.2.2.2.1 ?_
  refine W.acmpY (pc := 7) 25 d11_7 rfl rfl (show Ca .ne _ _ from (fun z => ne_p3_kSYMBOLZ (by injection z))) (by decide) ?_
  refine W.iconst (pc := 25) (0) d11_25 (by decide) ?_
  exact W.ireturn (pc := 26) d11_26 rfl (Or.inr (Or.inl rfl)) (nw_bool (by decide)) (by decide) ⟨rfl, rfl⟩
theorem c55_equals {Z a0} (hw : HW a0 Z) (hs : SF Z) {p1 p2 : Addr} {x1 : Int32} (hx1 : -128 ≤ x1.toInt ∧ x1.toInt ≤ 127) {x2 : Int32} (hx2 : -128 ≤ x2.toInt ∧ x2.toInt ≤ 127) {w_p1 : Bool} {ad_p1 : String} {w_p2 : Bool} {ad_p2 : String} {F : List Ent} (mp1 : (p1, w_p1, ar ad_p1 .byte [(vi x1), (vi x2)]) ∈ F) (mp2 : (p2, w_p2, ar ad_p2 .byte []) ∈ F) : Con Z EL (⟨"java/lang/StringLatin1", "equals", "([B[B)Z"⟩ : MethodName) jdk_43_method_13_code 3 (Option.some Jvm.ClassFile.FieldType.boolean) (rmm 0 0 0 0) [(vr p1), (vr p2)] (F) (fun v D' => (v = some (vi 0) ∧ F = D')) := by
  refine Con.of (ls := #[rv p1, rv p2, uu]) (by decide +kernel) rfl ?_
  show W Z EL _ "java/lang/StringLatin1" "equals" _ _ _ _ _ _ _ _ _ _
  refine W.aloadN (pc := 0) d13_0 rfl rfl ?_
  refine W.alen (pc := 1) (2) d13_1 mp1 rfl ?_
  refine W.aloadN (pc := 2) d13_2 rfl rfl ?_
  refine W.alen (pc := 3) (0) d13_3 mp2 rfl ?_
  refine W.icmpY (pc := 4) 34 d13_4 (y_ne (by decide)) (by decide) ?_
  refine W.iconst (pc := 34) (0) d13_34 (by decide) ?_
  exact W.ireturn (pc := 35) d13_35 rfl (Or.inr (Or.inl rfl)) (nw_bool (by decide)) (by decide) ⟨rfl, rfl⟩
theorem c54_equals {Z a0} (hw : HW a0 Z) (hs : SF Z) {p1 p2 p3 p4 : Addr} {x1 : Int32} (hx1 : -128 ≤ x1.toInt ∧ x1.toInt ≤ 127) {x2 : Int32} (hx2 : -128 ≤ x2.toInt ∧ x2.toInt ≤ 127) {w_p2 : Bool} {w_p1 : Bool} {w_p3 : Bool} {ad_p3 : String} {w_p4 : Bool} {ad_p4 : String} (ne_p1_p2 : p1 ≠ p2) {F : List Ent} (mp2 : (p2, w_p2, oString (vr p4) (vi 0)) ∈ F) (mp1 : (p1, w_p1, oString (vr p3) (vi 0)) ∈ F) (mp3 : (p3, w_p3, ar ad_p3 .byte [(vi x1), (vi x2)]) ∈ F) (mp4 : (p4, w_p4, ar ad_p4 .byte []) ∈ F) : Con Z EL (⟨"java/lang/String", "equals", "(Ljava/lang/Object;)Z"⟩ : MethodName) jdk_42_method_66_code 3 (Option.some Jvm.ClassFile.FieldType.boolean) (rmm 1 0 0 14) [(vr p1), (vr p2)] (F) (fun v D' => (v = some (vi 0) ∧ F = D')) := by
  refine Con.of (ls := #[rv p1, rv p2, uu]) (by decide +kernel) rfl ?_
  show W Z EL _ "java/lang/String" "equals" _ _ _ _ _ _ _ _ _ _
  refine W.aloadN (pc := 0) d12_0 rfl rfl ?_
  refine W.aloadN (pc := 1) d12_1 rfl rfl ?_
  refine W.acmpY (pc := 2) 7 d12_2 rfl rfl (show Ca .ne _ _ from (fun z => ne_p1_p2 (by injection z))) (by decide) ?_
  refine W.aloadN (pc := 7) d12_7 rfl rfl ?_
  refine W.instY (pc := 8) d12_8 (w87 hw) (Hp.ins mp2) ?_
  refine W.ifN (pc := 11) d12_11 (n_eq (by decide)) ?_
  refine W.aloadN (pc := 14) d12_14 rfl rfl ?_
  refine W.castY (pc := 15) d12_15 (w87 hw) (Hp.ins mp2) ?_
  refine W.astoreN (pc := 18) (ls' := #[rv p1, rv p2, rv p2]) d12_18 rfl rfl ?_
  refine W.gets (pc := 19) d12_19 (w19 hw) Via.refl hs.1 ?_
  refine W.ifN (pc := 22) d12_22 (n_eq (by have := hs.2.1; have := q0; omega)) ?_
  refine W.aloadN (pc := 25) d12_25 rfl rfl ?_
  refine W.getf (pc := 26) d12_26 (w31 hw) Via.refl mp1 m1 ?_
  refine W.aloadN (pc := 29) d12_29 rfl rfl ?_
  refine W.getf (pc := 30) d12_30 (w31 hw) Via.refl mp2 m1 ?_
  refine W.icmpN (pc := 33) d12_33 (n_ne (by decide)) ?_
  refine W.aloadN (pc := 36) d12_36 rfl rfl ?_
  refine W.getf (pc := 37) d12_37 (w33 hw) Via.refl mp1 m0 ?_
  refine W.aloadN (pc := 40) d12_40 rfl rfl ?_
  refine W.getf (pc := 41) d12_41 (w33 hw) Via.refl mp2 m0 ?_
  refine W.callS (pc := 44) (as := [(vr p3), (vr p4)]) 0 [] d12_44 (w88 hw) (w89 hw) (w90 hw) (w91 hw) (c55_equals hw hs (p1 := p3) (p2 := p4) (x1 := x1) (hx1 := hx1) (x2 := x2) (hx2 := hx2) (mp1 := mp3) (mp2 := mp4)) (by decide) pd__B_B_Z rfl rfl rfl rfl (by decide) (fun v D' h => ?_)
  obtain ⟨rfl, rfl⟩ := h
  show W _ _ _ _ _ _ _ _ _ _ _ _ 47 _ [(vi 0)]
  refine W.ifY (pc := 47) 54 d12_47 (y_eq (by decide)) (by decide) ?_
  refine W.iconst (pc := 54) (0) d12_54 (by decide) ?_
  exact W.ireturn (pc := 55) d12_55 rfl (Or.inr (Or.inl rfl)) (nw_bool (by decide)) (by decide) ⟨rfl, rfl⟩
theorem c53_isSymbol {Z a0} (hw : HW a0 Z) (hs : SF Z) {p1 p2 p3 p4 p5 : Addr} {x1 : Int32} {x2 : Int32} {x3 : Int32} (hx3 : -128 ≤ x3.toInt ∧ x3.toInt ≤ 127) {x4 : Int32} (hx4 : -128 ≤ x4.toInt ∧ x4.toInt ≤ 127) {w_p1 : Bool} {w_p3 : Bool} {w_p2 : Bool} {w_p5 : Bool} {ad_p5 : String} {w_p4 : Bool} {ad_p4 : String} (ne_p1_p2 : p1 ≠ p2) (ne_p2_p3 : p2 ≠ p3) {F : List Ent} (mp1 : (p1, w_p1, oJdqlLexer_Token (vr (kSYMBOL Z)) (vr p3) (vi x1) (vi x2)) ∈ F) (mp3 : (p3, w_p3, oString (vr p5) (vi 0)) ∈ F) (mp2 : (p2, w_p2, oString (vr p4) (vi 0)) ∈ F) (mp5 : (p5, w_p5, ar ad_p5 .byte [(vi x3), (vi x4)]) ∈ F) (mp4 : (p4, w_p4, ar ad_p4 .byte []) ∈ F) : Con Z EL (⟨"com/example/rochester/rochester/JdqlLexer$Token", "isSymbol", "(Ljava/lang/String;)Z"⟩ : MethodName) prog_12_method_3_code 2 (Option.some Jvm.ClassFile.FieldType.boolean) (rmm 2 0 0 28) [(vr p1), (vr p2)] (F) (fun v D' => (v = some (vi 0) ∧ F = D')) := by
  refine Con.of (ls := #[rv p1, rv p2]) (by decide +kernel) rfl ?_
  show W Z EL _ "com/example/rochester/rochester/JdqlLexer$Token" "isSymbol" _ _ _ _ _ _ _ _ _ _
  refine W.aloadN (pc := 0) d11_0 rfl rfl ?_
  refine W.getf (pc := 1) d11_1 (w56 hw) Via.refl mp1 m0 ?_
  refine W.gets (pc := 4) d11_4 (w69 hw) Via.refl hs.2.2.2.2.2.2.2.1 ?_
  refine W.acmpN (pc := 7) d11_7 rfl rfl (fun z => z rfl) ?_
  refine W.aloadN (pc := 10) d11_10 rfl rfl ?_
  refine W.getf (pc := 11) d11_11 (w58 hw) Via.refl mp1 m1 ?_
  refine W.aloadN (pc := 14) d11_14 rfl rfl ?_
  refine W.callV (pc := 15) (as := [(vr p2)]) 0 [] d11_15 (w82 hw) (w83 hw) (w85 hw) (w85 hw) (w84 hw) (w8 hw) (w86 hw) (Hp.exa mp3) (c54_equals hw hs (p1 := p3) (p2 := p2) (p3 := p5) (p4 := p4) (x1 := x3) (hx1 := hx3) (x2 := x4) (hx2 := hx4) (mp2 := mp2) (mp1 := mp3) (mp3 := mp5) (mp4 := mp4) (ne_p1_p2 := (Ne.symm ne_p2_p3))) (by decide) pd_Ljava_lang_Object__Z rfl rfl rfl rfl (by decide) (fun v D' h => ?_)
  obtain ⟨rfl, rfl⟩ := h
  show W _ _ _ _ _ _ _ _ _ _ _ _ 18 _ [(vi 0)]
  refine W.ifY (pc := 18) 25 d11_18 (y_eq (by decide)) (by decide) ?_
  refine W.iconst (pc := 25) (0) d11_25 (by decide) ?_
  exact W.ireturn (pc := 26) d11_26 rfl (Or.inr (Or.inl rfl)) (nw_bool (by decide)) (by decide) ⟨rfl, rfl⟩
theorem c56_isSymbol {Z a0} (hw : HW a0 Z) (hs : SF Z) {p1 p2 p3 p4 p5 p6 : Addr} {x1 : Int32} {x2 : Int32} {x3 : Int32} (hx3 : -128 ≤ x3.toInt ∧ x3.toInt ≤ 127) {x4 : Int32} (hx4 : -128 ≤ x4.toInt ∧ x4.toInt ≤ 127) {w_p1 : Bool} (ne_p3_kSYMBOLZ : p3 ≠ (kSYMBOL Z)) {F : List Ent} (mp1 : (p1, w_p1, oJdqlLexer_Token (vr p3) (vr p4) (vi x1) (vi x2)) ∈ F) : Con Z EL (⟨"com/example/rochester/rochester/JdqlLexer$Token", "isSymbol", "(Ljava/lang/String;)Z"⟩ : MethodName) prog_12_method_3_code 2 (Option.some Jvm.ClassFile.FieldType.boolean) (rmm 0 0 0 0) [(vr p1), (vr p2)] (F) (fun v D' => (v = some (vi 0) ∧ F = D')) := by
  refine Con.of (ls := #[rv p1, rv p2]) (by decide +kernel) rfl ?_
  show W Z EL _ "com/example/rochester/rochester/JdqlLexer$Token" "isSymbol" _ _ _ _ _ _ _ _ _ _
  refine W.aloadN (pc := 0) d11_0 rfl rfl ?_
  refine W.getf (pc := 1) d11_1 (w56 hw) Via.refl mp1 m0 ?_
  refine W.gets (pc := 4) d11_4 (w69 hw) Via.refl hs.2.2.2.2.2.2.2.1 ?_
  refine W.acmpY (pc := 7) 25 d11_7 rfl rfl (show Ca .ne _ _ from (fun z => ne_p3_kSYMBOLZ (by injection z))) (by decide) ?_
  refine W.iconst (pc := 25) (0) d11_25 (by decide) ?_
  exact W.ireturn (pc := 26) d11_26 rfl (Or.inr (Or.inl rfl)) (nw_bool (by decide)) (by decide) ⟨rfl, rfl⟩
theorem c57_init {Z a0} (hw : HW a0 Z) (hs : SF Z) {p1 p2 p3 : Addr} {x1 : Int32} {x2 : Int32} {x3 : Int32} (hx3 : -128 ≤ x3.toInt ∧ x3.toInt ≤ 127) {F : List Ent} : Con Z EL (⟨"com/example/rochester/rochester/JdqlLexer$Token", "<init>", "(Lcom/example/rochester/rochester/JdqlLexer$Kind;Ljava/lang/String;II)V"⟩ : MethodName) prog_12_method_1_code 5 (Option.none : Option Jvm.ClassFile.FieldType) (rmm 2 0 0 24) [(vr p1), (vr (kSYMBOL Z)), (vr p2), (vi x1), (vi x2)] ((p1, true, oJdqlLexer_Token .null .null (vi 0) (vi 0)) :: F) (fun v D' => (v = none ∧ (p1, true, oJdqlLexer_Token (vr (kSYMBOL Z)) (vr p2) (vi x1) (vi x2)) :: F = D')) := by
  refine Con.of (ls := #[rv p1, rv (kSYMBOL Z), rv p2, iv x1, iv x2]) (by decide +kernel) rfl ?_
  show W Z EL _ "com/example/rochester/rochester/JdqlLexer$Token" "<init>" _ _ _ _ _ _ _ _ _ _
  refine W.aloadN (pc := 0) d9_0 rfl rfl ?_
  refine W.callI (pc := 1) (as := []) 0 [] d9_1 rfl (w50 hw) (w51 hw) (w53 hw) (w54 hw) (c21_init hw hs (p1 := p1)) (by decide) pd__V rfl rfl rfl rfl (by decide) (fun v D' h => ?_)
  obtain ⟨rfl, rfl⟩ := h
  show W _ _ _ _ _ _ _ _ _ _ _ _ 4 _ []
  refine W.aloadN (pc := 4) d9_4 rfl rfl ?_
  refine W.aloadN (pc := 5) d9_5 rfl rfl ?_
  refine W.putf (pc := 6) (D' := (p1, true, oJdqlLexer_Token (vr (kSYMBOL Z)) .null (vi 0) (vi 0)) :: F) 0 0 d9_6 (w56 hw) Via.refl rfl rfl (Or.inr ⟨(w57 hw), rfl, rfl⟩) (w39 hw) pfLcom_example_rochester_rochester_JdqlLexer_Kind_ rfl rfl rfl ?_
  refine W.aloadN (pc := 9) d9_9 rfl rfl ?_
  refine W.aloadN (pc := 10) d9_10 rfl rfl ?_
  refine W.putf (pc := 11) (D' := (p1, true, oJdqlLexer_Token (vr (kSYMBOL Z)) (vr p2) (vi 0) (vi 0)) :: F) 0 1 d9_11 (w58 hw) Via.refl rfl rfl (Or.inr ⟨(w59 hw), rfl, rfl⟩) (w39 hw) pfLjava_lang_String_ rfl rfl rfl ?_
  refine W.aloadN (pc := 14) d9_14 rfl rfl ?_
  refine W.iloadN (pc := 15) d9_15 rfl ?_
  refine W.putf (pc := 16) (D' := (p1, true, oJdqlLexer_Token (vr (kSYMBOL Z)) (vr p2) (vi x1) (vi 0)) :: F) 0 2 d9_16 (w60 hw) Via.refl rfl rfl (Or.inr ⟨(w61 hw), rfl, rfl⟩) (w39 hw) pfI rfl rfl rfl ?_
  refine W.aloadN (pc := 19) d9_19 rfl rfl ?_
  refine W.iload (pc := 20) d9_20 rfl ?_
  refine W.putf (pc := 22) (D' := (p1, true, oJdqlLexer_Token (vr (kSYMBOL Z)) (vr p2) (vi x1) (vi x2)) :: F) 0 3 d9_22 (w62 hw) Via.refl rfl rfl (Or.inr ⟨(w63 hw), rfl, rfl⟩) (w39 hw) pfI rfl rfl rfl ?_
  exact W.return_ (pc := 25) d9_25 rfl (by decide) ⟨rfl, rfl⟩
theorem c60_equals {Z a0} (hw : HW a0 Z) (hs : SF Z) {p1 p2 : Addr} {x1 : Int32} (hx1 : -128 ≤ x1.toInt ∧ x1.toInt ≤ 127) {x2 : Int32} (hx2 : -128 ≤ x2.toInt ∧ x2.toInt ≤ 127) {x3 : Int32} (hx3 : -128 ≤ x3.toInt ∧ x3.toInt ≤ 127) {x4 : Int32} (hx4 : -128 ≤ x4.toInt ∧ x4.toInt ≤ 127) {w_p1 : Bool} {ad_p1 : String} {w_p2 : Bool} {ad_p2 : String} {F : List Ent} (mp1 : (p1, w_p1, ar ad_p1 .byte [(vi x1)]) ∈ F) (mp2 : (p2, w_p2, ar ad_p2 .byte [(vi x2), (vi x3), (vi x4)]) ∈ F) : Con Z EL (⟨"java/lang/StringLatin1", "equals", "([B[B)Z"⟩ : MethodName) jdk_43_method_13_code 3 (Option.some Jvm.ClassFile.FieldType.boolean) (rmm 0 0 0 0) [(vr p1), (vr p2)] (F) (fun v D' => (v = some (vi 0) ∧ F = D')) := by
  refine Con.of (ls := #[rv p1, rv p2, uu]) (by decide +kernel) rfl ?_
  show W Z EL _ "java/lang/StringLatin1" "equals" _ _ _ _ _ _ _ _ _ _
  refine W.aloadN (pc := 0) d13_0 rfl rfl ?_
  refine W.alen (pc := 1) (1) d13_1 mp1 rfl ?_
  refine W.aloadN (pc := 2) d13_2 rfl rfl ?_
  refine W.alen (pc := 3) (3) d13_3 mp2 rfl ?_
  refine W.icmpY (pc := 4) 34 d13_4 (y_ne (by decide)) (by decide) ?_
  refine W.iconst (pc := 34) (0) d13_34 (by decide) ?_
  exact W.ireturn (pc := 35) d13_35 rfl (Or.inr (Or.inl rfl)) (nw_bool (by decide)) (by decide) ⟨rfl, rfl⟩
theorem c59_equals {Z a0} (hw : HW a0 Z) (hs : SF Z) {p1 p2 p3 p4 : Addr} {x1 : Int32} (hx1 : -128 ≤ x1.toInt ∧ x1.toInt ≤ 127) {x2 : Int32} (hx2 : -128 ≤ x2.toInt ∧ x2.toInt ≤ 127) {x3 : Int32} (hx3 : -128 ≤ x3.toInt ∧ x3.toInt ≤ 127) {x4 : Int32} (hx4 : -128 ≤ x4.toInt ∧ x4.toInt ≤ 127) {w_p2 : Bool} {w_p1 : Bool} {w_p3 : Bool} {ad_p3 : String} {w_p4 : Bool} {ad_p4 : String} (ne_p1_p2 : p1 ≠ p2) {F : List Ent} (mp2 : (p2, w_p2, oString (vr p4) (vi 0)) ∈ F) (mp1 : (p1, w_p1, oString (vr p3) (vi 0)) ∈ F) (mp3 : (p3, w_p3, ar ad_p3 .byte [(vi x1)]) ∈ F) (mp4 : (p4, w_p4, ar ad_p4 .byte [(vi x2), (vi x3), (vi x4)]) ∈ F) : Con Z EL (⟨"java/lang/String", "equals", "(Ljava/lang/Object;)Z"⟩ : MethodName) jdk_42_method_66_code 3 (Option.some Jvm.ClassFile.FieldType.boolean) (rmm 1 0 0 14) [(vr p1), (vr p2)] (F) (fun v D' => (v = some (vi 0) ∧ F = D')) := by
  refine Con.of (ls := #[rv p1, rv p2, uu]) (by decide +kernel) rfl ?_
  show W Z EL _ "java/lang/String" "equals" _ _ _ _ _ _ _ _ _ _
  refine W.aloadN (pc := 0) d12_0 rfl rfl ?_
  refine W.aloadN (pc := 1) d12_1 rfl rfl ?_
  refine W.acmpY (pc := 2) 7 d12_2 rfl rfl (show Ca .ne _ _ from (fun z => ne_p1_p2 (by injection z))) (by decide) ?_
  refine W.aloadN (pc := 7) d12_7 rfl rfl ?_
  refine W.instY (pc := 8) d12_8 (w87 hw) (Hp.ins mp2) ?_
  refine W.ifN (pc := 11) d12_11 (n_eq (by decide)) ?_
  refine W.aloadN (pc := 14) d12_14 rfl rfl ?_
  refine W.castY (pc := 15) d12_15 (w87 hw) (Hp.ins mp2) ?_
  refine W.astoreN (pc := 18) (ls' := #[rv p1, rv p2, rv p2]) d12_18 rfl rfl ?_
  refine W.gets (pc := 19) d12_19 (w19 hw) Via.refl hs.1 ?_
  refine W.ifN (pc := 22) d12_22 (n_eq (by have := hs.2.1; have := q0; omega)) ?_
  refine W.aloadN (pc := 25) d12_25 rfl rfl ?_
  refine W.getf (pc := 26) d12_26 (w31 hw) Via.refl mp1 m1 ?_
  refine W.aloadN (pc := 29) d12_29 rfl rfl ?_
  refine W.getf (pc := 30) d12_30 (w31 hw) Via.refl mp2 m1 ?_
  refine W.icmpN (pc := 33) d12_33 (n_ne (by decide)) ?_
  refine W.aloadN (pc := 36) d12_36 rfl rfl ?_
  refine W.getf (pc := 37) d12_37 (w33 hw) Via.refl mp1 m0 ?_
  refine W.aloadN (pc := 40) d12_40 rfl rfl ?_
  refine W.getf (pc := 41) d12_41 (w33 hw) Via.refl mp2 m0 ?_
  refine W.callS (pc := 44) (as := [(vr p3), (vr p4)]) 0 [] d12_44 (w88 hw) (w89 hw) (w90 hw) (w91 hw) (c60_equals hw hs (p1 := p3) (p2 := p4) (x1 := x1) (hx1 := hx1) (x2 := x2) (hx2 := hx2) (x3 := x3) (hx3 := hx3) (x4 := x4) (hx4 := hx4) (mp1 := mp3) (mp2 := mp4)) (by decide) pd__B_B_Z rfl rfl rfl rfl (by decide) (fun v D' h => ?_)
  obtain ⟨rfl, rfl⟩ := h
  show W _ _ _ _ _ _ _ _ _ _ _ _ 47 _ [(vi 0)]
  refine W.ifY (pc := 47) 54 d12_47 (y_eq (by decide)) (by decide) ?_
  refine W.iconst (pc := 54) (0) d12_54 (by decide) ?_
  exact W.ireturn (pc := 55) d12_55 rfl (Or.inr (Or.inl rfl)) (nw_bool (by decide)) (by decide) ⟨rfl, rfl⟩
theorem c58_isSymbol {Z a0} (hw : HW a0 Z) (hs : SF Z) {p1 p2 p3 p4 p5 : Addr} {x1 : Int32} {x2 : Int32} {x3 : Int32} (hx3 : -128 ≤ x3.toInt ∧ x3.toInt ≤ 127) {x4 : Int32} (hx4 : -128 ≤ x4.toInt ∧ x4.toInt ≤ 127) {x5 : Int32} (hx5 : -128 ≤ x5.toInt ∧ x5.toInt ≤ 127) {x6 : Int32} (hx6 : -128 ≤ x6.toInt ∧ x6.toInt ≤ 127) {w_p1 : Bool} {w_p3 : Bool} {w_p2 : Bool} {w_p5 : Bool} {ad_p5 : String} {w_p4 : Bool} {ad_p4 : String} (ne_p1_p2 : p1 ≠ p2) (ne_p2_p3 : p2 ≠ p3) {F : List Ent} (mp1 : (p1, w_p1, oJdqlLexer_Token (vr (kSYMBOL Z)) (vr p3) (vi x1) (vi x2)) ∈ F) (mp3 : (p3, w_p3, oString (vr p5) (vi 0)) ∈ F) (mp2 : (p2, w_p2, oString (vr p4) (vi 0)) ∈ F) (mp5 : (p5, w_p5, ar ad_p5 .byte [(vi x6)]) ∈ F) (mp4 : (p4, w_p4, ar ad_p4 .byte [(vi x3), (vi x4), (vi x5)]) ∈ F) : Con Z EL (⟨"com/example/rochester/rochester/JdqlLexer$Token", "isSymbol", "(Ljava/lang/String;)Z"⟩ : MethodName) prog_12_method_3_code 2 (Option.some Jvm.ClassFile.FieldType.boolean) (rmm 2 0 0 28) [(vr p1), (vr p2)] (F) (fun v D' => (v = some (vi 0) ∧ F = D')) := by
  refine Con.of (ls := #[rv p1, rv p2]) (by decide +kernel) rfl ?_
  show W Z EL _ "com/example/rochester/rochester/JdqlLexer$Token" "isSymbol" _ _ _ _ _ _ _ _ _ _
  refine W.aloadN (pc := 0) d11_0 rfl rfl ?_
  refine W.getf (pc := 1) d11_1 (w56 hw) Via.refl mp1 m0 ?_
  refine W.gets (pc := 4) d11_4 (w69 hw) Via.refl hs.2.2.2.2.2.2.2.1 ?_
  refine W.acmpN (pc := 7) d11_7 rfl rfl (fun z => z rfl) ?_
  refine W.aloadN (pc := 10) d11_10 rfl rfl ?_
  refine W.getf (pc := 11) d11_11 (w58 hw) Via.refl mp1 m1 ?_
  refine W.aloadN (pc := 14) d11_14 rfl rfl ?_
  refine W.callV (pc := 15) (as := [(vr p2)]) 0 [] d11_15 (w82 hw) (w83 hw) (w85 hw) (w85 hw) (w84 hw) (w8 hw) (w86 hw) (Hp.exa mp3) (c59_equals hw hs (p1 := p3) (p2 := p2) (p3 := p5) (p4 := p4) (x1 := x6) (hx1 := hx6) (x2 := x3) (hx2 := hx3) (x3 := x4) (hx3 := hx4) (x4 := x5) (hx4 := hx5) (mp2 := mp2) (mp1 := mp3) (mp3 := mp5) (mp4 := mp4) (ne_p1_p2 := (Ne.symm ne_p2_p3))) (by decide) pd_Ljava_lang_Object__Z rfl rfl rfl rfl (by decide) (fun v D' h => ?_)
  obtain ⟨rfl, rfl⟩ := h
  show W _ _ _ _ _ _ _ _ _ _ _ _ 18 _ [(vi 0)]
  refine W.ifY (pc := 18) 25 d11_18 (y_eq (by decide)) (by decide) ?_
  refine W.iconst (pc := 25) (0) d11_25 (by decide) ?_
  exact W.ireturn (pc := 26) d11_26 rfl (Or.inr (Or.inl rfl)) (nw_bool (by decide)) (by decide) ⟨rfl, rfl⟩
theorem c61_init {Z a0} (hw : HW a0 Z) (hs : SF Z) {p1 p2 p3 p4 : Addr} {x1 : Int32} {x2 : Int32} {x3 : Int32} (hx3 : -128 ≤ x3.toInt ∧ x3.toInt ≤ 127) {F : List Ent} : Con Z EL (⟨"com/example/rochester/rochester/JdqlLexer$Token", "<init>", "(Lcom/example/rochester/rochester/JdqlLexer$Kind;Ljava/lang/String;II)V"⟩ : MethodName) prog_12_method_1_code 5 (Option.none : Option Jvm.ClassFile.FieldType) (rmm 2 0 0 24) [(vr p1), (vr p2), (vr p3), (vi x1), (vi x2)] ((p1, true, oJdqlLexer_Token .null .null (vi 0) (vi 0)) :: F) (fun v D' => (v = none ∧ (p1, true, oJdqlLexer_Token (vr p2) (vr p3) (vi x1) (vi x2)) :: F = D')) := by
  refine Con.of (ls := #[rv p1, rv p2, rv p3, iv x1, iv x2]) (by decide +kernel) rfl ?_
  show W Z EL _ "com/example/rochester/rochester/JdqlLexer$Token" "<init>" _ _ _ _ _ _ _ _ _ _
  refine W.aloadN (pc := 0) d9_0 rfl rfl ?_
  refine W.callI (pc := 1) (as := []) 0 [] d9_1 rfl (w50 hw) (w51 hw) (w53 hw) (w54 hw) (c21_init hw hs (p1 := p1)) (by decide) pd__V rfl rfl rfl rfl (by decide) (fun v D' h => ?_)
  obtain ⟨rfl, rfl⟩ := h
  show W _ _ _ _ _ _ _ _ _ _ _ _ 4 _ []
  refine W.aloadN (pc := 4) d9_4 rfl rfl ?_
  refine W.aloadN (pc := 5) d9_5 rfl rfl ?_
  refine W.putf (pc := 6) (D' := (p1, true, oJdqlLexer_Token (vr p2) .null (vi 0) (vi 0)) :: F) 0 0 d9_6 (w56 hw) Via.refl rfl rfl (Or.inr ⟨(w57 hw), rfl, rfl⟩) (w39 hw) pfLcom_example_rochester_rochester_JdqlLexer_Kind_ rfl rfl rfl ?_
  refine W.aloadN (pc := 9) d9_9 rfl rfl ?_
  refine W.aloadN (pc := 10) d9_10 rfl rfl ?_
  refine W.putf (pc := 11) (D' := (p1, true, oJdqlLexer_Token (vr p2) (vr p3) (vi 0) (vi 0)) :: F) 0 1 d9_11 (w58 hw) Via.refl rfl rfl (Or.inr ⟨(w59 hw), rfl, rfl⟩) (w39 hw) pfLjava_lang_String_ rfl rfl rfl ?_
  refine W.aloadN (pc := 14) d9_14 rfl rfl ?_
  refine W.iloadN (pc := 15) d9_15 rfl ?_
  refine W.putf (pc := 16) (D' := (p1, true, oJdqlLexer_Token (vr p2) (vr p3) (vi x1) (vi 0)) :: F) 0 2 d9_16 (w60 hw) Via.refl rfl rfl (Or.inr ⟨(w61 hw), rfl, rfl⟩) (w39 hw) pfI rfl rfl rfl ?_
  refine W.aloadN (pc := 19) d9_19 rfl rfl ?_
  refine W.iload (pc := 20) d9_20 rfl ?_
  refine W.putf (pc := 22) (D' := (p1, true, oJdqlLexer_Token (vr p2) (vr p3) (vi x1) (vi x2)) :: F) 0 3 d9_22 (w62 hw) Via.refl rfl rfl (Or.inr ⟨(w63 hw), rfl, rfl⟩) (w39 hw) pfI rfl rfl rfl ?_
  exact W.return_ (pc := 25) d9_25 rfl (by decide) ⟨rfl, rfl⟩
theorem c62_isSymbol {Z a0} (hw : HW a0 Z) (hs : SF Z) {p1 p2 p3 p4 p5 p6 : Addr} {x1 : Int32} {x2 : Int32} {x3 : Int32} (hx3 : -128 ≤ x3.toInt ∧ x3.toInt ≤ 127) {x4 : Int32} (hx4 : -128 ≤ x4.toInt ∧ x4.toInt ≤ 127) {x5 : Int32} (hx5 : -128 ≤ x5.toInt ∧ x5.toInt ≤ 127) {x6 : Int32} (hx6 : -128 ≤ x6.toInt ∧ x6.toInt ≤ 127) {w_p1 : Bool} (ne_p3_kSYMBOLZ : p3 ≠ (kSYMBOL Z)) {F : List Ent} (mp1 : (p1, w_p1, oJdqlLexer_Token (vr p3) (vr p4) (vi x1) (vi x2)) ∈ F) : Con Z EL (⟨"com/example/rochester/rochester/JdqlLexer$Token", "isSymbol", "(Ljava/lang/String;)Z"⟩ : MethodName) prog_12_method_3_code 2 (Option.some Jvm.ClassFile.FieldType.boolean) (rmm 0 0 0 0) [(vr p1), (vr p2)] (F) (fun v D' => (v = some (vi 0) ∧ F = D')) := by
  refine Con.of (ls := #[rv p1, rv p2]) (by decide +kernel) rfl ?_
  show W Z EL _ "com/example/rochester/rochester/JdqlLexer$Token" "isSymbol" _ _ _ _ _ _ _ _ _ _
  refine W.aloadN (pc := 0) d11_0 rfl rfl ?_
  refine W.getf (pc := 1) d11_1 (w56 hw) Via.refl mp1 m0 ?_
  refine W.gets (pc := 4) d11_4 (w69 hw) Via.refl hs.2.2.2.2.2.2.2.1 ?_
  refine W.acmpY (pc := 7) 25 d11_7 rfl rfl (show Ca .ne _ _ from (fun z => ne_p3_kSYMBOLZ (by injection z))) (by decide) ?_
  refine W.iconst (pc := 25) (0) d11_25 (by decide) ?_
  exact W.ireturn (pc := 26) d11_26 rfl (Or.inr (Or.inl rfl)) (nw_bool (by decide)) (by decide) ⟨rfl, rfl⟩
theorem c65_equals {Z a0} (hw : HW a0 Z) (hs : SF Z) {p1 p2 : Addr} {x1 : Int32} (hx1 : -128 ≤ x1.toInt ∧ x1.toInt ≤ 127) {x2 : Int32} (hx2 : -128 ≤ x2.toInt ∧ x2.toInt ≤ 127) {x3 : Int32} (hx3 : -128 ≤ x3.toInt ∧ x3.toInt ≤ 127) {w_p1 : Bool} {ad_p1 : String} {w_p2 : Bool} {ad_p2 : String} {F : List Ent} (mp1 : (p1, w_p1, ar ad_p1 .byte [(vi x1)]) ∈ F) (mp2 : (p2, w_p2, ar ad_p2 .byte [(vi x2), (vi x3)]) ∈ F) : Con Z EL (⟨"java/lang/StringLatin1", "equals", "([B[B)Z"⟩ : MethodName) jdk_43_method_13_code 3 (Option.some Jvm.ClassFile.FieldType.boolean) (rmm 0 0 0 0) [(vr p1), (vr p2)] (F) (fun v D' => (v = some (vi 0) ∧ F = D')) := by
  refine Con.of (ls := #[rv p1, rv p2, uu]) (by decide +kernel) rfl ?_
  show W Z EL _ "java/lang/StringLatin1" "equals" _ _ _ _ _ _ _ _ _ _
  refine W.aloadN (pc := 0) d13_0 rfl rfl ?_
  refine W.alen (pc := 1) (1) d13_1 mp1 rfl ?_
  refine W.aloadN (pc := 2) d13_2 rfl rfl ?_
  refine W.alen (pc := 3) (2) d13_3 mp2 rfl ?_
  refine W.icmpY (pc := 4) 34 d13_4 (y_ne (by decide)) (by decide) ?_
  refine W.iconst (pc := 34) (0) d13_34 (by decide) ?_
  exact W.ireturn (pc := 35) d13_35 rfl (Or.inr (Or.inl rfl)) (nw_bool (by decide)) (by decide) ⟨rfl, rfl⟩
theorem c64_equals {Z a0} (hw : HW a0 Z) (hs : SF Z) {p1 p2 p3 p4 : Addr} {x1 : Int32} (hx1 : -128 ≤ x1.toInt ∧ x1.toInt ≤ 127) {x2 : Int32} (hx2 : -128 ≤ x2.toInt ∧ x2.toInt ≤ 127) {x3 : Int32} (hx3 : -128 ≤ x3.toInt ∧ x3.toInt ≤ 127) {w_p2 : Bool} {w_p1 : Bool} {w_p3 : Bool} {ad_p3 : String} {w_p4 : Bool} {ad_p4 : String} (ne_p1_p2 : p1 ≠ p2) {F : List Ent} (mp2 : (p2, w_p2, oString (vr p4) (vi 0)) ∈ F) (mp1 : (p1, w_p1, oString (vr p3) (vi 0)) ∈ F) (mp3 : (p3, w_p3, ar ad_p3 .byte [(vi x1)]) ∈ F) (mp4 : (p4, w_p4, ar ad_p4 .byte [(vi x2), (vi x3)]) ∈ F) : Con Z EL (⟨"java/lang/String", "equals", "(Ljava/lang/Object;)Z"⟩ : MethodName) jdk_42_method_66_code 3 (Option.some Jvm.ClassFile.FieldType.boolean) (rmm 1 0 0 14) [(vr p1), (vr p2)] (F) (fun v D' => (v = some (vi 0) ∧ F = D')) := by
  refine Con.of (ls := #[rv p1, rv p2, uu]) (by decide +kernel) rfl ?_
  show W Z EL _ "java/lang/String" "equals" _ _ _ _ _ _ _ _ _ _
  refine W.aloadN (pc := 0) d12_0 rfl rfl ?_
  refine W.aloadN (pc := 1) d12_1 rfl rfl ?_
  refine W.acmpY (pc := 2) 7 d12_2 rfl rfl (show Ca .ne _ _ from (fun z => ne_p1_p2 (by injection z))) (by decide) ?_
  refine W.aloadN (pc := 7) d12_7 rfl rfl ?_
  refine W.instY (pc := 8) d12_8 (w87 hw) (Hp.ins mp2) ?_
  refine W.ifN (pc := 11) d12_11 (n_eq (by decide)) ?_
  refine W.aloadN (pc := 14) d12_14 rfl rfl ?_
  refine W.castY (pc := 15) d12_15 (w87 hw) (Hp.ins mp2) ?_
  refine W.astoreN (pc := 18) (ls' := #[rv p1, rv p2, rv p2]) d12_18 rfl rfl ?_
  refine W.gets (pc := 19) d12_19 (w19 hw) Via.refl hs.1 ?_
  refine W.ifN (pc := 22) d12_22 (n_eq (by have := hs.2.1; have := q0; omega)) ?_
  refine W.aloadN (pc := 25) d12_25 rfl rfl ?_
  refine W.getf (pc := 26) d12_26 (w31 hw) Via.refl mp1 m1 ?_
  refine W.aloadN (pc := 29) d12_29 rfl rfl ?_
  refine W.getf (pc := 30) d12_30 (w31 hw) Via.refl mp2 m1 ?_
  refine W.icmpN (pc := 33) d12_33 (n_ne (by decide)) ?_
  refine W.aloadN (pc := 36) d12_36 rfl rfl ?_
  refine W.getf (pc := 37) d12_37 (w33 hw) Via.refl mp1 m0 ?_
  refine W.aloadN (pc := 40) d12_40 rfl rfl ?_
  refine W.getf (pc := 41) d12_41 (w33 hw) Via.refl mp2 m0 ?_
  refine W.callS (pc := 44) (as := [(vr p3), (vr p4)]) 0 [] d12_44 (w88 hw) (w89 hw) (w90 hw) (w91 hw) (c65_equals hw hs (p1 := p3) (p2 := p4) (x1 := x1) (hx1 := hx1) (x2 := x2) (hx2 := hx2) (x3 := x3) (hx3 := hx3) (mp1 := mp3) (mp2 := mp4)) (by decide) pd__B_B_Z rfl rfl rfl rfl (by decide) (fun v D' h => ?_)
  obtain ⟨rfl, rfl⟩ := h
  show W _ _ _ _ _ _ _ _ _ _ _ _ 47 _ [(vi 0)]
  refine W.ifY (pc := 47) 54 d12_47 (y_eq (by decide)) (by decide) ?_
  refine W.iconst (pc := 54) (0) d12_54 (by decide) ?_
  exact W.ireturn (pc := 55) d12_55 rfl (Or.inr (Or.inl rfl)) (nw_bool (by decide)) (by decide) ⟨rfl, rfl⟩
theorem c63_isSymbol {Z a0} (hw : HW a0 Z) (hs : SF Z) {p1 p2 p3 p4 p5 : Addr} {x1 : Int32} {x2 : Int32} {x3 : Int32} (hx3 : -128 ≤ x3.toInt ∧ x3.toInt ≤ 127) {x4 : Int32} (hx4 : -128 ≤ x4.toInt ∧ x4.toInt ≤ 127) {x5 : Int32} (hx5 : -128 ≤ x5.toInt ∧ x5.toInt ≤ 127) {w_p1 : Bool} {w_p3 : Bool} {w_p2 : Bool} {w_p5 : Bool} {ad_p5 : String} {w_p4 : Bool} {ad_p4 : String} (ne_p1_p2 : p1 ≠ p2) (ne_p2_p3 : p2 ≠ p3) {F : List Ent} (mp1 : (p1, w_p1, oJdqlLexer_Token (vr (kSYMBOL Z)) (vr p3) (vi x1) (vi x2)) ∈ F) (mp3 : (p3, w_p3, oString (vr p5) (vi 0)) ∈ F) (mp2 : (p2, w_p2, oString (vr p4) (vi 0)) ∈ F) (mp5 : (p5, w_p5, ar ad_p5 .byte [(vi x5)]) ∈ F) (mp4 : (p4, w_p4, ar ad_p4 .byte [(vi x3), (vi x4)]) ∈ F) : Con Z EL (⟨"com/example/rochester/rochester/JdqlLexer$Token", "isSymbol", "(Ljava/lang/String;)Z"⟩ : MethodName) prog_12_method_3_code 2 (Option.some Jvm.ClassFile.FieldType.boolean) (rmm 2 0 0 28) [(vr p1), (vr p2)] (F) (fun v D' => (v = some (vi 0) ∧ F = D')) := by
  refine Con.of (ls := #[rv p1, rv p2]) (by decide +kernel) rfl ?_
  show W Z EL _ "com/example/rochester/rochester/JdqlLexer$Token" "isSymbol" _ _ _ _ _ _ _ _ _ _
  refine W.aloadN (pc := 0) d11_0 rfl rfl ?_
  refine W.getf (pc := 1) d11_1 (w56 hw) Via.refl mp1 m0 ?_
  refine W.gets (pc := 4) d11_4 (w69 hw) Via.refl hs.2.2.2.2.2.2.2.1 ?_
  refine W.acmpN (pc := 7) d11_7 rfl rfl (fun z => z rfl) ?_
  refine W.aloadN (pc := 10) d11_10 rfl rfl ?_
  refine W.getf (pc := 11) d11_11 (w58 hw) Via.refl mp1 m1 ?_
  refine W.aloadN (pc := 14) d11_14 rfl rfl ?_
  refine W.callV (pc := 15) (as := [(vr p2)]) 0 [] d11_15 (w82 hw) (w83 hw) (w85 hw) (w85 hw) (w84 hw) (w8 hw) (w86 hw) (Hp.exa mp3) (c64_equals hw hs (p1 := p3) (p2 := p2) (p3 := p5) (p4 := p4) (x1 := x5) (hx1 := hx5) (x2 := x3) (hx2 := hx3) (x3 := x4) (hx3 := hx4) (mp2 := mp2) (mp1 := mp3) (mp3 := mp5) (mp4 := mp4) (ne_p1_p2 := (Ne.symm ne_p2_p3))) (by decide) pd_Ljava_lang_Object__Z rfl rfl rfl rfl (by decide) (fun v D' h => ?_)
  obtain ⟨rfl, rfl⟩ := h
  show W _ _ _ _ _ _ _ _ _ _ _ _ 18 _ [(vi 0)]
  refine W.ifY (pc := 18) 25 d11_18 (y_eq (by decide)) (by decide) ?_
  refine W.iconst (pc := 25) (0) d11_25 (by decide) ?_
  exact W.ireturn (pc := 26) d11_26 rfl (Or.inr (Or.inl rfl)) (nw_bool (by decide)) (by decide) ⟨rfl, rfl⟩
theorem c66_isSymbol {Z a0} (hw : HW a0 Z) (hs : SF Z) {p1 p2 p3 p4 p5 p6 : Addr} {x1 : Int32} {x2 : Int32} {x3 : Int32} (hx3 : -128 ≤ x3.toInt ∧ x3.toInt ≤ 127) {x4 : Int32} (hx4 : -128 ≤ x4.toInt ∧ x4.toInt ≤ 127) {x5 : Int32} (hx5 : -128 ≤ x5.toInt ∧ x5.toInt ≤ 127) {w_p1 : Bool} (ne_p3_kSYMBOLZ : p3 ≠ (kSYMBOL Z)) {F : List Ent} (mp1 : (p1, w_p1, oJdqlLexer_Token (vr p3) (vr p4) (vi x1) (vi x2)) ∈ F) : Con Z EL (⟨"com/example/rochester/rochester/JdqlLexer$Token", "isSymbol", "(Ljava/lang/String;)Z"⟩ : MethodName) prog_12_method_3_code 2 (Option.some Jvm.ClassFile.FieldType.boolean) (rmm 0 0 0 0) [(vr p1), (vr p2)] (F) (fun v D' => (v = some (vi 0) ∧ F = D')) := by
  refine Con.of (ls := #[rv p1, rv p2]) (by decide +kernel) rfl ?_
  show W Z EL _ "com/example/rochester/rochester/JdqlLexer$Token" "isSymbol" _ _ _ _ _ _ _ _ _ _
  refine W.aloadN (pc := 0) d11_0 rfl rfl ?_
  refine W.getf (pc := 1) d11_1 (w56 hw) Via.refl mp1 m0 ?_
  refine W.gets (pc := 4) d11_4 (w69 hw) Via.refl hs.2.2.2.2.2.2.2.1 ?_
  refine W.acmpY (pc := 7) 25 d11_7 rfl rfl (show Ca .ne _ _ from (fun z => ne_p3_kSYMBOLZ (by injection z))) (by decide) ?_
  refine W.iconst (pc := 25) (0) d11_25 (by decide) ?_
  exact W.ireturn (pc := 26) d11_26 rfl (Or.inr (Or.inl rfl)) (nw_bool (by decide)) (by decide) ⟨rfl, rfl⟩
theorem c69_equals {Z a0} (hw : HW a0 Z) (hs : SF Z) {p1 p2 : Addr} {x1 : Int32} (hx1 : -128 ≤ x1.toInt ∧ x1.toInt ≤ 127) {x2 : Int32} (hx2 : -128 ≤ x2.toInt ∧ x2.toInt ≤ 127) {w_p1 : Bool} {ad_p1 : String} {w_p2 : Bool} {ad_p2 : String} {F : List Ent} (mp1 : (p1, w_p1, ar ad_p1 .byte [(vi x1)]) ∈ F) (mp2 : (p2, w_p2, ar ad_p2 .byte [(vi x2)]) ∈ F) : Con Z EL (⟨"java/lang/StringLatin1", "equals", "([B[B)Z"⟩ : MethodName) jdk_43_method_13_code 3 (Option.some Jvm.ClassFile.FieldType.boolean) (rmm 0 0 0 0) [(vr p1), (vr p2)] (F) (fun v D' => (Cd .eq x1 x2 ∧ v = some (vi 1) ∧ F = D') ∨ (¬ Cd .eq x1 x2 ∧ v = some (vi 0) ∧ F = D')) := by
  refine Con.of (ls := #[rv p1, rv p2, uu]) (by decide +kernel) rfl ?_
  show W Z EL _ "java/lang/StringLatin1" "equals" _ _ _ _ _ _ _ _ _ _
  refine W.aloadN (pc := 0) d13_0 rfl rfl ?_
  refine W.alen (pc := 1) (1) d13_1 mp1 rfl ?_
  refine W.aloadN (pc := 2) d13_2 rfl rfl ?_
  refine W.alen (pc := 3) (1) d13_3 mp2 rfl ?_
  refine W.icmpN (pc := 4) d13_4 (n_ne (by decide)) ?_
  refine W.iconst (pc := 7) (0) d13_7 (by decide) ?_
  refine W.istoreN (pc := 8) (ls' := #[rv p1, rv p2, iv 0]) d13_8 rfl ?_
  refine W.iloadN (pc := 9) d13_9 rfl ?_
  refine W.aloadN (pc := 10) d13_10 rfl rfl ?_
  refine W.alen (pc := 11) (1) d13_11 mp1 rfl ?_
  refine W.icmpN (pc := 12) d13_12 (n_ge (by decide)) ?_
  refine W.aloadN (pc := 15) d13_15 rfl rfl ?_
  refine W.iloadN (pc := 16) d13_16 rfl ?_
  refine W.baload (pc := 17) 0 d13_17 mp1 ix0 rfl ?_
  refine W.aloadN (pc := 18) d13_18 rfl rfl ?_
  refine W.iloadN (pc := 19) d13_19 rfl ?_
  refine W.baload (pc := 20) 0 d13_20 mp2 ix0 rfl ?_
  refine W.icmp (pc := 21) 26 d13_21 (by decide) (fun h1 => ?_) (fun h1 => ?_)
  ·
   have ih1 := t_eq h1
   refine W.iincK (pc := 26) (ls' := #[rv p1, rv p2, iv 1]) (1) (1 : Int32) d13_26 (by decide) rfl (by decide) rfl ?_
   refine W.goto (pc := 29) 9 d13_29 (by decide) ?_
   refine W.iloadN (pc := 9) d13_9 rfl ?_
   refine W.aloadN (pc := 10) d13_10 rfl rfl ?_
   refine W.alen (pc := 11) (1) d13_11 mp1 rfl ?_
   refine W.icmpY (pc := 12) 32 d13_12 (y_ge (by decide)) (by decide) ?_
   refine W.iconst (pc := 32) (1) d13_32 (by decide) ?_
   exact W.ireturn (pc := 33) d13_33 rfl (Or.inr (Or.inl rfl)) (nw_bool (by decide)) (by decide) (Or.inl ⟨h1, rfl, rfl⟩)
  ·
   have ih1 := f_eq h1
   refine W.iconst (pc := 24) (0) d13_24 (by decide) ?_
   exact W.ireturn (pc := 25) d13_25 rfl (Or.inr (Or.inl rfl)) (nw_bool (by decide)) (by decide) (Or.inr ⟨h1, rfl, rfl⟩)
theorem c68_equals {Z a0} (hw : HW a0 Z) (hs : SF Z) {p1 p2 p3 p4 : Addr} {x1 : Int32} (hx1 : -128 ≤ x1.toInt ∧ x1.toInt ≤ 127) {x2 : Int32} (hx2 : -128 ≤ x2.toInt ∧ x2.toInt ≤ 127) {w_p2 : Bool} {w_p1 : Bool} {w_p3 : Bool} {ad_p3 : String} {w_p4 : Bool} {ad_p4 : String} (ne_p1_p2 : p1 ≠ p2) {F : List Ent} (mp2 : (p2, w_p2, oString (vr p4) (vi 0)) ∈ F) (mp1 : (p1, w_p1, oString (vr p3) (vi 0)) ∈ F) (mp3 : (p3, w_p3, ar ad_p3 .byte [(vi x1)]) ∈ F) (mp4 : (p4, w_p4, ar ad_p4 .byte [(vi x2)]) ∈ F) : Con Z EL (⟨"java/lang/String", "equals", "(Ljava/lang/Object;)Z"⟩ : MethodName) jdk_42_method_66_code 3 (Option.some Jvm.ClassFile.FieldType.boolean) (rmm 1 0 0 14) [(vr p1), (vr p2)] (F) (fun v D' => (Cd .eq x1 x2 ∧ v = some (vi 1) ∧ F = D') ∨ (¬ Cd .eq x1 x2 ∧ v = some (vi 0) ∧ F = D')) := by
  refine Con.of (ls := #[rv p1, rv p2, uu]) (by decide +kernel) rfl ?_
  show W Z EL _ "java/lang/String" "equals" _ _ _ _ _ _ _ _ _ _
  refine W.aloadN (pc := 0) d12_0 rfl rfl ?_
  refine W.aloadN (pc := 1) d12_1 rfl rfl ?_
  refine W.acmpY (pc := 2) 7 d12_2 rfl rfl (show Ca .ne _ _ from (fun z => ne_p1_p2 (by injection z))) (by decide) ?_
  refine W.aloadN (pc := 7) d12_7 rfl rfl ?_
  refine W.instY (pc := 8) d12_8 (w87 hw) (Hp.ins mp2) ?_
  refine W.ifN (pc := 11) d12_11 (n_eq (by decide)) ?_
  refine W.aloadN (pc := 14) d12_14 rfl rfl ?_
  refine W.castY (pc := 15) d12_15 (w87 hw) (Hp.ins mp2) ?_
  refine W.astoreN (pc := 18) (ls' := #[rv p1, rv p2, rv p2]) d12_18 rfl rfl ?_
  refine W.gets (pc := 19) d12_19 (w19 hw) Via.refl hs.1 ?_
  refine W.ifN (pc := 22) d12_22 (n_eq (by have := hs.2.1; have := q0; omega)) ?_
  refine W.aloadN (pc := 25) d12_25 rfl rfl ?_
  refine W.getf (pc := 26) d12_26 (w31 hw) Via.refl mp1 m1 ?_
  refine W.aloadN (pc := 29) d12_29 rfl rfl ?_
  refine W.getf (pc := 30) d12_30 (w31 hw) Via.refl mp2 m1 ?_
  refine W.icmpN (pc := 33) d12_33 (n_ne (by decide)) ?_
  refine W.aloadN (pc := 36) d12_36 rfl rfl ?_
  refine W.getf (pc := 37) d12_37 (w33 hw) Via.refl mp1 m0 ?_
  refine W.aloadN (pc := 40) d12_40 rfl rfl ?_
  refine W.getf (pc := 41) d12_41 (w33 hw) Via.refl mp2 m0 ?_
  refine W.callS (pc := 44) (as := [(vr p3), (vr p4)]) 0 [] d12_44 (w88 hw) (w89 hw) (w90 hw) (w91 hw) (c69_equals hw hs (p1 := p3) (p2 := p4) (x1 := x1) (hx1 := hx1) (x2 := x2) (hx2 := hx2) (mp1 := mp3) (mp2 := mp4)) (by decide) pd__B_B_Z rfl rfl rfl rfl (by decide) (fun v D' h => ?_)
  rcases h with ⟨h1, rfl, rfl⟩ | ⟨h2, rfl, rfl⟩
  ·
   have ih1 := t_eq h1
   show W _ _ _ _ _ _ _ _ _ _ _ _ 47 _ [(vi 1)]
   refine W.ifN (pc := 47) d12_47 (n_eq (by decide)) ?_
   refine W.iconst (pc := 50) (1) d12_50 (by decide) ?_
   refine W.goto (pc := 51) 55 d12_51 (by decide) ?_
   exact W.ireturn (pc := 55) d12_55 rfl (Or.inr (Or.inl rfl)) (nw_bool (by decide)) (by decide) (Or.inl ⟨h1, rfl, rfl⟩)
  ·
   have ih2 := f_eq h2
   show W _ _ _ _ _ _ _ _ _ _ _ _ 47 _ [(vi 0)]
   refine W.ifY (pc := 47) 54 d12_47 (y_eq (by decide)) (by decide) ?_
   refine W.iconst (pc := 54) (0) d12_54 (by decide) ?_
   exact W.ireturn (pc := 55) d12_55 rfl (Or.inr (Or.inl rfl)) (nw_bool (by decide)) (by decide) (Or.inr ⟨h2, rfl, rfl⟩)
theorem c67_isSymbol {Z a0} (hw : HW a0 Z) (hs : SF Z) {p1 p2 p3 p4 p5 : Addr} {x1 : Int32} {x2 : Int32} {x3 : Int32} (hx3 : -128 ≤ x3.toInt ∧ x3.toInt ≤ 127) {x4 : Int32} (hx4 : -128 ≤ x4.toInt ∧ x4.toInt ≤ 127) {w_p1 : Bool} {w_p3 : Bool} {w_p2 : Bool} {w_p5 : Bool} {ad_p5 : String} {w_p4 : Bool} {ad_p4 : String} (ne_p1_p2 : p1 ≠ p2) (ne_p2_p3 : p2 ≠ p3) {F : List Ent} (mp1 : (p1, w_p1, oJdqlLexer_Token (vr (kSYMBOL Z)) (vr p3) (vi x1) (vi x2)) ∈ F) (mp3 : (p3, w_p3, oString (vr p5) (vi 0)) ∈ F) (mp2 : (p2, w_p2, oString (vr p4) (vi 0)) ∈ F) (mp5 : (p5, w_p5, ar ad_p5 .byte [(vi x4)]) ∈ F) (mp4 : (p4, w_p4, ar ad_p4 .byte [(vi x3)]) ∈ F) : Con Z EL (⟨"com/example/rochester/rochester/JdqlLexer$Token", "isSymbol", "(Ljava/lang/String;)Z"⟩ : MethodName) prog_12_method_3_code 2 (Option.some Jvm.ClassFile.FieldType.boolean) (rmm 2 0 0 28) [(vr p1), (vr p2)] (F) (fun v D' => (Cd .eq x4 x3 ∧ v = some (vi 1) ∧ F = D') ∨ (¬ Cd .eq x4 x3 ∧ v = some (vi 0) ∧ F = D')) := by
  refine Con.of (ls := #[rv p1, rv p2]) (by decide +kernel) rfl ?_
  show W Z EL _ "com/example/rochester/rochester/JdqlLexer$Token" "isSymbol" _ _ _ _ _ _ _ _ _ _
  refine W.aloadN (pc := 0) d11_0 rfl rfl ?_
  refine W.getf (pc := 1) d11_1 (w56 hw) Via.refl mp1 m0 ?_
  refine W.gets (pc := 4) d11_4 (w69 hw) Via.refl hs.2.2.2.2.2.2.2.1 ?_
  refine W.acmpN (pc := 7) d11_7 rfl rfl (fun z => z rfl) ?_
  refine W.aloadN (pc := 10) d11_10 rfl rfl ?_
  refine W.getf (pc := 11) d11_11 (w58 hw) Via.refl mp1 m1 ?_
  refine W.aloadN (pc := 14) d11_14 rfl rfl ?_
  refine W.callV (pc := 15) (as := [(vr p2)]) 0 [] d11_15 (w82 hw) (w83 hw) (w85 hw) (w85 hw) (w84 hw) (w8 hw) (w86 hw) (Hp.exa mp3) (c68_equals hw hs (p1 := p3) (p2 := p2) (p3 := p5) (p4 := p4) (x1 := x4) (hx1 := hx4) (x2 := x3) (hx2 := hx3) (mp2 := mp2) (mp1 := mp3) (mp3 := mp5) (mp4 := mp4) (ne_p1_p2 := (Ne.symm ne_p2_p3))) (by decide) pd_Ljava_lang_Object__Z rfl rfl rfl rfl (by decide) (fun v D' h => ?_)
  rcases h with ⟨h1, rfl, rfl⟩ | ⟨h2, rfl, rfl⟩
  ·
   have ih1 := t_eq h1
   show W _ _ _ _ _ _ _ _ _ _ _ _ 18 _ [(vi 1)]
   refine W.ifN (pc := 18) d11_18 (n_eq (by decide)) ?_
   refine W.iconst (pc := 21) (1) d11_21 (by decide) ?_
   refine W.goto (pc := 22) 26 d11_22 (by decide) ?_
   exact W.ireturn (pc := 26) d11_26 rfl (Or.inr (Or.inl rfl)) (nw_bool (by decide)) (by decide) (Or.inl ⟨h1, rfl, rfl⟩)
  ·
   have ih2 := f_eq h2
   show W _ _ _ _ _ _ _ _ _ _ _ _ 18 _ [(vi 0)]
   refine W.ifY (pc := 18) 25 d11_18 (y_eq (by decide)) (by decide) ?_
   refine W.iconst (pc := 25) (0) d11_25 (by decide) ?_
   exact W.ireturn (pc := 26) d11_26 rfl (Or.inr (Or.inl rfl)) (nw_bool (by decide)) (by decide) (Or.inr ⟨h2, rfl, rfl⟩)
theorem c70_isSymbol {Z a0} (hw : HW a0 Z) (hs : SF Z) {p1 p2 p3 p4 p5 p6 : Addr} {x1 : Int32} {x2 : Int32} {x3 : Int32} (hx3 : -128 ≤ x3.toInt ∧ x3.toInt ≤ 127) {x4 : Int32} (hx4 : -128 ≤ x4.toInt ∧ x4.toInt ≤ 127) {w_p1 : Bool} (ne_p3_kSYMBOLZ : p3 ≠ (kSYMBOL Z)) {F : List Ent} (mp1 : (p1, w_p1, oJdqlLexer_Token (vr p3) (vr p4) (vi x1) (vi x2)) ∈ F) : Con Z EL (⟨"com/example/rochester/rochester/JdqlLexer$Token", "isSymbol", "(Ljava/lang/String;)Z"⟩ : MethodName) prog_12_method_3_code 2 (Option.some Jvm.ClassFile.FieldType.boolean) (rmm 0 0 0 0) [(vr p1), (vr p2)] (F) (fun v D' => (v = some (vi 0) ∧ F = D')) := by
  refine Con.of (ls := #[rv p1, rv p2]) (by decide +kernel) rfl ?_
  show W Z EL _ "com/example/rochester/rochester/JdqlLexer$Token" "isSymbol" _ _ _ _ _ _ _ _ _ _
  refine W.aloadN (pc := 0) d11_0 rfl rfl ?_
  refine W.getf (pc := 1) d11_1 (w56 hw) Via.refl mp1 m0 ?_
  refine W.gets (pc := 4) d11_4 (w69 hw) Via.refl hs.2.2.2.2.2.2.2.1 ?_
  refine W.acmpY (pc := 7) 25 d11_7 rfl rfl (show Ca .ne _ _ from (fun z => ne_p3_kSYMBOLZ (by injection z))) (by decide) ?_
  refine W.iconst (pc := 25) (0) d11_25 (by decide) ?_
  exact W.ireturn (pc := 26) d11_26 rfl (Or.inr (Or.inl rfl)) (nw_bool (by decide)) (by decide) ⟨rfl, rfl⟩
theorem c73_equals {Z a0} (hw : HW a0 Z) (hs : SF Z) {p1 p2 : Addr} {x1 : Int32} (hx1 : -128 ≤ x1.toInt ∧ x1.toInt ≤ 127) {w_p1 : Bool} {ad_p1 : String} {w_p2 : Bool} {ad_p2 : String} {F : List Ent} (mp1 : (p1, w_p1, ar ad_p1 .byte [(vi x1)]) ∈ F) (mp2 : (p2, w_p2, ar ad_p2 .byte []) ∈ F) : Con Z EL (⟨"java/lang/StringLatin1", "equals", "([B[B)Z"⟩ : MethodName) jdk_43_method_13_code 3 (Option.some Jvm.ClassFile.FieldType.boolean) (rmm 0 0 0 0) [(vr p1), (vr p2)] (F) (fun v D' => (v = some (vi 0) ∧ F = D')) := by
  refine Con.of (ls := #[rv p1, rv p2, uu]) (by decide +kernel) rfl ?_
  show W Z EL _ "java/lang/StringLatin1" "equals" _ _ _ _ _ _ _ _ _ _
  refine W.aloadN (pc := 0) d13_0 rfl rfl ?_
  refine W.alen (pc := 1) (1) d13_1 mp1 rfl ?_
  refine W.aloadN (pc := 2) d13_2 rfl rfl ?_
  refine W.alen (pc := 3) (0) d13_3 mp2 rfl ?_
  refine W.icmpY (pc := 4) 34 d13_4 (y_ne (by decide)) (by decide) ?_
  refine W.iconst (pc := 34) (0) d13_34 (by decide) ?_
  exact W.ireturn (pc := 35) d13_35 rfl (Or.inr (Or.inl rfl)) (nw_bool (by decide)) (by decide) ⟨rfl, rfl⟩
theorem c72_equals {Z a0} (hw : HW a0 Z) (hs : SF Z) {p1 p2 p3 p4 : Addr} {x1 : Int32} (hx1 : -128 ≤ x1.toInt ∧ x1.toInt ≤ 127) {w_p2 : Bool} {w_p1 : Bool} {w_p3 : Bool} {ad_p3 : String} {w_p4 : Bool} {ad_p4 : String} (ne_p1_p2 : p1 ≠ p2) {F : List Ent} (mp2 : (p2, w_p2, oString (vr p4) (vi 0)) ∈ F) (mp1 : (p1, w_p1, oString (vr p3) (vi 0)) ∈ F) (mp3 : (p3, w_p3, ar ad_p3 .byte [(vi x1)]) ∈ F) (mp4 : (p4, w_p4, ar ad_p4 .byte []) ∈ F) : Con Z EL (⟨"java/lang/String", "equals", "(Ljava/lang/Object;)Z"⟩ : MethodName) jdk_42_method_66_code 3 (Option.some Jvm.ClassFile.FieldType.boolean) (rmm 1 0 0 14) [(vr p1), (vr p2)] (F) (fun v D' => (v = some (vi 0) ∧ F = D')) := by
  refine Con.of (ls := #[rv p1, rv p2, uu]) (by decide +kernel) rfl ?_
  show W Z EL _ "java/lang/String" "equals" _ _ _ _ _ _ _ _ _ _
  refine W.aloadN (pc := 0) d12_0 rfl rfl ?_
  refine W.aloadN (pc := 1) d12_1 rfl rfl ?_
  refine W.acmpY (pc := 2) 7 d12_2 rfl rfl (show Ca .ne _ _ from (fun z => ne_p1_p2 (by injection z))) (by decide) ?_
  refine W.aloadN (pc := 7) d12_7 rfl rfl ?_
  refine W.instY (pc := 8) d12_8 (w87 hw) (Hp.ins mp2) ?_
  refine W.ifN (pc := 11) d12_11 (n_eq (by decide)) ?_
  refine W.aloadN (pc := 14) d12_14 rfl rfl ?_
  refine W.castY (pc := 15) d12_15 (w87 hw) (Hp.ins mp2) ?_
  refine W.astoreN (pc := 18) (ls' := #[rv p1, rv p2, rv p2]) d12_18 rfl rfl ?_
  refine W.gets (pc := 19) d12_19 (w19 hw) Via.refl hs.1 ?_
  refine W.ifN (pc := 22) d12_22 (n_eq (by have := hs.2.1; have := q0; omega)) ?_
  refine W.aloadN (pc := 25) d12_25 rfl rfl ?_
  refine W.getf (pc := 26) d12_26 (w31 hw) Via.refl mp1 m1 ?_
  refine W.aloadN (pc := 29) d12_29 rfl rfl ?_
  refine W.getf (pc := 30) d12_30 (w31 hw) Via.refl mp2 m1 ?_
  refine W.icmpN (pc := 33) d12_33 (n_ne (by decide)) ?_
  refine W.aloadN (pc := 36) d12_36 rfl rfl ?_
  refine W.getf (pc := 37) d12_37 (w33 hw) Via.refl mp1 m0 ?_
  refine W.aloadN (pc := 40) d12_40 rfl rfl ?_
  refine W.getf (pc := 41) d12_41 (w33 hw) Via.refl mp2 m0 ?_
  refine W.callS (pc := 44) (as := [(vr p3), (vr p4)]) 0 [] d12_44 (w88 hw) (w89 hw) (w90 hw) (w91 hw) (c73_equals hw hs (p1 := p3) (p2 := p4) (x1 := x1) (hx1 := hx1) (mp1 := mp3) (mp2 := mp4)) (by decide) pd__B_B_Z rfl rfl rfl rfl (by decide) (fun v D' h => ?_)
  obtain ⟨rfl, rfl⟩ := h
  show W _ _ _ _ _ _ _ _ _ _ _ _ 47 _ [(vi 0)]
  refine W.ifY (pc := 47) 54 d12_47 (y_eq (by decide)) (by decide) ?_
  refine W.iconst (pc := 54) (0) d12_54 (by decide) ?_
  exact W.ireturn (pc := 55) d12_55 rfl (Or.inr (Or.inl rfl)) (nw_bool (by decide)) (by decide) ⟨rfl, rfl⟩
theorem c71_isSymbol {Z a0} (hw : HW a0 Z) (hs : SF Z) {p1 p2 p3 p4 p5 : Addr} {x1 : Int32} {x2 : Int32} {x3 : Int32} (hx3 : -128 ≤ x3.toInt ∧ x3.toInt ≤ 127) {w_p1 : Bool} {w_p3 : Bool} {w_p2 : Bool} {w_p5 : Bool} {ad_p5 : String} {w_p4 : Bool} {ad_p4 : String} (ne_p1_p2 : p1 ≠ p2) (ne_p2_p3 : p2 ≠ p3) {F : List Ent} (mp1 : (p1, w_p1, oJdqlLexer_Token (vr (kSYMBOL Z)) (vr p3) (vi x1) (vi x2)) ∈ F) (mp3 : (p3, w_p3, oString (vr p5) (vi 0)) ∈ F) (mp2 : (p2, w_p2, oString (vr p4) (vi 0)) ∈ F) (mp5 : (p5, w_p5, ar ad_p5 .byte [(vi x3)]) ∈ F) (mp4 : (p4, w_p4, ar ad_p4 .byte []) ∈ F) : Con Z EL (⟨"com/example/rochester/rochester/JdqlLexer$Token", "isSymbol", "(Ljava/lang/String;)Z"⟩ : MethodName) prog_12_method_3_code 2 (Option.some Jvm.ClassFile.FieldType.boolean) (rmm 2 0 0 28) [(vr p1), (vr p2)] (F) (fun v D' => (v = some (vi 0) ∧ F = D')) := by
  refine Con.of (ls := #[rv p1, rv p2]) (by decide +kernel) rfl ?_
  show W Z EL _ "com/example/rochester/rochester/JdqlLexer$Token" "isSymbol" _ _ _ _ _ _ _ _ _ _
  refine W.aloadN (pc := 0) d11_0 rfl rfl ?_
  refine W.getf (pc := 1) d11_1 (w56 hw) Via.refl mp1 m0 ?_
  refine W.gets (pc := 4) d11_4 (w69 hw) Via.refl hs.2.2.2.2.2.2.2.1 ?_
  refine W.acmpN (pc := 7) d11_7 rfl rfl (fun z => z rfl) ?_
  refine W.aloadN (pc := 10) d11_10 rfl rfl ?_
  refine W.getf (pc := 11) d11_11 (w58 hw) Via.refl mp1 m1 ?_
  refine W.aloadN (pc := 14) d11_14 rfl rfl ?_
  refine W.callV (pc := 15) (as := [(vr p2)]) 0 [] d11_15 (w82 hw) (w83 hw) (w85 hw) (w85 hw) (w84 hw) (w8 hw) (w86 hw) (Hp.exa mp3) (c72_equals hw hs (p1 := p3) (p2 := p2) (p3 := p5) (p4 := p4) (x1 := x3) (hx1 := hx3) (mp2 := mp2) (mp1 := mp3) (mp3 := mp5) (mp4 := mp4) (ne_p1_p2 := (Ne.symm ne_p2_p3))) (by decide) pd_Ljava_lang_Object__Z rfl rfl rfl rfl (by decide) (fun v D' h => ?_)
  obtain ⟨rfl, rfl⟩ := h
  show W _ _ _ _ _ _ _ _ _ _ _ _ 18 _ [(vi 0)]
  refine W.ifY (pc := 18) 25 d11_18 (y_eq (by decide)) (by decide) ?_
  refine W.iconst (pc := 25) (0) d11_25 (by decide) ?_
  exact W.ireturn (pc := 26) d11_26 rfl (Or.inr (Or.inl rfl)) (nw_bool (by decide)) (by decide) ⟨rfl, rfl⟩
theorem c74_isSymbol {Z a0} (hw : HW a0 Z) (hs : SF Z) {p1 p2 p3 p4 p5 p6 : Addr} {x1 : Int32} {x2 : Int32} {x3 : Int32} (hx3 : -128 ≤ x3.toInt ∧ x3.toInt ≤ 127) {w_p1 : Bool} (ne_p3_kSYMBOLZ : p3 ≠ (kSYMBOL Z)) {F : List Ent} (mp1 : (p1, w_p1, oJdqlLexer_Token (vr p3) (vr p4) (vi x1) (vi x2)) ∈ F) : Con Z EL (⟨"com/example/rochester/rochester/JdqlLexer$Token", "isSymbol", "(Ljava/lang/String;)Z"⟩ : MethodName) prog_12_method_3_code 2 (Option.some Jvm.ClassFile.FieldType.boolean) (rmm 0 0 0 0) [(vr p1), (vr p2)] (F) (fun v D' => (v = some (vi 0) ∧ F = D')) := by
  refine Con.of (ls := #[rv p1, rv p2]) (by decide +kernel) rfl ?_
  show W Z EL _ "com/example/rochester/rochester/JdqlLexer$Token" "isSymbol" _ _ _ _ _ _ _ _ _ _
  refine W.aloadN (pc := 0) d11_0 rfl rfl ?_
  refine W.getf (pc := 1) d11_1 (w56 hw) Via.refl mp1 m0 ?_
  refine W.gets (pc := 4) d11_4 (w69 hw) Via.refl hs.2.2.2.2.2.2.2.1 ?_
  refine W.acmpY (pc := 7) 25 d11_7 rfl rfl (show Ca .ne _ _ from (fun z => ne_p3_kSYMBOLZ (by injection z))) (by decide) ?_
  refine W.iconst (pc := 25) (0) d11_25 (by decide) ?_
  exact W.ireturn (pc := 26) d11_26 rfl (Or.inr (Or.inl rfl)) (nw_bool (by decide)) (by decide) ⟨rfl, rfl⟩
theorem c75_init {Z a0} (hw : HW a0 Z) (hs : SF Z) {p1 p2 p3 : Addr} {x1 : Int32} {x2 : Int32} {F : List Ent} : Con Z EL (⟨"com/example/rochester/rochester/JdqlLexer$Token", "<init>", "(Lcom/example/rochester/rochester/JdqlLexer$Kind;Ljava/lang/String;II)V"⟩ : MethodName) prog_12_method_1_code 5 (Option.none : Option Jvm.ClassFile.FieldType) (rmm 2 0 0 24) [(vr p1), (vr (kSYMBOL Z)), (vr p2), (vi x1), (vi x2)] ((p1, true, oJdqlLexer_Token .null .null (vi 0) (vi 0)) :: F) (fun v D' => (v = none ∧ (p1, true, oJdqlLexer_Token (vr (kSYMBOL Z)) (vr p2) (vi x1) (vi x2)) :: F = D')) := by
  refine Con.of (ls := #[rv p1, rv (kSYMBOL Z), rv p2, iv x1, iv x2]) (by decide +kernel) rfl ?_
  show W Z EL _ "com/example/rochester/rochester/JdqlLexer$Token" "<init>" _ _ _ _ _ _ _ _ _ _
  refine W.aloadN (pc := 0) d9_0 rfl rfl ?_
  refine W.callI (pc := 1) (as := []) 0 [] d9_1 rfl (w50 hw) (w51 hw) (w53 hw) (w54 hw) (c21_init hw hs (p1 := p1)) (by decide) pd__V rfl rfl rfl rfl (by decide) (fun v D' h => ?_)
  obtain ⟨rfl, rfl⟩ := h
  show W _ _ _ _ _ _ _ _ _ _ _ _ 4 _ []
  refine W.aloadN (pc := 4) d9_4 rfl rfl ?_
  refine W.aloadN (pc := 5) d9_5 rfl rfl ?_
  refine W.putf (pc := 6) (D' := (p1, true, oJdqlLexer_Token (vr (kSYMBOL Z)) .null (vi 0) (vi 0)) :: F) 0 0 d9_6 (w56 hw) Via.refl rfl rfl (Or.inr ⟨(w57 hw), rfl, rfl⟩) (w39 hw) pfLcom_example_rochester_rochester_JdqlLexer_Kind_ rfl rfl rfl ?_
  refine W.aloadN (pc := 9) d9_9 rfl rfl ?_
  refine W.aloadN (pc := 10) d9_10 rfl rfl ?_
  refine W.putf (pc := 11) (D' := (p1, true, oJdqlLexer_Token (vr (kSYMBOL Z)) (vr p2) (vi 0) (vi 0)) :: F) 0 1 d9_11 (w58 hw) Via.refl rfl rfl (Or.inr ⟨(w59 hw), rfl, rfl⟩) (w39 hw) pfLjava_lang_String_ rfl rfl rfl ?_
  refine W.aloadN (pc := 14) d9_14 rfl rfl ?_
  refine W.iloadN (pc := 15) d9_15 rfl ?_
  refine W.putf (pc := 16) (D' := (p1, true, oJdqlLexer_Token (vr (kSYMBOL Z)) (vr p2) (vi x1) (vi 0)) :: F) 0 2 d9_16 (w60 hw) Via.refl rfl rfl (Or.inr ⟨(w61 hw), rfl, rfl⟩) (w39 hw) pfI rfl rfl rfl ?_
  refine W.aloadN (pc := 19) d9_19 rfl rfl ?_
  refine W.iload (pc := 20) d9_20 rfl ?_
  refine W.putf (pc := 22) (D' := (p1, true, oJdqlLexer_Token (vr (kSYMBOL Z)) (vr p2) (vi x1) (vi x2)) :: F) 0 3 d9_22 (w62 hw) Via.refl rfl rfl (Or.inr ⟨(w63 hw), rfl, rfl⟩) (w39 hw) pfI rfl rfl rfl ?_
  exact W.return_ (pc := 25) d9_25 rfl (by decide) ⟨rfl, rfl⟩
theorem c78_equals {Z a0} (hw : HW a0 Z) (hs : SF Z) {p1 p2 : Addr} {x1 : Int32} (hx1 : -128 ≤ x1.toInt ∧ x1.toInt ≤ 127) {x2 : Int32} (hx2 : -128 ≤ x2.toInt ∧ x2.toInt ≤ 127) {x3 : Int32} (hx3 : -128 ≤ x3.toInt ∧ x3.toInt ≤ 127) {w_p1 : Bool} {ad_p1 : String} {w_p2 : Bool} {ad_p2 : String} {F : List Ent} (mp1 : (p1, w_p1, ar ad_p1 .byte []) ∈ F) (mp2 : (p2, w_p2, ar ad_p2 .byte [(vi x1), (vi x2), (vi x3)]) ∈ F) : Con Z EL (⟨"java/lang/StringLatin1", "equals", "([B[B)Z"⟩ : MethodName) jdk_43_method_13_code 3 (Option.some Jvm.ClassFile.FieldType.boolean) (rmm 0 0 0 0) [(vr p1), (vr p2)] (F) (fun v D' => (v = some (vi 0) ∧ F = D')) := by
  refine Con.of (ls := #[rv p1, rv p2, uu]) (by decide +kernel) rfl ?_
  show W Z EL _ "java/lang/StringLatin1" "equals" _ _ _ _ _ _ _ _ _ _
  refine W.aloadN (pc := 0) d13_0 rfl rfl ?_
  refine W.alen (pc := 1) (0) d13_1 mp1 rfl ?_
  refine W.aloadN (pc := 2) d13_2 rfl rfl ?_
  refine W.alen (pc := 3) (3) d13_3 mp2 rfl ?_
  refine W.icmpY (pc := 4) 34 d13_4 (y_ne (by decide)) (by decide) ?_
  refine W.iconst (pc := 34) (0) d13_34 (by decide) ?_
  exact W.ireturn (pc := 35) d13_35 rfl (Or.inr (Or.inl rfl)) (nw_bool (by decide)) (by decide) ⟨rfl, rfl⟩
theorem c77_equals {Z a0} (hw : HW a0 Z) (hs : SF Z) {p1 p2 p3 p4 : Addr} {x1 : Int32} (hx1 : -128 ≤ x1.toInt ∧ x1.toInt ≤ 127) {x2 : Int32} (hx2 : -128 ≤ x2.toInt ∧ x2.toInt ≤ 127) {x3 : Int32} (hx3 : -128 ≤ x3.toInt ∧ x3.toInt ≤ 127) {w_p2 : Bool} {w_p1 : Bool} {w_p3 : Bool} {ad_p3 : String} {w_p4 : Bool} {ad_p4 : String} (ne_p1_p2 : p1 ≠ p2) {F : List Ent} (mp2 : (p2, w_p2, oString (vr p4) (vi 0)) ∈ F) (mp1 : (p1, w_p1, oString (vr p3) (vi 0)) ∈ F) (mp3 : (p3, w_p3, ar ad_p3 .byte []) ∈ F) (mp4 : (p4, w_p4, ar ad_p4 .byte [(vi x1), (vi x2), (vi x3)]) ∈ F) : Con Z EL (⟨"java/lang/String", "equals", "(Ljava/lang/Object;)Z"⟩ : MethodName) jdk_42_method_66_code 3 (Option.some Jvm.ClassFile.FieldType.boolean) (rmm 1 0 0 14) [(vr p1), (vr p2)] (F) (fun v D' => (v = some (vi 0) ∧ F = D')) := by
  refine Con.of (ls := #[rv p1, rv p2, uu]) (by decide +kernel) rfl ?_
  show W Z EL _ "java/lang/String" "equals" _ _ _ _ _ _ _ _ _ _
  refine W.aloadN (pc := 0) d12_0 rfl rfl ?_
  refine W.aloadN (pc := 1) d12_1 rfl rfl ?_
  refine W.acmpY (pc := 2) 7 d12_2 rfl rfl (show Ca .ne _ _ from (fun z => ne_p1_p2 (by injection z))) (by decide) ?_
  refine W.aloadN (pc := 7) d12_7 rfl rfl ?_
  refine W.instY (pc := 8) d12_8 (w87 hw) (Hp.ins mp2) ?_
  refine W.ifN (pc := 11) d12_11 (n_eq (by decide)) ?_
  refine W.aloadN (pc := 14) d12_14 rfl rfl ?_
  refine W.castY (pc := 15) d12_15 (w87 hw) (Hp.ins mp2) ?_
  refine W.astoreN (pc := 18) (ls' := #[rv p1, rv p2, rv p2]) d12_18 rfl rfl ?_
  refine W.gets (pc := 19) d12_19 (w19 hw) Via.refl hs.1 ?_
  refine W.ifN (pc := 22) d12_22 (n_eq (by have := hs.2.1; have := q0; omega)) ?_
  refine W.aloadN (pc := 25) d12_25 rfl rfl ?_
  refine W.getf (pc := 26) d12_26 (w31 hw) Via.refl mp1 m1 ?_
  refine W.aloadN (pc := 29) d12_29 rfl rfl ?_
  refine W.getf (pc := 30) d12_30 (w31 hw) Via.refl mp2 m1 ?_
  refine W.icmpN (pc := 33) d12_33 (n_ne (by decide)) ?_
  refine W.aloadN (pc := 36) d12_36 rfl rfl ?_
  refine W.getf (pc := 37) d12_37 (w33 hw) Via.refl mp1 m0 ?_
  refine W.aloadN (pc := 40) d12_40 rfl rfl ?_
  refine W.getf (pc := 41) d12_41 (w33 hw) Via.refl mp2 m0 ?_
  refine W.callS (pc := 44) (as := [(vr p3), (vr p4)]) 0 [] d12_44 (w88 hw) (w89 hw) (w90 hw) (w91 hw) (c78_equals hw hs (p1 := p3) (p2 := p4) (x1 := x1) (hx1 := hx1) (x2 := x2) (hx2 := hx2) (x3 := x3) (hx3 := hx3) (mp1 := mp3) (mp2 := mp4)) (by decide) pd__B_B_Z rfl rfl rfl rfl (by decide) (fun v D' h => ?_)
  obtain ⟨rfl, rfl⟩ := h
  show W _ _ _ _ _ _ _ _ _ _ _ _ 47 _ [(vi 0)]
  refine W.ifY (pc := 47) 54 d12_47 (y_eq (by decide)) (by decide) ?_
  refine W.iconst (pc := 54) (0) d12_54 (by decide) ?_
  exact W.ireturn (pc := 55) d12_55 rfl (Or.inr (Or.inl rfl)) (nw_bool (by decide)) (by decide) ⟨rfl, rfl⟩
theorem c76_isSymbol {Z a0} (hw : HW a0 Z) (hs : SF Z) {p1 p2 p3 p4 p5 : Addr} {x1 : Int32} {x2 : Int32} {x3 : Int32} (hx3 : -128 ≤ x3.toInt ∧ x3.toInt ≤ 127) {x4 : Int32} (hx4 : -128 ≤ x4.toInt ∧ x4.toInt ≤ 127) {x5 : Int32} (hx5 : -128 ≤ x5.toInt ∧ x5.toInt ≤ 127) {w_p1 : Bool} {w_p3 : Bool} {w_p2 : Bool} {w_p5 : Bool} {ad_p5 : String} {w_p4 : Bool} {ad_p4 : String} (ne_p1_p2 : p1 ≠ p2) (ne_p2_p3 : p2 ≠ p3) {F : List Ent} (mp1 : (p1, w_p1, oJdqlLexer_Token (vr (kSYMBOL Z)) (vr p3) (vi x1) (vi x2)) ∈ F) (mp3 : (p3, w_p3, oString (vr p5) (vi 0)) ∈ F) (mp2 : (p2, w_p2, oString (vr p4) (vi 0)) ∈ F) (mp5 : (p5, w_p5, ar ad_p5 .byte []) ∈ F) (mp4 : (p4, w_p4, ar ad_p4 .byte [(vi x3), (vi x4), (vi x5)]) ∈ F) : Con Z EL (⟨"com/example/rochester/rochester/JdqlLexer$Token", "isSymbol", "(Ljava/lang/String;)Z"⟩ : MethodName) prog_12_method_3_code 2 (Option.some Jvm.ClassFile.FieldType.boolean) (rmm 2 0 0 28) [(vr p1), (vr p2)] (F) (fun v D' => (v = some (vi 0) ∧ F = D')) := by
  refine Con.of (ls := #[rv p1, rv p2]) (by decide +kernel) rfl ?_
  show W Z EL _ "com/example/rochester/rochester/JdqlLexer$Token" "isSymbol" _ _ _ _ _ _ _ _ _ _
  refine W.aloadN (pc := 0) d11_0 rfl rfl ?_
  refine W.getf (pc := 1) d11_1 (w56 hw) Via.refl mp1 m0 ?_
  refine W.gets (pc := 4) d11_4 (w69 hw) Via.refl hs.2.2.2.2.2.2.2.1 ?_
  refine W.acmpN (pc := 7) d11_7 rfl rfl (fun z => z rfl) ?_
  refine W.aloadN (pc := 10) d11_10 rfl rfl ?_
  refine W.getf (pc := 11) d11_11 (w58 hw) Via.refl mp1 m1 ?_
  refine W.aloadN (pc := 14) d11_14 rfl rfl ?_
  refine W.callV (pc := 15) (as := [(vr p2)]) 0 [] d11_15 (w82 hw) (w83 hw) (w85 hw) (w85 hw) (w84 hw) (w8 hw) (w86 hw) (Hp.exa mp3) (c77_equals hw hs (p1 := p3) (p2 := p2) (p3 := p5) (p4 := p4) (x1 := x3) (hx1 := hx3) (x2 := x4) (hx2 := hx4) (x3 := x5) (hx3 := hx5) (mp2 := mp2) (mp1 := mp3) (mp3 := mp5) (mp4 := mp4) (ne_p1_p2 := (Ne.symm ne_p2_p3))) (by decide) pd_Ljava_lang_Object__Z rfl rfl rfl rfl (by decide) (fun v D' h => ?_)
  obtain ⟨rfl, rfl⟩ := h
  show W _ _ _ _ _ _ _ _ _ _ _ _ 18 _ [(vi 0)]
  refine W.ifY (pc := 18) 25 d11_18 (y_eq (by decide)) (by decide) ?_
  refine W.iconst (pc := 25) (0) d11_25 (by decide) ?_
  exact W.ireturn (pc := 26) d11_26 rfl (Or.inr (Or.inl rfl)) (nw_bool (by decide)) (by decide) ⟨rfl, rfl⟩
theorem c79_init {Z a0} (hw : HW a0 Z) (hs : SF Z) {p1 p2 p3 p4 : Addr} {x1 : Int32} {x2 : Int32} {F : List Ent} : Con Z EL (⟨"com/example/rochester/rochester/JdqlLexer$Token", "<init>", "(Lcom/example/rochester/rochester/JdqlLexer$Kind;Ljava/lang/String;II)V"⟩ : MethodName) prog_12_method_1_code 5 (Option.none : Option Jvm.ClassFile.FieldType) (rmm 2 0 0 24) [(vr p1), (vr p2), (vr p3), (vi x1), (vi x2)] ((p1, true, oJdqlLexer_Token .null .null (vi 0) (vi 0)) :: F) (fun v D' => (v = none ∧ (p1, true, oJdqlLexer_Token (vr p2) (vr p3) (vi x1) (vi x2)) :: F = D')) := by
  refine Con.of (ls := #[rv p1, rv p2, rv p3, iv x1, iv x2]) (by decide +kernel) rfl ?_
  show W Z EL _ "com/example/rochester/rochester/JdqlLexer$Token" "<init>" _ _ _ _ _ _ _ _ _ _
  refine W.aloadN (pc := 0) d9_0 rfl rfl ?_
  refine W.callI (pc := 1) (as := []) 0 [] d9_1 rfl (w50 hw) (w51 hw) (w53 hw) (w54 hw) (c21_init hw hs (p1 := p1)) (by decide) pd__V rfl rfl rfl rfl (by decide) (fun v D' h => ?_)
  obtain ⟨rfl, rfl⟩ := h
  show W _ _ _ _ _ _ _ _ _ _ _ _ 4 _ []
  refine W.aloadN (pc := 4) d9_4 rfl rfl ?_
  refine W.aloadN (pc := 5) d9_5 rfl rfl ?_
  refine W.putf (pc := 6) (D' := (p1, true, oJdqlLexer_Token (vr p2) .null (vi 0) (vi 0)) :: F) 0 0 d9_6 (w56 hw) Via.refl rfl rfl (Or.inr ⟨(w57 hw), rfl, rfl⟩) (w39 hw) pfLcom_example_rochester_rochester_JdqlLexer_Kind_ rfl rfl rfl ?_
  refine W.aloadN (pc := 9) d9_9 rfl rfl ?_
  refine W.aloadN (pc := 10) d9_10 rfl rfl ?_
  refine W.putf (pc := 11) (D' := (p1, true, oJdqlLexer_Token (vr p2) (vr p3) (vi 0) (vi 0)) :: F) 0 1 d9_11 (w58 hw) Via.refl rfl rfl (Or.inr ⟨(w59 hw), rfl, rfl⟩) (w39 hw) pfLjava_lang_String_ rfl rfl rfl ?_
  refine W.aloadN (pc := 14) d9_14 rfl rfl ?_
  refine W.iloadN (pc := 15) d9_15 rfl ?_
  refine W.putf (pc := 16) (D' := (p1, true, oJdqlLexer_Token (vr p2) (vr p3) (vi x1) (vi 0)) :: F) 0 2 d9_16 (w60 hw) Via.refl rfl rfl (Or.inr ⟨(w61 hw), rfl, rfl⟩) (w39 hw) pfI rfl rfl rfl ?_
  refine W.aloadN (pc := 19) d9_19 rfl rfl ?_
  refine W.iload (pc := 20) d9_20 rfl ?_
  refine W.putf (pc := 22) (D' := (p1, true, oJdqlLexer_Token (vr p2) (vr p3) (vi x1) (vi x2)) :: F) 0 3 d9_22 (w62 hw) Via.refl rfl rfl (Or.inr ⟨(w63 hw), rfl, rfl⟩) (w39 hw) pfI rfl rfl rfl ?_
  exact W.return_ (pc := 25) d9_25 rfl (by decide) ⟨rfl, rfl⟩
theorem c80_isSymbol {Z a0} (hw : HW a0 Z) (hs : SF Z) {p1 p2 p3 p4 p5 p6 : Addr} {x1 : Int32} {x2 : Int32} {x3 : Int32} (hx3 : -128 ≤ x3.toInt ∧ x3.toInt ≤ 127) {x4 : Int32} (hx4 : -128 ≤ x4.toInt ∧ x4.toInt ≤ 127) {x5 : Int32} (hx5 : -128 ≤ x5.toInt ∧ x5.toInt ≤ 127) {w_p1 : Bool} (ne_p3_kSYMBOLZ : p3 ≠ (kSYMBOL Z)) {F : List Ent} (mp1 : (p1, w_p1, oJdqlLexer_Token (vr p3) (vr p4) (vi x1) (vi x2)) ∈ F) : Con Z EL (⟨"com/example/rochester/rochester/JdqlLexer$Token", "isSymbol", "(Ljava/lang/String;)Z"⟩ : MethodName) prog_12_method_3_code 2 (Option.some Jvm.ClassFile.FieldType.boolean) (rmm 0 0 0 0) [(vr p1), (vr p2)] (F) (fun v D' => (v = some (vi 0) ∧ F = D')) := by
  refine Con.of (ls := #[rv p1, rv p2]) (by decide +kernel) rfl ?_
  show W Z EL _ "com/example/rochester/rochester/JdqlLexer$Token" "isSymbol" _ _ _ _ _ _ _ _ _ _
  refine W.aloadN (pc := 0) d11_0 rfl rfl ?_
  refine W.getf (pc := 1) d11_1 (w56 hw) Via.refl mp1 m0 ?_
  refine W.gets (pc := 4) d11_4 (w69 hw) Via.refl hs.2.2.2.2.2.2.2.1 ?_
  refine W.acmpY (pc := 7) 25 d11_7 rfl rfl (show Ca .ne _ _ from (fun z => ne_p3_kSYMBOLZ (by injection z))) (by decide) ?_
  refine W.iconst (pc := 25) (0) d11_25 (by decide) ?_
  exact W.ireturn (pc := 26) d11_26 rfl (Or.inr (Or.inl rfl)) (nw_bool (by decide)) (by decide) ⟨rfl, rfl⟩
theorem c83_equals {Z a0} (hw : HW a0 Z) (hs : SF Z) {p1 p2 : Addr} {x1 : Int32} (hx1 : -128 ≤ x1.toInt ∧ x1.toInt ≤ 127) {x2 : Int32} (hx2 : -128 ≤ x2.toInt ∧ x2.toInt ≤ 127) {w_p1 : Bool} {ad_p1 : String} {w_p2 : Bool} {ad_p2 : String} {F : List Ent} (mp1 : (p1, w_p1, ar ad_p1 .byte []) ∈ F) (mp2 : (p2, w_p2, ar ad_p2 .byte [(vi x1), (vi x2)]) ∈ F) : Con Z EL (⟨"java/lang/StringLatin1", "equals", "([B[B)Z"⟩ : MethodName) jdk_43_method_13_code 3 (Option.some Jvm.ClassFile.FieldType.boolean) (rmm 0 0 0 0) [(vr p1), (vr p2)] (F) (fun v D' => (v = some (vi 0) ∧ F = D')) := by
  refine Con.of (ls := #[rv p1, rv p2, uu]) (by decide +kernel) rfl ?_
  show W Z EL _ "java/lang/StringLatin1" "equals" _ _ _ _ _ _ _ _ _ _
  refine W.aloadN (pc := 0) d13_0 rfl rfl ?_
  refine W.alen (pc := 1) (0) d13_1 mp1 rfl ?_
  refine W.aloadN (pc := 2) d13_2 rfl rfl ?_
  refine W.alen (pc := 3) (2) d13_3 mp2 rfl ?_
  refine W.icmpY (pc := 4) 34 d13_4 (y_ne (by decide)) (by decide) ?_
  refine W.iconst (pc := 34) (0) d13_34 (by decide) ?_
  exact W.ireturn (pc := 35) d13_35 rfl (Or.inr (Or.inl rfl)) (nw_bool (by decide)) (by decide) ⟨rfl, rfl⟩
theorem c82_equals {Z a0} (hw : HW a0 Z) (hs : SF Z) {p1 p2 p3 p4 : Addr} {x1 : Int32} (hx1 : -128 ≤ x1.toInt ∧ x1.toInt ≤ 127) {x2 : Int32} (hx2 : -128 ≤ x2.toInt ∧ x2.toInt ≤ 127) {w_p2 : Bool} {w_p1 : Bool} {w_p3 : Bool} {ad_p3 : String} {w_p4 : Bool} {ad_p4 : String} (ne_p1_p2 : p1 ≠ p2) {F : List Ent} (mp2 : (p2, w_p2, oString (vr p4) (vi 0)) ∈ F) (mp1 : (p1, w_p1, oString (vr p3) (vi 0)) ∈ F) (mp3 : (p3, w_p3, ar ad_p3 .byte []) ∈ F) (mp4 : (p4, w_p4, ar ad_p4 .byte [(vi x1), (vi x2)]) ∈ F) : Con Z EL (⟨"java/lang/String", "equals", "(Ljava/lang/Object;)Z"⟩ : MethodName) jdk_42_method_66_code 3 (Option.some Jvm.ClassFile.FieldType.boolean) (rmm 1 0 0 14) [(vr p1), (vr p2)] (F) (fun v D' => (v = some (vi 0) ∧ F = D')) := by
  refine Con.of (ls := #[rv p1, rv p2, uu]) (by decide +kernel) rfl ?_
  show W Z EL _ "java/lang/String" "equals" _ _ _ _ _ _ _ _ _ _
  refine W.aloadN (pc := 0) d12_0 rfl rfl ?_
  refine W.aloadN (pc := 1) d12_1 rfl rfl ?_
  refine W.acmpY (pc := 2) 7 d12_2 rfl rfl (show Ca .ne _ _ from (fun z => ne_p1_p2 (by injection z))) (by decide) ?_
  refine W.aloadN (pc := 7) d12_7 rfl rfl ?_
  refine W.instY (pc := 8) d12_8 (w87 hw) (Hp.ins mp2) ?_
  refine W.ifN (pc := 11) d12_11 (n_eq (by decide)) ?_
  refine W.aloadN (pc := 14) d12_14 rfl rfl ?_
  refine W.castY (pc := 15) d12_15 (w87 hw) (Hp.ins mp2) ?_
  refine W.astoreN (pc := 18) (ls' := #[rv p1, rv p2, rv p2]) d12_18 rfl rfl ?_
  refine W.gets (pc := 19) d12_19 (w19 hw) Via.refl hs.1 ?_
  refine W.ifN (pc := 22) d12_22 (n_eq (by have := hs.2.1; have := q0; omega)) ?_
  refine W.aloadN (pc := 25) d12_25 rfl rfl ?_
  refine W.getf (pc := 26) d12_26 (w31 hw) Via.refl mp1 m1 ?_
  refine W.aloadN (pc := 29) d12_29 rfl rfl ?_
  refine W.getf (pc := 30) d12_30 (w31 hw) Via.refl mp2 m1 ?_
  refine W.icmpN (pc := 33) d12_33 (n_ne (by decide)) ?_
  refine W.aloadN (pc := 36) d12_36 rfl rfl ?_
  refine W.getf (pc := 37) d12_37 (w33 hw) Via.refl mp1 m0 ?_
  refine W.aloadN (pc := 40) d12_40 rfl rfl ?_
  refine W.getf (pc := 41) d12_41 (w33 hw) Via.refl mp2 m0 ?_
  refine W.callS (pc := 44) (as := [(vr p3), (vr p4)]) 0 [] d12_44 (w88 hw) (w89 hw) (w90 hw) (w91 hw) (c83_equals hw hs (p1 := p3) (p2 := p4) (x1 := x1) (hx1 := hx1) (x2 := x2) (hx2 := hx2) (mp1 := mp3) (mp2 := mp4)) (by decide) pd__B_B_Z rfl rfl rfl rfl (by decide) (fun v D' h => ?_)
  obtain ⟨rfl, rfl⟩ := h
  show W _ _ _ _ _ _ _ _ _ _ _ _ 47 _ [(vi 0)]
  refine W.ifY (pc := 47) 54 d12_47 (y_eq (by decide)) (by decide) ?_
  refine W.iconst (pc := 54) (0) d12_54 (by decide) ?_
  exact W.ireturn (pc := 55) d12_55 rfl (Or.inr (Or.inl rfl)) (nw_bool (by decide)) (by decide) ⟨rfl, rfl⟩
theorem c81_isSymbol {Z a0} (hw : HW a0 Z) (hs : SF Z) {p1 p2 p3 p4 p5 : Addr} {x1 : Int32} {x2 : Int32} {x3 : Int32} (hx3 : -128 ≤ x3.toInt ∧ x3.toInt ≤ 127) {x4 : Int32} (hx4 : -128 ≤ x4.toInt ∧ x4.toInt ≤ 127) {w_p1 : Bool} {w_p3 : Bool} {w_p2 : Bool} {w_p5 : Bool} {ad_p5 : String} {w_p4 : Bool} {ad_p4 : String} (ne_p1_p2 : p1 ≠ p2) (ne_p2_p3 : p2 ≠ p3) {F : List Ent} (mp1 : (p1, w_p1, oJdqlLexer_Token (vr (kSYMBOL Z)) (vr p3) (vi x1) (vi x2)) ∈ F) (mp3 : (p3, w_p3, oString (vr p5) (vi 0)) ∈ F) (mp2 : (p2, w_p2, oString (vr p4) (vi 0)) ∈ F) (mp5 : (p5, w_p5, ar ad_p5 .byte []) ∈ F) (mp4 : (p4, w_p4, ar ad_p4 .byte [(vi x3), (vi x4)]) ∈ F) : Con Z EL (⟨"com/example/rochester/rochester/JdqlLexer$Token", "isSymbol", "(Ljava/lang/String;)Z"⟩ : MethodName) prog_12_method_3_code 2 (Option.some Jvm.ClassFile.FieldType.boolean) (rmm 2 0 0 28) [(vr p1), (vr p2)] (F) (fun v D' => (v = some (vi 0) ∧ F = D')) := by
  refine Con.of (ls := #[rv p1, rv p2]) (by decide +kernel) rfl ?_
  show W Z EL _ "com/example/rochester/rochester/JdqlLexer$Token" "isSymbol" _ _ _ _ _ _ _ _ _ _
  refine W.aloadN (pc := 0) d11_0 rfl rfl ?_
  refine W.getf (pc := 1) d11_1 (w56 hw) Via.refl mp1 m0 ?_
  refine W.gets (pc := 4) d11_4 (w69 hw) Via.refl hs.2.2.2.2.2.2.2.1 ?_
  refine W.acmpN (pc := 7) d11_7 rfl rfl (fun z => z rfl) ?_
  refine W.aloadN (pc := 10) d11_10 rfl rfl ?_
  refine W.getf (pc := 11) d11_11 (w58 hw) Via.refl mp1 m1 ?_
  refine W.aloadN (pc := 14) d11_14 rfl rfl ?_
  refine W.callV (pc := 15) (as := [(vr p2)]) 0 [] d11_15 (w82 hw) (w83 hw) (w85 hw) (w85 hw) (w84 hw) (w8 hw) (w86 hw) (Hp.exa mp3) (c82_equals hw hs (p1 := p3) (p2 := p2) (p3 := p5) (p4 := p4) (x1 := x3) (hx1 := hx3) (x2 := x4) (hx2 := hx4) (mp2 := mp2) (mp1 := mp3) (mp3 := mp5) (mp4 := mp4) (ne_p1_p2 := (Ne.symm ne_p2_p3))) (by decide) pd_Ljava_lang_Object__Z rfl rfl rfl rfl (by decide) (fun v D' h => ?_)
  obtain ⟨rfl, rfl⟩ := h
  show W _ _ _ _ _ _ _ _ _ _ _ _ 18 _ [(vi 0)]
  refine W.ifY (pc := 18) 25 d11_18 (y_eq (by decide)) (by decide) ?_
  refine W.iconst (pc := 25) (0) d11_25 (by decide) ?_
  exact W.ireturn (pc := 26) d11_26 rfl (Or.inr (Or.inl rfl)) (nw_bool (by decide)) (by decide) ⟨rfl, rfl⟩
theorem c84_isSymbol {Z a0} (hw : HW a0 Z) (hs : SF Z) {p1 p2 p3 p4 p5 p6 : Addr} {x1 : Int32} {x2 : Int32} {x3 : Int32} (hx3 : -128 ≤ x3.toInt ∧ x3.toInt ≤ 127) {x4 : Int32} (hx4 : -128 ≤ x4.toInt ∧ x4.toInt ≤ 127) {w_p1 : Bool} (ne_p3_kSYMBOLZ : p3 ≠ (kSYMBOL Z)) {F : List Ent} (mp1 : (p1, w_p1, oJdqlLexer_Token (vr p3) (vr p4) (vi x1) (vi x2)) ∈ F) : Con Z EL (⟨"com/example/rochester/rochester/JdqlLexer$Token", "isSymbol", "(Ljava/lang/String;)Z"⟩ : MethodName) prog_12_method_3_code 2 (Option.some Jvm.ClassFile.FieldType.boolean) (rmm 0 0 0 0) [(vr p1), (vr p2)] (F) (fun v D' => (v = some (vi 0) ∧ F = D')) := by
  refine Con.of (ls := #[rv p1, rv p2]) (by decide +kernel) rfl ?_
  show W Z EL _ "com/example/rochester/rochester/JdqlLexer$Token" "isSymbol" _ _ _ _ _ _ _ _ _ _
  refine W.aloadN (pc := 0) d11_0 rfl rfl ?_
  refine W.getf (pc := 1) d11_1 (w56 hw) Via.refl mp1 m0 ?_
  refine W.gets (pc := 4) d11_4 (w69 hw) Via.refl hs.2.2.2.2.2.2.2.1 ?_
  refine W.acmpY (pc := 7) 25 d11_7 rfl rfl (show Ca .ne _ _ from (fun z => ne_p3_kSYMBOLZ (by injection z))) (by decide) ?_
  refine W.iconst (pc := 25) (0) d11_25 (by decide) ?_
  exact W.ireturn (pc := 26) d11_26 rfl (Or.inr (Or.inl rfl)) (nw_bool (by decide)) (by decide) ⟨rfl, rfl⟩
theorem c87_equals {Z a0} (hw : HW a0 Z) (hs : SF Z) {p1 p2 : Addr} {x1 : Int32} (hx1 : -128 ≤ x1.toInt ∧ x1.toInt ≤ 127) {w_p1 : Bool} {ad_p1 : String} {w_p2 : Bool} {ad_p2 : String} {F : List Ent} (mp1 : (p1, w_p1, ar ad_p1 .byte []) ∈ F) (mp2 : (p2, w_p2, ar ad_p2 .byte [(vi x1)]) ∈ F) : Con Z EL (⟨"java/lang/StringLatin1", "equals", "([B[B)Z"⟩ : MethodName) jdk_43_method_13_code 3 (Option.some Jvm.ClassFile.FieldType.boolean) (rmm 0 0 0 0) [(vr p1), (vr p2)] (F) (fun v D' => (v = some (vi 0) ∧ F = D')) := by
  refine Con.of (ls := #[rv p1, rv p2, uu]) (by decide +kernel) rfl ?_
  show W Z EL _ "java/lang/StringLatin1" "equals" _ _ _ _ _ _ _ _ _ _
  refine W.aloadN (pc := 0) d13_0 rfl rfl ?_
  refine W.alen (pc := 1) (0) d13_1 mp1 rfl ?_
  refine W.aloadN (pc := 2) d13_2 rfl rfl ?_
  refine W.alen (pc := 3) (1) d13_3 mp2 rfl ?_
  refine W.icmpY (pc := 4) 34 d13_4 (y_ne (by decide)) (by decide) ?_
  refine W.iconst (pc := 34) (0) d13_34 (by decide) ?_
  exact W.ireturn (pc := 35) d13_35 rfl (Or.inr (Or.inl rfl)) (nw_bool (by decide)) (by decide) ⟨rfl, rfl⟩
theorem c86_equals {Z a0} (hw : HW a0 Z) (hs : SF Z) {p1 p2 p3 p4 : Addr} {x1 : Int32} (hx1 : -128 ≤ x1.toInt ∧ x1.toInt ≤ 127) {w_p2 : Bool} {w_p1 : Bool} {w_p3 : Bool} {ad_p3 : String} {w_p4 : Bool} {ad_p4 : String} (ne_p1_p2 : p1 ≠ p2) {F : List Ent} (mp2 : (p2, w_p2, oString (vr p4) (vi 0)) ∈ F) (mp1 : (p1, w_p1, oString (vr p3) (vi 0)) ∈ F) (mp3 : (p3, w_p3, ar ad_p3 .byte []) ∈ F) (mp4 : (p4, w_p4, ar ad_p4 .byte [(vi x1)]) ∈ F) : Con Z EL (⟨"java/lang/String", "equals", "(Ljava/lang/Object;)Z"⟩ : MethodName) jdk_42_method_66_code 3 (Option.some Jvm.ClassFile.FieldType.boolean) (rmm 1 0 0 14) [(vr p1), (vr p2)] (F) (fun v D' => (v = some (vi 0) ∧ F = D')) := by
  refine Con.of (ls := #[rv p1, rv p2, uu]) (by decide +kernel) rfl ?_
  show W Z EL _ "java/lang/String" "equals" _ _ _ _ _ _ _ _ _ _
  refine W.aloadN (pc := 0) d12_0 rfl rfl ?_
  refine W.aloadN (pc := 1) d12_1 rfl rfl ?_
  refine W.acmpY (pc := 2) 7 d12_2 rfl rfl (show Ca .ne _ _ from (fun z => ne_p1_p2 (by injection z))) (by decide) ?_
  refine W.aloadN (pc := 7) d12_7 rfl rfl ?_
  refine W.instY (pc := 8) d12_8 (w87 hw) (Hp.ins mp2) ?_
  refine W.ifN (pc := 11) d12_11 (n_eq (by decide)) ?_
  refine W.aloadN (pc := 14) d12_14 rfl rfl ?_
  refine W.castY (pc := 15) d12_15 (w87 hw) (Hp.ins mp2) ?_
  refine W.astoreN (pc := 18) (ls' := #[rv p1, rv p2, rv p2]) d12_18 rfl rfl ?_
  refine W.gets (pc := 19) d12_19 (w19 hw) Via.refl hs.1 ?_
  refine W.ifN (pc := 22) d12_22 (n_eq (by have := hs.2.1; have := q0; omega)) ?_
  refine W.aloadN (pc := 25) d12_25 rfl rfl ?_
  refine W.getf (pc := 26) d12_26 (w31 hw) Via.refl mp1 m1 ?_
  refine W.aloadN (pc := 29) d12_29 rfl rfl ?_
  refine W.getf (pc := 30) d12_30 (w31 hw) Via.refl mp2 m1 ?_
  refine W.icmpN (pc := 33) d12_33 (n_ne (by decide)) ?_
  refine W.aloadN (pc := 36) d12_36 rfl rfl ?_
  refine W.getf (pc := 37) d12_37 (w33 hw) Via.refl mp1 m0 ?_
  refine W.aloadN (pc := 40) d12_40 rfl rfl ?_
  refine W.getf (pc := 41) d12_41 (w33 hw) Via.refl mp2 m0 ?_
  refine W.callS (pc := 44) (as := [(vr p3), (vr p4)]) 0 [] d12_44 (w88 hw) (w89 hw) (w90 hw) (w91 hw) (c87_equals hw hs (p1 := p3) (p2 := p4) (x1 := x1) (hx1 := hx1) (mp1 := mp3) (mp2 := mp4)) (by decide) pd__B_B_Z rfl rfl rfl rfl (by decide) (fun v D' h => ?_)
  obtain ⟨rfl, rfl⟩ := h
  show W _ _ _ _ _ _ _ _ _ _ _ _ 47 _ [(vi 0)]
  refine W.ifY (pc := 47) 54 d12_47 (y_eq (by decide)) (by decide) ?_
  refine W.iconst (pc := 54) (0) d12_54 (by decide) ?_
  exact W.ireturn (pc := 55) d12_55 rfl (Or.inr (Or.inl rfl)) (nw_bool (by decide)) (by decide) ⟨rfl, rfl⟩
theorem c85_isSymbol {Z a0} (hw : HW a0 Z) (hs : SF Z) {p1 p2 p3 p4 p5 : Addr} {x1 : Int32} {x2 : Int32} {x3 : Int32} (hx3 : -128 ≤ x3.toInt ∧ x3.toInt ≤ 127) {w_p1 : Bool} {w_p3 : Bool} {w_p2 : Bool} {w_p5 : Bool} {ad_p5 : String} {w_p4 : Bool} {ad_p4 : String} (ne_p1_p2 : p1 ≠ p2) (ne_p2_p3 : p2 ≠ p3) {F : List Ent} (mp1 : (p1, w_p1, oJdqlLexer_Token (vr (kSYMBOL Z)) (vr p3) (vi x1) (vi x2)) ∈ F) (mp3 : (p3, w_p3, oString (vr p5) (vi 0)) ∈ F) (mp2 : (p2, w_p2, oString (vr p4) (vi 0)) ∈ F) (mp5 : (p5, w_p5, ar ad_p5 .byte []) ∈ F) (mp4 : (p4, w_p4, ar ad_p4 .byte [(vi x3)]) ∈ F) : Con Z EL (⟨"com/example/rochester/rochester/JdqlLexer$Token", "isSymbol", "(Ljava/lang/String;)Z"⟩ : MethodName) prog_12_method_3_code 2 (Option.some Jvm.ClassFile.FieldType.boolean) (rmm 2 0 0 28) [(vr p1), (vr p2)] (F) (fun v D' => (v = some (vi 0) ∧ F = D')) := by
  refine Con.of (ls := #[rv p1, rv p2]) (by decide +kernel) rfl ?_
  show W Z EL _ "com/example/rochester/rochester/JdqlLexer$Token" "isSymbol" _ _ _ _ _ _ _ _ _ _
  refine W.aloadN (pc := 0) d11_0 rfl rfl ?_
  refine W.getf (pc := 1) d11_1 (w56 hw) Via.refl mp1 m0 ?_
  refine W.gets (pc := 4) d11_4 (w69 hw) Via.refl hs.2.2.2.2.2.2.2.1 ?_
  refine W.acmpN (pc := 7) d11_7 rfl rfl (fun z => z rfl) ?_
  refine W.aloadN (pc := 10) d11_10 rfl rfl ?_
  refine W.getf (pc := 11) d11_11 (w58 hw) Via.refl mp1 m1 ?_
  refine W.aloadN (pc := 14) d11_14 rfl rfl ?_
  refine W.callV (pc := 15) (as := [(vr p2)]) 0 [] d11_15 (w82 hw) (w83 hw) (w85 hw) (w85 hw) (w84 hw) (w8 hw) (w86 hw) (Hp.exa mp3) (c86_equals hw hs (p1 := p3) (p2 := p2) (p3 := p5) (p4 := p4) (x1 := x3) (hx1 := hx3) (mp2 := mp2) (mp1 := mp3) (mp3 := mp5) (mp4 := mp4) (ne_p1_p2 := (Ne.symm ne_p2_p3))) (by decide) pd_Ljava_lang_Object__Z rfl rfl rfl rfl (by decide) (fun v D' h => ?_)
  obtain ⟨rfl, rfl⟩ := h
  show W _ _ _ _ _ _ _ _ _ _ _ _ 18 _ [(vi 0)]
  refine W.ifY (pc := 18) 25 d11_18 (y_eq (by decide)) (by decide) ?_
  refine W.iconst (pc := 25) (0) d11_25 (by decide) ?_
  exact W.ireturn (pc := 26) d11_26 rfl (Or.inr (Or.inl rfl)) (nw_bool (by decide)) (by decide) ⟨rfl, rfl⟩
theorem c88_isSymbol {Z a0} (hw : HW a0 Z) (hs : SF Z) {p1 p2 p3 p4 p5 p6 : Addr} {x1 : Int32} {x2 : Int32} {x3 : Int32} (hx3 : -128 ≤ x3.toInt ∧ x3.toInt ≤ 127) {w_p1 : Bool} (ne_p3_kSYMBOLZ : p3 ≠ (kSYMBOL Z)) {F : List Ent} (mp1 : (p1, w_p1, oJdqlLexer_Token (vr p3) (vr p4) (vi x1) (vi x2)) ∈ F) : Con Z EL (⟨"com/example/rochester/rochester/JdqlLexer$Token", "isSymbol", "(Ljava/lang/String;)Z"⟩ : MethodName) prog_12_method_3_code 2 (Option.some Jvm.ClassFile.FieldType.boolean) (rmm 0 0 0 0) [(vr p1), (vr p2)] (F) (fun v D' => (v = some (vi 0) ∧ F = D')) := by
  refine Con.of (ls := #[rv p1, rv p2]) (by decide +kernel) rfl ?_
  show W Z EL _ "com/example/rochester/rochester/JdqlLexer$Token" "isSymbol" _ _ _ _ _ _ _ _ _ _
  refine W.aloadN (pc := 0) d11_0 rfl rfl ?_
  refine W.getf (pc := 1) d11_1 (w56 hw) Via.refl mp1 m0 ?_
  refine W.gets (pc := 4) d11_4 (w69 hw) Via.refl hs.2.2.2.2.2.2.2.1 ?_
  refine W.acmpY (pc := 7) 25 d11_7 rfl rfl (show Ca .ne _ _ from (fun z => ne_p3_kSYMBOLZ (by injection z))) (by decide) ?_
  refine W.iconst (pc := 25) (0) d11_25 (by decide) ?_
  exact W.ireturn (pc := 26) d11_26 rfl (Or.inr (Or.inl rfl)) (nw_bool (by decide)) (by decide) ⟨rfl, rfl⟩
theorem c91_equals {Z a0} (hw : HW a0 Z) (hs : SF Z) {p1 p2 : Addr} {w_p1 : Bool} {ad_p1 : String} {w_p2 : Bool} {ad_p2 : String} {F : List Ent} (mp1 : (p1, w_p1, ar ad_p1 .byte []) ∈ F) (mp2 : (p2, w_p2, ar ad_p2 .byte []) ∈ F) : Con Z EL (⟨"java/lang/StringLatin1", "equals", "([B[B)Z"⟩ : MethodName) jdk_43_method_13_code 3 (Option.some Jvm.ClassFile.FieldType.boolean) (rmm 0 0 0 0) [(vr p1), (vr p2)] (F) (fun v D' => (v = some (vi 1) ∧ F = D')) := by
  refine Con.of (ls := #[rv p1, rv p2, uu]) (by decide +kernel) rfl ?_
  show W Z EL _ "java/lang/StringLatin1" "equals" _ _ _ _ _ _ _ _ _ _
  refine W.aloadN (pc := 0) d13_0 rfl rfl ?_
  refine W.alen (pc := 1) (0) d13_1 mp1 rfl ?_
  refine W.aloadN (pc := 2) d13_2 rfl rfl ?_
  refine W.alen (pc := 3) (0) d13_3 mp2 rfl ?_
  refine W.icmpN (pc := 4) d13_4 (n_ne (by decide)) ?_
  refine W.iconst (pc := 7) (0) d13_7 (by decide) ?_
  refine W.istoreN (pc := 8) (ls' := #[rv p1, rv p2, iv 0]) d13_8 rfl ?_
  refine W.iloadN (pc := 9) d13_9 rfl ?_
  refine W.aloadN (pc := 10) d13_10 rfl rfl ?_
  refine W.alen (pc := 11) (0) d13_11 mp1 rfl ?_
  refine W.icmpY (pc := 12) 32 d13_12 (y_ge (by decide)) (by decide) ?_
  refine W.iconst (pc := 32) (1) d13_32 (by decide) ?_
  exact W.ireturn (pc := 33) d13_33 rfl (Or.inr (Or.inl rfl)) (nw_bool (by decide)) (by decide) ⟨rfl, rfl⟩
theorem c90_equals {Z a0} (hw : HW a0 Z) (hs : SF Z) {p1 p2 p3 p4 : Addr} {w_p2 : Bool} {w_p1 : Bool} {w_p3 : Bool} {ad_p3 : String} {w_p4 : Bool} {ad_p4 : String} (ne_p1_p2 : p1 ≠ p2) {F : List Ent} (mp2 : (p2, w_p2, oString (vr p4) (vi 0)) ∈ F) (mp1 : (p1, w_p1, oString (vr p3) (vi 0)) ∈ F) (mp3 : (p3, w_p3, ar ad_p3 .byte []) ∈ F) (mp4 : (p4, w_p4, ar ad_p4 .byte []) ∈ F) : Con Z EL (⟨"java/lang/String", "equals", "(Ljava/lang/Object;)Z"⟩ : MethodName) jdk_42_method_66_code 3 (Option.some Jvm.ClassFile.FieldType.boolean) (rmm 1 0 0 14) [(vr p1), (vr p2)] (F) (fun v D' => (v = some (vi 1) ∧ F = D')) := by
  refine Con.of (ls := #[rv p1, rv p2, uu]) (by decide +kernel) rfl ?_
  show W Z EL _ "java/lang/String" "equals" _ _ _ _ _ _ _ _ _ _
  refine W.aloadN (pc := 0) d12_0 rfl rfl ?_
  refine W.aloadN (pc := 1) d12_1 rfl rfl ?_
  refine W.acmpY (pc := 2) 7 d12_2 rfl rfl (show Ca .ne _ _ from (fun z => ne_p1_p2 (by injection z))) (by decide) ?_
  refine W.aloadN (pc := 7) d12_7 rfl rfl ?_
  refine W.instY (pc := 8) d12_8 (w87 hw) (Hp.ins mp2) ?_
  refine W.ifN (pc := 11) d12_11 (n_eq (by decide)) ?_
  refine W.aloadN (pc := 14) d12_14 rfl rfl ?_
  refine W.castY (pc := 15) d12_15 (w87 hw) (Hp.ins mp2) ?_
  refine W.astoreN (pc := 18) (ls' := #[rv p1, rv p2, rv p2]) d12_18 rfl rfl ?_
  refine W.gets (pc := 19) d12_19 (w19 hw) Via.refl hs.1 ?_
  refine W.ifN (pc := 22) d12_22 (n_eq (by have := hs.2.1; have := q0; omega)) ?_
  refine W.aloadN (pc := 25) d12_25 rfl rfl ?_
  refine W.getf (pc := 26) d12_26 (w31 hw) Via.refl mp1 m1 ?_
  refine W.aloadN (pc := 29) d12_29 rfl rfl ?_
  refine W.getf (pc := 30) d12_30 (w31 hw) Via.refl mp2 m1 ?_
  refine W.icmpN (pc := 33) d12_33 (n_ne (by decide)) ?_
  refine W.aloadN (pc := 36) d12_36 rfl rfl ?_
  refine W.getf (pc := 37) d12_37 (w33 hw) Via.refl mp1 m0 ?_
  refine W.aloadN (pc := 40) d12_40 rfl rfl ?_
  refine W.getf (pc := 41) d12_41 (w33 hw) Via.refl mp2 m0 ?_
  refine W.callS (pc := 44) (as := [(vr p3), (vr p4)]) 0 [] d12_44 (w88 hw) (w89 hw) (w90 hw) (w91 hw) (c91_equals hw hs (p1 := p3) (p2 := p4) (mp1 := mp3) (mp2 := mp4)) (by decide) pd__B_B_Z rfl rfl rfl rfl (by decide) (fun v D' h => ?_)
  obtain ⟨rfl, rfl⟩ := h
  show W _ _ _ _ _ _ _ _ _ _ _ _ 47 _ [(vi 1)]
  refine W.ifN (pc := 47) d12_47 (n_eq (by decide)) ?_
  refine W.iconst (pc := 50) (1) d12_50 (by decide) ?_
  refine W.goto (pc := 51) 55 d12_51 (by decide) ?_
  exact W.ireturn (pc := 55) d12_55 rfl (Or.inr (Or.inl rfl)) (nw_bool (by decide)) (by decide) ⟨rfl, rfl⟩
theorem c89_isSymbol {Z a0} (hw : HW a0 Z) (hs : SF Z) {p1 p2 p3 p4 p5 : Addr} {x1 : Int32} {x2 : Int32} {w_p1 : Bool} {w_p3 : Bool} {w_p2 : Bool} {w_p5 : Bool} {ad_p5 : String} {w_p4 : Bool} {ad_p4 : String} (ne_p1_p2 : p1 ≠ p2) (ne_p2_p3 : p2 ≠ p3) {F : List Ent} (mp1 : (p1, w_p1, oJdqlLexer_Token (vr (kSYMBOL Z)) (vr p3) (vi x1) (vi x2)) ∈ F) (mp3 : (p3, w_p3, oString (vr p5) (vi 0)) ∈ F) (mp2 : (p2, w_p2, oString (vr p4) (vi 0)) ∈ F) (mp5 : (p5, w_p5, ar ad_p5 .byte []) ∈ F) (mp4 : (p4, w_p4, ar ad_p4 .byte []) ∈ F) : Con Z EL (⟨"com/example/rochester/rochester/JdqlLexer$Token", "isSymbol", "(Ljava/lang/String;)Z"⟩ : MethodName) prog_12_method_3_code 2 (Option.some Jvm.ClassFile.FieldType.boolean) (rmm 2 0 0 28) [(vr p1), (vr p2)] (F) (fun v D' => (v = some (vi 1) ∧ F = D')) := by
  refine Con.of (ls := #[rv p1, rv p2]) (by decide +kernel) rfl ?_
  show W Z EL _ "com/example/rochester/rochester/JdqlLexer$Token" "isSymbol" _ _ _ _ _ _ _ _ _ _
  refine W.aloadN (pc := 0) d11_0 rfl rfl ?_
  refine W.getf (pc := 1) d11_1 (w56 hw) Via.refl mp1 m0 ?_
  refine W.gets (pc := 4) d11_4 (w69 hw) Via.refl hs.2.2.2.2.2.2.2.1 ?_
  refine W.acmpN (pc := 7) d11_7 rfl rfl (fun z => z rfl) ?_
  refine W.aloadN (pc := 10) d11_10 rfl rfl ?_
  refine W.getf (pc := 11) d11_11 (w58 hw) Via.refl mp1 m1 ?_
  refine W.aloadN (pc := 14) d11_14 rfl rfl ?_
  refine W.callV (pc := 15) (as := [(vr p2)]) 0 [] d11_15 (w82 hw) (w83 hw) (w85 hw) (w85 hw) (w84 hw) (w8 hw) (w86 hw) (Hp.exa mp3) (c90_equals hw hs (p1 := p3) (p2 := p2) (p3 := p5) (p4 := p4) (mp2 := mp2) (mp1 := mp3) (mp3 := mp5) (mp4 := mp4) (ne_p1_p2 := (Ne.symm ne_p2_p3))) (by decide) pd_Ljava_lang_Object__Z rfl rfl rfl rfl (by decide) (fun v D' h => ?_)
  obtain ⟨rfl, rfl⟩ := h
  show W _ _ _ _ _ _ _ _ _ _ _ _ 18 _ [(vi 1)]
  refine W.ifN (pc := 18) d11_18 (n_eq (by decide)) ?_
  refine W.iconst (pc := 21) (1) d11_21 (by decide) ?_
  refine W.goto (pc := 22) 26 d11_22 (by decide) ?_
  exact W.ireturn (pc := 26) d11_26 rfl (Or.inr (Or.inl rfl)) (nw_bool (by decide)) (by decide) ⟨rfl, rfl⟩
theorem c92_isSymbol {Z a0} (hw : HW a0 Z) (hs : SF Z) {p1 p2 p3 p4 p5 p6 : Addr} {x1 : Int32} {x2 : Int32} {w_p1 : Bool} (ne_p3_kSYMBOLZ : p3 ≠ (kSYMBOL Z)) {F : List Ent} (mp1 : (p1, w_p1, oJdqlLexer_Token (vr p3) (vr p4) (vi x1) (vi x2)) ∈ F) : Con Z EL (⟨"com/example/rochester/rochester/JdqlLexer$Token", "isSymbol", "(Ljava/lang/String;)Z"⟩ : MethodName) prog_12_method_3_code 2 (Option.some Jvm.ClassFile.FieldType.boolean) (rmm 0 0 0 0) [(vr p1), (vr p2)] (F) (fun v D' => (v = some (vi 0) ∧ F = D')) := by
  refine Con.of (ls := #[rv p1, rv p2]) (by decide +kernel) rfl ?_
  show W Z EL _ "com/example/rochester/rochester/JdqlLexer$Token" "isSymbol" _ _ _ _ _ _ _ _ _ _
  refine W.aloadN (pc := 0) d11_0 rfl rfl ?_
  refine W.getf (pc := 1) d11_1 (w56 hw) Via.refl mp1 m0 ?_
  refine W.gets (pc := 4) d11_4 (w69 hw) Via.refl hs.2.2.2.2.2.2.2.1 ?_
  refine W.acmpY (pc := 7) 25 d11_7 rfl rfl (show Ca .ne _ _ from (fun z => ne_p3_kSYMBOLZ (by injection z))) (by decide) ?_
  refine W.iconst (pc := 25) (0) d11_25 (by decide) ?_
  exact W.ireturn (pc := 26) d11_26 rfl (Or.inr (Or.inl rfl)) (nw_bool (by decide)) (by decide) ⟨rfl, rfl⟩
theorem q2147483647 : (2147483647 : Int32).toInt = 2147483647 := by decide
theorem am_2147483647 (x : Int32) : (x &&& (2147483647 : Int32)).toInt = x.toInt % 2147483648 := a_and x 2147483647 31 2147483648 (by decide) (by decide) (by decide)
theorem arem_7 (x : Int32) : (0 ≤ x.toInt → (x % (7 : Int32)).toInt = x.toInt % 7) ∧ (x.toInt < 0 → (x % (7 : Int32)).toInt = -((-x.toInt) % 7)) := a_rem x 7 7 (by decide) (by decide)
theorem am_3 (x : Int32) : (x &&& (3 : Int32)).toInt = x.toInt % 4 := a_and x 3 2 4 (by decide) (by decide) (by decide)
theorem aushr_3 (x : Int32) : (XT.ushr x (3 : Int32)).toInt = (x.toInt % 4294967296) / 8 := a_ushr x 3 3 8 (by decide) (by decide) (by decide)
set_option maxHeartbeats 4000000 in
theorem lawW {Z a0} (hw : HW a0 Z) (hs : SF Z) (z0 : Int32) (z1 : Int32) (z2 : Int32) (z3 : Int32) (z4 : Int32) (z5 : Int32) : Con Z EL x code maxLocals ret room_1 [(vi z0), (vi z1), (vi z2), (vi z3), (vi z4), (vi z5)] ([]) (fun v _ => v = some (.int 1)) := by
  refine Con.of (ls := #[iv z0, iv z1, iv z2, iv z3, iv z4, iv z5, uu, uu, uu, uu, uu, uu, uu, uu, uu, uu, uu, uu, uu, uu, uu, uu]) (by decide +kernel) rfl ?_
  show W Z EL _ "com/example/rochester/rochester/TokenIsSymbolPinLaw" "law" _ _ _ _ _ _ _ _ _ _
  refine W.iloadN (pc := 0) at_0 rfl ?_
  refine W.ldcI (pc := 1) at_1 (w0 hw) ?_
  refine W.iand (pc := 3) at_3 ?_
  refine W.bipush (pc := 4) (7) at_4 (by decide) ?_
  refine W.irem (pc := 6) at_6 (by decide) ?_
  refine W.istore (pc := 7) (ls' := #[iv z0, iv z1, iv z2, iv z3, iv z4, iv z5, iv ((z0 &&& (2147483647 : Int32)) % (7 : Int32)), uu, uu, uu, uu, uu, uu, uu, uu, uu, uu, uu, uu, uu, uu, uu]) at_7 rfl ?_
  refine W.iloadN (pc := 9) at_9 rfl ?_
  refine W.iconst (pc := 10) (3) at_10 (by decide) ?_
  refine W.iand (pc := 11) at_11 ?_
  refine W.istore (pc := 12) (ls' := #[iv z0, iv z1, iv z2, iv z3, iv z4, iv z5, iv ((z0 &&& (2147483647 : Int32)) % (7 : Int32)), iv (z3 &&& (3 : Int32)), uu, uu, uu, uu, uu, uu, uu, uu, uu, uu, uu, uu, uu, uu]) at_12 rfl ?_
  have K3 : ∀ (g2 : Int32), 0 ≤ g2.toInt ∧ g2.toInt ≤ 1 → W Z EL room_1 "com/example/rochester/rochester/TokenIsSymbolPinLaw" "law" code maxLocals ret (fun v _ => v = some (.int 1)) ([]) 0 0 29 #[iv z0, iv z1, iv z2, iv z3, iv z4, iv z5, iv ((z0 &&& (2147483647 : Int32)) % (7 : Int32)), iv (z3 &&& (3 : Int32)), iv g2, uu, uu, uu, uu, uu, uu, uu, uu, uu, uu, uu, uu, uu] [] := by
   intro g2 hg2
   have K6 : ∀ (g5 : Int32), 1 ≤ g5.toInt ∧ g5.toInt ≤ 32 → W Z EL room_1 "com/example/rochester/rochester/TokenIsSymbolPinLaw" "law" code maxLocals ret (fun v _ => v = some (.int 1)) ([]) 0 0 46 #[iv z0, iv z1, iv z2, iv z3, iv z4, iv z5, iv ((z0 &&& (2147483647 : Int32)) % (7 : Int32)), iv (z3 &&& (3 : Int32)), iv g2, iv g5, uu, uu, uu, uu, uu, uu, uu, uu, uu, uu, uu, uu] [] := by
    intro g5 hg5
    refine W.iloadN (pc := 46) at_46 rfl ?_
    refine W.sipush (pc := 47) (255) at_47 (by decide) ?_
    refine W.iand (pc := 50) at_50 ?_
    refine W.i2cK (pc := 51) (z1 &&& (255 : Int32)) at_51 (z_i2c (by have := rng32 z1; have := q255; have := am_255 z1; omega)) ?_
    refine W.istore (pc := 52) (ls' := #[iv z0, iv z1, iv z2, iv z3, iv z4, iv z5, iv ((z0 &&& (2147483647 : Int32)) % (7 : Int32)), iv (z3 &&& (3 : Int32)), iv g2, iv g5, iv (z1 &&& (255 : Int32)), uu, uu, uu, uu, uu, uu, uu, uu, uu, uu, uu]) at_52 rfl ?_
    refine W.iloadN (pc := 54) at_54 rfl ?_
    refine W.bipush (pc := 55) (8) at_55 (by decide) ?_
    refine W.iushr (pc := 57) at_57 ?_
    refine W.sipush (pc := 58) (255) at_58 (by decide) ?_
    refine W.iand (pc := 61) at_61 ?_
    refine W.i2cK (pc := 62) ((XT.ushr z1 (8 : Int32)) &&& (255 : Int32)) at_62 (z_i2c (by have := rng32 z1; have := q8; have := aushr_8 z1; have := q255; have := am_255 (XT.ushr z1 (8 : Int32)); omega)) ?_
    refine W.istore (pc := 63) (ls' := #[iv z0, iv z1, iv z2, iv z3, iv z4, iv z5, iv ((z0 &&& (2147483647 : Int32)) % (7 : Int32)), iv (z3 &&& (3 : Int32)), iv g2, iv g5, iv (z1 &&& (255 : Int32)), iv ((XT.ushr z1 (8 : Int32)) &&& (255 : Int32)), uu, uu, uu, uu, uu, uu, uu, uu, uu, uu]) at_63 rfl ?_
    refine W.iloadN (pc := 65) at_65 rfl ?_
    refine W.bipush (pc := 66) (16) at_66 (by decide) ?_
    refine W.iushr (pc := 68) at_68 ?_
    refine W.sipush (pc := 69) (255) at_69 (by decide) ?_
    refine W.iand (pc := 72) at_72 ?_
    refine W.i2cK (pc := 73) ((XT.ushr z1 (16 : Int32)) &&& (255 : Int32)) at_73 (z_i2c (by have := rng32 z1; have := q16; have := aushr_16 z1; have := q255; have := am_255 (XT.ushr z1 (16 : Int32)); omega)) ?_
    refine W.istore (pc := 74) (ls' := #[iv z0, iv z1, iv z2, iv z3, iv z4, iv z5, iv ((z0 &&& (2147483647 : Int32)) % (7 : Int32)), iv (z3 &&& (3 : Int32)), iv g2, iv g5, iv (z1 &&& (255 : Int32)), iv ((XT.ushr z1 (8 : Int32)) &&& (255 : Int32)), iv ((XT.ushr z1 (16 : Int32)) &&& (255 : Int32)), uu, uu, uu, uu, uu, uu, uu, uu, uu]) at_74 rfl ?_
    have K12 : ∀ (g8 : Int32) (g9 : Int32) (g10 : Int32) (g11 : Int32), 0 ≤ g8.toInt ∧ g8.toInt ≤ 255 → 0 ≤ g9.toInt ∧ g9.toInt ≤ 255 → 0 ≤ g10.toInt ∧ g10.toInt ≤ 255 → 0 ≤ g11.toInt ∧ g11.toInt ≤ 3 → W Z EL room_1 "com/example/rochester/rochester/TokenIsSymbolPinLaw" "law" code maxLocals ret (fun v _ => v = some (.int 1)) ([]) 0 0 187 #[iv z0, iv z1, iv z2, iv z3, iv z4, iv z5, iv ((z0 &&& (2147483647 : Int32)) % (7 : Int32)), iv (z3 &&& (3 : Int32)), iv g2, iv g5, iv (z1 &&& (255 : Int32)), iv ((XT.ushr z1 (8 : Int32)) &&& (255 : Int32)), iv ((XT.ushr z1 (16 : Int32)) &&& (255 : Int32)), iv g8, iv g9, iv g10, iv g11, uu, uu, uu, uu, uu] [] := by
     intro g8 g9 g10 g11 hg8 hg9 hg10 hg11
     have K18 : ∀ (g13 : Int32) (g14 : Int32) (g15 : Int32) (g16 : Int32) (g17 : Int32), 0 ≤ g13.toInt ∧ g13.toInt ≤ 6 → 0 ≤ g14.toInt ∧ g14.toInt ≤ 3 → 0 ≤ g15.toInt ∧ g15.toInt ≤ 255 → 0 ≤ g16.toInt ∧ g16.toInt ≤ 255 → 0 ≤ g17.toInt ∧ g17.toInt ≤ 255 → W Z EL room_1 "com/example/rochester/rochester/TokenIsSymbolPinLaw" "law" code maxLocals ret (fun v _ => v = some (.int 1)) ([]) 0 0 187 #[iv z0, iv z1, iv z2, iv z3, iv z4, iv z5, iv g13, iv g14, iv g2, iv g5, iv g15, iv g16, iv g17, iv g8, iv g9, iv g10, iv g11, uu, uu, uu, uu, uu] [] := by
      intro g13 g14 g15 g16 g17 hg13 hg14 hg15 hg16 hg17
      refine W.iload (pc := 187) at_187 rfl ?_
      refine W.iload (pc := 189) at_189 rfl ?_
      refine W.iload (pc := 191) at_191 rfl ?_
      refine W.iload (pc := 193) at_193 rfl ?_
      refine W.callS (pc := 195) (as := [(vi g14), (vi g15), (vi g16), (vi g17)]) 0 [] at_195 (w1 hw) (w2 hw) (w3 hw) (w4 hw) (c1_mk hw hs (x1 := g14) (hx1 := (by omega)) (x2 := g15) (hx2 := hg15) (x3 := g16) (hx3 := hg16) (x4 := g17) (hx4 := hg17)) (by decide) pd_ICCC_Ljava_lang_String_ rfl rfl rfl rfl (by decide) (fun v D' h => ?_)
      rcases h with ⟨a19, a20, h1, h2, h3, rfl, rfl⟩ | ⟨a21, a22, h4, h5, h6, rfl, rfl⟩ | ⟨a23, a24, h7, h8, rfl, rfl⟩ | ⟨a25, a26, h9, rfl, rfl⟩
      ·
       have ih1 := t_ne h1
       have ih2 := t_ne h2
       have ih3 := t_ne h3
       show W _ _ _ _ _ _ _ _ _ _ _ _ 198 _ [(vr a19)]
       refine W.astore (pc := 198) (ls' := #[iv z0, iv z1, iv z2, iv z3, iv z4, iv z5, iv g13, iv g14, iv g2, iv g5, iv g15, iv g16, iv g17, iv g8, iv g9, iv g10, iv g11, rv a19, uu, uu, uu, uu]) at_198 rfl rfl ?_
       refine W.iload (pc := 200) at_200 rfl ?_
       refine W.iload (pc := 202) at_202 rfl ?_
       refine W.iload (pc := 204) at_204 rfl ?_
       refine W.iload (pc := 206) at_206 rfl ?_
       refine W.callS (pc := 208) (as := [(vi g11), (vi g8), (vi g9), (vi g10)]) 0 [] at_208 (w1 hw) (w2 hw) (w3 hw) (w4 hw) (c1_mk hw hs (x1 := g11) (hx1 := (by have := q0; have := q1; have := q2; omega)) (x2 := g8) (hx2 := hg8) (x3 := g9) (hx3 := hg9) (x4 := g10) (hx4 := hg10)) (by decide) pd_ICCC_Ljava_lang_String_ rfl rfl rfl rfl (by decide) (fun v D' h => ?_)
       rcases h with ⟨a27, a28, h10, h11, h12, rfl, rfl⟩ | ⟨a29, a30, h13, h14, h15, rfl, rfl⟩ | ⟨a31, a32, h16, h17, rfl, rfl⟩ | ⟨a33, a34, h18, rfl, rfl⟩
       ·
        have ih10 := t_ne h10
        have ih11 := t_ne h11
        have ih12 := t_ne h12
        show W _ _ _ _ _ _ _ _ _ _ _ _ 211 _ [(vr a27)]
        refine W.astore (pc := 211) (ls' := #[iv z0, iv z1, iv z2, iv z3, iv z4, iv z5, iv g13, iv g14, iv g2, iv g5, iv g15, iv g16, iv g17, iv g8, iv g9, iv g10, iv g11, rv a19, rv a27, uu, uu, uu]) at_211 rfl rfl ?_
        refine W.new (pc := 213) at_213 (w38 hw) (w39 hw) (w40 hw) (laJdqlLexer_Token hw) (by decide) (by decide) (fun a35 => ?_)
        show W _ _ _ _ _ _ _ _ _ _ _ _ 216 _ [(vr a35)]
        refine W.dup (pc := 216) at_216 rfl ?_
        refine W.iload (pc := 217) at_217 rfl ?_
        refine W.callS (pc := 219) (as := [(vi g13)]) 2 [(vr a35), (vr a35)] at_219 (w41 hw) (w42 hw) (w3 hw) (w43 hw) (c19_kindOfm hw hs (x1 := g13) (hx1 := (by have := q0; have := q1; have := q2; omega))) (by decide) pd_I_Lcom_example_rochester_rochester_JdqlLexer_Kind_ rfl rfl rfl rfl (by decide) (fun v D' h => ?_)
        rcases h with ⟨h19, rfl, rfl⟩ | ⟨a36, h20, h21, rfl, rfl⟩
        ·
         have ih19 := t_eq h19
         show W _ _ _ _ _ _ _ _ _ _ _ _ 222 _ [(vr (kSYMBOL Z)), (vr a35), (vr a35)]
         refine W.aload (pc := 222) 17 at_222 rfl rfl ?_
         refine W.iload (pc := 224) at_224 rfl ?_
         refine W.iload (pc := 226) at_226 rfl ?_
         refine W.callI (pc := 228) (as := [(vr (kSYMBOL Z)), (vr a19), (vi z4), (vi z5)]) 1 [(vr a35)] at_228 rfl (w47 hw) (w48 hw) (w40 hw) (w49 hw) (c20_init hw hs (p1 := a35) (p2 := a19) (p3 := a20) (x1 := z4) (x2 := z5) (x3 := g15.toInt8.toInt32) (hx3 := (by have := a_i2b g15; have := q0; have := q1; have := q2; have := q5; omega)) (x4 := g16.toInt8.toInt32) (hx4 := (by have := a_i2b g16; have := q0; have := q1; have := q2; have := q5; omega)) (x5 := g17.toInt8.toInt32) (hx5 := (by have := a_i2b g17; have := q0; have := q1; have := q2; have := q5; omega))) (by decide) pd_Lcom_example_rochester_rochester_JdqlLexer_Kind_Ljava_lang_String_II_V rfl rfl rfl rfl (by decide) (fun v D' h => ?_)
         obtain ⟨rfl, rfl⟩ := h
         show W _ _ _ _ _ _ _ _ _ _ _ _ 231 _ [(vr a35)]
         refine W.astore (pc := 231) (ls' := #[iv z0, iv z1, iv z2, iv z3, iv z4, iv z5, iv g13, iv g14, iv g2, iv g5, iv g15, iv g16, iv g17, iv g8, iv g9, iv g10, iv g11, rv a19, rv a27, rv a35, uu, uu]) at_231 rfl rfl ?_
         refine W.iload (pc := 233) at_233 rfl ?_
         refine W.iload (pc := 235) at_235 rfl ?_
         refine W.icmpN (pc := 237) at_237 (n_ne (by have := q0; have := q1; have := q2; have := q5; omega)) ?_
         refine W.iload (pc := 240) at_240 rfl ?_
         refine W.iconst (pc := 242) (1) at_242 (by decide) ?_
         refine W.icmpN (pc := 243) at_243 (n_lt (by have := q1; have := q0; have := q2; have := q5; omega)) ?_
         refine W.iload (pc := 246) at_246 rfl ?_
         refine W.iload (pc := 248) at_248 rfl ?_
         refine W.icmp (pc := 250) 283 at_250 (by decide) (fun h22 => ?_) (fun h22 => ?_)
         ·
          have ih22 := t_ne h22
          refine W.iconst (pc := 283) (0) at_283 (by decide) ?_
          refine W.istore (pc := 284) (ls' := #[iv z0, iv z1, iv z2, iv z3, iv z4, iv z5, iv g13, iv g14, iv g2, iv g5, iv g15, iv g16, iv g17, iv g8, iv g9, iv g10, iv g11, rv a19, rv a27, rv a35, iv 0, uu]) at_284 rfl ?_
          refine W.iload (pc := 286) at_286 rfl ?_
          refine W.iconst (pc := 288) (5) at_288 (by decide) ?_
          refine W.icmpN (pc := 289) at_289 (n_ne (by have := q5; have := q0; have := q1; have := q2; omega)) ?_
          refine W.iload (pc := 292) at_292 rfl ?_
          refine W.ifY (pc := 294) 301 at_294 (y_eq (by decide)) (by decide) ?_
          refine W.iconst (pc := 301) (0) at_301 (by decide) ?_
          refine W.istore (pc := 302) (ls' := #[iv z0, iv z1, iv z2, iv z3, iv z4, iv z5, iv g13, iv g14, iv g2, iv g5, iv g15, iv g16, iv g17, iv g8, iv g9, iv g10, iv g11, rv a19, rv a27, rv a35, iv 0, iv 0]) at_302 rfl ?_
          refine W.aload (pc := 304) 19 at_304 rfl rfl ?_
          refine W.aload (pc := 306) 18 at_306 rfl rfl ?_
          refine W.know (fun _ _ H => H.ne (i := 0) (j := 2) (by decide) rfl rfl (Or.inl rfl)) (fun ne37 => ?_)
          refine W.know (fun _ _ H => H.ne (i := 2) (j := 4) (by decide) rfl rfl (Or.inl rfl)) (fun ne38 => ?_)
          refine W.callV (pc := 308) (as := [(vr a27)]) 0 [] at_308 (w64 hw) (w65 hw) (w67 hw) (w67 hw) (w66 hw) (w40 hw) (w68 hw) (Hp.exa m0) (c22_isSymbol hw hs (p1 := a35) (p2 := a27) (p3 := a19) (p4 := a28) (p5 := a20) (x1 := z4) (x2 := z5) (x3 := g8.toInt8.toInt32) (hx3 := (by have := a_i2b g8; have := q0; have := q1; have := q2; have := q5; omega)) (x4 := g9.toInt8.toInt32) (hx4 := (by have := a_i2b g9; have := q0; have := q1; have := q2; have := q5; omega)) (x5 := g10.toInt8.toInt32) (hx5 := (by have := a_i2b g10; have := q0; have := q1; have := q2; have := q5; omega)) (x6 := g15.toInt8.toInt32) (hx6 := (by have := a_i2b g15; have := q0; have := q1; have := q2; have := q5; omega)) (x7 := g16.toInt8.toInt32) (hx7 := (by have := a_i2b g16; have := q0; have := q1; have := q2; have := q5; omega)) (x8 := g17.toInt8.toInt32) (hx8 := (by have := a_i2b g17; have := q0; have := q1; have := q2; have := q5; omega)) (mp1 := m0) (mp3 := m4) (mp2 := m2) (mp5 := m3) (mp4 := m1) (ne_p1_p2 := ne37) (ne_p2_p3 := ne38)) (by decide) pd_Ljava_lang_String__Z rfl rfl rfl rfl (by decide) (fun v D' h => ?_)
          rcases h with ⟨h23, h24, h25, rfl, rfl⟩ | ⟨h26, h27, h28, rfl, rfl⟩ | ⟨h29, h30, rfl, rfl⟩ | ⟨h31, rfl, rfl⟩
          ·
           exact absurd h23 (n_eq (by have := a_i2b g15; have := a_i2b g8; have := q0; have := q1; have := q2; have := q5; omega))
          ·
           exact absurd h26 (n_eq (by have := a_i2b g15; have := a_i2b g8; have := q0; have := q1; have := q2; have := q5; omega))
          ·
           exact absurd h29 (n_eq (by have := a_i2b g15; have := a_i2b g8; have := q0; have := q1; have := q2; have := q5; omega))
          ·
           have ih31 := f_eq h31
           show W _ _ _ _ _ _ _ _ _ _ _ _ 311 _ [(vi 0)]
           refine W.iload (pc := 311) at_311 rfl ?_
           refine W.icmpN (pc := 313) at_313 (n_ne (by decide)) ?_
           refine W.iconst (pc := 316) (1) at_316 (by decide) ?_
           refine W.goto (pc := 317) 321 at_317 (by decide) ?_
           exact W.ireturn (pc := 321) at_321 rfl (Or.inr (Or.inl rfl)) (nw_bool (by decide)) (by decide) rfl
         ·
          have ih22 := f_ne h22
          refine W.iload (pc := 253) at_253 rfl ?_
          refine W.iconst (pc := 255) (2) at_255 (by decide) ?_
          refine W.icmpN (pc := 256) at_256 (n_lt (by have := q2; have := q0; have := q1; have := q5; omega)) ?_
          refine W.iload (pc := 259) at_259 rfl ?_
          refine W.iload (pc := 261) at_261 rfl ?_
          refine W.icmp (pc := 263) 283 at_263 (by decide) (fun h32 => ?_) (fun h32 => ?_)
          ·
           have ih32 := t_ne h32
           refine W.iconst (pc := 283) (0) at_283 (by decide) ?_
           refine W.istore (pc := 284) (ls' := #[iv z0, iv z1, iv z2, iv z3, iv z4, iv z5, iv g13, iv g14, iv g2, iv g5, iv g15, iv g16, iv g17, iv g8, iv g9, iv g10, iv g11, rv a19, rv a27, rv a35, iv 0, uu]) at_284 rfl ?_
           refine W.iload (pc := 286) at_286 rfl ?_
           refine W.iconst (pc := 288) (5) at_288 (by decide) ?_
           refine W.icmpN (pc := 289) at_289 (n_ne (by have := q5; have := q0; have := q1; have := q2; omega)) ?_
           refine W.iload (pc := 292) at_292 rfl ?_
           refine W.ifY (pc := 294) 301 at_294 (y_eq (by decide)) (by decide) ?_
           refine W.iconst (pc := 301) (0) at_301 (by decide) ?_
           refine W.istore (pc := 302) (ls' := #[iv z0, iv z1, iv z2, iv z3, iv z4, iv z5, iv g13, iv g14, iv g2, iv g5, iv g15, iv g16, iv g17, iv g8, iv g9, iv g10, iv g11, rv a19, rv a27, rv a35, iv 0, iv 0]) at_302 rfl ?_
           refine W.aload (pc := 304) 19 at_304 rfl rfl ?_
           refine W.aload (pc := 306) 18 at_306 rfl rfl ?_
           refine W.know (fun _ _ H => H.ne (i := 0) (j := 2) (by decide) rfl rfl (Or.inl rfl)) (fun ne39 => ?_)
           refine W.know (fun _ _ H => H.ne (i := 2) (j := 4) (by decide) rfl rfl (Or.inl rfl)) (fun ne40 => ?_)
           refine W.callV (pc := 308) (as := [(vr a27)]) 0 [] at_308 (w64 hw) (w65 hw) (w67 hw) (w67 hw) (w66 hw) (w40 hw) (w68 hw) (Hp.exa m0) (c22_isSymbol hw hs (p1 := a35) (p2 := a27) (p3 := a19) (p4 := a28) (p5 := a20) (x1 := z4) (x2 := z5) (x3 := g8.toInt8.toInt32) (hx3 := (by have := a_i2b g8; have := q0; have := q1; have := q2; have := q5; omega)) (x4 := g9.toInt8.toInt32) (hx4 := (by have := a_i2b g9; have := q0; have := q1; have := q2; have := q5; omega)) (x5 := g10.toInt8.toInt32) (hx5 := (by have := a_i2b g10; have := q0; have := q1; have := q2; have := q5; omega)) (x6 := g15.toInt8.toInt32) (hx6 := (by have := a_i2b g15; have := q0; have := q1; have := q2; have := q5; omega)) (x7 := g16.toInt8.toInt32) (hx7 := (by have := a_i2b g16; have := q0; have := q1; have := q2; have := q5; omega)) (x8 := g17.toInt8.toInt32) (hx8 := (by have := a_i2b g17; have := q0; have := q1; have := q2; have := q5; omega)) (mp1 := m0) (mp3 := m4) (mp2 := m2) (mp5 := m3) (mp4 := m1) (ne_p1_p2 := ne39) (ne_p2_p3 := ne40)) (by decide) pd_Ljava_lang_String__Z rfl rfl rfl rfl (by decide) (fun v D' h => ?_)
           rcases h with ⟨h33, h34, h35, rfl, rfl⟩ | ⟨h36, h37, h38, rfl, rfl⟩ | ⟨h39, h40, rfl, rfl⟩ | ⟨h41, rfl, rfl⟩
           ·
            have ih33 := t_eq h33
            exact absurd h34 (n_eq (by have := a_i2b g16; have := a_i2b g9; have := q0; have := q1; have := q2; have := q5; have := a_i2b g15; have := a_i2b g8; omega))
           ·
            have ih36 := t_eq h36
            exact absurd h37 (n_eq (by have := a_i2b g16; have := a_i2b g9; have := q0; have := q1; have := q2; have := q5; have := a_i2b g15; have := a_i2b g8; omega))
           ·
            have ih39 := t_eq h39
            have ih40 := f_eq h40
            show W _ _ _ _ _ _ _ _ _ _ _ _ 311 _ [(vi 0)]
            refine W.iload (pc := 311) at_311 rfl ?_
            refine W.icmpN (pc := 313) at_313 (n_ne (by decide)) ?_
            refine W.iconst (pc := 316) (1) at_316 (by decide) ?_
            refine W.goto (pc := 317) 321 at_317 (by decide) ?_
            exact W.ireturn (pc := 321) at_321 rfl (Or.inr (Or.inl rfl)) (nw_bool (by decide)) (by decide) rfl
           ·
            exact absurd h41 (Classical.not_not.mpr (y_eq (by have := a_i2b g15; have := a_i2b g8; have := q0; have := q1; have := q2; have := q5; omega)))
          ·
           have ih32 := f_ne h32
           refine W.iload (pc := 266) at_266 rfl ?_
           refine W.iconst (pc := 268) (3) at_268 (by decide) ?_
           refine W.icmpN (pc := 269) at_269 (n_lt (by have := q3; have := q0; have := q1; have := q2; have := q5; omega)) ?_
           refine W.iload (pc := 272) at_272 rfl ?_
           refine W.iload (pc := 274) at_274 rfl ?_
           refine W.icmp (pc := 276) 283 at_276 (by decide) (fun h42 => ?_) (fun h42 => ?_)
           ·
            have ih42 := t_ne h42
            refine W.iconst (pc := 283) (0) at_283 (by decide) ?_
            refine W.istore (pc := 284) (ls' := #[iv z0, iv z1, iv z2, iv z3, iv z4, iv z5, iv g13, iv g14, iv g2, iv g5, iv g15, iv g16, iv g17, iv g8, iv g9, iv g10, iv g11, rv a19, rv a27, rv a35, iv 0, uu]) at_284 rfl ?_
            refine W.iload (pc := 286) at_286 rfl ?_
            refine W.iconst (pc := 288) (5) at_288 (by decide) ?_
            refine W.icmpN (pc := 289) at_289 (n_ne (by have := q5; have := q0; have := q1; have := q2; omega)) ?_
            refine W.iload (pc := 292) at_292 rfl ?_
            refine W.ifY (pc := 294) 301 at_294 (y_eq (by decide)) (by decide) ?_
            refine W.iconst (pc := 301) (0) at_301 (by decide) ?_
            refine W.istore (pc := 302) (ls' := #[iv z0, iv z1, iv z2, iv z3, iv z4, iv z5, iv g13, iv g14, iv g2, iv g5, iv g15, iv g16, iv g17, iv g8, iv g9, iv g10, iv g11, rv a19, rv a27, rv a35, iv 0, iv 0]) at_302 rfl ?_
            refine W.aload (pc := 304) 19 at_304 rfl rfl ?_
            refine W.aload (pc := 306) 18 at_306 rfl rfl ?_
            refine W.know (fun _ _ H => H.ne (i := 0) (j := 2) (by decide) rfl rfl (Or.inl rfl)) (fun ne41 => ?_)
            refine W.know (fun _ _ H => H.ne (i := 2) (j := 4) (by decide) rfl rfl (Or.inl rfl)) (fun ne42 => ?_)
            refine W.callV (pc := 308) (as := [(vr a27)]) 0 [] at_308 (w64 hw) (w65 hw) (w67 hw) (w67 hw) (w66 hw) (w40 hw) (w68 hw) (Hp.exa m0) (c22_isSymbol hw hs (p1 := a35) (p2 := a27) (p3 := a19) (p4 := a28) (p5 := a20) (x1 := z4) (x2 := z5) (x3 := g8.toInt8.toInt32) (hx3 := (by have := a_i2b g8; have := q0; have := q1; have := q2; have := q5; omega)) (x4 := g9.toInt8.toInt32) (hx4 := (by have := a_i2b g9; have := q0; have := q1; have := q2; have := q5; omega)) (x5 := g10.toInt8.toInt32) (hx5 := (by have := a_i2b g10; have := q0; have := q1; have := q2; have := q5; omega)) (x6 := g15.toInt8.toInt32) (hx6 := (by have := a_i2b g15; have := q0; have := q1; have := q2; have := q5; omega)) (x7 := g16.toInt8.toInt32) (hx7 := (by have := a_i2b g16; have := q0; have := q1; have := q2; have := q5; omega)) (x8 := g17.toInt8.toInt32) (hx8 := (by have := a_i2b g17; have := q0; have := q1; have := q2; have := q5; omega)) (mp1 := m0) (mp3 := m4) (mp2 := m2) (mp5 := m3) (mp4 := m1) (ne_p1_p2 := ne41) (ne_p2_p3 := ne42)) (by decide) pd_Ljava_lang_String__Z rfl rfl rfl rfl (by decide) (fun v D' h => ?_)
            rcases h with ⟨h43, h44, h45, rfl, rfl⟩ | ⟨h46, h47, h48, rfl, rfl⟩ | ⟨h49, h50, rfl, rfl⟩ | ⟨h51, rfl, rfl⟩
            ·
             have ih43 := t_eq h43
             have ih44 := t_eq h44
             exact absurd h45 (n_eq (by have := a_i2b g17; have := a_i2b g10; have := q0; have := q1; have := q2; have := q5; have := a_i2b g15; have := a_i2b g8; have := a_i2b g16; have := a_i2b g9; omega))
            ·
             have ih46 := t_eq h46
             have ih47 := t_eq h47
             have ih48 := f_eq h48
             show W _ _ _ _ _ _ _ _ _ _ _ _ 311 _ [(vi 0)]
             refine W.iload (pc := 311) at_311 rfl ?_
             refine W.icmpN (pc := 313) at_313 (n_ne (by decide)) ?_
             refine W.iconst (pc := 316) (1) at_316 (by decide) ?_
             refine W.goto (pc := 317) 321 at_317 (by decide) ?_
             exact W.ireturn (pc := 321) at_321 rfl (Or.inr (Or.inl rfl)) (nw_bool (by decide)) (by decide) rfl
            ·
             have ih49 := t_eq h49
             exact absurd h50 (Classical.not_not.mpr (y_eq (by have := a_i2b g16; have := a_i2b g9; have := q0; have := q1; have := q2; have := q5; have := a_i2b g15; have := a_i2b g8; omega)))
            ·
             exact absurd h51 (Classical.not_not.mpr (y_eq (by have := a_i2b g15; have := a_i2b g8; have := q0; have := q1; have := q2; have := q5; omega)))
           ·
            have ih42 := f_ne h42
            refine W.iconst (pc := 279) (1) at_279 (by decide) ?_
            refine W.goto (pc := 280) 284 at_280 (by decide) ?_
            refine W.istore (pc := 284) (ls' := #[iv z0, iv z1, iv z2, iv z3, iv z4, iv z5, iv g13, iv g14, iv g2, iv g5, iv g15, iv g16, iv g17, iv g8, iv g9, iv g10, iv g11, rv a19, rv a27, rv a35, iv 1, uu]) at_284 rfl ?_
            refine W.iload (pc := 286) at_286 rfl ?_
            refine W.iconst (pc := 288) (5) at_288 (by decide) ?_
            refine W.icmpN (pc := 289) at_289 (n_ne (by have := q5; have := q0; have := q1; have := q2; omega)) ?_
            refine W.iload (pc := 292) at_292 rfl ?_
            refine W.ifN (pc := 294) at_294 (n_eq (by decide)) ?_
            refine W.iconst (pc := 297) (1) at_297 (by decide) ?_
            refine W.goto (pc := 298) 302 at_298 (by decide) ?_
            refine W.istore (pc := 302) (ls' := #[iv z0, iv z1, iv z2, iv z3, iv z4, iv z5, iv g13, iv g14, iv g2, iv g5, iv g15, iv g16, iv g17, iv g8, iv g9, iv g10, iv g11, rv a19, rv a27, rv a35, iv 1, iv 1]) at_302 rfl ?_
            refine W.aload (pc := 304) 19 at_304 rfl rfl ?_
            refine W.aload (pc := 306) 18 at_306 rfl rfl ?_
            refine W.know (fun _ _ H => H.ne (i := 0) (j := 2) (by decide) rfl rfl (Or.inl rfl)) (fun ne43 => ?_)
            refine W.know (fun _ _ H => H.ne (i := 2) (j := 4) (by decide) rfl rfl (Or.inl rfl)) (fun ne44 => ?_)
            refine W.callV (pc := 308) (as := [(vr a27)]) 0 [] at_308 (w64 hw) (w65 hw) (w67 hw) (w67 hw) (w66 hw) (w40 hw) (w68 hw) (Hp.exa m0) (c22_isSymbol hw hs (p1 := a35) (p2 := a27) (p3 := a19) (p4 := a28) (p5 := a20) (x1 := z4) (x2 := z5) (x3 := g8.toInt8.toInt32) (hx3 := (by have := a_i2b g8; have := q0; have := q1; have := q2; have := q5; omega)) (x4 := g9.toInt8.toInt32) (hx4 := (by have := a_i2b g9; have := q0; have := q1; have := q2; have := q5; omega)) (x5 := g10.toInt8.toInt32) (hx5 := (by have := a_i2b g10; have := q0; have := q1; have := q2; have := q5; omega)) (x6 := g15.toInt8.toInt32) (hx6 := (by have := a_i2b g15; have := q0; have := q1; have := q2; have := q5; omega)) (x7 := g16.toInt8.toInt32) (hx7 := (by have := a_i2b g16; have := q0; have := q1; have := q2; have := q5; omega)) (x8 := g17.toInt8.toInt32) (hx8 := (by have := a_i2b g17; have := q0; have := q1; have := q2; have := q5; omega)) (mp1 := m0) (mp3 := m4) (mp2 := m2) (mp5 := m3) (mp4 := m1) (ne_p1_p2 := ne43) (ne_p2_p3 := ne44)) (by decide) pd_Ljava_lang_String__Z rfl rfl rfl rfl (by decide) (fun v D' h => ?_)
            rcases h with ⟨h52, h53, h54, rfl, rfl⟩ | ⟨h55, h56, h57, rfl, rfl⟩ | ⟨h58, h59, rfl, rfl⟩ | ⟨h60, rfl, rfl⟩
            ·
             have ih52 := t_eq h52
             have ih53 := t_eq h53
             have ih54 := t_eq h54
             show W _ _ _ _ _ _ _ _ _ _ _ _ 311 _ [(vi 1)]
             refine W.iload (pc := 311) at_311 rfl ?_
             refine W.icmpN (pc := 313) at_313 (n_ne (by decide)) ?_
             refine W.iconst (pc := 316) (1) at_316 (by decide) ?_
             refine W.goto (pc := 317) 321 at_317 (by decide) ?_
             exact W.ireturn (pc := 321) at_321 rfl (Or.inr (Or.inl rfl)) (nw_bool (by decide)) (by decide) rfl
            ·
             have ih55 := t_eq h55
             have ih56 := t_eq h56
             exact absurd h57 (Classical.not_not.mpr (y_eq (by have := a_i2b g17; have := a_i2b g10; have := q0; have := q1; have := q2; have := q5; have := a_i2b g15; have := a_i2b g8; have := a_i2b g16; have := a_i2b g9; omega)))
            ·
             have ih58 := t_eq h58
             exact absurd h59 (Classical.not_not.mpr (y_eq (by have := a_i2b g16; have := a_i2b g9; have := q0; have := q1; have := q2; have := q5; have := a_i2b g15; have := a_i2b g8; omega)))
            ·
             exact absurd h60 (Classical.not_not.mpr (y_eq (by have := a_i2b g15; have := a_i2b g8; have := q0; have := q1; have := q2; have := q5; omega)))
        ·
         have ih21 := f_eq h21
         show W _ _ _ _ _ _ _ _ _ _ _ _ 222 _ [(vr a36), (vr a35), (vr a35)]
         refine W.aload (pc := 222) 17 at_222 rfl rfl ?_
         refine W.iload (pc := 224) at_224 rfl ?_
         refine W.iload (pc := 226) at_226 rfl ?_
         refine W.callI (pc := 228) (as := [(vr a36), (vr a19), (vi z4), (vi z5)]) 1 [(vr a35)] at_228 rfl (w47 hw) (w48 hw) (w40 hw) (w49 hw) (c25_init hw hs (p1 := a35) (p2 := a36) (p3 := a19) (p4 := a20) (x1 := z4) (x2 := z5) (x3 := g15.toInt8.toInt32) (hx3 := (by have := a_i2b g15; have := q0; have := q1; have := q2; have := q5; omega)) (x4 := g16.toInt8.toInt32) (hx4 := (by have := a_i2b g16; have := q0; have := q1; have := q2; have := q5; omega)) (x5 := g17.toInt8.toInt32) (hx5 := (by have := a_i2b g17; have := q0; have := q1; have := q2; have := q5; omega))) (by decide) pd_Lcom_example_rochester_rochester_JdqlLexer_Kind_Ljava_lang_String_II_V rfl rfl rfl rfl (by decide) (fun v D' h => ?_)
         obtain ⟨rfl, rfl⟩ := h
         show W _ _ _ _ _ _ _ _ _ _ _ _ 231 _ [(vr a35)]
         refine W.astore (pc := 231) (ls' := #[iv z0, iv z1, iv z2, iv z3, iv z4, iv z5, iv g13, iv g14, iv g2, iv g5, iv g15, iv g16, iv g17, iv g8, iv g9, iv g10, iv g11, rv a19, rv a27, rv a35, uu, uu]) at_231 rfl rfl ?_
         refine W.iload (pc := 233) at_233 rfl ?_
         refine W.iload (pc := 235) at_235 rfl ?_
         refine W.icmpN (pc := 237) at_237 (n_ne (by have := q0; have := q1; have := q2; have := q5; omega)) ?_
         refine W.iload (pc := 240) at_240 rfl ?_
         refine W.iconst (pc := 242) (1) at_242 (by decide) ?_
         refine W.icmpN (pc := 243) at_243 (n_lt (by have := q1; have := q0; have := q2; have := q5; omega)) ?_
         refine W.iload (pc := 246) at_246 rfl ?_
         refine W.iload (pc := 248) at_248 rfl ?_
         refine W.icmp (pc := 250) 283 at_250 (by decide) (fun h61 => ?_) (fun h61 => ?_)
         ·
          have ih61 := t_ne h61
          refine W.iconst (pc := 283) (0) at_283 (by decide) ?_
          refine W.istore (pc := 284) (ls' := #[iv z0, iv z1, iv z2, iv z3, iv z4, iv z5, iv g13, iv g14, iv g2, iv g5, iv g15, iv g16, iv g17, iv g8, iv g9, iv g10, iv g11, rv a19, rv a27, rv a35, iv 0, uu]) at_284 rfl ?_
          refine W.iload (pc := 286) at_286 rfl ?_
          refine W.iconst (pc := 288) (5) at_288 (by decide) ?_
          refine W.icmpY (pc := 289) 301 at_289 (y_ne (by have := q5; have := q0; have := q1; have := q2; omega)) (by decide) ?_
          refine W.iconst (pc := 301) (0) at_301 (by decide) ?_
          refine W.istore (pc := 302) (ls' := #[iv z0, iv z1, iv z2, iv z3, iv z4, iv z5, iv g13, iv g14, iv g2, iv g5, iv g15, iv g16, iv g17, iv g8, iv g9, iv g10, iv g11, rv a19, rv a27, rv a35, iv 0, iv 0]) at_302 rfl ?_
          refine W.aload (pc := 304) 19 at_304 rfl rfl ?_
          refine W.aload (pc := 306) 18 at_306 rfl rfl ?_
          refine W.callV (pc := 308) (as := [(vr a27)]) 0 [] at_308 (w64 hw) (w65 hw) (w67 hw) (w67 hw) (w66 hw) (w40 hw) (w68 hw) (Hp.exa m0) (c26_isSymbol hw hs (p1 := a35) (p2 := a27) (p3 := a36) (p4 := a19) (p5 := a28) (p6 := a20) (x1 := z4) (x2 := z5) (x3 := g8.toInt8.toInt32) (hx3 := (by have := a_i2b g8; have := q0; have := q1; have := q2; have := q5; omega)) (x4 := g9.toInt8.toInt32) (hx4 := (by have := a_i2b g9; have := q0; have := q1; have := q2; have := q5; omega)) (x5 := g10.toInt8.toInt32) (hx5 := (by have := a_i2b g10; have := q0; have := q1; have := q2; have := q5; omega)) (x6 := g15.toInt8.toInt32) (hx6 := (by have := a_i2b g15; have := q0; have := q1; have := q2; have := q5; omega)) (x7 := g16.toInt8.toInt32) (hx7 := (by have := a_i2b g16; have := q0; have := q1; have := q2; have := q5; omega)) (x8 := g17.toInt8.toInt32) (hx8 := (by have := a_i2b g17; have := q0; have := q1; have := q2; have := q5; omega)) (mp1 := m0) (ne_p3_kSYMBOLZ := h20)) (by decide) pd_Ljava_lang_String__Z rfl rfl rfl rfl (by decide) (fun v D' h => ?_)
          obtain ⟨rfl, rfl⟩ := h
          show W _ _ _ _ _ _ _ _ _ _ _ _ 311 _ [(vi 0)]
          refine W.iload (pc := 311) at_311 rfl ?_
          refine W.icmpN (pc := 313) at_313 (n_ne (by decide)) ?_
          refine W.iconst (pc := 316) (1) at_316 (by decide) ?_
          refine W.goto (pc := 317) 321 at_317 (by decide) ?_
          exact W.ireturn (pc := 321) at_321 rfl (Or.inr (Or.inl rfl)) (nw_bool (by decide)) (by decide) rfl
         ·
          have ih61 := f_ne h61
          refine W.iload (pc := 253) at_253 rfl ?_
          refine W.iconst (pc := 255) (2) at_255 (by decide) ?_
          refine W.icmpN (pc := 256) at_256 (n_lt (by have := q2; have := q0; have := q1; have := q5; omega)) ?_
          refine W.iload (pc := 259) at_259 rfl ?_
          refine W.iload (pc := 261) at_261 rfl ?_
          refine W.icmp (pc := 263) 283 at_263 (by decide) (fun h62 => ?_) (fun h62 => ?_)
          ·
           have ih62 := t_ne h62
           refine W.iconst (pc := 283) (0) at_283 (by decide) ?_
           refine W.istore (pc := 284) (ls' := #[iv z0, iv z1, iv z2, iv z3, iv z4, iv z5, iv g13, iv g14, iv g2, iv g5, iv g15, iv g16, iv g17, iv g8, iv g9, iv g10, iv g11, rv a19, rv a27, rv a35, iv 0, uu]) at_284 rfl ?_
           refine W.iload (pc := 286) at_286 rfl ?_
           refine W.iconst (pc := 288) (5) at_288 (by decide) ?_
           refine W.icmpY (pc := 289) 301 at_289 (y_ne (by have := q5; have := q0; have := q1; have := q2; omega)) (by decide) ?_
           refine W.iconst (pc := 301) (0) at_301 (by decide) ?_
           refine W.istore (pc := 302) (ls' := #[iv z0, iv z1, iv z2, iv z3, iv z4, iv z5, iv g13, iv g14, iv g2, iv g5, iv g15, iv g16, iv g17, iv g8, iv g9, iv g10, iv g11, rv a19, rv a27, rv a35, iv 0, iv 0]) at_302 rfl ?_
           refine W.aload (pc := 304) 19 at_304 rfl rfl ?_
           refine W.aload (pc := 306) 18 at_306 rfl rfl ?_
           refine W.callV (pc := 308) (as := [(vr a27)]) 0 [] at_308 (w64 hw) (w65 hw) (w67 hw) (w67 hw) (w66 hw) (w40 hw) (w68 hw) (Hp.exa m0) (c26_isSymbol hw hs (p1 := a35) (p2 := a27) (p3 := a36) (p4 := a19) (p5 := a28) (p6 := a20) (x1 := z4) (x2 := z5) (x3 := g8.toInt8.toInt32) (hx3 := (by have := a_i2b g8; have := q0; have := q1; have := q2; have := q5; omega)) (x4 := g9.toInt8.toInt32) (hx4 := (by have := a_i2b g9; have := q0; have := q1; have := q2; have := q5; omega)) (x5 := g10.toInt8.toInt32) (hx5 := (by have := a_i2b g10; have := q0; have := q1; have := q2; have := q5; omega)) (x6 := g15.toInt8.toInt32) (hx6 := (by have := a_i2b g15; have := q0; have := q1; have := q2; have := q5; omega)) (x7 := g16.toInt8.toInt32) (hx7 := (by have := a_i2b g16; have := q0; have := q1; have := q2; have := q5; omega)) (x8 := g17.toInt8.toInt32) (hx8 := (by have := a_i2b g17; have := q0; have := q1; have := q2; have := q5; omega)) (mp1 := m0) (ne_p3_kSYMBOLZ := h20)) (by decide) pd_Ljava_lang_String__Z rfl rfl rfl rfl (by decide) (fun v D' h => ?_)
           obtain ⟨rfl, rfl⟩ := h
           show W _ _ _ _ _ _ _ _ _ _ _ _ 311 _ [(vi 0)]
           refine W.iload (pc := 311) at_311 rfl ?_
           refine W.icmpN (pc := 313) at_313 (n_ne (by decide)) ?_
           refine W.iconst (pc := 316) (1) at_316 (by decide) ?_
           refine W.goto (pc := 317) 321 at_317 (by decide) ?_
           exact W.ireturn (pc := 321) at_321 rfl (Or.inr (Or.inl rfl)) (nw_bool (by decide)) (by decide) rfl
          ·
           have ih62 := f_ne h62
           refine W.iload (pc := 266) at_266 rfl ?_
           refine W.iconst (pc := 268) (3) at_268 (by decide) ?_
           refine W.icmpN (pc := 269) at_269 (n_lt (by have := q3; have := q0; have := q1; have := q2; have := q5; omega)) ?_
           refine W.iload (pc := 272) at_272 rfl ?_
           refine W.iload (pc := 274) at_274 rfl ?_
           refine W.icmp (pc := 276) 283 at_276 (by decide) (fun h63 => ?_) (fun h63 => ?_)
           ·
            have ih63 := t_ne h63
            refine W.iconst (pc := 283) (0) at_283 (by decide) ?_
            refine W.istore (pc := 284) (ls' := #[iv z0, iv z1, iv z2, iv z3, iv z4, iv z5, iv g13, iv g14, iv g2, iv g5, iv g15, iv g16, iv g17, iv g8, iv g9, iv g10, iv g11, rv a19, rv a27, rv a35, iv 0, uu]) at_284 rfl ?_
            refine W.iload (pc := 286) at_286 rfl ?_
            refine W.iconst (pc := 288) (5) at_288 (by decide) ?_
            refine W.icmpY (pc := 289) 301 at_289 (y_ne (by have := q5; have := q0; have := q1; have := q2; omega)) (by decide) ?_
            refine W.iconst (pc := 301) (0) at_301 (by decide) ?_
            refine W.istore (pc := 302) (ls' := #[iv z0, iv z1, iv z2, iv z3, iv z4, iv z5, iv g13, iv g14, iv g2, iv g5, iv g15, iv g16, iv g17, iv g8, iv g9, iv g10, iv g11, rv a19, rv a27, rv a35, iv 0, iv 0]) at_302 rfl ?_
            refine W.aload (pc := 304) 19 at_304 rfl rfl ?_
            refine W.aload (pc := 306) 18 at_306 rfl rfl ?_
            refine W.callV (pc := 308) (as := [(vr a27)]) 0 [] at_308 (w64 hw) (w65 hw) (w67 hw) (w67 hw) (w66 hw) (w40 hw) (w68 hw) (Hp.exa m0) (c26_isSymbol hw hs (p1 := a35) (p2 := a27) (p3 := a36) (p4 := a19) (p5 := a28) (p6 := a20) (x1 := z4) (x2 := z5) (x3 := g8.toInt8.toInt32) (hx3 := (by have := a_i2b g8; have := q0; have := q1; have := q2; have := q5; omega)) (x4 := g9.toInt8.toInt32) (hx4 := (by have := a_i2b g9; have := q0; have := q1; have := q2; have := q5; omega)) (x5 := g10.toInt8.toInt32) (hx5 := (by have := a_i2b g10; have := q0; have := q1; have := q2; have := q5; omega)) (x6 := g15.toInt8.toInt32) (hx6 := (by have := a_i2b g15; have := q0; have := q1; have := q2; have := q5; omega)) (x7 := g16.toInt8.toInt32) (hx7 := (by have := a_i2b g16; have := q0; have := q1; have := q2; have := q5; omega)) (x8 := g17.toInt8.toInt32) (hx8 := (by have := a_i2b g17; have := q0; have := q1; have := q2; have := q5; omega)) (mp1 := m0) (ne_p3_kSYMBOLZ := h20)) (by decide) pd_Ljava_lang_String__Z rfl rfl rfl rfl (by decide) (fun v D' h => ?_)
            obtain ⟨rfl, rfl⟩ := h
            show W _ _ _ _ _ _ _ _ _ _ _ _ 311 _ [(vi 0)]
            refine W.iload (pc := 311) at_311 rfl ?_
            refine W.icmpN (pc := 313) at_313 (n_ne (by decide)) ?_
            refine W.iconst (pc := 316) (1) at_316 (by decide) ?_
            refine W.goto (pc := 317) 321 at_317 (by decide) ?_
            exact W.ireturn (pc := 321) at_321 rfl (Or.inr (Or.inl rfl)) (nw_bool (by decide)) (by decide) rfl
           ·
            have ih63 := f_ne h63
            refine W.iconst (pc := 279) (1) at_279 (by decide) ?_
            refine W.goto (pc := 280) 284 at_280 (by decide) ?_
            refine W.istore (pc := 284) (ls' := #[iv z0, iv z1, iv z2, iv z3, iv z4, iv z5, iv g13, iv g14, iv g2, iv g5, iv g15, iv g16, iv g17, iv g8, iv g9, iv g10, iv g11, rv a19, rv a27, rv a35, iv 1, uu]) at_284 rfl ?_
            refine W.iload (pc := 286) at_286 rfl ?_
            refine W.iconst (pc := 288) (5) at_288 (by decide) ?_
            refine W.icmpY (pc := 289) 301 at_289 (y_ne (by have := q5; have := q0; have := q1; have := q2; omega)) (by decide) ?_
            refine W.iconst (pc := 301) (0) at_301 (by decide) ?_
            refine W.istore (pc := 302) (ls' := #[iv z0, iv z1, iv z2, iv z3, iv z4, iv z5, iv g13, iv g14, iv g2, iv g5, iv g15, iv g16, iv g17, iv g8, iv g9, iv g10, iv g11, rv a19, rv a27, rv a35, iv 1, iv 0]) at_302 rfl ?_
            refine W.aload (pc := 304) 19 at_304 rfl rfl ?_
            refine W.aload (pc := 306) 18 at_306 rfl rfl ?_
            refine W.callV (pc := 308) (as := [(vr a27)]) 0 [] at_308 (w64 hw) (w65 hw) (w67 hw) (w67 hw) (w66 hw) (w40 hw) (w68 hw) (Hp.exa m0) (c26_isSymbol hw hs (p1 := a35) (p2 := a27) (p3 := a36) (p4 := a19) (p5 := a28) (p6 := a20) (x1 := z4) (x2 := z5) (x3 := g8.toInt8.toInt32) (hx3 := (by have := a_i2b g8; have := q0; have := q1; have := q2; have := q5; omega)) (x4 := g9.toInt8.toInt32) (hx4 := (by have := a_i2b g9; have := q0; have := q1; have := q2; have := q5; omega)) (x5 := g10.toInt8.toInt32) (hx5 := (by have := a_i2b g10; have := q0; have := q1; have := q2; have := q5; omega)) (x6 := g15.toInt8.toInt32) (hx6 := (by have := a_i2b g15; have := q0; have := q1; have := q2; have := q5; omega)) (x7 := g16.toInt8.toInt32) (hx7 := (by have := a_i2b g16; have := q0; have := q1; have := q2; have := q5; omega)) (x8 := g17.toInt8.toInt32) (hx8 := (by have := a_i2b g17; have := q0; have := q1; have := q2; have := q5; omega)) (mp1 := m0) (ne_p3_kSYMBOLZ := h20)) (by decide) pd_Ljava_lang_String__Z rfl rfl rfl rfl (by decide) (fun v D' h => ?_)
            obtain ⟨rfl, rfl⟩ := h
            show W _ _ _ _ _ _ _ _ _ _ _ _ 311 _ [(vi 0)]
            refine W.iload (pc := 311) at_311 rfl ?_
            refine W.icmpN (pc := 313) at_313 (n_ne (by decide)) ?_
            refine W.iconst (pc := 316) (1) at_316 (by decide) ?_
            refine W.goto (pc := 317) 321 at_317 (by decide) ?_
            exact W.ireturn (pc := 321) at_321 rfl (Or.inr (Or.inl rfl)) (nw_bool (by decide)) (by decide) rfl
       ·
        have ih13 := t_ne h13
        have ih14 := t_ne h14
        have ih15 := f_ne h15
        show W _ _ _ _ _ _ _ _ _ _ _ _ 211 _ [(vr a29)]
        refine W.astore (pc := 211) (ls' := #[iv z0, iv z1, iv z2, iv z3, iv z4, iv z5, iv g13, iv g14, iv g2, iv g5, iv g15, iv g16, iv g17, iv g8, iv g9, iv g10, iv g11, rv a19, rv a29, uu, uu, uu]) at_211 rfl rfl ?_
        refine W.new (pc := 213) at_213 (w38 hw) (w39 hw) (w40 hw) (laJdqlLexer_Token hw) (by decide) (by decide) (fun a45 => ?_)
        show W _ _ _ _ _ _ _ _ _ _ _ _ 216 _ [(vr a45)]
        refine W.dup (pc := 216) at_216 rfl ?_
        refine W.iload (pc := 217) at_217 rfl ?_
        refine W.callS (pc := 219) (as := [(vi g13)]) 2 [(vr a45), (vr a45)] at_219 (w41 hw) (w42 hw) (w3 hw) (w43 hw) (c19_kindOfm hw hs (x1 := g13) (hx1 := (by have := q0; have := q1; have := q2; omega))) (by decide) pd_I_Lcom_example_rochester_rochester_JdqlLexer_Kind_ rfl rfl rfl rfl (by decide) (fun v D' h => ?_)
        rcases h with ⟨h64, rfl, rfl⟩ | ⟨a46, h65, h66, rfl, rfl⟩
        ·
         have ih64 := t_eq h64
         show W _ _ _ _ _ _ _ _ _ _ _ _ 222 _ [(vr (kSYMBOL Z)), (vr a45), (vr a45)]
         refine W.aload (pc := 222) 17 at_222 rfl rfl ?_
         refine W.iload (pc := 224) at_224 rfl ?_
         refine W.iload (pc := 226) at_226 rfl ?_
         refine W.callI (pc := 228) (as := [(vr (kSYMBOL Z)), (vr a19), (vi z4), (vi z5)]) 1 [(vr a45)] at_228 rfl (w47 hw) (w48 hw) (w40 hw) (w49 hw) (c20_init hw hs (p1 := a45) (p2 := a19) (p3 := a20) (x1 := z4) (x2 := z5) (x3 := g15.toInt8.toInt32) (hx3 := (by have := a_i2b g15; have := q0; have := q1; have := q2; have := q5; omega)) (x4 := g16.toInt8.toInt32) (hx4 := (by have := a_i2b g16; have := q0; have := q1; have := q2; have := q5; omega)) (x5 := g17.toInt8.toInt32) (hx5 := (by have := a_i2b g17; have := q0; have := q1; have := q2; have := q5; omega))) (by decide) pd_Lcom_example_rochester_rochester_JdqlLexer_Kind_Ljava_lang_String_II_V rfl rfl rfl rfl (by decide) (fun v D' h => ?_)
         obtain ⟨rfl, rfl⟩ := h
         show W _ _ _ _ _ _ _ _ _ _ _ _ 231 _ [(vr a45)]
         refine W.astore (pc := 231) (ls' := #[iv z0, iv z1, iv z2, iv z3, iv z4, iv z5, iv g13, iv g14, iv g2, iv g5, iv g15, iv g16, iv g17, iv g8, iv g9, iv g10, iv g11, rv a19, rv a29, rv a45, uu, uu]) at_231 rfl rfl ?_
         refine W.iload (pc := 233) at_233 rfl ?_
         refine W.iload (pc := 235) at_235 rfl ?_
         refine W.icmpY (pc := 237) 283 at_237 (y_ne (by have := q0; have := q1; have := q2; have := q5; omega)) (by decide) ?_
         refine W.iconst (pc := 283) (0) at_283 (by decide) ?_
         refine W.istore (pc := 284) (ls' := #[iv z0, iv z1, iv z2, iv z3, iv z4, iv z5, iv g13, iv g14, iv g2, iv g5, iv g15, iv g16, iv g17, iv g8, iv g9, iv g10, iv g11, rv a19, rv a29, rv a45, iv 0, uu]) at_284 rfl ?_
         refine W.iload (pc := 286) at_286 rfl ?_
         refine W.iconst (pc := 288) (5) at_288 (by decide) ?_
         refine W.icmpN (pc := 289) at_289 (n_ne (by have := q5; have := q0; have := q1; have := q2; omega)) ?_
         refine W.iload (pc := 292) at_292 rfl ?_
         refine W.ifY (pc := 294) 301 at_294 (y_eq (by decide)) (by decide) ?_
         refine W.iconst (pc := 301) (0) at_301 (by decide) ?_
         refine W.istore (pc := 302) (ls' := #[iv z0, iv z1, iv z2, iv z3, iv z4, iv z5, iv g13, iv g14, iv g2, iv g5, iv g15, iv g16, iv g17, iv g8, iv g9, iv g10, iv g11, rv a19, rv a29, rv a45, iv 0, iv 0]) at_302 rfl ?_
         refine W.aload (pc := 304) 19 at_304 rfl rfl ?_
         refine W.aload (pc := 306) 18 at_306 rfl rfl ?_
         refine W.know (fun _ _ H => H.ne (i := 0) (j := 2) (by decide) rfl rfl (Or.inl rfl)) (fun ne47 => ?_)
         refine W.know (fun _ _ H => H.ne (i := 2) (j := 4) (by decide) rfl rfl (Or.inl rfl)) (fun ne48 => ?_)
         refine W.callV (pc := 308) (as := [(vr a29)]) 0 [] at_308 (w64 hw) (w65 hw) (w67 hw) (w67 hw) (w66 hw) (w40 hw) (w68 hw) (Hp.exa m0) (c27_isSymbol hw hs (p1 := a45) (p2 := a29) (p3 := a19) (p4 := a30) (p5 := a20) (x1 := z4) (x2 := z5) (x3 := g8.toInt8.toInt32) (hx3 := (by have := a_i2b g8; have := q0; have := q1; have := q2; have := q5; omega)) (x4 := g9.toInt8.toInt32) (hx4 := (by have := a_i2b g9; have := q0; have := q1; have := q2; have := q5; omega)) (x5 := g15.toInt8.toInt32) (hx5 := (by have := a_i2b g15; have := q0; have := q1; have := q2; have := q5; omega)) (x6 := g16.toInt8.toInt32) (hx6 := (by have := a_i2b g16; have := q0; have := q1; have := q2; have := q5; omega)) (x7 := g17.toInt8.toInt32) (hx7 := (by have := a_i2b g17; have := q0; have := q1; have := q2; have := q5; omega)) (mp1 := m0) (mp3 := m4) (mp2 := m2) (mp5 := m3) (mp4 := m1) (ne_p1_p2 := ne47) (ne_p2_p3 := ne48)) (by decide) pd_Ljava_lang_String__Z rfl rfl rfl rfl (by decide) (fun v D' h => ?_)
         obtain ⟨rfl, rfl⟩ := h
         show W _ _ _ _ _ _ _ _ _ _ _ _ 311 _ [(vi 0)]
         refine W.iload (pc := 311) at_311 rfl ?_
         refine W.icmpN (pc := 313) at_313 (n_ne (by decide)) ?_
         refine W.iconst (pc := 316) (1) at_316 (by decide) ?_
         refine W.goto (pc := 317) 321 at_317 (by decide) ?_
         exact W.ireturn (pc := 321) at_321 rfl (Or.inr (Or.inl rfl)) (nw_bool (by decide)) (by decide) rfl
        ·
         have ih66 := f_eq h66
         show W _ _ _ _ _ _ _ _ _ _ _ _ 222 _ [(vr a46), (vr a45), (vr a45)]
         refine W.aload (pc := 222) 17 at_222 rfl rfl ?_
         refine W.iload (pc := 224) at_224 rfl ?_
         refine W.iload (pc := 226) at_226 rfl ?_
         refine W.callI (pc := 228) (as := [(vr a46), (vr a19), (vi z4), (vi z5)]) 1 [(vr a45)] at_228 rfl (w47 hw) (w48 hw) (w40 hw) (w49 hw) (c25_init hw hs (p1 := a45) (p2 := a46) (p3 := a19) (p4 := a20) (x1 := z4) (x2 := z5) (x3 := g15.toInt8.toInt32) (hx3 := (by have := a_i2b g15; have := q0; have := q1; have := q2; have := q5; omega)) (x4 := g16.toInt8.toInt32) (hx4 := (by have := a_i2b g16; have := q0; have := q1; have := q2; have := q5; omega)) (x5 := g17.toInt8.toInt32) (hx5 := (by have := a_i2b g17; have := q0; have := q1; have := q2; have := q5; omega))) (by decide) pd_Lcom_example_rochester_rochester_JdqlLexer_Kind_Ljava_lang_String_II_V rfl rfl rfl rfl (by decide) (fun v D' h => ?_)
         obtain ⟨rfl, rfl⟩ := h
         show W _ _ _ _ _ _ _ _ _ _ _ _ 231 _ [(vr a45)]
         refine W.astore (pc := 231) (ls' := #[iv z0, iv z1, iv z2, iv z3, iv z4, iv z5, iv g13, iv g14, iv g2, iv g5, iv g15, iv g16, iv g17, iv g8, iv g9, iv g10, iv g11, rv a19, rv a29, rv a45, uu, uu]) at_231 rfl rfl ?_
         refine W.iload (pc := 233) at_233 rfl ?_
         refine W.iload (pc := 235) at_235 rfl ?_
         refine W.icmpY (pc := 237) 283 at_237 (y_ne (by have := q0; have := q1; have := q2; have := q5; omega)) (by decide) ?_
         refine W.iconst (pc := 283) (0) at_283 (by decide) ?_
         refine W.istore (pc := 284) (ls' := #[iv z0, iv z1, iv z2, iv z3, iv z4, iv z5, iv g13, iv g14, iv g2, iv g5, iv g15, iv g16, iv g17, iv g8, iv g9, iv g10, iv g11, rv a19, rv a29, rv a45, iv 0, uu]) at_284 rfl ?_
         refine W.iload (pc := 286) at_286 rfl ?_
         refine W.iconst (pc := 288) (5) at_288 (by decide) ?_
         refine W.icmpY (pc := 289) 301 at_289 (y_ne (by have := q5; have := q0; have := q1; have := q2; omega)) (by decide) ?_
         refine W.iconst (pc := 301) (0) at_301 (by decide) ?_
         refine W.istore (pc := 302) (ls' := #[iv z0, iv z1, iv z2, iv z3, iv z4, iv z5, iv g13, iv g14, iv g2, iv g5, iv g15, iv g16, iv g17, iv g8, iv g9, iv g10, iv g11, rv a19, rv a29, rv a45, iv 0, iv 0]) at_302 rfl ?_
         refine W.aload (pc := 304) 19 at_304 rfl rfl ?_
         refine W.aload (pc := 306) 18 at_306 rfl rfl ?_
         refine W.callV (pc := 308) (as := [(vr a29)]) 0 [] at_308 (w64 hw) (w65 hw) (w67 hw) (w67 hw) (w66 hw) (w40 hw) (w68 hw) (Hp.exa m0) (c30_isSymbol hw hs (p1 := a45) (p2 := a29) (p3 := a46) (p4 := a19) (p5 := a30) (p6 := a20) (x1 := z4) (x2 := z5) (x3 := g8.toInt8.toInt32) (hx3 := (by have := a_i2b g8; have := q0; have := q1; have := q2; have := q5; omega)) (x4 := g9.toInt8.toInt32) (hx4 := (by have := a_i2b g9; have := q0; have := q1; have := q2; have := q5; omega)) (x5 := g15.toInt8.toInt32) (hx5 := (by have := a_i2b g15; have := q0; have := q1; have := q2; have := q5; omega)) (x6 := g16.toInt8.toInt32) (hx6 := (by have := a_i2b g16; have := q0; have := q1; have := q2; have := q5; omega)) (x7 := g17.toInt8.toInt32) (hx7 := (by have := a_i2b g17; have := q0; have := q1; have := q2; have := q5; omega)) (mp1 := m0) (ne_p3_kSYMBOLZ := h65)) (by decide) pd_Ljava_lang_String__Z rfl rfl rfl rfl (by decide) (fun v D' h => ?_)
         obtain ⟨rfl, rfl⟩ := h
         show W _ _ _ _ _ _ _ _ _ _ _ _ 311 _ [(vi 0)]
         refine W.iload (pc := 311) at_311 rfl ?_
         refine W.icmpN (pc := 313) at_313 (n_ne (by decide)) ?_
         refine W.iconst (pc := 316) (1) at_316 (by decide) ?_
         refine W.goto (pc := 317) 321 at_317 (by decide) ?_
         exact W.ireturn (pc := 321) at_321 rfl (Or.inr (Or.inl rfl)) (nw_bool (by decide)) (by decide) rfl
       ·
        have ih16 := t_ne h16
        have ih17 := f_ne h17
        show W _ _ _ _ _ _ _ _ _ _ _ _ 211 _ [(vr a31)]
        refine W.astore (pc := 211) (ls' := #[iv z0, iv z1, iv z2, iv z3, iv z4, iv z5, iv g13, iv g14, iv g2, iv g5, iv g15, iv g16, iv g17, iv g8, iv g9, iv g10, iv g11, rv a19, rv a31, uu, uu, uu]) at_211 rfl rfl ?_
        refine W.new (pc := 213) at_213 (w38 hw) (w39 hw) (w40 hw) (laJdqlLexer_Token hw) (by decide) (by decide) (fun a49 => ?_)
        show W _ _ _ _ _ _ _ _ _ _ _ _ 216 _ [(vr a49)]
        refine W.dup (pc := 216) at_216 rfl ?_
        refine W.iload (pc := 217) at_217 rfl ?_
        refine W.callS (pc := 219) (as := [(vi g13)]) 2 [(vr a49), (vr a49)] at_219 (w41 hw) (w42 hw) (w3 hw) (w43 hw) (c19_kindOfm hw hs (x1 := g13) (hx1 := (by have := q0; have := q1; have := q2; omega))) (by decide) pd_I_Lcom_example_rochester_rochester_JdqlLexer_Kind_ rfl rfl rfl rfl (by decide) (fun v D' h => ?_)
        rcases h with ⟨h67, rfl, rfl⟩ | ⟨a50, h68, h69, rfl, rfl⟩
        ·
         have ih67 := t_eq h67
         show W _ _ _ _ _ _ _ _ _ _ _ _ 222 _ [(vr (kSYMBOL Z)), (vr a49), (vr a49)]
         refine W.aload (pc := 222) 17 at_222 rfl rfl ?_
         refine W.iload (pc := 224) at_224 rfl ?_
         refine W.iload (pc := 226) at_226 rfl ?_
         refine W.callI (pc := 228) (as := [(vr (kSYMBOL Z)), (vr a19), (vi z4), (vi z5)]) 1 [(vr a49)] at_228 rfl (w47 hw) (w48 hw) (w40 hw) (w49 hw) (c20_init hw hs (p1 := a49) (p2 := a19) (p3 := a20) (x1 := z4) (x2 := z5) (x3 := g15.toInt8.toInt32) (hx3 := (by have := a_i2b g15; have := q0; have := q1; have := q2; have := q5; omega)) (x4 := g16.toInt8.toInt32) (hx4 := (by have := a_i2b g16; have := q0; have := q1; have := q2; have := q5; omega)) (x5 := g17.toInt8.toInt32) (hx5 := (by have := a_i2b g17; have := q0; have := q1; have := q2; have := q5; omega))) (by decide) pd_Lcom_example_rochester_rochester_JdqlLexer_Kind_Ljava_lang_String_II_V rfl rfl rfl rfl (by decide) (fun v D' h => ?_)
         obtain ⟨rfl, rfl⟩ := h
         show W _ _ _ _ _ _ _ _ _ _ _ _ 231 _ [(vr a49)]
         refine W.astore (pc := 231) (ls' := #[iv z0, iv z1, iv z2, iv z3, iv z4, iv z5, iv g13, iv g14, iv g2, iv g5, iv g15, iv g16, iv g17, iv g8, iv g9, iv g10, iv g11, rv a19, rv a31, rv a49, uu, uu]) at_231 rfl rfl ?_
         refine W.iload (pc := 233) at_233 rfl ?_
         refine W.iload (pc := 235) at_235 rfl ?_
         refine W.icmpY (pc := 237) 283 at_237 (y_ne (by have := q0; have := q1; have := q2; have := q5; omega)) (by decide) ?_
         refine W.iconst (pc := 283) (0) at_283 (by decide) ?_
         refine W.istore (pc := 284) (ls' := #[iv z0, iv z1, iv z2, iv z3, iv z4, iv z5, iv g13, iv g14, iv g2, iv g5, iv g15, iv g16, iv g17, iv g8, iv g9, iv g10, iv g11, rv a19, rv a31, rv a49, iv 0, uu]) at_284 rfl ?_
         refine W.iload (pc := 286) at_286 rfl ?_
         refine W.iconst (pc := 288) (5) at_288 (by decide) ?_
         refine W.icmpN (pc := 289) at_289 (n_ne (by have := q5; have := q0; have := q1; have := q2; omega)) ?_
         refine W.iload (pc := 292) at_292 rfl ?_
         refine W.ifY (pc := 294) 301 at_294 (y_eq (by decide)) (by decide) ?_
         refine W.iconst (pc := 301) (0) at_301 (by decide) ?_
         refine W.istore (pc := 302) (ls' := #[iv z0, iv z1, iv z2, iv z3, iv z4, iv z5, iv g13, iv g14, iv g2, iv g5, iv g15, iv g16, iv g17, iv g8, iv g9, iv g10, iv g11, rv a19, rv a31, rv a49, iv 0, iv 0]) at_302 rfl ?_
         refine W.aload (pc := 304) 19 at_304 rfl rfl ?_
         refine W.aload (pc := 306) 18 at_306 rfl rfl ?_
         refine W.know (fun _ _ H => H.ne (i := 0) (j := 2) (by decide) rfl rfl (Or.inl rfl)) (fun ne51 => ?_)
         refine W.know (fun _ _ H => H.ne (i := 2) (j := 4) (by decide) rfl rfl (Or.inl rfl)) (fun ne52 => ?_)
         refine W.callV (pc := 308) (as := [(vr a31)]) 0 [] at_308 (w64 hw) (w65 hw) (w67 hw) (w67 hw) (w66 hw) (w40 hw) (w68 hw) (Hp.exa m0) (c31_isSymbol hw hs (p1 := a49) (p2 := a31) (p3 := a19) (p4 := a32) (p5 := a20) (x1 := z4) (x2 := z5) (x3 := g8.toInt8.toInt32) (hx3 := (by have := a_i2b g8; have := q0; have := q1; have := q2; have := q5; omega)) (x4 := g15.toInt8.toInt32) (hx4 := (by have := a_i2b g15; have := q0; have := q1; have := q2; have := q5; omega)) (x5 := g16.toInt8.toInt32) (hx5 := (by have := a_i2b g16; have := q0; have := q1; have := q2; have := q5; omega)) (x6 := g17.toInt8.toInt32) (hx6 := (by have := a_i2b g17; have := q0; have := q1; have := q2; have := q5; omega)) (mp1 := m0) (mp3 := m4) (mp2 := m2) (mp5 := m3) (mp4 := m1) (ne_p1_p2 := ne51) (ne_p2_p3 := ne52)) (by decide) pd_Ljava_lang_String__Z rfl rfl rfl rfl (by decide) (fun v D' h => ?_)
         obtain ⟨rfl, rfl⟩ := h
         show W _ _ _ _ _ _ _ _ _ _ _ _ 311 _ [(vi 0)]
         refine W.iload (pc := 311) at_311 rfl ?_
         refine W.icmpN (pc := 313) at_313 (n_ne (by decide)) ?_
         refine W.iconst (pc := 316) (1) at_316 (by decide) ?_
         refine W.goto (pc := 317) 321 at_317 (by decide) ?_
         exact W.ireturn (pc := 321) at_321 rfl (Or.inr (Or.inl rfl)) (nw_bool (by decide)) (by decide) rfl
        ·
         have ih69 := f_eq h69
         show W _ _ _ _ _ _ _ _ _ _ _ _ 222 _ [(vr a50), (vr a49), (vr a49)]
         refine W.aload (pc := 222) 17 at_222 rfl rfl ?_
         refine W.iload (pc := 224) at_224 rfl ?_
         refine W.iload (pc := 226) at_226 rfl ?_
         refine W.callI (pc := 228) (as := [(vr a50), (vr a19), (vi z4), (vi z5)]) 1 [(vr a49)] at_228 rfl (w47 hw) (w48 hw) (w40 hw) (w49 hw) (c25_init hw hs (p1 := a49) (p2 := a50) (p3 := a19) (p4 := a20) (x1 := z4) (x2 := z5) (x3 := g15.toInt8.toInt32) (hx3 := (by have := a_i2b g15; have := q0; have := q1; have := q2; have := q5; omega)) (x4 := g16.toInt8.toInt32) (hx4 := (by have := a_i2b g16; have := q0; have := q1; have := q2; have := q5; omega)) (x5 := g17.toInt8.toInt32) (hx5 := (by have := a_i2b g17; have := q0; have := q1; have := q2; have := q5; omega))) (by decide) pd_Lcom_example_rochester_rochester_JdqlLexer_Kind_Ljava_lang_String_II_V rfl rfl rfl rfl (by decide) (fun v D' h => ?_)
         obtain ⟨rfl, rfl⟩ := h
         show W _ _ _ _ _ _ _ _ _ _ _ _ 231 _ [(vr a49)]
         refine W.astore (pc := 231) (ls' := #[iv z0, iv z1, iv z2, iv z3, iv z4, iv z5, iv g13, iv g14, iv g2, iv g5, iv g15, iv g16, iv g17, iv g8, iv g9, iv g10, iv g11, rv a19, rv a31, rv a49, uu, uu]) at_231 rfl rfl ?_
         refine W.iload (pc := 233) at_233 rfl ?_
         refine W.iload (pc := 235) at_235 rfl ?_
         refine W.icmpY (pc := 237) 283 at_237 (y_ne (by have := q0; have := q1; have := q2; have := q5; omega)) (by decide) ?_
         refine W.iconst (pc := 283) (0) at_283 (by decide) ?_
         refine W.istore (pc := 284) (ls' := #[iv z0, iv z1, iv z2, iv z3, iv z4, iv z5, iv g13, iv g14, iv g2, iv g5, iv g15, iv g16, iv g17, iv g8, iv g9, iv g10, iv g11, rv a19, rv a31, rv a49, iv 0, uu]) at_284 rfl ?_
         refine W.iload (pc := 286) at_286 rfl ?_
         refine W.iconst (pc := 288) (5) at_288 (by decide) ?_
         refine W.icmpY (pc := 289) 301 at_289 (y_ne (by have := q5; have := q0; have := q1; have := q2; omega)) (by decide) ?_
         refine W.iconst (pc := 301) (0) at_301 (by decide) ?_
         refine W.istore (pc := 302) (ls' := #[iv z0, iv z1, iv z2, iv z3, iv z4, iv z5, iv g13, iv g14, iv g2, iv g5, iv g15, iv g16, iv g17, iv g8, iv g9, iv g10, iv g11, rv a19, rv a31, rv a49, iv 0, iv 0]) at_302 rfl ?_
         refine W.aload (pc := 304) 19 at_304 rfl rfl ?_
         refine W.aload (pc := 306) 18 at_306 rfl rfl ?_
         refine W.callV (pc := 308) (as := [(vr a31)]) 0 [] at_308 (w64 hw) (w65 hw) (w67 hw) (w67 hw) (w66 hw) (w40 hw) (w68 hw) (Hp.exa m0) (c34_isSymbol hw hs (p1 := a49) (p2 := a31) (p3 := a50) (p4 := a19) (p5 := a32) (p6 := a20) (x1 := z4) (x2 := z5) (x3 := g8.toInt8.toInt32) (hx3 := (by have := a_i2b g8; have := q0; have := q1; have := q2; have := q5; omega)) (x4 := g15.toInt8.toInt32) (hx4 := (by have := a_i2b g15; have := q0; have := q1; have := q2; have := q5; omega)) (x5 := g16.toInt8.toInt32) (hx5 := (by have := a_i2b g16; have := q0; have := q1; have := q2; have := q5; omega)) (x6 := g17.toInt8.toInt32) (hx6 := (by have := a_i2b g17; have := q0; have := q1; have := q2; have := q5; omega)) (mp1 := m0) (ne_p3_kSYMBOLZ := h68)) (by decide) pd_Ljava_lang_String__Z rfl rfl rfl rfl (by decide) (fun v D' h => ?_)
         obtain ⟨rfl, rfl⟩ := h
         show W _ _ _ _ _ _ _ _ _ _ _ _ 311 _ [(vi 0)]
         refine W.iload (pc := 311) at_311 rfl ?_
         refine W.icmpN (pc := 313) at_313 (n_ne (by decide)) ?_
         refine W.iconst (pc := 316) (1) at_316 (by decide) ?_
         refine W.goto (pc := 317) 321 at_317 (by decide) ?_
         exact W.ireturn (pc := 321) at_321 rfl (Or.inr (Or.inl rfl)) (nw_bool (by decide)) (by decide) rfl
       ·
        have ih18 := f_ne h18
        show W _ _ _ _ _ _ _ _ _ _ _ _ 211 _ [(vr a33)]
        refine W.astore (pc := 211) (ls' := #[iv z0, iv z1, iv z2, iv z3, iv z4, iv z5, iv g13, iv g14, iv g2, iv g5, iv g15, iv g16, iv g17, iv g8, iv g9, iv g10, iv g11, rv a19, rv a33, uu, uu, uu]) at_211 rfl rfl ?_
        refine W.new (pc := 213) at_213 (w38 hw) (w39 hw) (w40 hw) (laJdqlLexer_Token hw) (by decide) (by decide) (fun a53 => ?_)
        show W _ _ _ _ _ _ _ _ _ _ _ _ 216 _ [(vr a53)]
        refine W.dup (pc := 216) at_216 rfl ?_
        refine W.iload (pc := 217) at_217 rfl ?_
        refine W.callS (pc := 219) (as := [(vi g13)]) 2 [(vr a53), (vr a53)] at_219 (w41 hw) (w42 hw) (w3 hw) (w43 hw) (c19_kindOfm hw hs (x1 := g13) (hx1 := (by have := q0; have := q1; have := q2; omega))) (by decide) pd_I_Lcom_example_rochester_rochester_JdqlLexer_Kind_ rfl rfl rfl rfl (by decide) (fun v D' h => ?_)
        rcases h with ⟨h70, rfl, rfl⟩ | ⟨a54, h71, h72, rfl, rfl⟩
        ·
         have ih70 := t_eq h70
         show W _ _ _ _ _ _ _ _ _ _ _ _ 222 _ [(vr (kSYMBOL Z)), (vr a53), (vr a53)]
         refine W.aload (pc := 222) 17 at_222 rfl rfl ?_
         refine W.iload (pc := 224) at_224 rfl ?_
         refine W.iload (pc := 226) at_226 rfl ?_
         refine W.callI (pc := 228) (as := [(vr (kSYMBOL Z)), (vr a19), (vi z4), (vi z5)]) 1 [(vr a53)] at_228 rfl (w47 hw) (w48 hw) (w40 hw) (w49 hw) (c20_init hw hs (p1 := a53) (p2 := a19) (p3 := a20) (x1 := z4) (x2 := z5) (x3 := g15.toInt8.toInt32) (hx3 := (by have := a_i2b g15; have := q0; have := q1; have := q2; have := q5; omega)) (x4 := g16.toInt8.toInt32) (hx4 := (by have := a_i2b g16; have := q0; have := q1; have := q2; have := q5; omega)) (x5 := g17.toInt8.toInt32) (hx5 := (by have := a_i2b g17; have := q0; have := q1; have := q2; have := q5; omega))) (by decide) pd_Lcom_example_rochester_rochester_JdqlLexer_Kind_Ljava_lang_String_II_V rfl rfl rfl rfl (by decide) (fun v D' h => ?_)
         obtain ⟨rfl, rfl⟩ := h
         show W _ _ _ _ _ _ _ _ _ _ _ _ 231 _ [(vr a53)]
         refine W.astore (pc := 231) (ls' := #[iv z0, iv z1, iv z2, iv z3, iv z4, iv z5, iv g13, iv g14, iv g2, iv g5, iv g15, iv g16, iv g17, iv g8, iv g9, iv g10, iv g11, rv a19, rv a33, rv a53, uu, uu]) at_231 rfl rfl ?_
         refine W.iload (pc := 233) at_233 rfl ?_
         refine W.iload (pc := 235) at_235 rfl ?_
         refine W.icmpY (pc := 237) 283 at_237 (y_ne (by have := q0; have := q1; have := q2; have := q5; omega)) (by decide) ?_
         refine W.iconst (pc := 283) (0) at_283 (by decide) ?_
         refine W.istore (pc := 284) (ls' := #[iv z0, iv z1, iv z2, iv z3, iv z4, iv z5, iv g13, iv g14, iv g2, iv g5, iv g15, iv g16, iv g17, iv g8, iv g9, iv g10, iv g11, rv a19, rv a33, rv a53, iv 0, uu]) at_284 rfl ?_
         refine W.iload (pc := 286) at_286 rfl ?_
         refine W.iconst (pc := 288) (5) at_288 (by decide) ?_
         refine W.icmpN (pc := 289) at_289 (n_ne (by have := q5; have := q0; have := q1; have := q2; omega)) ?_
         refine W.iload (pc := 292) at_292 rfl ?_
         refine W.ifY (pc := 294) 301 at_294 (y_eq (by decide)) (by decide) ?_
         refine W.iconst (pc := 301) (0) at_301 (by decide) ?_
         refine W.istore (pc := 302) (ls' := #[iv z0, iv z1, iv z2, iv z3, iv z4, iv z5, iv g13, iv g14, iv g2, iv g5, iv g15, iv g16, iv g17, iv g8, iv g9, iv g10, iv g11, rv a19, rv a33, rv a53, iv 0, iv 0]) at_302 rfl ?_
         refine W.aload (pc := 304) 19 at_304 rfl rfl ?_
         refine W.aload (pc := 306) 18 at_306 rfl rfl ?_
         refine W.know (fun _ _ H => H.ne (i := 0) (j := 2) (by decide) rfl rfl (Or.inl rfl)) (fun ne55 => ?_)
         refine W.know (fun _ _ H => H.ne (i := 2) (j := 4) (by decide) rfl rfl (Or.inl rfl)) (fun ne56 => ?_)
         refine W.callV (pc := 308) (as := [(vr a33)]) 0 [] at_308 (w64 hw) (w65 hw) (w67 hw) (w67 hw) (w66 hw) (w40 hw) (w68 hw) (Hp.exa m0) (c35_isSymbol hw hs (p1 := a53) (p2 := a33) (p3 := a19) (p4 := a34) (p5 := a20) (x1 := z4) (x2 := z5) (x3 := g15.toInt8.toInt32) (hx3 := (by have := a_i2b g15; have := q0; have := q1; have := q2; have := q5; omega)) (x4 := g16.toInt8.toInt32) (hx4 := (by have := a_i2b g16; have := q0; have := q1; have := q2; have := q5; omega)) (x5 := g17.toInt8.toInt32) (hx5 := (by have := a_i2b g17; have := q0; have := q1; have := q2; have := q5; omega)) (mp1 := m0) (mp3 := m4) (mp2 := m2) (mp5 := m3) (mp4 := m1) (ne_p1_p2 := ne55) (ne_p2_p3 := ne56)) (by decide) pd_Ljava_lang_String__Z rfl rfl rfl rfl (by decide) (fun v D' h => ?_)
         obtain ⟨rfl, rfl⟩ := h
         show W _ _ _ _ _ _ _ _ _ _ _ _ 311 _ [(vi 0)]
         refine W.iload (pc := 311) at_311 rfl ?_
         refine W.icmpN (pc := 313) at_313 (n_ne (by decide)) ?_
         refine W.iconst (pc := 316) (1) at_316 (by decide) ?_
         refine W.goto (pc := 317) 321 at_317 (by decide) ?_
         exact W.ireturn (pc := 321) at_321 rfl (Or.inr (Or.inl rfl)) (nw_bool (by decide)) (by decide) rfl
        ·
         have ih72 := f_eq h72
         show W _ _ _ _ _ _ _ _ _ _ _ _ 222 _ [(vr a54), (vr a53), (vr a53)]
         refine W.aload (pc := 222) 17 at_222 rfl rfl ?_
         refine W.iload (pc := 224) at_224 rfl ?_
         refine W.iload (pc := 226) at_226 rfl ?_
         refine W.callI (pc := 228) (as := [(vr a54), (vr a19), (vi z4), (vi z5)]) 1 [(vr a53)] at_228 rfl (w47 hw) (w48 hw) (w40 hw) (w49 hw) (c25_init hw hs (p1 := a53) (p2 := a54) (p3 := a19) (p4 := a20) (x1 := z4) (x2 := z5) (x3 := g15.toInt8.toInt32) (hx3 := (by have := a_i2b g15; have := q0; have := q1; have := q2; have := q5; omega)) (x4 := g16.toInt8.toInt32) (hx4 := (by have := a_i2b g16; have := q0; have := q1; have := q2; have := q5; omega)) (x5 := g17.toInt8.toInt32) (hx5 := (by have := a_i2b g17; have := q0; have := q1; have := q2; have := q5; omega))) (by decide) pd_Lcom_example_rochester_rochester_JdqlLexer_Kind_Ljava_lang_String_II_V rfl rfl rfl rfl (by decide) (fun v D' h => ?_)
         obtain ⟨rfl, rfl⟩ := h
         show W _ _ _ _ _ _ _ _ _ _ _ _ 231 _ [(vr a53)]
         refine W.astore (pc := 231) (ls' := #[iv z0, iv z1, iv z2, iv z3, iv z4, iv z5, iv g13, iv g14, iv g2, iv g5, iv g15, iv g16, iv g17, iv g8, iv g9, iv g10, iv g11, rv a19, rv a33, rv a53, uu, uu]) at_231 rfl rfl ?_
         refine W.iload (pc := 233) at_233 rfl ?_
         refine W.iload (pc := 235) at_235 rfl ?_
         refine W.icmpY (pc := 237) 283 at_237 (y_ne (by have := q0; have := q1; have := q2; have := q5; omega)) (by decide) ?_
         refine W.iconst (pc := 283) (0) at_283 (by decide) ?_
         refine W.istore (pc := 284) (ls' := #[iv z0, iv z1, iv z2, iv z3, iv z4, iv z5, iv g13, iv g14, iv g2, iv g5, iv g15, iv g16, iv g17, iv g8, iv g9, iv g10, iv g11, rv a19, rv a33, rv a53, iv 0, uu]) at_284 rfl ?_
         refine W.iload (pc := 286) at_286 rfl ?_
         refine W.iconst (pc := 288) (5) at_288 (by decide) ?_
         refine W.icmpY (pc := 289) 301 at_289 (y_ne (by have := q5; have := q0; have := q1; have := q2; omega)) (by decide) ?_
         refine W.iconst (pc := 301) (0) at_301 (by decide) ?_
         refine W.istore (pc := 302) (ls' := #[iv z0, iv z1, iv z2, iv z3, iv z4, iv z5, iv g13, iv g14, iv g2, iv g5, iv g15, iv g16, iv g17, iv g8, iv g9, iv g10, iv g11, rv a19, rv a33, rv a53, iv 0, iv 0]) at_302 rfl ?_
         refine W.aload (pc := 304) 19 at_304 rfl rfl ?_
         refine W.aload (pc := 306) 18 at_306 rfl rfl ?_
         refine W.callV (pc := 308) (as := [(vr a33)]) 0 [] at_308 (w64 hw) (w65 hw) (w67 hw) (w67 hw) (w66 hw) (w40 hw) (w68 hw) (Hp.exa m0) (c38_isSymbol hw hs (p1 := a53) (p2 := a33) (p3 := a54) (p4 := a19) (p5 := a34) (p6 := a20) (x1 := z4) (x2 := z5) (x3 := g15.toInt8.toInt32) (hx3 := (by have := a_i2b g15; have := q0; have := q1; have := q2; have := q5; omega)) (x4 := g16.toInt8.toInt32) (hx4 := (by have := a_i2b g16; have := q0; have := q1; have := q2; have := q5; omega)) (x5 := g17.toInt8.toInt32) (hx5 := (by have := a_i2b g17; have := q0; have := q1; have := q2; have := q5; omega)) (mp1 := m0) (ne_p3_kSYMBOLZ := h71)) (by decide) pd_Ljava_lang_String__Z rfl rfl rfl rfl (by decide) (fun v D' h => ?_)
         obtain ⟨rfl, rfl⟩ := h
         show W _ _ _ _ _ _ _ _ _ _ _ _ 311 _ [(vi 0)]
         refine W.iload (pc := 311) at_311 rfl ?_
         refine W.icmpN (pc := 313) at_313 (n_ne (by decide)) ?_
         refine W.iconst (pc := 316) (1) at_316 (by decide) ?_
         refine W.goto (pc := 317) 321 at_317 (by decide) ?_
         exact W.ireturn (pc := 321) at_321 rfl (Or.inr (Or.inl rfl)) (nw_bool (by decide)) (by decide) rfl
      ·
       have ih4 := t_ne h4
       have ih5 := t_ne h5
       have ih6 := f_ne h6
       show W _ _ _ _ _ _ _ _ _ _ _ _ 198 _ [(vr a21)]
       refine W.astore (pc := 198) (ls' := #[iv z0, iv z1, iv z2, iv z3, iv z4, iv z5, iv g13, iv g14, iv g2, iv g5, iv g15, iv g16, iv g17, iv g8, iv g9, iv g10, iv g11, rv a21, uu, uu, uu, uu]) at_198 rfl rfl ?_
       refine W.iload (pc := 200) at_200 rfl ?_
       refine W.iload (pc := 202) at_202 rfl ?_
       refine W.iload (pc := 204) at_204 rfl ?_
       refine W.iload (pc := 206) at_206 rfl ?_
       refine W.callS (pc := 208) (as := [(vi g11), (vi g8), (vi g9), (vi g10)]) 0 [] at_208 (w1 hw) (w2 hw) (w3 hw) (w4 hw) (c1_mk hw hs (x1 := g11) (hx1 := (by have := q0; have := q1; have := q2; omega)) (x2 := g8) (hx2 := hg8) (x3 := g9) (hx3 := hg9) (x4 := g10) (hx4 := hg10)) (by decide) pd_ICCC_Ljava_lang_String_ rfl rfl rfl rfl (by decide) (fun v D' h => ?_)
       rcases h with ⟨a57, a58, h73, h74, h75, rfl, rfl⟩ | ⟨a59, a60, h76, h77, h78, rfl, rfl⟩ | ⟨a61, a62, h79, h80, rfl, rfl⟩ | ⟨a63, a64, h81, rfl, rfl⟩
       ·
        have ih73 := t_ne h73
        have ih74 := t_ne h74
        have ih75 := t_ne h75
        show W _ _ _ _ _ _ _ _ _ _ _ _ 211 _ [(vr a57)]
        refine W.astore (pc := 211) (ls' := #[iv z0, iv z1, iv z2, iv z3, iv z4, iv z5, iv g13, iv g14, iv g2, iv g5, iv g15, iv g16, iv g17, iv g8, iv g9, iv g10, iv g11, rv a21, rv a57, uu, uu, uu]) at_211 rfl rfl ?_
        refine W.new (pc := 213) at_213 (w38 hw) (w39 hw) (w40 hw) (laJdqlLexer_Token hw) (by decide) (by decide) (fun a65 => ?_)
        show W _ _ _ _ _ _ _ _ _ _ _ _ 216 _ [(vr a65)]
        refine W.dup (pc := 216) at_216 rfl ?_
        refine W.iload (pc := 217) at_217 rfl ?_
        refine W.callS (pc := 219) (as := [(vi g13)]) 2 [(vr a65), (vr a65)] at_219 (w41 hw) (w42 hw) (w3 hw) (w43 hw) (c19_kindOfm hw hs (x1 := g13) (hx1 := (by have := q0; have := q1; have := q2; omega))) (by decide) pd_I_Lcom_example_rochester_rochester_JdqlLexer_Kind_ rfl rfl rfl rfl (by decide) (fun v D' h => ?_)
        rcases h with ⟨h82, rfl, rfl⟩ | ⟨a66, h83, h84, rfl, rfl⟩
        ·
         have ih82 := t_eq h82
         show W _ _ _ _ _ _ _ _ _ _ _ _ 222 _ [(vr (kSYMBOL Z)), (vr a65), (vr a65)]
         refine W.aload (pc := 222) 17 at_222 rfl rfl ?_
         refine W.iload (pc := 224) at_224 rfl ?_
         refine W.iload (pc := 226) at_226 rfl ?_
         refine W.callI (pc := 228) (as := [(vr (kSYMBOL Z)), (vr a21), (vi z4), (vi z5)]) 1 [(vr a65)] at_228 rfl (w47 hw) (w48 hw) (w40 hw) (w49 hw) (c39_init hw hs (p1 := a65) (p2 := a21) (p3 := a22) (x1 := z4) (x2 := z5) (x3 := g15.toInt8.toInt32) (hx3 := (by have := a_i2b g15; have := q0; have := q1; have := q2; have := q5; omega)) (x4 := g16.toInt8.toInt32) (hx4 := (by have := a_i2b g16; have := q0; have := q1; have := q2; have := q5; omega))) (by decide) pd_Lcom_example_rochester_rochester_JdqlLexer_Kind_Ljava_lang_String_II_V rfl rfl rfl rfl (by decide) (fun v D' h => ?_)
         obtain ⟨rfl, rfl⟩ := h
         show W _ _ _ _ _ _ _ _ _ _ _ _ 231 _ [(vr a65)]
         refine W.astore (pc := 231) (ls' := #[iv z0, iv z1, iv z2, iv z3, iv z4, iv z5, iv g13, iv g14, iv g2, iv g5, iv g15, iv g16, iv g17, iv g8, iv g9, iv g10, iv g11, rv a21, rv a57, rv a65, uu, uu]) at_231 rfl rfl ?_
         refine W.iload (pc := 233) at_233 rfl ?_
         refine W.iload (pc := 235) at_235 rfl ?_
         refine W.icmpY (pc := 237) 283 at_237 (y_ne (by have := q0; have := q1; have := q2; have := q5; omega)) (by decide) ?_
         refine W.iconst (pc := 283) (0) at_283 (by decide) ?_
         refine W.istore (pc := 284) (ls' := #[iv z0, iv z1, iv z2, iv z3, iv z4, iv z5, iv g13, iv g14, iv g2, iv g5, iv g15, iv g16, iv g17, iv g8, iv g9, iv g10, iv g11, rv a21, rv a57, rv a65, iv 0, uu]) at_284 rfl ?_
         refine W.iload (pc := 286) at_286 rfl ?_
         refine W.iconst (pc := 288) (5) at_288 (by decide) ?_
         refine W.icmpN (pc := 289) at_289 (n_ne (by have := q5; have := q0; have := q1; have := q2; omega)) ?_
         refine W.iload (pc := 292) at_292 rfl ?_
         refine W.ifY (pc := 294) 301 at_294 (y_eq (by decide)) (by decide) ?_
         refine W.iconst (pc := 301) (0) at_301 (by decide) ?_
         refine W.istore (pc := 302) (ls' := #[iv z0, iv z1, iv z2, iv z3, iv z4, iv z5, iv g13, iv g14, iv g2, iv g5, iv g15, iv g16, iv g17, iv g8, iv g9, iv g10, iv g11, rv a21, rv a57, rv a65, iv 0, iv 0]) at_302 rfl ?_
         refine W.aload (pc := 304) 19 at_304 rfl rfl ?_
         refine W.aload (pc := 306) 18 at_306 rfl rfl ?_
         refine W.know (fun _ _ H => H.ne (i := 0) (j := 2) (by decide) rfl rfl (Or.inl rfl)) (fun ne67 => ?_)
         refine W.know (fun _ _ H => H.ne (i := 2) (j := 4) (by decide) rfl rfl (Or.inl rfl)) (fun ne68 => ?_)
         refine W.callV (pc := 308) (as := [(vr a57)]) 0 [] at_308 (w64 hw) (w65 hw) (w67 hw) (w67 hw) (w66 hw) (w40 hw) (w68 hw) (Hp.exa m0) (c40_isSymbol hw hs (p1 := a65) (p2 := a57) (p3 := a21) (p4 := a58) (p5 := a22) (x1 := z4) (x2 := z5) (x3 := g8.toInt8.toInt32) (hx3 := (by have := a_i2b g8; have := q0; have := q1; have := q2; have := q5; omega)) (x4 := g9.toInt8.toInt32) (hx4 := (by have := a_i2b g9; have := q0; have := q1; have := q2; have := q5; omega)) (x5 := g10.toInt8.toInt32) (hx5 := (by have := a_i2b g10; have := q0; have := q1; have := q2; have := q5; omega)) (x6 := g15.toInt8.toInt32) (hx6 := (by have := a_i2b g15; have := q0; have := q1; have := q2; have := q5; omega)) (x7 := g16.toInt8.toInt32) (hx7 := (by have := a_i2b g16; have := q0; have := q1; have := q2; have := q5; omega)) (mp1 := m0) (mp3 := m4) (mp2 := m2) (mp5 := m3) (mp4 := m1) (ne_p1_p2 := ne67) (ne_p2_p3 := ne68)) (by decide) pd_Ljava_lang_String__Z rfl rfl rfl rfl (by decide) (fun v D' h => ?_)
         obtain ⟨rfl, rfl⟩ := h
         show W _ _ _ _ _ _ _ _ _ _ _ _ 311 _ [(vi 0)]
         refine W.iload (pc := 311) at_311 rfl ?_
         refine W.icmpN (pc := 313) at_313 (n_ne (by decide)) ?_
         refine W.iconst (pc := 316) (1) at_316 (by decide) ?_
         refine W.goto (pc := 317) 321 at_317 (by decide) ?_
         exact W.ireturn (pc := 321) at_321 rfl (Or.inr (Or.inl rfl)) (nw_bool (by decide)) (by decide) rfl
        ·
         have ih84 := f_eq h84
         show W _ _ _ _ _ _ _ _ _ _ _ _ 222 _ [(vr a66), (vr a65), (vr a65)]
         refine W.aload (pc := 222) 17 at_222 rfl rfl ?_
         refine W.iload (pc := 224) at_224 rfl ?_
         refine W.iload (pc := 226) at_226 rfl ?_
         refine W.callI (pc := 228) (as := [(vr a66), (vr a21), (vi z4), (vi z5)]) 1 [(vr a65)] at_228 rfl (w47 hw) (w48 hw) (w40 hw) (w49 hw) (c43_init hw hs (p1 := a65) (p2 := a66) (p3 := a21) (p4 := a22) (x1 := z4) (x2 := z5) (x3 := g15.toInt8.toInt32) (hx3 := (by have := a_i2b g15; have := q0; have := q1; have := q2; have := q5; omega)) (x4 := g16.toInt8.toInt32) (hx4 := (by have := a_i2b g16; have := q0; have := q1; have := q2; have := q5; omega))) (by decide) pd_Lcom_example_rochester_rochester_JdqlLexer_Kind_Ljava_lang_String_II_V rfl rfl rfl rfl (by decide) (fun v D' h => ?_)
         obtain ⟨rfl, rfl⟩ := h
         show W _ _ _ _ _ _ _ _ _ _ _ _ 231 _ [(vr a65)]
         refine W.astore (pc := 231) (ls' := #[iv z0, iv z1, iv z2, iv z3, iv z4, iv z5, iv g13, iv g14, iv g2, iv g5, iv g15, iv g16, iv g17, iv g8, iv g9, iv g10, iv g11, rv a21, rv a57, rv a65, uu, uu]) at_231 rfl rfl ?_
         refine W.iload (pc := 233) at_233 rfl ?_
         refine W.iload (pc := 235) at_235 rfl ?_
         refine W.icmpY (pc := 237) 283 at_237 (y_ne (by have := q0; have := q1; have := q2; have := q5; omega)) (by decide) ?_
         refine W.iconst (pc := 283) (0) at_283 (by decide) ?_
         refine W.istore (pc := 284) (ls' := #[iv z0, iv z1, iv z2, iv z3, iv z4, iv z5, iv g13, iv g14, iv g2, iv g5, iv g15, iv g16, iv g17, iv g8, iv g9, iv g10, iv g11, rv a21, rv a57, rv a65, iv 0, uu]) at_284 rfl ?_
         refine W.iload (pc := 286) at_286 rfl ?_
         refine W.iconst (pc := 288) (5) at_288 (by decide) ?_
         refine W.icmpY (pc := 289) 301 at_289 (y_ne (by have := q5; have := q0; have := q1; have := q2; omega)) (by decide) ?_
         refine W.iconst (pc := 301) (0) at_301 (by decide) ?_
         refine W.istore (pc := 302) (ls' := #[iv z0, iv z1, iv z2, iv z3, iv z4, iv z5, iv g13, iv g14, iv g2, iv g5, iv g15, iv g16, iv g17, iv g8, iv g9, iv g10, iv g11, rv a21, rv a57, rv a65, iv 0, iv 0]) at_302 rfl ?_
         refine W.aload (pc := 304) 19 at_304 rfl rfl ?_
         refine W.aload (pc := 306) 18 at_306 rfl rfl ?_
         refine W.callV (pc := 308) (as := [(vr a57)]) 0 [] at_308 (w64 hw) (w65 hw) (w67 hw) (w67 hw) (w66 hw) (w40 hw) (w68 hw) (Hp.exa m0) (c44_isSymbol hw hs (p1 := a65) (p2 := a57) (p3 := a66) (p4 := a21) (p5 := a58) (p6 := a22) (x1 := z4) (x2 := z5) (x3 := g8.toInt8.toInt32) (hx3 := (by have := a_i2b g8; have := q0; have := q1; have := q2; have := q5; omega)) (x4 := g9.toInt8.toInt32) (hx4 := (by have := a_i2b g9; have := q0; have := q1; have := q2; have := q5; omega)) (x5 := g10.toInt8.toInt32) (hx5 := (by have := a_i2b g10; have := q0; have := q1; have := q2; have := q5; omega)) (x6 := g15.toInt8.toInt32) (hx6 := (by have := a_i2b g15; have := q0; have := q1; have := q2; have := q5; omega)) (x7 := g16.toInt8.toInt32) (hx7 := (by have := a_i2b g16; have := q0; have := q1; have := q2; have := q5; omega)) (mp1 := m0) (ne_p3_kSYMBOLZ := h83)) (by decide) pd_Ljava_lang_String__Z rfl rfl rfl rfl (by decide) (fun v D' h => ?_)
         obtain ⟨rfl, rfl⟩ := h
         show W _ _ _ _ _ _ _ _ _ _ _ _ 311 _ [(vi 0)]
         refine W.iload (pc := 311) at_311 rfl ?_
         refine W.icmpN (pc := 313) at_313 (n_ne (by decide)) ?_
         refine W.iconst (pc := 316) (1) at_316 (by decide) ?_
         refine W.goto (pc := 317) 321 at_317 (by decide) ?_
         exact W.ireturn (pc := 321) at_321 rfl (Or.inr (Or.inl rfl)) (nw_bool (by decide)) (by decide) rfl
       ·
        have ih76 := t_ne h76
        have ih77 := t_ne h77
        have ih78 := f_ne h78
        show W _ _ _ _ _ _ _ _ _ _ _ _ 211 _ [(vr a59)]
        refine W.astore (pc := 211) (ls' := #[iv z0, iv z1, iv z2, iv z3, iv z4, iv z5, iv g13, iv g14, iv g2, iv g5, iv g15, iv g16, iv g17, iv g8, iv g9, iv g10, iv g11, rv a21, rv a59, uu, uu, uu]) at_211 rfl rfl ?_
        refine W.new (pc := 213) at_213 (w38 hw) (w39 hw) (w40 hw) (laJdqlLexer_Token hw) (by decide) (by decide) (fun a69 => ?_)
        show W _ _ _ _ _ _ _ _ _ _ _ _ 216 _ [(vr a69)]
        refine W.dup (pc := 216) at_216 rfl ?_
        refine W.iload (pc := 217) at_217 rfl ?_
        refine W.callS (pc := 219) (as := [(vi g13)]) 2 [(vr a69), (vr a69)] at_219 (w41 hw) (w42 hw) (w3 hw) (w43 hw) (c19_kindOfm hw hs (x1 := g13) (hx1 := (by have := q0; have := q1; have := q2; omega))) (by decide) pd_I_Lcom_example_rochester_rochester_JdqlLexer_Kind_ rfl rfl rfl rfl (by decide) (fun v D' h => ?_)
        rcases h with ⟨h85, rfl, rfl⟩ | ⟨a70, h86, h87, rfl, rfl⟩
        ·
         have ih85 := t_eq h85
         show W _ _ _ _ _ _ _ _ _ _ _ _ 222 _ [(vr (kSYMBOL Z)), (vr a69), (vr a69)]
         refine W.aload (pc := 222) 17 at_222 rfl rfl ?_
         refine W.iload (pc := 224) at_224 rfl ?_
         refine W.iload (pc := 226) at_226 rfl ?_
         refine W.callI (pc := 228) (as := [(vr (kSYMBOL Z)), (vr a21), (vi z4), (vi z5)]) 1 [(vr a69)] at_228 rfl (w47 hw) (w48 hw) (w40 hw) (w49 hw) (c39_init hw hs (p1 := a69) (p2 := a21) (p3 := a22) (x1 := z4) (x2 := z5) (x3 := g15.toInt8.toInt32) (hx3 := (by have := a_i2b g15; have := q0; have := q1; have := q2; have := q5; omega)) (x4 := g16.toInt8.toInt32) (hx4 := (by have := a_i2b g16; have := q0; have := q1; have := q2; have := q5; omega))) (by decide) pd_Lcom_example_rochester_rochester_JdqlLexer_Kind_Ljava_lang_String_II_V rfl rfl rfl rfl (by decide) (fun v D' h => ?_)
         obtain ⟨rfl, rfl⟩ := h
         show W _ _ _ _ _ _ _ _ _ _ _ _ 231 _ [(vr a69)]
         refine W.astore (pc := 231) (ls' := #[iv z0, iv z1, iv z2, iv z3, iv z4, iv z5, iv g13, iv g14, iv g2, iv g5, iv g15, iv g16, iv g17, iv g8, iv g9, iv g10, iv g11, rv a21, rv a59, rv a69, uu, uu]) at_231 rfl rfl ?_
         refine W.iload (pc := 233) at_233 rfl ?_
         refine W.iload (pc := 235) at_235 rfl ?_
         refine W.icmpN (pc := 237) at_237 (n_ne (by have := q0; have := q1; have := q2; have := q5; omega)) ?_
         refine W.iload (pc := 240) at_240 rfl ?_
         refine W.iconst (pc := 242) (1) at_242 (by decide) ?_
         refine W.icmpN (pc := 243) at_243 (n_lt (by have := q1; have := q0; have := q2; have := q5; omega)) ?_
         refine W.iload (pc := 246) at_246 rfl ?_
         refine W.iload (pc := 248) at_248 rfl ?_
         refine W.icmp (pc := 250) 283 at_250 (by decide) (fun h88 => ?_) (fun h88 => ?_)
         ·
          have ih88 := t_ne h88
          refine W.iconst (pc := 283) (0) at_283 (by decide) ?_
          refine W.istore (pc := 284) (ls' := #[iv z0, iv z1, iv z2, iv z3, iv z4, iv z5, iv g13, iv g14, iv g2, iv g5, iv g15, iv g16, iv g17, iv g8, iv g9, iv g10, iv g11, rv a21, rv a59, rv a69, iv 0, uu]) at_284 rfl ?_
          refine W.iload (pc := 286) at_286 rfl ?_
          refine W.iconst (pc := 288) (5) at_288 (by decide) ?_
          refine W.icmpN (pc := 289) at_289 (n_ne (by have := q5; have := q0; have := q1; have := q2; omega)) ?_
          refine W.iload (pc := 292) at_292 rfl ?_
          refine W.ifY (pc := 294) 301 at_294 (y_eq (by decide)) (by decide) ?_
          refine W.iconst (pc := 301) (0) at_301 (by decide) ?_
          refine W.istore (pc := 302) (ls' := #[iv z0, iv z1, iv z2, iv z3, iv z4, iv z5, iv g13, iv g14, iv g2, iv g5, iv g15, iv g16, iv g17, iv g8, iv g9, iv g10, iv g11, rv a21, rv a59, rv a69, iv 0, iv 0]) at_302 rfl ?_
          refine W.aload (pc := 304) 19 at_304 rfl rfl ?_
          refine W.aload (pc := 306) 18 at_306 rfl rfl ?_
          refine W.know (fun _ _ H => H.ne (i := 0) (j := 2) (by decide) rfl rfl (Or.inl rfl)) (fun ne71 => ?_)
          refine W.know (fun _ _ H => H.ne (i := 2) (j := 4) (by decide) rfl rfl (Or.inl rfl)) (fun ne72 => ?_)
          refine W.callV (pc := 308) (as := [(vr a59)]) 0 [] at_308 (w64 hw) (w65 hw) (w67 hw) (w67 hw) (w66 hw) (w40 hw) (w68 hw) (Hp.exa m0) (c45_isSymbol hw hs (p1 := a69) (p2 := a59) (p3 := a21) (p4 := a60) (p5 := a22) (x1 := z4) (x2 := z5) (x3 := g8.toInt8.toInt32) (hx3 := (by have := a_i2b g8; have := q0; have := q1; have := q2; have := q5; omega)) (x4 := g9.toInt8.toInt32) (hx4 := (by have := a_i2b g9; have := q0; have := q1; have := q2; have := q5; omega)) (x5 := g15.toInt8.toInt32) (hx5 := (by have := a_i2b g15; have := q0; have := q1; have := q2; have := q5; omega)) (x6 := g16.toInt8.toInt32) (hx6 := (by have := a_i2b g16; have := q0; have := q1; have := q2; have := q5; omega)) (mp1 := m0) (mp3 := m4) (mp2 := m2) (mp5 := m3) (mp4 := m1) (ne_p1_p2 := ne71) (ne_p2_p3 := ne72)) (by decide) pd_Ljava_lang_String__Z rfl rfl rfl rfl (by decide) (fun v D' h => ?_)
          rcases h with ⟨h89, h90, rfl, rfl⟩ | ⟨h91, h92, rfl, rfl⟩ | ⟨h93, rfl, rfl⟩
          ·
           exact absurd h89 (n_eq (by have := a_i2b g15; have := a_i2b g8; have := q0; have := q1; have := q2; have := q5; omega))
          ·
           exact absurd h91 (n_eq (by have := a_i2b g15; have := a_i2b g8; have := q0; have := q1; have := q2; have := q5; omega))
          ·
           have ih93 := f_eq h93
           show W _ _ _ _ _ _ _ _ _ _ _ _ 311 _ [(vi 0)]
           refine W.iload (pc := 311) at_311 rfl ?_
           refine W.icmpN (pc := 313) at_313 (n_ne (by decide)) ?_
           refine W.iconst (pc := 316) (1) at_316 (by decide) ?_
           refine W.goto (pc := 317) 321 at_317 (by decide) ?_
           exact W.ireturn (pc := 321) at_321 rfl (Or.inr (Or.inl rfl)) (nw_bool (by decide)) (by decide) rfl
         ·
          have ih88 := f_ne h88
          refine W.iload (pc := 253) at_253 rfl ?_
          refine W.iconst (pc := 255) (2) at_255 (by decide) ?_
          refine W.icmpN (pc := 256) at_256 (n_lt (by have := q2; have := q0; have := q1; have := q5; omega)) ?_
          refine W.iload (pc := 259) at_259 rfl ?_
          refine W.iload (pc := 261) at_261 rfl ?_
          refine W.icmp (pc := 263) 283 at_263 (by decide) (fun h94 => ?_) (fun h94 => ?_)
          ·
           have ih94 := t_ne h94
           refine W.iconst (pc := 283) (0) at_283 (by decide) ?_
           refine W.istore (pc := 284) (ls' := #[iv z0, iv z1, iv z2, iv z3, iv z4, iv z5, iv g13, iv g14, iv g2, iv g5, iv g15, iv g16, iv g17, iv g8, iv g9, iv g10, iv g11, rv a21, rv a59, rv a69, iv 0, uu]) at_284 rfl ?_
           refine W.iload (pc := 286) at_286 rfl ?_
           refine W.iconst (pc := 288) (5) at_288 (by decide) ?_
           refine W.icmpN (pc := 289) at_289 (n_ne (by have := q5; have := q0; have := q1; have := q2; omega)) ?_
           refine W.iload (pc := 292) at_292 rfl ?_
           refine W.ifY (pc := 294) 301 at_294 (y_eq (by decide)) (by decide) ?_
           refine W.iconst (pc := 301) (0) at_301 (by decide) ?_
           refine W.istore (pc := 302) (ls' := #[iv z0, iv z1, iv z2, iv z3, iv z4, iv z5, iv g13, iv g14, iv g2, iv g5, iv g15, iv g16, iv g17, iv g8, iv g9, iv g10, iv g11, rv a21, rv a59, rv a69, iv 0, iv 0]) at_302 rfl ?_
           refine W.aload (pc := 304) 19 at_304 rfl rfl ?_
           refine W.aload (pc := 306) 18 at_306 rfl rfl ?_
           refine W.know (fun _ _ H => H.ne (i := 0) (j := 2) (by decide) rfl rfl (Or.inl rfl)) (fun ne73 => ?_)
           refine W.know (fun _ _ H => H.ne (i := 2) (j := 4) (by decide) rfl rfl (Or.inl rfl)) (fun ne74 => ?_)
           refine W.callV (pc := 308) (as := [(vr a59)]) 0 [] at_308 (w64 hw) (w65 hw) (w67 hw) (w67 hw) (w66 hw) (w40 hw) (w68 hw) (Hp.exa m0) (c45_isSymbol hw hs (p1 := a69) (p2 := a59) (p3 := a21) (p4 := a60) (p5 := a22) (x1 := z4) (x2 := z5) (x3 := g8.toInt8.toInt32) (hx3 := (by have := a_i2b g8; have := q0; have := q1; have := q2; have := q5; omega)) (x4 := g9.toInt8.toInt32) (hx4 := (by have := a_i2b g9; have := q0; have := q1; have := q2; have := q5; omega)) (x5 := g15.toInt8.toInt32) (hx5 := (by have := a_i2b g15; have := q0; have := q1; have := q2; have := q5; omega)) (x6 := g16.toInt8.toInt32) (hx6 := (by have := a_i2b g16; have := q0; have := q1; have := q2; have := q5; omega)) (mp1 := m0) (mp3 := m4) (mp2 := m2) (mp5 := m3) (mp4 := m1) (ne_p1_p2 := ne73) (ne_p2_p3 := ne74)) (by decide) pd_Ljava_lang_String__Z rfl rfl rfl rfl (by decide) (fun v D' h => ?_)
           rcases h with ⟨h95, h96, rfl, rfl⟩ | ⟨h97, h98, rfl, rfl⟩ | ⟨h99, rfl, rfl⟩
           ·
            have ih95 := t_eq h95
            exact absurd h96 (n_eq (by have := a_i2b g16; have := a_i2b g9; have := q0; have := q1; have := q2; have := q5; have := a_i2b g15; have := a_i2b g8; omega))
           ·
            have ih97 := t_eq h97
            have ih98 := f_eq h98
            show W _ _ _ _ _ _ _ _ _ _ _ _ 311 _ [(vi 0)]
            refine W.iload (pc := 311) at_311 rfl ?_
            refine W.icmpN (pc := 313) at_313 (n_ne (by decide)) ?_
            refine W.iconst (pc := 316) (1) at_316 (by decide) ?_
            refine W.goto (pc := 317) 321 at_317 (by decide) ?_
            exact W.ireturn (pc := 321) at_321 rfl (Or.inr (Or.inl rfl)) (nw_bool (by decide)) (by decide) rfl
           ·
            exact absurd h99 (Classical.not_not.mpr (y_eq (by have := a_i2b g15; have := a_i2b g8; have := q0; have := q1; have := q2; have := q5; omega)))
          ·
           have ih94 := f_ne h94
           refine W.iload (pc := 266) at_266 rfl ?_
           refine W.iconst (pc := 268) (3) at_268 (by decide) ?_
           refine W.icmpY (pc := 269) 279 at_269 (y_lt (by have := q3; have := q0; have := q1; have := q2; have := q5; omega)) (by decide) ?_
           refine W.iconst (pc := 279) (1) at_279 (by decide) ?_
           refine W.goto (pc := 280) 284 at_280 (by decide) ?_
           refine W.istore (pc := 284) (ls' := #[iv z0, iv z1, iv z2, iv z3, iv z4, iv z5, iv g13, iv g14, iv g2, iv g5, iv g15, iv g16, iv g17, iv g8, iv g9, iv g10, iv g11, rv a21, rv a59, rv a69, iv 1, uu]) at_284 rfl ?_
           refine W.iload (pc := 286) at_286 rfl ?_
           refine W.iconst (pc := 288) (5) at_288 (by decide) ?_
           refine W.icmpN (pc := 289) at_289 (n_ne (by have := q5; have := q0; have := q1; have := q2; omega)) ?_
           refine W.iload (pc := 292) at_292 rfl ?_
           refine W.ifN (pc := 294) at_294 (n_eq (by decide)) ?_
           refine W.iconst (pc := 297) (1) at_297 (by decide) ?_
           refine W.goto (pc := 298) 302 at_298 (by decide) ?_
           refine W.istore (pc := 302) (ls' := #[iv z0, iv z1, iv z2, iv z3, iv z4, iv z5, iv g13, iv g14, iv g2, iv g5, iv g15, iv g16, iv g17, iv g8, iv g9, iv g10, iv g11, rv a21, rv a59, rv a69, iv 1, iv 1]) at_302 rfl ?_
           refine W.aload (pc := 304) 19 at_304 rfl rfl ?_
           refine W.aload (pc := 306) 18 at_306 rfl rfl ?_
           refine W.know (fun _ _ H => H.ne (i := 0) (j := 2) (by decide) rfl rfl (Or.inl rfl)) (fun ne75 => ?_)
           refine W.know (fun _ _ H => H.ne (i := 2) (j := 4) (by decide) rfl rfl (Or.inl rfl)) (fun ne76 => ?_)
           refine W.callV (pc := 308) (as := [(vr a59)]) 0 [] at_308 (w64 hw) (w65 hw) (w67 hw) (w67 hw) (w66 hw) (w40 hw) (w68 hw) (Hp.exa m0) (c45_isSymbol hw hs (p1 := a69) (p2 := a59) (p3 := a21) (p4 := a60) (p5 := a22) (x1 := z4) (x2 := z5) (x3 := g8.toInt8.toInt32) (hx3 := (by have := a_i2b g8; have := q0; have := q1; have := q2; have := q5; omega)) (x4 := g9.toInt8.toInt32) (hx4 := (by have := a_i2b g9; have := q0; have := q1; have := q2; have := q5; omega)) (x5 := g15.toInt8.toInt32) (hx5 := (by have := a_i2b g15; have := q0; have := q1; have := q2; have := q5; omega)) (x6 := g16.toInt8.toInt32) (hx6 := (by have := a_i2b g16; have := q0; have := q1; have := q2; have := q5; omega)) (mp1 := m0) (mp3 := m4) (mp2 := m2) (mp5 := m3) (mp4 := m1) (ne_p1_p2 := ne75) (ne_p2_p3 := ne76)) (by decide) pd_Ljava_lang_String__Z rfl rfl rfl rfl (by decide) (fun v D' h => ?_)
           rcases h with ⟨h100, h101, rfl, rfl⟩ | ⟨h102, h103, rfl, rfl⟩ | ⟨h104, rfl, rfl⟩
           ·
            have ih100 := t_eq h100
            have ih101 := t_eq h101
            show W _ _ _ _ _ _ _ _ _ _ _ _ 311 _ [(vi 1)]
            refine W.iload (pc := 311) at_311 rfl ?_
            refine W.icmpN (pc := 313) at_313 (n_ne (by decide)) ?_
            refine W.iconst (pc := 316) (1) at_316 (by decide) ?_
            refine W.goto (pc := 317) 321 at_317 (by decide) ?_
            exact W.ireturn (pc := 321) at_321 rfl (Or.inr (Or.inl rfl)) (nw_bool (by decide)) (by decide) rfl
           ·
            have ih102 := t_eq h102
            exact absurd h103 (Classical.not_not.mpr (y_eq (by have := a_i2b g16; have := a_i2b g9; have := q0; have := q1; have := q2; have := q5; have := a_i2b g15; have := a_i2b g8; omega)))
           ·
            exact absurd h104 (Classical.not_not.mpr (y_eq (by have := a_i2b g15; have := a_i2b g8; have := q0; have := q1; have := q2; have := q5; omega)))
        ·
         have ih87 := f_eq h87
         show W _ _ _ _ _ _ _ _ _ _ _ _ 222 _ [(vr a70), (vr a69), (vr a69)]
         refine W.aload (pc := 222) 17 at_222 rfl rfl ?_
         refine W.iload (pc := 224) at_224 rfl ?_
         refine W.iload (pc := 226) at_226 rfl ?_
         refine W.callI (pc := 228) (as := [(vr a70), (vr a21), (vi z4), (vi z5)]) 1 [(vr a69)] at_228 rfl (w47 hw) (w48 hw) (w40 hw) (w49 hw) (c43_init hw hs (p1 := a69) (p2 := a70) (p3 := a21) (p4 := a22) (x1 := z4) (x2 := z5) (x3 := g15.toInt8.toInt32) (hx3 := (by have := a_i2b g15; have := q0; have := q1; have := q2; have := q5; omega)) (x4 := g16.toInt8.toInt32) (hx4 := (by have := a_i2b g16; have := q0; have := q1; have := q2; have := q5; omega))) (by decide) pd_Lcom_example_rochester_rochester_JdqlLexer_Kind_Ljava_lang_String_II_V rfl rfl rfl rfl (by decide) (fun v D' h => ?_)
         obtain ⟨rfl, rfl⟩ := h
         show W _ _ _ _ _ _ _ _ _ _ _ _ 231 _ [(vr a69)]
         refine W.astore (pc := 231) (ls' := #[iv z0, iv z1, iv z2, iv z3, iv z4, iv z5, iv g13, iv g14, iv g2, iv g5, iv g15, iv g16, iv g17, iv g8, iv g9, iv g10, iv g11, rv a21, rv a59, rv a69, uu, uu]) at_231 rfl rfl ?_
         refine W.iload (pc := 233) at_233 rfl ?_
         refine W.iload (pc := 235) at_235 rfl ?_
         refine W.icmpN (pc := 237) at_237 (n_ne (by have := q0; have := q1; have := q2; have := q5; omega)) ?_
         refine W.iload (pc := 240) at_240 rfl ?_
         refine W.iconst (pc := 242) (1) at_242 (by decide) ?_
         refine W.icmpN (pc := 243) at_243 (n_lt (by have := q1; have := q0; have := q2; have := q5; omega)) ?_
         refine W.iload (pc := 246) at_246 rfl ?_
         refine W.iload (pc := 248) at_248 rfl ?_
         refine W.icmp (pc := 250) 283 at_250 (by decide) (fun h105 => ?_) (fun h105 => ?_)
         ·
          have ih105 := t_ne h105
          refine W.iconst (pc := 283) (0) at_283 (by decide) ?_
          refine W.istore (pc := 284) (ls' := #[iv z0, iv z1, iv z2, iv z3, iv z4, iv z5, iv g13, iv g14, iv g2, iv g5, iv g15, iv g16, iv g17, iv g8, iv g9, iv g10, iv g11, rv a21, rv a59, rv a69, iv 0, uu]) at_284 rfl ?_
          refine W.iload (pc := 286) at_286 rfl ?_
          refine W.iconst (pc := 288) (5) at_288 (by decide) ?_
          refine W.icmpY (pc := 289) 301 at_289 (y_ne (by have := q5; have := q0; have := q1; have := q2; omega)) (by decide) ?_
          refine W.iconst (pc := 301) (0) at_301 (by decide) ?_
          refine W.istore (pc := 302) (ls' := #[iv z0, iv z1, iv z2, iv z3, iv z4, iv z5, iv g13, iv g14, iv g2, iv g5, iv g15, iv g16, iv g17, iv g8, iv g9, iv g10, iv g11, rv a21, rv a59, rv a69, iv 0, iv 0]) at_302 rfl ?_
          refine W.aload (pc := 304) 19 at_304 rfl rfl ?_
          refine W.aload (pc := 306) 18 at_306 rfl rfl ?_
          refine W.callV (pc := 308) (as := [(vr a59)]) 0 [] at_308 (w64 hw) (w65 hw) (w67 hw) (w67 hw) (w66 hw) (w40 hw) (w68 hw) (Hp.exa m0) (c48_isSymbol hw hs (p1 := a69) (p2 := a59) (p3 := a70) (p4 := a21) (p5 := a60) (p6 := a22) (x1 := z4) (x2 := z5) (x3 := g8.toInt8.toInt32) (hx3 := (by have := a_i2b g8; have := q0; have := q1; have := q2; have := q5; omega)) (x4 := g9.toInt8.toInt32) (hx4 := (by have := a_i2b g9; have := q0; have := q1; have := q2; have := q5; omega)) (x5 := g15.toInt8.toInt32) (hx5 := (by have := a_i2b g15; have := q0; have := q1; have := q2; have := q5; omega)) (x6 := g16.toInt8.toInt32) (hx6 := (by have := a_i2b g16; have := q0; have := q1; have := q2; have := q5; omega)) (mp1 := m0) (ne_p3_kSYMBOLZ := h86)) (by decide) pd_Ljava_lang_String__Z rfl rfl rfl rfl (by decide) (fun v D' h => ?_)
          obtain ⟨rfl, rfl⟩ := h
          show W _ _ _ _ _ _ _ _ _ _ _ _ 311 _ [(vi 0)]
          refine W.iload (pc := 311) at_311 rfl ?_
          refine W.icmpN (pc := 313) at_313 (n_ne (by decide)) ?_
          refine W.iconst (pc := 316) (1) at_316 (by decide) ?_
          refine W.goto (pc := 317) 321 at_317 (by decide) ?_
          exact W.ireturn (pc := 321) at_321 rfl (Or.inr (Or.inl rfl)) (nw_bool (by decide)) (by decide) rfl
         ·
          have ih105 := f_ne h105
          refine W.iload (pc := 253) at_253 rfl ?_
          refine W.iconst (pc := 255) (2) at_255 (by decide) ?_
          refine W.icmpN (pc := 256) at_256 (n_lt (by have := q2; have := q0; have := q1; have := q5; omega)) ?_
          refine W.iload (pc := 259) at_259 rfl ?_
          refine W.iload (pc := 261) at_261 rfl ?_
          refine W.icmp (pc := 263) 283 at_263 (by decide) (fun h106 => ?_) (fun h106 => ?_)
          ·
           have ih106 := t_ne h106
           refine W.iconst (pc := 283) (0) at_283 (by decide) ?_
           refine W.istore (pc := 284) (ls' := #[iv z0, iv z1, iv z2, iv z3, iv z4, iv z5, iv g13, iv g14, iv g2, iv g5, iv g15, iv g16, iv g17, iv g8, iv g9, iv g10, iv g11, rv a21, rv a59, rv a69, iv 0, uu]) at_284 rfl ?_
           refine W.iload (pc := 286) at_286 rfl ?_
           refine W.iconst (pc := 288) (5) at_288 (by decide) ?_
           refine W.icmpY (pc := 289) 301 at_289 (y_ne (by have := q5; have := q0; have := q1; have := q2; omega)) (by decide) ?_
           refine W.iconst (pc := 301) (0) at_301 (by decide) ?_
           refine W.istore (pc := 302) (ls' := #[iv z0, iv z1, iv z2, iv z3, iv z4, iv z5, iv g13, iv g14, iv g2, iv g5, iv g15, iv g16, iv g17, iv g8, iv g9, iv g10, iv g11, rv a21, rv a59, rv a69, iv 0, iv 0]) at_302 rfl ?_
           refine W.aload (pc := 304) 19 at_304 rfl rfl ?_
           refine W.aload (pc := 306) 18 at_306 rfl rfl ?_
           refine W.callV (pc := 308) (as := [(vr a59)]) 0 [] at_308 (w64 hw) (w65 hw) (w67 hw) (w67 hw) (w66 hw) (w40 hw) (w68 hw) (Hp.exa m0) (c48_isSymbol hw hs (p1 := a69) (p2 := a59) (p3 := a70) (p4 := a21) (p5 := a60) (p6 := a22) (x1 := z4) (x2 := z5) (x3 := g8.toInt8.toInt32) (hx3 := (by have := a_i2b g8; have := q0; have := q1; have := q2; have := q5; omega)) (x4 := g9.toInt8.toInt32) (hx4 := (by have := a_i2b g9; have := q0; have := q1; have := q2; have := q5; omega)) (x5 := g15.toInt8.toInt32) (hx5 := (by have := a_i2b g15; have := q0; have := q1; have := q2; have := q5; omega)) (x6 := g16.toInt8.toInt32) (hx6 := (by have := a_i2b g16; have := q0; have := q1; have := q2; have := q5; omega)) (mp1 := m0) (ne_p3_kSYMBOLZ := h86)) (by decide) pd_Ljava_lang_String__Z rfl rfl rfl rfl (by decide) (fun v D' h => ?_)
           obtain ⟨rfl, rfl⟩ := h
           show W _ _ _ _ _ _ _ _ _ _ _ _ 311 _ [(vi 0)]
           refine W.iload (pc := 311) at_311 rfl ?_
           refine W.icmpN (pc := 313) at_313 (n_ne (by decide)) ?_
           refine W.iconst (pc := 316) (1) at_316 (by decide) ?_
           refine W.goto (pc := 317) 321 at_317 (by decide) ?_
           exact W.ireturn (pc := 321) at_321 rfl (Or.inr (Or.inl rfl)) (nw_bool (by decide)) (by decide) rfl
          ·
           have ih106 := f_ne h106
           refine W.iload (pc := 266) at_266 rfl ?_
           refine W.iconst (pc := 268) (3) at_268 (by decide) ?_
           refine W.icmpY (pc := 269) 279 at_269 (y_lt (by have := q3; have := q0; have := q1; have := q2; have := q5; omega)) (by decide) ?_
           refine W.iconst (pc := 279) (1) at_279 (by decide) ?_
           refine W.goto (pc := 280) 284 at_280 (by decide) ?_
           refine W.istore (pc := 284) (ls' := #[iv z0, iv z1, iv z2, iv z3, iv z4, iv z5, iv g13, iv g14, iv g2, iv g5, iv g15, iv g16, iv g17, iv g8, iv g9, iv g10, iv g11, rv a21, rv a59, rv a69, iv 1, uu]) at_284 rfl ?_
           refine W.iload (pc := 286) at_286 rfl ?_
           refine W.iconst (pc := 288) (5) at_288 (by decide) ?_
           refine W.icmpY (pc := 289) 301 at_289 (y_ne (by have := q5; have := q0; have := q1; have := q2; omega)) (by decide) ?_
           refine W.iconst (pc := 301) (0) at_301 (by decide) ?_
           refine W.istore (pc := 302) (ls' := #[iv z0, iv z1, iv z2, iv z3, iv z4, iv z5, iv g13, iv g14, iv g2, iv g5, iv g15, iv g16, iv g17, iv g8, iv g9, iv g10, iv g11, rv a21, rv a59, rv a69, iv 1, iv 0]) at_302 rfl ?_
           refine W.aload (pc := 304) 19 at_304 rfl rfl ?_
           refine W.aload (pc := 306) 18 at_306 rfl rfl ?_
           refine W.callV (pc := 308) (as := [(vr a59)]) 0 [] at_308 (w64 hw) (w65 hw) (w67 hw) (w67 hw) (w66 hw) (w40 hw) (w68 hw) (Hp.exa m0) (c48_isSymbol hw hs (p1 := a69) (p2 := a59) (p3 := a70) (p4 := a21) (p5 := a60) (p6 := a22) (x1 := z4) (x2 := z5) (x3 := g8.toInt8.toInt32) (hx3 := (by have := a_i2b g8; have := q0; have := q1; have := q2; have := q5; omega)) (x4 := g9.toInt8.toInt32) (hx4 := (by have := a_i2b g9; have := q0; have := q1; have := q2; have := q5; omega)) (x5 := g15.toInt8.toInt32) (hx5 := (by have := a_i2b g15; have := q0; have := q1; have := q2; have := q5; omega)) (x6 := g16.toInt8.toInt32) (hx6 := (by have := a_i2b g16; have := q0; have := q1; have := q2; have := q5; omega)) (mp1 := m0) (ne_p3_kSYMBOLZ := h86)) (by decide) pd_Ljava_lang_String__Z rfl rfl rfl rfl (by decide) (fun v D' h => ?_)
           obtain ⟨rfl, rfl⟩ := h
           show W _ _ _ _ _ _ _ _ _ _ _ _ 311 _ [(vi 0)]
           refine W.iload (pc := 311) at_311 rfl ?_
           refine W.icmpN (pc := 313) at_313 (n_ne (by decide)) ?_
           refine W.iconst (pc := 316) (1) at_316 (by decide) ?_
           refine W.goto (pc := 317) 321 at_317 (by decide) ?_
           exact W.ireturn (pc := 321) at_321 rfl (Or.inr (Or.inl rfl)) (nw_bool (by decide)) (by decide) rfl
       ·
        have ih79 := t_ne h79
        have ih80 := f_ne h80
        show W _ _ _ _ _ _ _ _ _ _ _ _ 211 _ [(vr a61)]
        refine W.astore (pc := 211) (ls' := #[iv z0, iv z1, iv z2, iv z3, iv z4, iv z5, iv g13, iv g14, iv g2, iv g5, iv g15, iv g16, iv g17, iv g8, iv g9, iv g10, iv g11, rv a21, rv a61, uu, uu, uu]) at_211 rfl rfl ?_
        refine W.new (pc := 213) at_213 (w38 hw) (w39 hw) (w40 hw) (laJdqlLexer_Token hw) (by decide) (by decide) (fun a77 => ?_)
        show W _ _ _ _ _ _ _ _ _ _ _ _ 216 _ [(vr a77)]
        refine W.dup (pc := 216) at_216 rfl ?_
        refine W.iload (pc := 217) at_217 rfl ?_
        refine W.callS (pc := 219) (as := [(vi g13)]) 2 [(vr a77), (vr a77)] at_219 (w41 hw) (w42 hw) (w3 hw) (w43 hw) (c19_kindOfm hw hs (x1 := g13) (hx1 := (by have := q0; have := q1; have := q2; omega))) (by decide) pd_I_Lcom_example_rochester_rochester_JdqlLexer_Kind_ rfl rfl rfl rfl (by decide) (fun v D' h => ?_)
        rcases h with ⟨h107, rfl, rfl⟩ | ⟨a78, h108, h109, rfl, rfl⟩
        ·
         have ih107 := t_eq h107
         show W _ _ _ _ _ _ _ _ _ _ _ _ 222 _ [(vr (kSYMBOL Z)), (vr a77), (vr a77)]
         refine W.aload (pc := 222) 17 at_222 rfl rfl ?_
         refine W.iload (pc := 224) at_224 rfl ?_
         refine W.iload (pc := 226) at_226 rfl ?_
         refine W.callI (pc := 228) (as := [(vr (kSYMBOL Z)), (vr a21), (vi z4), (vi z5)]) 1 [(vr a77)] at_228 rfl (w47 hw) (w48 hw) (w40 hw) (w49 hw) (c39_init hw hs (p1 := a77) (p2 := a21) (p3 := a22) (x1 := z4) (x2 := z5) (x3 := g15.toInt8.toInt32) (hx3 := (by have := a_i2b g15; have := q0; have := q1; have := q2; have := q5; omega)) (x4 := g16.toInt8.toInt32) (hx4 := (by have := a_i2b g16; have := q0; have := q1; have := q2; have := q5; omega))) (by decide) pd_Lcom_example_rochester_rochester_JdqlLexer_Kind_Ljava_lang_String_II_V rfl rfl rfl rfl (by decide) (fun v D' h => ?_)
         obtain ⟨rfl, rfl⟩ := h
         show W _ _ _ _ _ _ _ _ _ _ _ _ 231 _ [(vr a77)]
         refine W.astore (pc := 231) (ls' := #[iv z0, iv z1, iv z2, iv z3, iv z4, iv z5, iv g13, iv g14, iv g2, iv g5, iv g15, iv g16, iv g17, iv g8, iv g9, iv g10, iv g11, rv a21, rv a61, rv a77, uu, uu]) at_231 rfl rfl ?_
         refine W.iload (pc := 233) at_233 rfl ?_
         refine W.iload (pc := 235) at_235 rfl ?_
         refine W.icmpY (pc := 237) 283 at_237 (y_ne (by have := q0; have := q1; have := q2; have := q5; omega)) (by decide) ?_
         refine W.iconst (pc := 283) (0) at_283 (by decide) ?_
         refine W.istore (pc := 284) (ls' := #[iv z0, iv z1, iv z2, iv z3, iv z4, iv z5, iv g13, iv g14, iv g2, iv g5, iv g15, iv g16, iv g17, iv g8, iv g9, iv g10, iv g11, rv a21, rv a61, rv a77, iv 0, uu]) at_284 rfl ?_
         refine W.iload (pc := 286) at_286 rfl ?_
         refine W.iconst (pc := 288) (5) at_288 (by decide) ?_
         refine W.icmpN (pc := 289) at_289 (n_ne (by have := q5; have := q0; have := q1; have := q2; omega)) ?_
         refine W.iload (pc := 292) at_292 rfl ?_
         refine W.ifY (pc := 294) 301 at_294 (y_eq (by decide)) (by decide) ?_
         refine W.iconst (pc := 301) (0) at_301 (by decide) ?_
         refine W.istore (pc := 302) (ls' := #[iv z0, iv z1, iv z2, iv z3, iv z4, iv z5, iv g13, iv g14, iv g2, iv g5, iv g15, iv g16, iv g17, iv g8, iv g9, iv g10, iv g11, rv a21, rv a61, rv a77, iv 0, iv 0]) at_302 rfl ?_
         refine W.aload (pc := 304) 19 at_304 rfl rfl ?_
         refine W.aload (pc := 306) 18 at_306 rfl rfl ?_
         refine W.know (fun _ _ H => H.ne (i := 0) (j := 2) (by decide) rfl rfl (Or.inl rfl)) (fun ne79 => ?_)
         refine W.know (fun _ _ H => H.ne (i := 2) (j := 4) (by decide) rfl rfl (Or.inl rfl)) (fun ne80 => ?_)
         refine W.callV (pc := 308) (as := [(vr a61)]) 0 [] at_308 (w64 hw) (w65 hw) (w67 hw) (w67 hw) (w66 hw) (w40 hw) (w68 hw) (Hp.exa m0) (c49_isSymbol hw hs (p1 := a77) (p2 := a61) (p3 := a21) (p4 := a62) (p5 := a22) (x1 := z4) (x2 := z5) (x3 := g8.toInt8.toInt32) (hx3 := (by have := a_i2b g8; have := q0; have := q1; have := q2; have := q5; omega)) (x4 := g15.toInt8.toInt32) (hx4 := (by have := a_i2b g15; have := q0; have := q1; have := q2; have := q5; omega)) (x5 := g16.toInt8.toInt32) (hx5 := (by have := a_i2b g16; have := q0; have := q1; have := q2; have := q5; omega)) (mp1 := m0) (mp3 := m4) (mp2 := m2) (mp5 := m3) (mp4 := m1) (ne_p1_p2 := ne79) (ne_p2_p3 := ne80)) (by decide) pd_Ljava_lang_String__Z rfl rfl rfl rfl (by decide) (fun v D' h => ?_)
         obtain ⟨rfl, rfl⟩ := h
         show W _ _ _ _ _ _ _ _ _ _ _ _ 311 _ [(vi 0)]
         refine W.iload (pc := 311) at_311 rfl ?_
         refine W.icmpN (pc := 313) at_313 (n_ne (by decide)) ?_
         refine W.iconst (pc := 316) (1) at_316 (by decide) ?_
         refine W.goto (pc := 317) 321 at_317 (by decide) ?_
         exact W.ireturn (pc := 321) at_321 rfl (Or.inr (Or.inl rfl)) (nw_bool (by decide)) (by decide) rfl
        ·
         have ih109 := f_eq h109
         show W _ _ _ _ _ _ _ _ _ _ _ _ 222 _ [(vr a78), (vr a77), (vr a77)]
         refine W.aload (pc := 222) 17 at_222 rfl rfl ?_
         refine W.iload (pc := 224) at_224 rfl ?_
         refine W.iload (pc := 226) at_226 rfl ?_
         refine W.callI (pc := 228) (as := [(vr a78), (vr a21), (vi z4), (vi z5)]) 1 [(vr a77)] at_228 rfl (w47 hw) (w48 hw) (w40 hw) (w49 hw) (c43_init hw hs (p1 := a77) (p2 := a78) (p3 := a21) (p4 := a22) (x1 := z4) (x2 := z5) (x3 := g15.toInt8.toInt32) (hx3 := (by have := a_i2b g15; have := q0; have := q1; have := q2; have := q5; omega)) (x4 := g16.toInt8.toInt32) (hx4 := (by have := a_i2b g16; have := q0; have := q1; have := q2; have := q5; omega))) (by decide) pd_Lcom_example_rochester_rochester_JdqlLexer_Kind_Ljava_lang_String_II_V rfl rfl rfl rfl (by decide) (fun v D' h => ?_)
         obtain ⟨rfl, rfl⟩ := h
         show W _ _ _ _ _ _ _ _ _ _ _ _ 231 _ [(vr a77)]
         refine W.astore (pc := 231) (ls' := #[iv z0, iv z1, iv z2, iv z3, iv z4, iv z5, iv g13, iv g14, iv g2, iv g5, iv g15, iv g16, iv g17, iv g8, iv g9, iv g10, iv g11, rv a21, rv a61, rv a77, uu, uu]) at_231 rfl rfl ?_
         refine W.iload (pc := 233) at_233 rfl ?_
         refine W.iload (pc := 235) at_235 rfl ?_
         refine W.icmpY (pc := 237) 283 at_237 (y_ne (by have := q0; have := q1; have := q2; have := q5; omega)) (by decide) ?_
         refine W.iconst (pc := 283) (0) at_283 (by decide) ?_
         refine W.istore (pc := 284) (ls' := #[iv z0, iv z1, iv z2, iv z3, iv z4, iv z5, iv g13, iv g14, iv g2, iv g5, iv g15, iv g16, iv g17, iv g8, iv g9, iv g10, iv g11, rv a21, rv a61, rv a77, iv 0, uu]) at_284 rfl ?_
         refine W.iload (pc := 286) at_286 rfl ?_
         refine W.iconst (pc := 288) (5) at_288 (by decide) ?_
         refine W.icmpY (pc := 289) 301 at_289 (y_ne (by have := q5; have := q0; have := q1; have := q2; omega)) (by decide) ?_
         refine W.iconst (pc := 301) (0) at_301 (by decide) ?_
         refine W.istore (pc := 302) (ls' := #[iv z0, iv z1, iv z2, iv z3, iv z4, iv z5, iv g13, iv g14, iv g2, iv g5, iv g15, iv g16, iv g17, iv g8, iv g9, iv g10, iv g11, rv a21, rv a61, rv a77, iv 0, iv 0]) at_302 rfl ?_
         refine W.aload (pc := 304) 19 at_304 rfl rfl ?_
         refine W.aload (pc := 306) 18 at_306 rfl rfl ?_
         refine W.callV (pc := 308) (as := [(vr a61)]) 0 [] at_308 (w64 hw) (w65 hw) (w67 hw) (w67 hw) (w66 hw) (w40 hw) (w68 hw) (Hp.exa m0) (c52_isSymbol hw hs (p1 := a77) (p2 := a61) (p3 := a78) (p4 := a21) (p5 := a62) (p6 := a22) (x1 := z4) (x2 := z5) (x3 := g8.toInt8.toInt32) (hx3 := (by have := a_i2b g8; have := q0; have := q1; have := q2; have := q5; omega)) (x4 := g15.toInt8.toInt32) (hx4 := (by have := a_i2b g15; have := q0; have := q1; have := q2; have := q5; omega)) (x5 := g16.toInt8.toInt32) (hx5 := (by have := a_i2b g16; have := q0; have := q1; have := q2; have := q5; omega)) (mp1 := m0) (ne_p3_kSYMBOLZ := h108)) (by decide) pd_Ljava_lang_String__Z rfl rfl rfl rfl (by decide) (fun v D' h => ?_)
         obtain ⟨rfl, rfl⟩ := h
         show W _ _ _ _ _ _ _ _ _ _ _ _ 311 _ [(vi 0)]
         refine W.iload (pc := 311) at_311 rfl ?_
         refine W.icmpN (pc := 313) at_313 (n_ne (by decide)) ?_
         refine W.iconst (pc := 316) (1) at_316 (by decide) ?_
         refine W.goto (pc := 317) 321 at_317 (by decide) ?_
         exact W.ireturn (pc := 321) at_321 rfl (Or.inr (Or.inl rfl)) (nw_bool (by decide)) (by decide) rfl
       ·
        have ih81 := f_ne h81
        show W _ _ _ _ _ _ _ _ _ _ _ _ 211 _ [(vr a63)]
        refine W.astore (pc := 211) (ls' := #[iv z0, iv z1, iv z2, iv z3, iv z4, iv z5, iv g13, iv g14, iv g2, iv g5, iv g15, iv g16, iv g17, iv g8, iv g9, iv g10, iv g11, rv a21, rv a63, uu, uu, uu]) at_211 rfl rfl ?_
        refine W.new (pc := 213) at_213 (w38 hw) (w39 hw) (w40 hw) (laJdqlLexer_Token hw) (by decide) (by decide) (fun a81 => ?_)
        show W _ _ _ _ _ _ _ _ _ _ _ _ 216 _ [(vr a81)]
        refine W.dup (pc := 216) at_216 rfl ?_
        refine W.iload (pc := 217) at_217 rfl ?_
        refine W.callS (pc := 219) (as := [(vi g13)]) 2 [(vr a81), (vr a81)] at_219 (w41 hw) (w42 hw) (w3 hw) (w43 hw) (c19_kindOfm hw hs (x1 := g13) (hx1 := (by have := q0; have := q1; have := q2; omega))) (by decide) pd_I_Lcom_example_rochester_rochester_JdqlLexer_Kind_ rfl rfl rfl rfl (by decide) (fun v D' h => ?_)
        rcases h with ⟨h110, rfl, rfl⟩ | ⟨a82, h111, h112, rfl, rfl⟩
        ·
         have ih110 := t_eq h110
         show W _ _ _ _ _ _ _ _ _ _ _ _ 222 _ [(vr (kSYMBOL Z)), (vr a81), (vr a81)]
         refine W.aload (pc := 222) 17 at_222 rfl rfl ?_
         refine W.iload (pc := 224) at_224 rfl ?_
         refine W.iload (pc := 226) at_226 rfl ?_
         refine W.callI (pc := 228) (as := [(vr (kSYMBOL Z)), (vr a21), (vi z4), (vi z5)]) 1 [(vr a81)] at_228 rfl (w47 hw) (w48 hw) (w40 hw) (w49 hw) (c39_init hw hs (p1 := a81) (p2 := a21) (p3 := a22) (x1 := z4) (x2 := z5) (x3 := g15.toInt8.toInt32) (hx3 := (by have := a_i2b g15; have := q0; have := q1; have := q2; have := q5; omega)) (x4 := g16.toInt8.toInt32) (hx4 := (by have := a_i2b g16; have := q0; have := q1; have := q2; have := q5; omega))) (by decide) pd_Lcom_example_rochester_rochester_JdqlLexer_Kind_Ljava_lang_String_II_V rfl rfl rfl rfl (by decide) (fun v D' h => ?_)
         obtain ⟨rfl, rfl⟩ := h
         show W _ _ _ _ _ _ _ _ _ _ _ _ 231 _ [(vr a81)]
         refine W.astore (pc := 231) (ls' := #[iv z0, iv z1, iv z2, iv z3, iv z4, iv z5, iv g13, iv g14, iv g2, iv g5, iv g15, iv g16, iv g17, iv g8, iv g9, iv g10, iv g11, rv a21, rv a63, rv a81, uu, uu]) at_231 rfl rfl ?_
         refine W.iload (pc := 233) at_233 rfl ?_
         refine W.iload (pc := 235) at_235 rfl ?_
         refine W.icmpY (pc := 237) 283 at_237 (y_ne (by have := q0; have := q1; have := q2; have := q5; omega)) (by decide) ?_
         refine W.iconst (pc := 283) (0) at_283 (by decide) ?_
         refine W.istore (pc := 284) (ls' := #[iv z0, iv z1, iv z2, iv z3, iv z4, iv z5, iv g13, iv g14, iv g2, iv g5, iv g15, iv g16, iv g17, iv g8, iv g9, iv g10, iv g11, rv a21, rv a63, rv a81, iv 0, uu]) at_284 rfl ?_
         refine W.iload (pc := 286) at_286 rfl ?_
         refine W.iconst (pc := 288) (5) at_288 (by decide) ?_
         refine W.icmpN (pc := 289) at_289 (n_ne (by have := q5; have := q0; have := q1; have := q2; omega)) ?_
         refine W.iload (pc := 292) at_292 rfl ?_
         refine W.ifY (pc := 294) 301 at_294 (y_eq (by decide)) (by decide) ?_
         refine W.iconst (pc := 301) (0) at_301 (by decide) ?_
         refine W.istore (pc := 302) (ls' := #[iv z0, iv z1, iv z2, iv z3, iv z4, iv z5, iv g13, iv g14, iv g2, iv g5, iv g15, iv g16, iv g17, iv g8, iv g9, iv g10, iv g11, rv a21, rv a63, rv a81, iv 0, iv 0]) at_302 rfl ?_
         refine W.aload (pc := 304) 19 at_304 rfl rfl ?_
         refine W.aload (pc := 306) 18 at_306 rfl rfl ?_
         refine W.know (fun _ _ H => H.ne (i := 0) (j := 2) (by decide) rfl rfl (Or.inl rfl)) (fun ne83 => ?_)
         refine W.know (fun _ _ H => H.ne (i := 2) (j := 4) (by decide) rfl rfl (Or.inl rfl)) (fun ne84 => ?_)
         refine W.callV (pc := 308) (as := [(vr a63)]) 0 [] at_308 (w64 hw) (w65 hw) (w67 hw) (w67 hw) (w66 hw) (w40 hw) (w68 hw) (Hp.exa m0) (c53_isSymbol hw hs (p1 := a81) (p2 := a63) (p3 := a21) (p4 := a64) (p5 := a22) (x1 := z4) (x2 := z5) (x3 := g15.toInt8.toInt32) (hx3 := (by have := a_i2b g15; have := q0; have := q1; have := q2; have := q5; omega)) (x4 := g16.toInt8.toInt32) (hx4 := (by have := a_i2b g16; have := q0; have := q1; have := q2; have := q5; omega)) (mp1 := m0) (mp3 := m4) (mp2 := m2) (mp5 := m3) (mp4 := m1) (ne_p1_p2 := ne83) (ne_p2_p3 := ne84)) (by decide) pd_Ljava_lang_String__Z rfl rfl rfl rfl (by decide) (fun v D' h => ?_)
         obtain ⟨rfl, rfl⟩ := h
         show W _ _ _ _ _ _ _ _ _ _ _ _ 311 _ [(vi 0)]
         refine W.iload (pc := 311) at_311 rfl ?_
         refine W.icmpN (pc := 313) at_313 (n_ne (by decide)) ?_
         refine W.iconst (pc := 316) (1) at_316 (by decide) ?_
         refine W.goto (pc := 317) 321 at_317 (by decide) ?_
         exact W.ireturn (pc := 321) at_321 rfl (Or.inr (Or.inl rfl)) (nw_bool (by decide)) (by decide) rfl
        ·
         have ih112 := f_eq h112
         show W _ _ _ _ _ _ _ _ _ _ _ _ 222 _ [(vr a82), (vr a81), (vr a81)]
         refine W.aload (pc := 222) 17 at_222 rfl rfl ?_
         refine W.iload (pc := 224) at_224 rfl ?_
         refine W.iload (pc := 226) at_226 rfl ?_
         refine W.callI (pc := 228) (as := [(vr a82), (vr a21), (vi z4), (vi z5)]) 1 [(vr a81)] at_228 rfl (w47 hw) (w48 hw) (w40 hw) (w49 hw) (c43_init hw hs (p1 := a81) (p2 := a82) (p3 := a21) (p4 := a22) (x1 := z4) (x2 := z5) (x3 := g15.toInt8.toInt32) (hx3 := (by have := a_i2b g15; have := q0; have := q1; have := q2; have := q5; omega)) (x4 := g16.toInt8.toInt32) (hx4 := (by have := a_i2b g16; have := q0; have := q1; have := q2; have := q5; omega))) (by decide) pd_Lcom_example_rochester_rochester_JdqlLexer_Kind_Ljava_lang_String_II_V rfl rfl rfl rfl (by decide) (fun v D' h => ?_)
         obtain ⟨rfl, rfl⟩ := h
         show W _ _ _ _ _ _ _ _ _ _ _ _ 231 _ [(vr a81)]
         refine W.astore (pc := 231) (ls' := #[iv z0, iv z1, iv z2, iv z3, iv z4, iv z5, iv g13, iv g14, iv g2, iv g5, iv g15, iv g16, iv g17, iv g8, iv g9, iv g10, iv g11, rv a21, rv a63, rv a81, uu, uu]) at_231 rfl rfl ?_
         refine W.iload (pc := 233) at_233 rfl ?_
         refine W.iload (pc := 235) at_235 rfl ?_
         refine W.icmpY (pc := 237) 283 at_237 (y_ne (by have := q0; have := q1; have := q2; have := q5; omega)) (by decide) ?_
         refine W.iconst (pc := 283) (0) at_283 (by decide) ?_
         refine W.istore (pc := 284) (ls' := #[iv z0, iv z1, iv z2, iv z3, iv z4, iv z5, iv g13, iv g14, iv g2, iv g5, iv g15, iv g16, iv g17, iv g8, iv g9, iv g10, iv g11, rv a21, rv a63, rv a81, iv 0, uu]) at_284 rfl ?_
         refine W.iload (pc := 286) at_286 rfl ?_
         refine W.iconst (pc := 288) (5) at_288 (by decide) ?_
         refine W.icmpY (pc := 289) 301 at_289 (y_ne (by have := q5; have := q0; have := q1; have := q2; omega)) (by decide) ?_
         refine W.iconst (pc := 301) (0) at_301 (by decide) ?_
         refine W.istore (pc := 302) (ls' := #[iv z0, iv z1, iv z2, iv z3, iv z4, iv z5, iv g13, iv g14, iv g2, iv g5, iv g15, iv g16, iv g17, iv g8, iv g9, iv g10, iv g11, rv a21, rv a63, rv a81, iv 0, iv 0]) at_302 rfl ?_
         refine W.aload (pc := 304) 19 at_304 rfl rfl ?_
         refine W.aload (pc := 306) 18 at_306 rfl rfl ?_
         refine W.callV (pc := 308) (as := [(vr a63)]) 0 [] at_308 (w64 hw) (w65 hw) (w67 hw) (w67 hw) (w66 hw) (w40 hw) (w68 hw) (Hp.exa m0) (c56_isSymbol hw hs (p1 := a81) (p2 := a63) (p3 := a82) (p4 := a21) (p5 := a64) (p6 := a22) (x1 := z4) (x2 := z5) (x3 := g15.toInt8.toInt32) (hx3 := (by have := a_i2b g15; have := q0; have := q1; have := q2; have := q5; omega)) (x4 := g16.toInt8.toInt32) (hx4 := (by have := a_i2b g16; have := q0; have := q1; have := q2; have := q5; omega)) (mp1 := m0) (ne_p3_kSYMBOLZ := h111)) (by decide) pd_Ljava_lang_String__Z rfl rfl rfl rfl (by decide) (fun v D' h => ?_)
         obtain ⟨rfl, rfl⟩ := h
         show W _ _ _ _ _ _ _ _ _ _ _ _ 311 _ [(vi 0)]
         refine W.iload (pc := 311) at_311 rfl ?_
         refine W.icmpN (pc := 313) at_313 (n_ne (by decide)) ?_
         refine W.iconst (pc := 316) (1) at_316 (by decide) ?_
         refine W.goto (pc := 317) 321 at_317 (by decide) ?_
         exact W.ireturn (pc := 321) at_321 rfl (Or.inr (Or.inl rfl)) (nw_bool (by decide)) (by decide) rfl
      ·
       have ih7 := t_ne h7
       have ih8 := f_ne h8
       show W _ _ _ _ _ _ _ _ _ _ _ _ 198 _ [(vr a23)]
       refine W.astore (pc := 198) (ls' := #[iv z0, iv z1, iv z2, iv z3, iv z4, iv z5, iv g13, iv g14, iv g2, iv g5, iv g15, iv g16, iv g17, iv g8, iv g9, iv g10, iv g11, rv a23, uu, uu, uu, uu]) at_198 rfl rfl ?_
       refine W.iload (pc := 200) at_200 rfl ?_
       refine W.iload (pc := 202) at_202 rfl ?_
       refine W.iload (pc := 204) at_204 rfl ?_
       refine W.iload (pc := 206) at_206 rfl ?_
       refine W.callS (pc := 208) (as := [(vi g11), (vi g8), (vi g9), (vi g10)]) 0 [] at_208 (w1 hw) (w2 hw) (w3 hw) (w4 hw) (c1_mk hw hs (x1 := g11) (hx1 := (by have := q0; have := q1; omega)) (x2 := g8) (hx2 := hg8) (x3 := g9) (hx3 := hg9) (x4 := g10) (hx4 := hg10)) (by decide) pd_ICCC_Ljava_lang_String_ rfl rfl rfl rfl (by decide) (fun v D' h => ?_)
       rcases h with ⟨a85, a86, h113, h114, h115, rfl, rfl⟩ | ⟨a87, a88, h116, h117, h118, rfl, rfl⟩ | ⟨a89, a90, h119, h120, rfl, rfl⟩ | ⟨a91, a92, h121, rfl, rfl⟩
       ·
        have ih113 := t_ne h113
        have ih114 := t_ne h114
        have ih115 := t_ne h115
        show W _ _ _ _ _ _ _ _ _ _ _ _ 211 _ [(vr a85)]
        refine W.astore (pc := 211) (ls' := #[iv z0, iv z1, iv z2, iv z3, iv z4, iv z5, iv g13, iv g14, iv g2, iv g5, iv g15, iv g16, iv g17, iv g8, iv g9, iv g10, iv g11, rv a23, rv a85, uu, uu, uu]) at_211 rfl rfl ?_
        refine W.new (pc := 213) at_213 (w38 hw) (w39 hw) (w40 hw) (laJdqlLexer_Token hw) (by decide) (by decide) (fun a93 => ?_)
        show W _ _ _ _ _ _ _ _ _ _ _ _ 216 _ [(vr a93)]
        refine W.dup (pc := 216) at_216 rfl ?_
        refine W.iload (pc := 217) at_217 rfl ?_
        refine W.callS (pc := 219) (as := [(vi g13)]) 2 [(vr a93), (vr a93)] at_219 (w41 hw) (w42 hw) (w3 hw) (w43 hw) (c19_kindOfm hw hs (x1 := g13) (hx1 := (by have := q0; have := q1; have := q2; omega))) (by decide) pd_I_Lcom_example_rochester_rochester_JdqlLexer_Kind_ rfl rfl rfl rfl (by decide) (fun v D' h => ?_)
        rcases h with ⟨h122, rfl, rfl⟩ | ⟨a94, h123, h124, rfl, rfl⟩
        ·
         have ih122 := t_eq h122
         show W _ _ _ _ _ _ _ _ _ _ _ _ 222 _ [(vr (kSYMBOL Z)), (vr a93), (vr a93)]
         refine W.aload (pc := 222) 17 at_222 rfl rfl ?_
         refine W.iload (pc := 224) at_224 rfl ?_
         refine W.iload (pc := 226) at_226 rfl ?_
         refine W.callI (pc := 228) (as := [(vr (kSYMBOL Z)), (vr a23), (vi z4), (vi z5)]) 1 [(vr a93)] at_228 rfl (w47 hw) (w48 hw) (w40 hw) (w49 hw) (c57_init hw hs (p1 := a93) (p2 := a23) (p3 := a24) (x1 := z4) (x2 := z5) (x3 := g15.toInt8.toInt32) (hx3 := (by have := a_i2b g15; have := q0; have := q1; have := q2; have := q5; omega))) (by decide) pd_Lcom_example_rochester_rochester_JdqlLexer_Kind_Ljava_lang_String_II_V rfl rfl rfl rfl (by decide) (fun v D' h => ?_)
         obtain ⟨rfl, rfl⟩ := h
         show W _ _ _ _ _ _ _ _ _ _ _ _ 231 _ [(vr a93)]
         refine W.astore (pc := 231) (ls' := #[iv z0, iv z1, iv z2, iv z3, iv z4, iv z5, iv g13, iv g14, iv g2, iv g5, iv g15, iv g16, iv g17, iv g8, iv g9, iv g10, iv g11, rv a23, rv a85, rv a93, uu, uu]) at_231 rfl rfl ?_
         refine W.iload (pc := 233) at_233 rfl ?_
         refine W.iload (pc := 235) at_235 rfl ?_
         refine W.icmpY (pc := 237) 283 at_237 (y_ne (by have := q0; have := q1; have := q2; have := q5; omega)) (by decide) ?_
         refine W.iconst (pc := 283) (0) at_283 (by decide) ?_
         refine W.istore (pc := 284) (ls' := #[iv z0, iv z1, iv z2, iv z3, iv z4, iv z5, iv g13, iv g14, iv g2, iv g5, iv g15, iv g16, iv g17, iv g8, iv g9, iv g10, iv g11, rv a23, rv a85, rv a93, iv 0, uu]) at_284 rfl ?_
         refine W.iload (pc := 286) at_286 rfl ?_
         refine W.iconst (pc := 288) (5) at_288 (by decide) ?_
         refine W.icmpN (pc := 289) at_289 (n_ne (by have := q5; have := q0; have := q1; have := q2; omega)) ?_
         refine W.iload (pc := 292) at_292 rfl ?_
         refine W.ifY (pc := 294) 301 at_294 (y_eq (by decide)) (by decide) ?_
         refine W.iconst (pc := 301) (0) at_301 (by decide) ?_
         refine W.istore (pc := 302) (ls' := #[iv z0, iv z1, iv z2, iv z3, iv z4, iv z5, iv g13, iv g14, iv g2, iv g5, iv g15, iv g16, iv g17, iv g8, iv g9, iv g10, iv g11, rv a23, rv a85, rv a93, iv 0, iv 0]) at_302 rfl ?_
         refine W.aload (pc := 304) 19 at_304 rfl rfl ?_
         refine W.aload (pc := 306) 18 at_306 rfl rfl ?_
         refine W.know (fun _ _ H => H.ne (i := 0) (j := 2) (by decide) rfl rfl (Or.inl rfl)) (fun ne95 => ?_)
         refine W.know (fun _ _ H => H.ne (i := 2) (j := 4) (by decide) rfl rfl (Or.inl rfl)) (fun ne96 => ?_)
         refine W.callV (pc := 308) (as := [(vr a85)]) 0 [] at_308 (w64 hw) (w65 hw) (w67 hw) (w67 hw) (w66 hw) (w40 hw) (w68 hw) (Hp.exa m0) (c58_isSymbol hw hs (p1 := a93) (p2 := a85) (p3 := a23) (p4 := a86) (p5 := a24) (x1 := z4) (x2 := z5) (x3 := g8.toInt8.toInt32) (hx3 := (by have := a_i2b g8; have := q0; have := q1; have := q2; have := q5; omega)) (x4 := g9.toInt8.toInt32) (hx4 := (by have := a_i2b g9; have := q0; have := q1; have := q2; have := q5; omega)) (x5 := g10.toInt8.toInt32) (hx5 := (by have := a_i2b g10; have := q0; have := q1; have := q2; have := q5; omega)) (x6 := g15.toInt8.toInt32) (hx6 := (by have := a_i2b g15; have := q0; have := q1; have := q2; have := q5; omega)) (mp1 := m0) (mp3 := m4) (mp2 := m2) (mp5 := m3) (mp4 := m1) (ne_p1_p2 := ne95) (ne_p2_p3 := ne96)) (by decide) pd_Ljava_lang_String__Z rfl rfl rfl rfl (by decide) (fun v D' h => ?_)
         obtain ⟨rfl, rfl⟩ := h
         show W _ _ _ _ _ _ _ _ _ _ _ _ 311 _ [(vi 0)]
         refine W.iload (pc := 311) at_311 rfl ?_
         refine W.icmpN (pc := 313) at_313 (n_ne (by decide)) ?_
         refine W.iconst (pc := 316) (1) at_316 (by decide) ?_
         refine W.goto (pc := 317) 321 at_317 (by decide) ?_
         exact W.ireturn (pc := 321) at_321 rfl (Or.inr (Or.inl rfl)) (nw_bool (by decide)) (by decide) rfl
        ·
         have ih124 := f_eq h124
         show W _ _ _ _ _ _ _ _ _ _ _ _ 222 _ [(vr a94), (vr a93), (vr a93)]
         refine W.aload (pc := 222) 17 at_222 rfl rfl ?_
         refine W.iload (pc := 224) at_224 rfl ?_
         refine W.iload (pc := 226) at_226 rfl ?_
         refine W.callI (pc := 228) (as := [(vr a94), (vr a23), (vi z4), (vi z5)]) 1 [(vr a93)] at_228 rfl (w47 hw) (w48 hw) (w40 hw) (w49 hw) (c61_init hw hs (p1 := a93) (p2 := a94) (p3 := a23) (p4 := a24) (x1 := z4) (x2 := z5) (x3 := g15.toInt8.toInt32) (hx3 := (by have := a_i2b g15; have := q0; have := q1; have := q2; have := q5; omega))) (by decide) pd_Lcom_example_rochester_rochester_JdqlLexer_Kind_Ljava_lang_String_II_V rfl rfl rfl rfl (by decide) (fun v D' h => ?_)
         obtain ⟨rfl, rfl⟩ := h
         show W _ _ _ _ _ _ _ _ _ _ _ _ 231 _ [(vr a93)]
         refine W.astore (pc := 231) (ls' := #[iv z0, iv z1, iv z2, iv z3, iv z4, iv z5, iv g13, iv g14, iv g2, iv g5, iv g15, iv g16, iv g17, iv g8, iv g9, iv g10, iv g11, rv a23, rv a85, rv a93, uu, uu]) at_231 rfl rfl ?_
         refine W.iload (pc := 233) at_233 rfl ?_
         refine W.iload (pc := 235) at_235 rfl ?_
         refine W.icmpY (pc := 237) 283 at_237 (y_ne (by have := q0; have := q1; have := q2; have := q5; omega)) (by decide) ?_
         refine W.iconst (pc := 283) (0) at_283 (by decide) ?_
         refine W.istore (pc := 284) (ls' := #[iv z0, iv z1, iv z2, iv z3, iv z4, iv z5, iv g13, iv g14, iv g2, iv g5, iv g15, iv g16, iv g17, iv g8, iv g9, iv g10, iv g11, rv a23, rv a85, rv a93, iv 0, uu]) at_284 rfl ?_
         refine W.iload (pc := 286) at_286 rfl ?_
         refine W.iconst (pc := 288) (5) at_288 (by decide) ?_
         refine W.icmpY (pc := 289) 301 at_289 (y_ne (by have := q5; have := q0; have := q1; have := q2; omega)) (by decide) ?_
         refine W.iconst (pc := 301) (0) at_301 (by decide) ?_
         refine W.istore (pc := 302) (ls' := #[iv z0, iv z1, iv z2, iv z3, iv z4, iv z5, iv g13, iv g14, iv g2, iv g5, iv g15, iv g16, iv g17, iv g8, iv g9, iv g10, iv g11, rv a23, rv a85, rv a93, iv 0, iv 0]) at_302 rfl ?_
         refine W.aload (pc := 304) 19 at_304 rfl rfl ?_
         refine W.aload (pc := 306) 18 at_306 rfl rfl ?_
         refine W.callV (pc := 308) (as := [(vr a85)]) 0 [] at_308 (w64 hw) (w65 hw) (w67 hw) (w67 hw) (w66 hw) (w40 hw) (w68 hw) (Hp.exa m0) (c62_isSymbol hw hs (p1 := a93) (p2 := a85) (p3 := a94) (p4 := a23) (p5 := a86) (p6 := a24) (x1 := z4) (x2 := z5) (x3 := g8.toInt8.toInt32) (hx3 := (by have := a_i2b g8; have := q0; have := q1; have := q2; have := q5; omega)) (x4 := g9.toInt8.toInt32) (hx4 := (by have := a_i2b g9; have := q0; have := q1; have := q2; have := q5; omega)) (x5 := g10.toInt8.toInt32) (hx5 := (by have := a_i2b g10; have := q0; have := q1; have := q2; have := q5; omega)) (x6 := g15.toInt8.toInt32) (hx6 := (by have := a_i2b g15; have := q0; have := q1; have := q2; have := q5; omega)) (mp1 := m0) (ne_p3_kSYMBOLZ := h123)) (by decide) pd_Ljava_lang_String__Z rfl rfl rfl rfl (by decide) (fun v D' h => ?_)
         obtain ⟨rfl, rfl⟩ := h
         show W _ _ _ _ _ _ _ _ _ _ _ _ 311 _ [(vi 0)]
         refine W.iload (pc := 311) at_311 rfl ?_
         refine W.icmpN (pc := 313) at_313 (n_ne (by decide)) ?_
         refine W.iconst (pc := 316) (1) at_316 (by decide) ?_
         refine W.goto (pc := 317) 321 at_317 (by decide) ?_
         exact W.ireturn (pc := 321) at_321 rfl (Or.inr (Or.inl rfl)) (nw_bool (by decide)) (by decide) rfl
       ·
        have ih116 := t_ne h116
        have ih117 := t_ne h117
        have ih118 := f_ne h118
        show W _ _ _ _ _ _ _ _ _ _ _ _ 211 _ [(vr a87)]
        refine W.astore (pc := 211) (ls' := #[iv z0, iv z1, iv z2, iv z3, iv z4, iv z5, iv g13, iv g14, iv g2, iv g5, iv g15, iv g16, iv g17, iv g8, iv g9, iv g10, iv g11, rv a23, rv a87, uu, uu, uu]) at_211 rfl rfl ?_
        refine W.new (pc := 213) at_213 (w38 hw) (w39 hw) (w40 hw) (laJdqlLexer_Token hw) (by decide) (by decide) (fun a97 => ?_)
        show W _ _ _ _ _ _ _ _ _ _ _ _ 216 _ [(vr a97)]
        refine W.dup (pc := 216) at_216 rfl ?_
        refine W.iload (pc := 217) at_217 rfl ?_
        refine W.callS (pc := 219) (as := [(vi g13)]) 2 [(vr a97), (vr a97)] at_219 (w41 hw) (w42 hw) (w3 hw) (w43 hw) (c19_kindOfm hw hs (x1 := g13) (hx1 := (by have := q0; have := q1; have := q2; omega))) (by decide) pd_I_Lcom_example_rochester_rochester_JdqlLexer_Kind_ rfl rfl rfl rfl (by decide) (fun v D' h => ?_)
        rcases h with ⟨h125, rfl, rfl⟩ | ⟨a98, h126, h127, rfl, rfl⟩
        ·
         have ih125 := t_eq h125
         show W _ _ _ _ _ _ _ _ _ _ _ _ 222 _ [(vr (kSYMBOL Z)), (vr a97), (vr a97)]
         refine W.aload (pc := 222) 17 at_222 rfl rfl ?_
         refine W.iload (pc := 224) at_224 rfl ?_
         refine W.iload (pc := 226) at_226 rfl ?_
         refine W.callI (pc := 228) (as := [(vr (kSYMBOL Z)), (vr a23), (vi z4), (vi z5)]) 1 [(vr a97)] at_228 rfl (w47 hw) (w48 hw) (w40 hw) (w49 hw) (c57_init hw hs (p1 := a97) (p2 := a23) (p3 := a24) (x1 := z4) (x2 := z5) (x3 := g15.toInt8.toInt32) (hx3 := (by have := a_i2b g15; have := q0; have := q1; have := q2; have := q5; omega))) (by decide) pd_Lcom_example_rochester_rochester_JdqlLexer_Kind_Ljava_lang_String_II_V rfl rfl rfl rfl (by decide) (fun v D' h => ?_)
         obtain ⟨rfl, rfl⟩ := h
         show W _ _ _ _ _ _ _ _ _ _ _ _ 231 _ [(vr a97)]
         refine W.astore (pc := 231) (ls' := #[iv z0, iv z1, iv z2, iv z3, iv z4, iv z5, iv g13, iv g14, iv g2, iv g5, iv g15, iv g16, iv g17, iv g8, iv g9, iv g10, iv g11, rv a23, rv a87, rv a97, uu, uu]) at_231 rfl rfl ?_
         refine W.iload (pc := 233) at_233 rfl ?_
         refine W.iload (pc := 235) at_235 rfl ?_
         refine W.icmpY (pc := 237) 283 at_237 (y_ne (by have := q0; have := q1; have := q2; have := q5; omega)) (by decide) ?_
         refine W.iconst (pc := 283) (0) at_283 (by decide) ?_
         refine W.istore (pc := 284) (ls' := #[iv z0, iv z1, iv z2, iv z3, iv z4, iv z5, iv g13, iv g14, iv g2, iv g5, iv g15, iv g16, iv g17, iv g8, iv g9, iv g10, iv g11, rv a23, rv a87, rv a97, iv 0, uu]) at_284 rfl ?_
         refine W.iload (pc := 286) at_286 rfl ?_
         refine W.iconst (pc := 288) (5) at_288 (by decide) ?_
         refine W.icmpN (pc := 289) at_289 (n_ne (by have := q5; have := q0; have := q1; have := q2; omega)) ?_
         refine W.iload (pc := 292) at_292 rfl ?_
         refine W.ifY (pc := 294) 301 at_294 (y_eq (by decide)) (by decide) ?_
         refine W.iconst (pc := 301) (0) at_301 (by decide) ?_
         refine W.istore (pc := 302) (ls' := #[iv z0, iv z1, iv z2, iv z3, iv z4, iv z5, iv g13, iv g14, iv g2, iv g5, iv g15, iv g16, iv g17, iv g8, iv g9, iv g10, iv g11, rv a23, rv a87, rv a97, iv 0, iv 0]) at_302 rfl ?_
         refine W.aload (pc := 304) 19 at_304 rfl rfl ?_
         refine W.aload (pc := 306) 18 at_306 rfl rfl ?_
         refine W.know (fun _ _ H => H.ne (i := 0) (j := 2) (by decide) rfl rfl (Or.inl rfl)) (fun ne99 => ?_)
         refine W.know (fun _ _ H => H.ne (i := 2) (j := 4) (by decide) rfl rfl (Or.inl rfl)) (fun ne100 => ?_)
         refine W.callV (pc := 308) (as := [(vr a87)]) 0 [] at_308 (w64 hw) (w65 hw) (w67 hw) (w67 hw) (w66 hw) (w40 hw) (w68 hw) (Hp.exa m0) (c63_isSymbol hw hs (p1 := a97) (p2 := a87) (p3 := a23) (p4 := a88) (p5 := a24) (x1 := z4) (x2 := z5) (x3 := g8.toInt8.toInt32) (hx3 := (by have := a_i2b g8; have := q0; have := q1; have := q2; have := q5; omega)) (x4 := g9.toInt8.toInt32) (hx4 := (by have := a_i2b g9; have := q0; have := q1; have := q2; have := q5; omega)) (x5 := g15.toInt8.toInt32) (hx5 := (by have := a_i2b g15; have := q0; have := q1; have := q2; have := q5; omega)) (mp1 := m0) (mp3 := m4) (mp2 := m2) (mp5 := m3) (mp4 := m1) (ne_p1_p2 := ne99) (ne_p2_p3 := ne100)) (by decide) pd_Ljava_lang_String__Z rfl rfl rfl rfl (by decide) (fun v D' h => ?_)
         obtain ⟨rfl, rfl⟩ := h
         show W _ _ _ _ _ _ _ _ _ _ _ _ 311 _ [(vi 0)]
         refine W.iload (pc := 311) at_311 rfl ?_
         refine W.icmpN (pc := 313) at_313 (n_ne (by decide)) ?_
         refine W.iconst (pc := 316) (1) at_316 (by decide) ?_
         refine W.goto (pc := 317) 321 at_317 (by decide) ?_
         exact W.ireturn (pc := 321) at_321 rfl (Or.inr (Or.inl rfl)) (nw_bool (by decide)) (by decide) rfl
        ·
         have ih127 := f_eq h127
         show W _ _ _ _ _ _ _ _ _ _ _ _ 222 _ [(vr a98), (vr a97), (vr a97)]
         refine W.aload (pc := 222) 17 at_222 rfl rfl ?_
         refine W.iload (pc := 224) at_224 rfl ?_
         refine W.iload (pc := 226) at_226 rfl ?_
         refine W.callI (pc := 228) (as := [(vr a98), (vr a23), (vi z4), (vi z5)]) 1 [(vr a97)] at_228 rfl (w47 hw) (w48 hw) (w40 hw) (w49 hw) (c61_init hw hs (p1 := a97) (p2 := a98) (p3 := a23) (p4 := a24) (x1 := z4) (x2 := z5) (x3 := g15.toInt8.toInt32) (hx3 := (by have := a_i2b g15; have := q0; have := q1; have := q2; have := q5; omega))) (by decide) pd_Lcom_example_rochester_rochester_JdqlLexer_Kind_Ljava_lang_String_II_V rfl rfl rfl rfl (by decide) (fun v D' h => ?_)
         obtain ⟨rfl, rfl⟩ := h
         show W _ _ _ _ _ _ _ _ _ _ _ _ 231 _ [(vr a97)]
         refine W.astore (pc := 231) (ls' := #[iv z0, iv z1, iv z2, iv z3, iv z4, iv z5, iv g13, iv g14, iv g2, iv g5, iv g15, iv g16, iv g17, iv g8, iv g9, iv g10, iv g11, rv a23, rv a87, rv a97, uu, uu]) at_231 rfl rfl ?_
         refine W.iload (pc := 233) at_233 rfl ?_
         refine W.iload (pc := 235) at_235 rfl ?_
         refine W.icmpY (pc := 237) 283 at_237 (y_ne (by have := q0; have := q1; have := q2; have := q5; omega)) (by decide) ?_
         refine W.iconst (pc := 283) (0) at_283 (by decide) ?_
         refine W.istore (pc := 284) (ls' := #[iv z0, iv z1, iv z2, iv z3, iv z4, iv z5, iv g13, iv g14, iv g2, iv g5, iv g15, iv g16, iv g17, iv g8, iv g9, iv g10, iv g11, rv a23, rv a87, rv a97, iv 0, uu]) at_284 rfl ?_
         refine W.iload (pc := 286) at_286 rfl ?_
         refine W.iconst (pc := 288) (5) at_288 (by decide) ?_
         refine W.icmpY (pc := 289) 301 at_289 (y_ne (by have := q5; have := q0; have := q1; have := q2; omega)) (by decide) ?_
         refine W.iconst (pc := 301) (0) at_301 (by decide) ?_
         refine W.istore (pc := 302) (ls' := #[iv z0, iv z1, iv z2, iv z3, iv z4, iv z5, iv g13, iv g14, iv g2, iv g5, iv g15, iv g16, iv g17, iv g8, iv g9, iv g10, iv g11, rv a23, rv a87, rv a97, iv 0, iv 0]) at_302 rfl ?_
         refine W.aload (pc := 304) 19 at_304 rfl rfl ?_
         refine W.aload (pc := 306) 18 at_306 rfl rfl ?_
         refine W.callV (pc := 308) (as := [(vr a87)]) 0 [] at_308 (w64 hw) (w65 hw) (w67 hw) (w67 hw) (w66 hw) (w40 hw) (w68 hw) (Hp.exa m0) (c66_isSymbol hw hs (p1 := a97) (p2 := a87) (p3 := a98) (p4 := a23) (p5 := a88) (p6 := a24) (x1 := z4) (x2 := z5) (x3 := g8.toInt8.toInt32) (hx3 := (by have := a_i2b g8; have := q0; have := q1; have := q2; have := q5; omega)) (x4 := g9.toInt8.toInt32) (hx4 := (by have := a_i2b g9; have := q0; have := q1; have := q2; have := q5; omega)) (x5 := g15.toInt8.toInt32) (hx5 := (by have := a_i2b g15; have := q0; have := q1; have := q2; have := q5; omega)) (mp1 := m0) (ne_p3_kSYMBOLZ := h126)) (by decide) pd_Ljava_lang_String__Z rfl rfl rfl rfl (by decide) (fun v D' h => ?_)
         obtain ⟨rfl, rfl⟩ := h
         show W _ _ _ _ _ _ _ _ _ _ _ _ 311 _ [(vi 0)]
         refine W.iload (pc := 311) at_311 rfl ?_
         refine W.icmpN (pc := 313) at_313 (n_ne (by decide)) ?_
         refine W.iconst (pc := 316) (1) at_316 (by decide) ?_
         refine W.goto (pc := 317) 321 at_317 (by decide) ?_
         exact W.ireturn (pc := 321) at_321 rfl (Or.inr (Or.inl rfl)) (nw_bool (by decide)) (by decide) rfl
       ·
        have ih119 := t_ne h119
        have ih120 := f_ne h120
        show W _ _ _ _ _ _ _ _ _ _ _ _ 211 _ [(vr a89)]
        refine W.astore (pc := 211) (ls' := #[iv z0, iv z1, iv z2, iv z3, iv z4, iv z5, iv g13, iv g14, iv g2, iv g5, iv g15, iv g16, iv g17, iv g8, iv g9, iv g10, iv g11, rv a23, rv a89, uu, uu, uu]) at_211 rfl rfl ?_
        refine W.new (pc := 213) at_213 (w38 hw) (w39 hw) (w40 hw) (laJdqlLexer_Token hw) (by decide) (by decide) (fun a101 => ?_)
        show W _ _ _ _ _ _ _ _ _ _ _ _ 216 _ [(vr a101)]
        refine W.dup (pc := 216) at_216 rfl ?_
        refine W.iload (pc := 217) at_217 rfl ?_
        refine W.callS (pc := 219) (as := [(vi g13)]) 2 [(vr a101), (vr a101)] at_219 (w41 hw) (w42 hw) (w3 hw) (w43 hw) (c19_kindOfm hw hs (x1 := g13) (hx1 := (by have := q0; have := q1; omega))) (by decide) pd_I_Lcom_example_rochester_rochester_JdqlLexer_Kind_ rfl rfl rfl rfl (by decide) (fun v D' h => ?_)
        rcases h with ⟨h128, rfl, rfl⟩ | ⟨a102, h129, h130, rfl, rfl⟩
        ·
         have ih128 := t_eq h128
         show W _ _ _ _ _ _ _ _ _ _ _ _ 222 _ [(vr (kSYMBOL Z)), (vr a101), (vr a101)]
         refine W.aload (pc := 222) 17 at_222 rfl rfl ?_
         refine W.iload (pc := 224) at_224 rfl ?_
         refine W.iload (pc := 226) at_226 rfl ?_
         refine W.callI (pc := 228) (as := [(vr (kSYMBOL Z)), (vr a23), (vi z4), (vi z5)]) 1 [(vr a101)] at_228 rfl (w47 hw) (w48 hw) (w40 hw) (w49 hw) (c57_init hw hs (p1 := a101) (p2 := a23) (p3 := a24) (x1 := z4) (x2 := z5) (x3 := g15.toInt8.toInt32) (hx3 := (by have := a_i2b g15; have := q0; have := q1; have := q5; omega))) (by decide) pd_Lcom_example_rochester_rochester_JdqlLexer_Kind_Ljava_lang_String_II_V rfl rfl rfl rfl (by decide) (fun v D' h => ?_)
         obtain ⟨rfl, rfl⟩ := h
         show W _ _ _ _ _ _ _ _ _ _ _ _ 231 _ [(vr a101)]
         refine W.astore (pc := 231) (ls' := #[iv z0, iv z1, iv z2, iv z3, iv z4, iv z5, iv g13, iv g14, iv g2, iv g5, iv g15, iv g16, iv g17, iv g8, iv g9, iv g10, iv g11, rv a23, rv a89, rv a101, uu, uu]) at_231 rfl rfl ?_
         refine W.iload (pc := 233) at_233 rfl ?_
         refine W.iload (pc := 235) at_235 rfl ?_
         refine W.icmpN (pc := 237) at_237 (n_ne (by have := q0; have := q1; have := q5; omega)) ?_
         refine W.iload (pc := 240) at_240 rfl ?_
         refine W.iconst (pc := 242) (1) at_242 (by decide) ?_
         refine W.icmpN (pc := 243) at_243 (n_lt (by have := q1; have := q0; have := q5; omega)) ?_
         refine W.iload (pc := 246) at_246 rfl ?_
         refine W.iload (pc := 248) at_248 rfl ?_
         refine W.icmp (pc := 250) 283 at_250 (by decide) (fun h131 => ?_) (fun h131 => ?_)
         ·
          have ih131 := t_ne h131
          refine W.iconst (pc := 283) (0) at_283 (by decide) ?_
          refine W.istore (pc := 284) (ls' := #[iv z0, iv z1, iv z2, iv z3, iv z4, iv z5, iv g13, iv g14, iv g2, iv g5, iv g15, iv g16, iv g17, iv g8, iv g9, iv g10, iv g11, rv a23, rv a89, rv a101, iv 0, uu]) at_284 rfl ?_
          refine W.iload (pc := 286) at_286 rfl ?_
          refine W.iconst (pc := 288) (5) at_288 (by decide) ?_
          refine W.icmpN (pc := 289) at_289 (n_ne (by have := q5; have := q0; have := q1; omega)) ?_
          refine W.iload (pc := 292) at_292 rfl ?_
          refine W.ifY (pc := 294) 301 at_294 (y_eq (by decide)) (by decide) ?_
          refine W.iconst (pc := 301) (0) at_301 (by decide) ?_
          refine W.istore (pc := 302) (ls' := #[iv z0, iv z1, iv z2, iv z3, iv z4, iv z5, iv g13, iv g14, iv g2, iv g5, iv g15, iv g16, iv g17, iv g8, iv g9, iv g10, iv g11, rv a23, rv a89, rv a101, iv 0, iv 0]) at_302 rfl ?_
          refine W.aload (pc := 304) 19 at_304 rfl rfl ?_
          refine W.aload (pc := 306) 18 at_306 rfl rfl ?_
          refine W.know (fun _ _ H => H.ne (i := 0) (j := 2) (by decide) rfl rfl (Or.inl rfl)) (fun ne103 => ?_)
          refine W.know (fun _ _ H => H.ne (i := 2) (j := 4) (by decide) rfl rfl (Or.inl rfl)) (fun ne104 => ?_)
          refine W.callV (pc := 308) (as := [(vr a89)]) 0 [] at_308 (w64 hw) (w65 hw) (w67 hw) (w67 hw) (w66 hw) (w40 hw) (w68 hw) (Hp.exa m0) (c67_isSymbol hw hs (p1 := a101) (p2 := a89) (p3 := a23) (p4 := a90) (p5 := a24) (x1 := z4) (x2 := z5) (x3 := g8.toInt8.toInt32) (hx3 := (by have := a_i2b g8; have := q0; have := q1; have := q5; omega)) (x4 := g15.toInt8.toInt32) (hx4 := (by have := a_i2b g15; have := q0; have := q1; have := q5; omega)) (mp1 := m0) (mp3 := m4) (mp2 := m2) (mp5 := m3) (mp4 := m1) (ne_p1_p2 := ne103) (ne_p2_p3 := ne104)) (by decide) pd_Ljava_lang_String__Z rfl rfl rfl rfl (by decide) (fun v D' h => ?_)
          rcases h with ⟨h132, rfl, rfl⟩ | ⟨h133, rfl, rfl⟩
          ·
           exact absurd h132 (n_eq (by have := a_i2b g15; have := a_i2b g8; have := q0; have := q1; have := q5; omega))
          ·
           have ih133 := f_eq h133
           show W _ _ _ _ _ _ _ _ _ _ _ _ 311 _ [(vi 0)]
           refine W.iload (pc := 311) at_311 rfl ?_
           refine W.icmpN (pc := 313) at_313 (n_ne (by decide)) ?_
           refine W.iconst (pc := 316) (1) at_316 (by decide) ?_
           refine W.goto (pc := 317) 321 at_317 (by decide) ?_
           exact W.ireturn (pc := 321) at_321 rfl (Or.inr (Or.inl rfl)) (nw_bool (by decide)) (by decide) rfl
         ·
          have ih131 := f_ne h131
          refine W.iload (pc := 253) at_253 rfl ?_
          refine W.iconst (pc := 255) (2) at_255 (by decide) ?_
          refine W.icmpY (pc := 256) 266 at_256 (y_lt (by have := q2; have := q0; have := q1; have := q5; omega)) (by decide) ?_
          refine W.iload (pc := 266) at_266 rfl ?_
          refine W.iconst (pc := 268) (3) at_268 (by decide) ?_
          refine W.icmpY (pc := 269) 279 at_269 (y_lt (by have := q3; have := q0; have := q1; have := q5; omega)) (by decide) ?_
          refine W.iconst (pc := 279) (1) at_279 (by decide) ?_
          refine W.goto (pc := 280) 284 at_280 (by decide) ?_
          refine W.istore (pc := 284) (ls' := #[iv z0, iv z1, iv z2, iv z3, iv z4, iv z5, iv g13, iv g14, iv g2, iv g5, iv g15, iv g16, iv g17, iv g8, iv g9, iv g10, iv g11, rv a23, rv a89, rv a101, iv 1, uu]) at_284 rfl ?_
          refine W.iload (pc := 286) at_286 rfl ?_
          refine W.iconst (pc := 288) (5) at_288 (by decide) ?_
          refine W.icmpN (pc := 289) at_289 (n_ne (by have := q5; have := q0; have := q1; omega)) ?_
          refine W.iload (pc := 292) at_292 rfl ?_
          refine W.ifN (pc := 294) at_294 (n_eq (by decide)) ?_
          refine W.iconst (pc := 297) (1) at_297 (by decide) ?_
          refine W.goto (pc := 298) 302 at_298 (by decide) ?_
          refine W.istore (pc := 302) (ls' := #[iv z0, iv z1, iv z2, iv z3, iv z4, iv z5, iv g13, iv g14, iv g2, iv g5, iv g15, iv g16, iv g17, iv g8, iv g9, iv g10, iv g11, rv a23, rv a89, rv a101, iv 1, iv 1]) at_302 rfl ?_
          refine W.aload (pc := 304) 19 at_304 rfl rfl ?_
          refine W.aload (pc := 306) 18 at_306 rfl rfl ?_
          refine W.know (fun _ _ H => H.ne (i := 0) (j := 2) (by decide) rfl rfl (Or.inl rfl)) (fun ne105 => ?_)
          refine W.know (fun _ _ H => H.ne (i := 2) (j := 4) (by decide) rfl rfl (Or.inl rfl)) (fun ne106 => ?_)
          refine W.callV (pc := 308) (as := [(vr a89)]) 0 [] at_308 (w64 hw) (w65 hw) (w67 hw) (w67 hw) (w66 hw) (w40 hw) (w68 hw) (Hp.exa m0) (c67_isSymbol hw hs (p1 := a101) (p2 := a89) (p3 := a23) (p4 := a90) (p5 := a24) (x1 := z4) (x2 := z5) (x3 := g8.toInt8.toInt32) (hx3 := (by have := a_i2b g8; have := q0; have := q1; have := q5; omega)) (x4 := g15.toInt8.toInt32) (hx4 := (by have := a_i2b g15; have := q0; have := q1; have := q5; omega)) (mp1 := m0) (mp3 := m4) (mp2 := m2) (mp5 := m3) (mp4 := m1) (ne_p1_p2 := ne105) (ne_p2_p3 := ne106)) (by decide) pd_Ljava_lang_String__Z rfl rfl rfl rfl (by decide) (fun v D' h => ?_)
          rcases h with ⟨h134, rfl, rfl⟩ | ⟨h135, rfl, rfl⟩
          ·
           have ih134 := t_eq h134
           show W _ _ _ _ _ _ _ _ _ _ _ _ 311 _ [(vi 1)]
           refine W.iload (pc := 311) at_311 rfl ?_
           refine W.icmpN (pc := 313) at_313 (n_ne (by decide)) ?_
           refine W.iconst (pc := 316) (1) at_316 (by decide) ?_
           refine W.goto (pc := 317) 321 at_317 (by decide) ?_
           exact W.ireturn (pc := 321) at_321 rfl (Or.inr (Or.inl rfl)) (nw_bool (by decide)) (by decide) rfl
          ·
           exact absurd h135 (Classical.not_not.mpr (y_eq (by have := a_i2b g15; have := a_i2b g8; have := q0; have := q1; have := q5; omega)))
        ·
         have ih130 := f_eq h130
         show W _ _ _ _ _ _ _ _ _ _ _ _ 222 _ [(vr a102), (vr a101), (vr a101)]
         refine W.aload (pc := 222) 17 at_222 rfl rfl ?_
         refine W.iload (pc := 224) at_224 rfl ?_
         refine W.iload (pc := 226) at_226 rfl ?_
         refine W.callI (pc := 228) (as := [(vr a102), (vr a23), (vi z4), (vi z5)]) 1 [(vr a101)] at_228 rfl (w47 hw) (w48 hw) (w40 hw) (w49 hw) (c61_init hw hs (p1 := a101) (p2 := a102) (p3 := a23) (p4 := a24) (x1 := z4) (x2 := z5) (x3 := g15.toInt8.toInt32) (hx3 := (by have := a_i2b g15; have := q0; have := q1; have := q5; omega))) (by decide) pd_Lcom_example_rochester_rochester_JdqlLexer_Kind_Ljava_lang_String_II_V rfl rfl rfl rfl (by decide) (fun v D' h => ?_)
         obtain ⟨rfl, rfl⟩ := h
         show W _ _ _ _ _ _ _ _ _ _ _ _ 231 _ [(vr a101)]
         refine W.astore (pc := 231) (ls' := #[iv z0, iv z1, iv z2, iv z3, iv z4, iv z5, iv g13, iv g14, iv g2, iv g5, iv g15, iv g16, iv g17, iv g8, iv g9, iv g10, iv g11, rv a23, rv a89, rv a101, uu, uu]) at_231 rfl rfl ?_
         refine W.iload (pc := 233) at_233 rfl ?_
         refine W.iload (pc := 235) at_235 rfl ?_
         refine W.icmpN (pc := 237) at_237 (n_ne (by have := q0; have := q1; have := q5; omega)) ?_
         refine W.iload (pc := 240) at_240 rfl ?_
         refine W.iconst (pc := 242) (1) at_242 (by decide) ?_
         refine W.icmpN (pc := 243) at_243 (n_lt (by have := q1; have := q0; have := q5; omega)) ?_
         refine W.iload (pc := 246) at_246 rfl ?_
         refine W.iload (pc := 248) at_248 rfl ?_
         refine W.icmp (pc := 250) 283 at_250 (by decide) (fun h136 => ?_) (fun h136 => ?_)
         ·
          have ih136 := t_ne h136
          refine W.iconst (pc := 283) (0) at_283 (by decide) ?_
          refine W.istore (pc := 284) (ls' := #[iv z0, iv z1, iv z2, iv z3, iv z4, iv z5, iv g13, iv g14, iv g2, iv g5, iv g15, iv g16, iv g17, iv g8, iv g9, iv g10, iv g11, rv a23, rv a89, rv a101, iv 0, uu]) at_284 rfl ?_
          refine W.iload (pc := 286) at_286 rfl ?_
          refine W.iconst (pc := 288) (5) at_288 (by decide) ?_
          refine W.icmpY (pc := 289) 301 at_289 (y_ne (by have := q5; have := q0; have := q1; omega)) (by decide) ?_
          refine W.iconst (pc := 301) (0) at_301 (by decide) ?_
          refine W.istore (pc := 302) (ls' := #[iv z0, iv z1, iv z2, iv z3, iv z4, iv z5, iv g13, iv g14, iv g2, iv g5, iv g15, iv g16, iv g17, iv g8, iv g9, iv g10, iv g11, rv a23, rv a89, rv a101, iv 0, iv 0]) at_302 rfl ?_
          refine W.aload (pc := 304) 19 at_304 rfl rfl ?_
          refine W.aload (pc := 306) 18 at_306 rfl rfl ?_
          refine W.callV (pc := 308) (as := [(vr a89)]) 0 [] at_308 (w64 hw) (w65 hw) (w67 hw) (w67 hw) (w66 hw) (w40 hw) (w68 hw) (Hp.exa m0) (c70_isSymbol hw hs (p1 := a101) (p2 := a89) (p3 := a102) (p4 := a23) (p5 := a90) (p6 := a24) (x1 := z4) (x2 := z5) (x3 := g8.toInt8.toInt32) (hx3 := (by have := a_i2b g8; have := q0; have := q1; have := q5; omega)) (x4 := g15.toInt8.toInt32) (hx4 := (by have := a_i2b g15; have := q0; have := q1; have := q5; omega)) (mp1 := m0) (ne_p3_kSYMBOLZ := h129)) (by decide) pd_Ljava_lang_String__Z rfl rfl rfl rfl (by decide) (fun v D' h => ?_)
          obtain ⟨rfl, rfl⟩ := h
          show W _ _ _ _ _ _ _ _ _ _ _ _ 311 _ [(vi 0)]
          refine W.iload (pc := 311) at_311 rfl ?_
          refine W.icmpN (pc := 313) at_313 (n_ne (by decide)) ?_
          refine W.iconst (pc := 316) (1) at_316 (by decide) ?_
          refine W.goto (pc := 317) 321 at_317 (by decide) ?_
          exact W.ireturn (pc := 321) at_321 rfl (Or.inr (Or.inl rfl)) (nw_bool (by decide)) (by decide) rfl
         ·
          have ih136 := f_ne h136
          refine W.iload (pc := 253) at_253 rfl ?_
          refine W.iconst (pc := 255) (2) at_255 (by decide) ?_
          refine W.icmpY (pc := 256) 266 at_256 (y_lt (by have := q2; have := q0; have := q1; have := q5; omega)) (by decide) ?_
          refine W.iload (pc := 266) at_266 rfl ?_
          refine W.iconst (pc := 268) (3) at_268 (by decide) ?_
          refine W.icmpY (pc := 269) 279 at_269 (y_lt (by have := q3; have := q0; have := q1; have := q5; omega)) (by decide) ?_
          refine W.iconst (pc := 279) (1) at_279 (by decide) ?_
          refine W.goto (pc := 280) 284 at_280 (by decide) ?_
          refine W.istore (pc := 284) (ls' := #[iv z0, iv z1, iv z2, iv z3, iv z4, iv z5, iv g13, iv g14, iv g2, iv g5, iv g15, iv g16, iv g17, iv g8, iv g9, iv g10, iv g11, rv a23, rv a89, rv a101, iv 1, uu]) at_284 rfl ?_
          refine W.iload (pc := 286) at_286 rfl ?_
          refine W.iconst (pc := 288) (5) at_288 (by decide) ?_
          refine W.icmpY (pc := 289) 301 at_289 (y_ne (by have := q5; have := q0; have := q1; omega)) (by decide) ?_
          refine W.iconst (pc := 301) (0) at_301 (by decide) ?_
          refine W.istore (pc := 302) (ls' := #[iv z0, iv z1, iv z2, iv z3, iv z4, iv z5, iv g13, iv g14, iv g2, iv g5, iv g15, iv g16, iv g17, iv g8, iv g9, iv g10, iv g11, rv a23, rv a89, rv a101, iv 1, iv 0]) at_302 rfl ?_
          refine W.aload (pc := 304) 19 at_304 rfl rfl ?_
          refine W.aload (pc := 306) 18 at_306 rfl rfl ?_
          refine W.callV (pc := 308) (as := [(vr a89)]) 0 [] at_308 (w64 hw) (w65 hw) (w67 hw) (w67 hw) (w66 hw) (w40 hw) (w68 hw) (Hp.exa m0) (c70_isSymbol hw hs (p1 := a101) (p2 := a89) (p3 := a102) (p4 := a23) (p5 := a90) (p6 := a24) (x1 := z4) (x2 := z5) (x3 := g8.toInt8.toInt32) (hx3 := (by have := a_i2b g8; have := q0; have := q1; have := q5; omega)) (x4 := g15.toInt8.toInt32) (hx4 := (by have := a_i2b g15; have := q0; have := q1; have := q5; omega)) (mp1 := m0) (ne_p3_kSYMBOLZ := h129)) (by decide) pd_Ljava_lang_String__Z rfl rfl rfl rfl (by decide) (fun v D' h => ?_)
          obtain ⟨rfl, rfl⟩ := h
          show W _ _ _ _ _ _ _ _ _ _ _ _ 311 _ [(vi 0)]
          refine W.iload (pc := 311) at_311 rfl ?_
          refine W.icmpN (pc := 313) at_313 (n_ne (by decide)) ?_
          refine W.iconst (pc := 316) (1) at_316 (by decide) ?_
          refine W.goto (pc := 317) 321 at_317 (by decide) ?_
          exact W.ireturn (pc := 321) at_321 rfl (Or.inr (Or.inl rfl)) (nw_bool (by decide)) (by decide) rfl
       ·
        have ih121 := f_ne h121
        show W _ _ _ _ _ _ _ _ _ _ _ _ 211 _ [(vr a91)]
        refine W.astore (pc := 211) (ls' := #[iv z0, iv z1, iv z2, iv z3, iv z4, iv z5, iv g13, iv g14, iv g2, iv g5, iv g15, iv g16, iv g17, iv g8, iv g9, iv g10, iv g11, rv a23, rv a91, uu, uu, uu]) at_211 rfl rfl ?_
        refine W.new (pc := 213) at_213 (w38 hw) (w39 hw) (w40 hw) (laJdqlLexer_Token hw) (by decide) (by decide) (fun a107 => ?_)
        show W _ _ _ _ _ _ _ _ _ _ _ _ 216 _ [(vr a107)]
        refine W.dup (pc := 216) at_216 rfl ?_
        refine W.iload (pc := 217) at_217 rfl ?_
        refine W.callS (pc := 219) (as := [(vi g13)]) 2 [(vr a107), (vr a107)] at_219 (w41 hw) (w42 hw) (w3 hw) (w43 hw) (c19_kindOfm hw hs (x1 := g13) (hx1 := (by have := q0; have := q1; omega))) (by decide) pd_I_Lcom_example_rochester_rochester_JdqlLexer_Kind_ rfl rfl rfl rfl (by decide) (fun v D' h => ?_)
        rcases h with ⟨h137, rfl, rfl⟩ | ⟨a108, h138, h139, rfl, rfl⟩
        ·
         have ih137 := t_eq h137
         show W _ _ _ _ _ _ _ _ _ _ _ _ 222 _ [(vr (kSYMBOL Z)), (vr a107), (vr a107)]
         refine W.aload (pc := 222) 17 at_222 rfl rfl ?_
         refine W.iload (pc := 224) at_224 rfl ?_
         refine W.iload (pc := 226) at_226 rfl ?_
         refine W.callI (pc := 228) (as := [(vr (kSYMBOL Z)), (vr a23), (vi z4), (vi z5)]) 1 [(vr a107)] at_228 rfl (w47 hw) (w48 hw) (w40 hw) (w49 hw) (c57_init hw hs (p1 := a107) (p2 := a23) (p3 := a24) (x1 := z4) (x2 := z5) (x3 := g15.toInt8.toInt32) (hx3 := (by have := a_i2b g15; have := q0; have := q1; have := q5; omega))) (by decide) pd_Lcom_example_rochester_rochester_JdqlLexer_Kind_Ljava_lang_String_II_V rfl rfl rfl rfl (by decide) (fun v D' h => ?_)
         obtain ⟨rfl, rfl⟩ := h
         show W _ _ _ _ _ _ _ _ _ _ _ _ 231 _ [(vr a107)]
         refine W.astore (pc := 231) (ls' := #[iv z0, iv z1, iv z2, iv z3, iv z4, iv z5, iv g13, iv g14, iv g2, iv g5, iv g15, iv g16, iv g17, iv g8, iv g9, iv g10, iv g11, rv a23, rv a91, rv a107, uu, uu]) at_231 rfl rfl ?_
         refine W.iload (pc := 233) at_233 rfl ?_
         refine W.iload (pc := 235) at_235 rfl ?_
         refine W.icmpY (pc := 237) 283 at_237 (y_ne (by have := q0; have := q1; have := q5; omega)) (by decide) ?_
         refine W.iconst (pc := 283) (0) at_283 (by decide) ?_
         refine W.istore (pc := 284) (ls' := #[iv z0, iv z1, iv z2, iv z3, iv z4, iv z5, iv g13, iv g14, iv g2, iv g5, iv g15, iv g16, iv g17, iv g8, iv g9, iv g10, iv g11, rv a23, rv a91, rv a107, iv 0, uu]) at_284 rfl ?_
         refine W.iload (pc := 286) at_286 rfl ?_
         refine W.iconst (pc := 288) (5) at_288 (by decide) ?_
         refine W.icmpN (pc := 289) at_289 (n_ne (by have := q5; have := q0; have := q1; omega)) ?_
         refine W.iload (pc := 292) at_292 rfl ?_
         refine W.ifY (pc := 294) 301 at_294 (y_eq (by decide)) (by decide) ?_
         refine W.iconst (pc := 301) (0) at_301 (by decide) ?_
         refine W.istore (pc := 302) (ls' := #[iv z0, iv z1, iv z2, iv z3, iv z4, iv z5, iv g13, iv g14, iv g2, iv g5, iv g15, iv g16, iv g17, iv g8, iv g9, iv g10, iv g11, rv a23, rv a91, rv a107, iv 0, iv 0]) at_302 rfl ?_
         refine W.aload (pc := 304) 19 at_304 rfl rfl ?_
         refine W.aload (pc := 306) 18 at_306 rfl rfl ?_
         refine W.know (fun _ _ H => H.ne (i := 0) (j := 2) (by decide) rfl rfl (Or.inl rfl)) (fun ne109 => ?_)
         refine W.know (fun _ _ H => H.ne (i := 2) (j := 4) (by decide) rfl rfl (Or.inl rfl)) (fun ne110 => ?_)
         refine W.callV (pc := 308) (as := [(vr a91)]) 0 [] at_308 (w64 hw) (w65 hw) (w67 hw) (w67 hw) (w66 hw) (w40 hw) (w68 hw) (Hp.exa m0) (c71_isSymbol hw hs (p1 := a107) (p2 := a91) (p3 := a23) (p4 := a92) (p5 := a24) (x1 := z4) (x2 := z5) (x3 := g15.toInt8.toInt32) (hx3 := (by have := a_i2b g15; have := q0; have := q1; have := q5; omega)) (mp1 := m0) (mp3 := m4) (mp2 := m2) (mp5 := m3) (mp4 := m1) (ne_p1_p2 := ne109) (ne_p2_p3 := ne110)) (by decide) pd_Ljava_lang_String__Z rfl rfl rfl rfl (by decide) (fun v D' h => ?_)
         obtain ⟨rfl, rfl⟩ := h
         show W _ _ _ _ _ _ _ _ _ _ _ _ 311 _ [(vi 0)]
         refine W.iload (pc := 311) at_311 rfl ?_
         refine W.icmpN (pc := 313) at_313 (n_ne (by decide)) ?_
         refine W.iconst (pc := 316) (1) at_316 (by decide) ?_
         refine W.goto (pc := 317) 321 at_317 (by decide) ?_
         exact W.ireturn (pc := 321) at_321 rfl (Or.inr (Or.inl rfl)) (nw_bool (by decide)) (by decide) rfl
        ·
         have ih139 := f_eq h139
         show W _ _ _ _ _ _ _ _ _ _ _ _ 222 _ [(vr a108), (vr a107), (vr a107)]
         refine W.aload (pc := 222) 17 at_222 rfl rfl ?_
         refine W.iload (pc := 224) at_224 rfl ?_
         refine W.iload (pc := 226) at_226 rfl ?_
         refine W.callI (pc := 228) (as := [(vr a108), (vr a23), (vi z4), (vi z5)]) 1 [(vr a107)] at_228 rfl (w47 hw) (w48 hw) (w40 hw) (w49 hw) (c61_init hw hs (p1 := a107) (p2 := a108) (p3 := a23) (p4 := a24) (x1 := z4) (x2 := z5) (x3 := g15.toInt8.toInt32) (hx3 := (by have := a_i2b g15; have := q0; have := q1; have := q5; omega))) (by decide) pd_Lcom_example_rochester_rochester_JdqlLexer_Kind_Ljava_lang_String_II_V rfl rfl rfl rfl (by decide) (fun v D' h => ?_)
         obtain ⟨rfl, rfl⟩ := h
         show W _ _ _ _ _ _ _ _ _ _ _ _ 231 _ [(vr a107)]
         refine W.astore (pc := 231) (ls' := #[iv z0, iv z1, iv z2, iv z3, iv z4, iv z5, iv g13, iv g14, iv g2, iv g5, iv g15, iv g16, iv g17, iv g8, iv g9, iv g10, iv g11, rv a23, rv a91, rv a107, uu, uu]) at_231 rfl rfl ?_
         refine W.iload (pc := 233) at_233 rfl ?_
         refine W.iload (pc := 235) at_235 rfl ?_
         refine W.icmpY (pc := 237) 283 at_237 (y_ne (by have := q0; have := q1; have := q5; omega)) (by decide) ?_
         refine W.iconst (pc := 283) (0) at_283 (by decide) ?_
         refine W.istore (pc := 284) (ls' := #[iv z0, iv z1, iv z2, iv z3, iv z4, iv z5, iv g13, iv g14, iv g2, iv g5, iv g15, iv g16, iv g17, iv g8, iv g9, iv g10, iv g11, rv a23, rv a91, rv a107, iv 0, uu]) at_284 rfl ?_
         refine W.iload (pc := 286) at_286 rfl ?_
         refine W.iconst (pc := 288) (5) at_288 (by decide) ?_
         refine W.icmpY (pc := 289) 301 at_289 (y_ne (by have := q5; have := q0; have := q1; omega)) (by decide) ?_
         refine W.iconst (pc := 301) (0) at_301 (by decide) ?_
         refine W.istore (pc := 302) (ls' := #[iv z0, iv z1, iv z2, iv z3, iv z4, iv z5, iv g13, iv g14, iv g2, iv g5, iv g15, iv g16, iv g17, iv g8, iv g9, iv g10, iv g11, rv a23, rv a91, rv a107, iv 0, iv 0]) at_302 rfl ?_
         refine W.aload (pc := 304) 19 at_304 rfl rfl ?_
         refine W.aload (pc := 306) 18 at_306 rfl rfl ?_
         refine W.callV (pc := 308) (as := [(vr a91)]) 0 [] at_308 (w64 hw) (w65 hw) (w67 hw) (w67 hw) (w66 hw) (w40 hw) (w68 hw) (Hp.exa m0) (c74_isSymbol hw hs (p1 := a107) (p2 := a91) (p3 := a108) (p4 := a23) (p5 := a92) (p6 := a24) (x1 := z4) (x2 := z5) (x3 := g15.toInt8.toInt32) (hx3 := (by have := a_i2b g15; have := q0; have := q1; have := q5; omega)) (mp1 := m0) (ne_p3_kSYMBOLZ := h138)) (by decide) pd_Ljava_lang_String__Z rfl rfl rfl rfl (by decide) (fun v D' h => ?_)
         obtain ⟨rfl, rfl⟩ := h
         show W _ _ _ _ _ _ _ _ _ _ _ _ 311 _ [(vi 0)]
         refine W.iload (pc := 311) at_311 rfl ?_
         refine W.icmpN (pc := 313) at_313 (n_ne (by decide)) ?_
         refine W.iconst (pc := 316) (1) at_316 (by decide) ?_
         refine W.goto (pc := 317) 321 at_317 (by decide) ?_
         exact W.ireturn (pc := 321) at_321 rfl (Or.inr (Or.inl rfl)) (nw_bool (by decide)) (by decide) rfl
      ·
       have ih9 := f_ne h9
       show W _ _ _ _ _ _ _ _ _ _ _ _ 198 _ [(vr a25)]
       refine W.astore (pc := 198) (ls' := #[iv z0, iv z1, iv z2, iv z3, iv z4, iv z5, iv g13, iv g14, iv g2, iv g5, iv g15, iv g16, iv g17, iv g8, iv g9, iv g10, iv g11, rv a25, uu, uu, uu, uu]) at_198 rfl rfl ?_
       refine W.iload (pc := 200) at_200 rfl ?_
       refine W.iload (pc := 202) at_202 rfl ?_
       refine W.iload (pc := 204) at_204 rfl ?_
       refine W.iload (pc := 206) at_206 rfl ?_
       refine W.callS (pc := 208) (as := [(vi g11), (vi g8), (vi g9), (vi g10)]) 0 [] at_208 (w1 hw) (w2 hw) (w3 hw) (w4 hw) (c1_mk hw hs (x1 := g11) (hx1 := (by have := q0; omega)) (x2 := g8) (hx2 := hg8) (x3 := g9) (hx3 := hg9) (x4 := g10) (hx4 := hg10)) (by decide) pd_ICCC_Ljava_lang_String_ rfl rfl rfl rfl (by decide) (fun v D' h => ?_)
       rcases h with ⟨a111, a112, h140, h141, h142, rfl, rfl⟩ | ⟨a113, a114, h143, h144, h145, rfl, rfl⟩ | ⟨a115, a116, h146, h147, rfl, rfl⟩ | ⟨a117, a118, h148, rfl, rfl⟩
       ·
        have ih140 := t_ne h140
        have ih141 := t_ne h141
        have ih142 := t_ne h142
        show W _ _ _ _ _ _ _ _ _ _ _ _ 211 _ [(vr a111)]
        refine W.astore (pc := 211) (ls' := #[iv z0, iv z1, iv z2, iv z3, iv z4, iv z5, iv g13, iv g14, iv g2, iv g5, iv g15, iv g16, iv g17, iv g8, iv g9, iv g10, iv g11, rv a25, rv a111, uu, uu, uu]) at_211 rfl rfl ?_
        refine W.new (pc := 213) at_213 (w38 hw) (w39 hw) (w40 hw) (laJdqlLexer_Token hw) (by decide) (by decide) (fun a119 => ?_)
        show W _ _ _ _ _ _ _ _ _ _ _ _ 216 _ [(vr a119)]
        refine W.dup (pc := 216) at_216 rfl ?_
        refine W.iload (pc := 217) at_217 rfl ?_
        refine W.callS (pc := 219) (as := [(vi g13)]) 2 [(vr a119), (vr a119)] at_219 (w41 hw) (w42 hw) (w3 hw) (w43 hw) (c19_kindOfm hw hs (x1 := g13) (hx1 := (by have := q0; have := q1; have := q2; omega))) (by decide) pd_I_Lcom_example_rochester_rochester_JdqlLexer_Kind_ rfl rfl rfl rfl (by decide) (fun v D' h => ?_)
        rcases h with ⟨h149, rfl, rfl⟩ | ⟨a120, h150, h151, rfl, rfl⟩
        ·
         have ih149 := t_eq h149
         show W _ _ _ _ _ _ _ _ _ _ _ _ 222 _ [(vr (kSYMBOL Z)), (vr a119), (vr a119)]
         refine W.aload (pc := 222) 17 at_222 rfl rfl ?_
         refine W.iload (pc := 224) at_224 rfl ?_
         refine W.iload (pc := 226) at_226 rfl ?_
         refine W.callI (pc := 228) (as := [(vr (kSYMBOL Z)), (vr a25), (vi z4), (vi z5)]) 1 [(vr a119)] at_228 rfl (w47 hw) (w48 hw) (w40 hw) (w49 hw) (c75_init hw hs (p1 := a119) (p2 := a25) (p3 := a26) (x1 := z4) (x2 := z5)) (by decide) pd_Lcom_example_rochester_rochester_JdqlLexer_Kind_Ljava_lang_String_II_V rfl rfl rfl rfl (by decide) (fun v D' h => ?_)
         obtain ⟨rfl, rfl⟩ := h
         show W _ _ _ _ _ _ _ _ _ _ _ _ 231 _ [(vr a119)]
         refine W.astore (pc := 231) (ls' := #[iv z0, iv z1, iv z2, iv z3, iv z4, iv z5, iv g13, iv g14, iv g2, iv g5, iv g15, iv g16, iv g17, iv g8, iv g9, iv g10, iv g11, rv a25, rv a111, rv a119, uu, uu]) at_231 rfl rfl ?_
         refine W.iload (pc := 233) at_233 rfl ?_
         refine W.iload (pc := 235) at_235 rfl ?_
         refine W.icmpY (pc := 237) 283 at_237 (y_ne (by have := q0; have := q1; have := q2; have := q5; omega)) (by decide) ?_
         refine W.iconst (pc := 283) (0) at_283 (by decide) ?_
         refine W.istore (pc := 284) (ls' := #[iv z0, iv z1, iv z2, iv z3, iv z4, iv z5, iv g13, iv g14, iv g2, iv g5, iv g15, iv g16, iv g17, iv g8, iv g9, iv g10, iv g11, rv a25, rv a111, rv a119, iv 0, uu]) at_284 rfl ?_
         refine W.iload (pc := 286) at_286 rfl ?_
         refine W.iconst (pc := 288) (5) at_288 (by decide) ?_
         refine W.icmpN (pc := 289) at_289 (n_ne (by have := q5; have := q0; have := q1; have := q2; omega)) ?_
         refine W.iload (pc := 292) at_292 rfl ?_
         refine W.ifY (pc := 294) 301 at_294 (y_eq (by decide)) (by decide) ?_
         refine W.iconst (pc := 301) (0) at_301 (by decide) ?_
         refine W.istore (pc := 302) (ls' := #[iv z0, iv z1, iv z2, iv z3, iv z4, iv z5, iv g13, iv g14, iv g2, iv g5, iv g15, iv g16, iv g17, iv g8, iv g9, iv g10, iv g11, rv a25, rv a111, rv a119, iv 0, iv 0]) at_302 rfl ?_
         refine W.aload (pc := 304) 19 at_304 rfl rfl ?_
         refine W.aload (pc := 306) 18 at_306 rfl rfl ?_
         refine W.know (fun _ _ H => H.ne (i := 0) (j := 2) (by decide) rfl rfl (Or.inl rfl)) (fun ne121 => ?_)
         refine W.know (fun _ _ H => H.ne (i := 2) (j := 4) (by decide) rfl rfl (Or.inl rfl)) (fun ne122 => ?_)
         refine W.callV (pc := 308) (as := [(vr a111)]) 0 [] at_308 (w64 hw) (w65 hw) (w67 hw) (w67 hw) (w66 hw) (w40 hw) (w68 hw) (Hp.exa m0) (c76_isSymbol hw hs (p1 := a119) (p2 := a111) (p3 := a25) (p4 := a112) (p5 := a26) (x1 := z4) (x2 := z5) (x3 := g8.toInt8.toInt32) (hx3 := (by have := a_i2b g8; have := q0; have := q1; have := q2; have := q5; omega)) (x4 := g9.toInt8.toInt32) (hx4 := (by have := a_i2b g9; have := q0; have := q1; have := q2; have := q5; omega)) (x5 := g10.toInt8.toInt32) (hx5 := (by have := a_i2b g10; have := q0; have := q1; have := q2; have := q5; omega)) (mp1 := m0) (mp3 := m4) (mp2 := m2) (mp5 := m3) (mp4 := m1) (ne_p1_p2 := ne121) (ne_p2_p3 := ne122)) (by decide) pd_Ljava_lang_String__Z rfl rfl rfl rfl (by decide) (fun v D' h => ?_)
         obtain ⟨rfl, rfl⟩ := h
         show W _ _ _ _ _ _ _ _ _ _ _ _ 311 _ [(vi 0)]
         refine W.iload (pc := 311) at_311 rfl ?_
         refine W.icmpN (pc := 313) at_313 (n_ne (by decide)) ?_
         refine W.iconst (pc := 316) (1) at_316 (by decide) ?_
         refine W.goto (pc := 317) 321 at_317 (by decide) ?_
         exact W.ireturn (pc := 321) at_321 rfl (Or.inr (Or.inl rfl)) (nw_bool (by decide)) (by decide) rfl
        ·
         have ih151 := f_eq h151
         show W _ _ _ _ _ _ _ _ _ _ _ _ 222 _ [(vr a120), (vr a119), (vr a119)]
         refine W.aload (pc := 222) 17 at_222 rfl rfl ?_
         refine W.iload (pc := 224) at_224 rfl ?_
         refine W.iload (pc := 226) at_226 rfl ?_
         refine W.callI (pc := 228) (as := [(vr a120), (vr a25), (vi z4), (vi z5)]) 1 [(vr a119)] at_228 rfl (w47 hw) (w48 hw) (w40 hw) (w49 hw) (c79_init hw hs (p1 := a119) (p2 := a120) (p3 := a25) (p4 := a26) (x1 := z4) (x2 := z5)) (by decide) pd_Lcom_example_rochester_rochester_JdqlLexer_Kind_Ljava_lang_String_II_V rfl rfl rfl rfl (by decide) (fun v D' h => ?_)
         obtain ⟨rfl, rfl⟩ := h
         show W _ _ _ _ _ _ _ _ _ _ _ _ 231 _ [(vr a119)]
         refine W.astore (pc := 231) (ls' := #[iv z0, iv z1, iv z2, iv z3, iv z4, iv z5, iv g13, iv g14, iv g2, iv g5, iv g15, iv g16, iv g17, iv g8, iv g9, iv g10, iv g11, rv a25, rv a111, rv a119, uu, uu]) at_231 rfl rfl ?_
         refine W.iload (pc := 233) at_233 rfl ?_
         refine W.iload (pc := 235) at_235 rfl ?_
         refine W.icmpY (pc := 237) 283 at_237 (y_ne (by have := q0; have := q1; have := q2; have := q5; omega)) (by decide) ?_
         refine W.iconst (pc := 283) (0) at_283 (by decide) ?_
         refine W.istore (pc := 284) (ls' := #[iv z0, iv z1, iv z2, iv z3, iv z4, iv z5, iv g13, iv g14, iv g2, iv g5, iv g15, iv g16, iv g17, iv g8, iv g9, iv g10, iv g11, rv a25, rv a111, rv a119, iv 0, uu]) at_284 rfl ?_
         refine W.iload (pc := 286) at_286 rfl ?_
         refine W.iconst (pc := 288) (5) at_288 (by decide) ?_
         refine W.icmpY (pc := 289) 301 at_289 (y_ne (by have := q5; have := q0; have := q1; have := q2; omega)) (by decide) ?_
         refine W.iconst (pc := 301) (0) at_301 (by decide) ?_
         refine W.istore (pc := 302) (ls' := #[iv z0, iv z1, iv z2, iv z3, iv z4, iv z5, iv g13, iv g14, iv g2, iv g5, iv g15, iv g16, iv g17, iv g8, iv g9, iv g10, iv g11, rv a25, rv a111, rv a119, iv 0, iv 0]) at_302 rfl ?_
         refine W.aload (pc := 304) 19 at_304 rfl rfl ?_
         refine W.aload (pc := 306) 18 at_306 rfl rfl ?_
         refine W.callV (pc := 308) (as := [(vr a111)]) 0 [] at_308 (w64 hw) (w65 hw) (w67 hw) (w67 hw) (w66 hw) (w40 hw) (w68 hw) (Hp.exa m0) (c80_isSymbol hw hs (p1 := a119) (p2 := a111) (p3 := a120) (p4 := a25) (p5 := a112) (p6 := a26) (x1 := z4) (x2 := z5) (x3 := g8.toInt8.toInt32) (hx3 := (by have := a_i2b g8; have := q0; have := q1; have := q2; have := q5; omega)) (x4 := g9.toInt8.toInt32) (hx4 := (by have := a_i2b g9; have := q0; have := q1; have := q2; have := q5; omega)) (x5 := g10.toInt8.toInt32) (hx5 := (by have := a_i2b g10; have := q0; have := q1; have := q2; have := q5; omega)) (mp1 := m0) (ne_p3_kSYMBOLZ := h150)) (by decide) pd_Ljava_lang_String__Z rfl rfl rfl rfl (by decide) (fun v D' h => ?_)
         obtain ⟨rfl, rfl⟩ := h
         show W _ _ _ _ _ _ _ _ _ _ _ _ 311 _ [(vi 0)]
         refine W.iload (pc := 311) at_311 rfl ?_
         refine W.icmpN (pc := 313) at_313 (n_ne (by decide)) ?_
         refine W.iconst (pc := 316) (1) at_316 (by decide) ?_
         refine W.goto (pc := 317) 321 at_317 (by decide) ?_
         exact W.ireturn (pc := 321) at_321 rfl (Or.inr (Or.inl rfl)) (nw_bool (by decide)) (by decide) rfl
       ·
        have ih143 := t_ne h143
        have ih144 := t_ne h144
        have ih145 := f_ne h145
        show W _ _ _ _ _ _ _ _ _ _ _ _ 211 _ [(vr a113)]
        refine W.astore (pc := 211) (ls' := #[iv z0, iv z1, iv z2, iv z3, iv z4, iv z5, iv g13, iv g14, iv g2, iv g5, iv g15, iv g16, iv g17, iv g8, iv g9, iv g10, iv g11, rv a25, rv a113, uu, uu, uu]) at_211 rfl rfl ?_
        refine W.new (pc := 213) at_213 (w38 hw) (w39 hw) (w40 hw) (laJdqlLexer_Token hw) (by decide) (by decide) (fun a123 => ?_)
        show W _ _ _ _ _ _ _ _ _ _ _ _ 216 _ [(vr a123)]
        refine W.dup (pc := 216) at_216 rfl ?_
        refine W.iload (pc := 217) at_217 rfl ?_
        refine W.callS (pc := 219) (as := [(vi g13)]) 2 [(vr a123), (vr a123)] at_219 (w41 hw) (w42 hw) (w3 hw) (w43 hw) (c19_kindOfm hw hs (x1 := g13) (hx1 := (by have := q0; have := q1; have := q2; omega))) (by decide) pd_I_Lcom_example_rochester_rochester_JdqlLexer_Kind_ rfl rfl rfl rfl (by decide) (fun v D' h => ?_)
        rcases h with ⟨h152, rfl, rfl⟩ | ⟨a124, h153, h154, rfl, rfl⟩
        ·
         have ih152 := t_eq h152
         show W _ _ _ _ _ _ _ _ _ _ _ _ 222 _ [(vr (kSYMBOL Z)), (vr a123), (vr a123)]
         refine W.aload (pc := 222) 17 at_222 rfl rfl ?_
         refine W.iload (pc := 224) at_224 rfl ?_
         refine W.iload (pc := 226) at_226 rfl ?_
         refine W.callI (pc := 228) (as := [(vr (kSYMBOL Z)), (vr a25), (vi z4), (vi z5)]) 1 [(vr a123)] at_228 rfl (w47 hw) (w48 hw) (w40 hw) (w49 hw) (c75_init hw hs (p1 := a123) (p2 := a25) (p3 := a26) (x1 := z4) (x2 := z5)) (by decide) pd_Lcom_example_rochester_rochester_JdqlLexer_Kind_Ljava_lang_String_II_V rfl rfl rfl rfl (by decide) (fun v D' h => ?_)
         obtain ⟨rfl, rfl⟩ := h
         show W _ _ _ _ _ _ _ _ _ _ _ _ 231 _ [(vr a123)]
         refine W.astore (pc := 231) (ls' := #[iv z0, iv z1, iv z2, iv z3, iv z4, iv z5, iv g13, iv g14, iv g2, iv g5, iv g15, iv g16, iv g17, iv g8, iv g9, iv g10, iv g11, rv a25, rv a113, rv a123, uu, uu]) at_231 rfl rfl ?_
         refine W.iload (pc := 233) at_233 rfl ?_
         refine W.iload (pc := 235) at_235 rfl ?_
         refine W.icmpY (pc := 237) 283 at_237 (y_ne (by have := q0; have := q1; have := q2; have := q5; omega)) (by decide) ?_
         refine W.iconst (pc := 283) (0) at_283 (by decide) ?_
         refine W.istore (pc := 284) (ls' := #[iv z0, iv z1, iv z2, iv z3, iv z4, iv z5, iv g13, iv g14, iv g2, iv g5, iv g15, iv g16, iv g17, iv g8, iv g9, iv g10, iv g11, rv a25, rv a113, rv a123, iv 0, uu]) at_284 rfl ?_
         refine W.iload (pc := 286) at_286 rfl ?_
         refine W.iconst (pc := 288) (5) at_288 (by decide) ?_
         refine W.icmpN (pc := 289) at_289 (n_ne (by have := q5; have := q0; have := q1; have := q2; omega)) ?_
         refine W.iload (pc := 292) at_292 rfl ?_
         refine W.ifY (pc := 294) 301 at_294 (y_eq (by decide)) (by decide) ?_
         refine W.iconst (pc := 301) (0) at_301 (by decide) ?_
         refine W.istore (pc := 302) (ls' := #[iv z0, iv z1, iv z2, iv z3, iv z4, iv z5, iv g13, iv g14, iv g2, iv g5, iv g15, iv g16, iv g17, iv g8, iv g9, iv g10, iv g11, rv a25, rv a113, rv a123, iv 0, iv 0]) at_302 rfl ?_
         refine W.aload (pc := 304) 19 at_304 rfl rfl ?_
         refine W.aload (pc := 306) 18 at_306 rfl rfl ?_
         refine W.know (fun _ _ H => H.ne (i := 0) (j := 2) (by decide) rfl rfl (Or.inl rfl)) (fun ne125 => ?_)
         refine W.know (fun _ _ H => H.ne (i := 2) (j := 4) (by decide) rfl rfl (Or.inl rfl)) (fun ne126 => ?_)
         refine W.callV (pc := 308) (as := [(vr a113)]) 0 [] at_308 (w64 hw) (w65 hw) (w67 hw) (w67 hw) (w66 hw) (w40 hw) (w68 hw) (Hp.exa m0) (c81_isSymbol hw hs (p1 := a123) (p2 := a113) (p3 := a25) (p4 := a114) (p5 := a26) (x1 := z4) (x2 := z5) (x3 := g8.toInt8.toInt32) (hx3 := (by have := a_i2b g8; have := q0; have := q1; have := q2; have := q5; omega)) (x4 := g9.toInt8.toInt32) (hx4 := (by have := a_i2b g9; have := q0; have := q1; have := q2; have := q5; omega)) (mp1 := m0) (mp3 := m4) (mp2 := m2) (mp5 := m3) (mp4 := m1) (ne_p1_p2 := ne125) (ne_p2_p3 := ne126)) (by decide) pd_Ljava_lang_String__Z rfl rfl rfl rfl (by decide) (fun v D' h => ?_)
         obtain ⟨rfl, rfl⟩ := h
         show W _ _ _ _ _ _ _ _ _ _ _ _ 311 _ [(vi 0)]
         refine W.iload (pc := 311) at_311 rfl ?_
         refine W.icmpN (pc := 313) at_313 (n_ne (by decide)) ?_
         refine W.iconst (pc := 316) (1) at_316 (by decide) ?_
         refine W.goto (pc := 317) 321 at_317 (by decide) ?_
         exact W.ireturn (pc := 321) at_321 rfl (Or.inr (Or.inl rfl)) (nw_bool (by decide)) (by decide) rfl
        ·
         have ih154 := f_eq h154
         show W _ _ _ _ _ _ _ _ _ _ _ _ 222 _ [(vr a124), (vr a123), (vr a123)]
         refine W.aload (pc := 222) 17 at_222 rfl rfl ?_
         refine W.iload (pc := 224) at_224 rfl ?_
         refine W.iload (pc := 226) at_226 rfl ?_
         refine W.callI (pc := 228) (as := [(vr a124), (vr a25), (vi z4), (vi z5)]) 1 [(vr a123)] at_228 rfl (w47 hw) (w48 hw) (w40 hw) (w49 hw) (c79_init hw hs (p1 := a123) (p2 := a124) (p3 := a25) (p4 := a26) (x1 := z4) (x2 := z5)) (by decide) pd_Lcom_example_rochester_rochester_JdqlLexer_Kind_Ljava_lang_String_II_V rfl rfl rfl rfl (by decide) (fun v D' h => ?_)
         obtain ⟨rfl, rfl⟩ := h
         show W _ _ _ _ _ _ _ _ _ _ _ _ 231 _ [(vr a123)]
         refine W.astore (pc := 231) (ls' := #[iv z0, iv z1, iv z2, iv z3, iv z4, iv z5, iv g13, iv g14, iv g2, iv g5, iv g15, iv g16, iv g17, iv g8, iv g9, iv g10, iv g11, rv a25, rv a113, rv a123, uu, uu]) at_231 rfl rfl ?_
         refine W.iload (pc := 233) at_233 rfl ?_
         refine W.iload (pc := 235) at_235 rfl ?_
         refine W.icmpY (pc := 237) 283 at_237 (y_ne (by have := q0; have := q1; have := q2; have := q5; omega)) (by decide) ?_
         refine W.iconst (pc := 283) (0) at_283 (by decide) ?_
         refine W.istore (pc := 284) (ls' := #[iv z0, iv z1, iv z2, iv z3, iv z4, iv z5, iv g13, iv g14, iv g2, iv g5, iv g15, iv g16, iv g17, iv g8, iv g9, iv g10, iv g11, rv a25, rv a113, rv a123, iv 0, uu]) at_284 rfl ?_
         refine W.iload (pc := 286) at_286 rfl ?_
         refine W.iconst (pc := 288) (5) at_288 (by decide) ?_
         refine W.icmpY (pc := 289) 301 at_289 (y_ne (by have := q5; have := q0; have := q1; have := q2; omega)) (by decide) ?_
         refine W.iconst (pc := 301) (0) at_301 (by decide) ?_
         refine W.istore (pc := 302) (ls' := #[iv z0, iv z1, iv z2, iv z3, iv z4, iv z5, iv g13, iv g14, iv g2, iv g5, iv g15, iv g16, iv g17, iv g8, iv g9, iv g10, iv g11, rv a25, rv a113, rv a123, iv 0, iv 0]) at_302 rfl ?_
         refine W.aload (pc := 304) 19 at_304 rfl rfl ?_
         refine W.aload (pc := 306) 18 at_306 rfl rfl ?_
         refine W.callV (pc := 308) (as := [(vr a113)]) 0 [] at_308 (w64 hw) (w65 hw) (w67 hw) (w67 hw) (w66 hw) (w40 hw) (w68 hw) (Hp.exa m0) (c84_isSymbol hw hs (p1 := a123) (p2 := a113) (p3 := a124) (p4 := a25) (p5 := a114) (p6 := a26) (x1 := z4) (x2 := z5) (x3 := g8.toInt8.toInt32) (hx3 := (by have := a_i2b g8; have := q0; have := q1; have := q2; have := q5; omega)) (x4 := g9.toInt8.toInt32) (hx4 := (by have := a_i2b g9; have := q0; have := q1; have := q2; have := q5; omega)) (mp1 := m0) (ne_p3_kSYMBOLZ := h153)) (by decide) pd_Ljava_lang_String__Z rfl rfl rfl rfl (by decide) (fun v D' h => ?_)
         obtain ⟨rfl, rfl⟩ := h
         show W _ _ _ _ _ _ _ _ _ _ _ _ 311 _ [(vi 0)]
         refine W.iload (pc := 311) at_311 rfl ?_
         refine W.icmpN (pc := 313) at_313 (n_ne (by decide)) ?_
         refine W.iconst (pc := 316) (1) at_316 (by decide) ?_
         refine W.goto (pc := 317) 321 at_317 (by decide) ?_
         exact W.ireturn (pc := 321) at_321 rfl (Or.inr (Or.inl rfl)) (nw_bool (by decide)) (by decide) rfl
       ·
        have ih146 := t_ne h146
        have ih147 := f_ne h147
        show W _ _ _ _ _ _ _ _ _ _ _ _ 211 _ [(vr a115)]
        refine W.astore (pc := 211) (ls' := #[iv z0, iv z1, iv z2, iv z3, iv z4, iv z5, iv g13, iv g14, iv g2, iv g5, iv g15, iv g16, iv g17, iv g8, iv g9, iv g10, iv g11, rv a25, rv a115, uu, uu, uu]) at_211 rfl rfl ?_
        refine W.new (pc := 213) at_213 (w38 hw) (w39 hw) (w40 hw) (laJdqlLexer_Token hw) (by decide) (by decide) (fun a127 => ?_)
        show W _ _ _ _ _ _ _ _ _ _ _ _ 216 _ [(vr a127)]
        refine W.dup (pc := 216) at_216 rfl ?_
        refine W.iload (pc := 217) at_217 rfl ?_
        refine W.callS (pc := 219) (as := [(vi g13)]) 2 [(vr a127), (vr a127)] at_219 (w41 hw) (w42 hw) (w3 hw) (w43 hw) (c19_kindOfm hw hs (x1 := g13) (hx1 := (by have := q0; have := q1; omega))) (by decide) pd_I_Lcom_example_rochester_rochester_JdqlLexer_Kind_ rfl rfl rfl rfl (by decide) (fun v D' h => ?_)
        rcases h with ⟨h155, rfl, rfl⟩ | ⟨a128, h156, h157, rfl, rfl⟩
        ·
         have ih155 := t_eq h155
         show W _ _ _ _ _ _ _ _ _ _ _ _ 222 _ [(vr (kSYMBOL Z)), (vr a127), (vr a127)]
         refine W.aload (pc := 222) 17 at_222 rfl rfl ?_
         refine W.iload (pc := 224) at_224 rfl ?_
         refine W.iload (pc := 226) at_226 rfl ?_
         refine W.callI (pc := 228) (as := [(vr (kSYMBOL Z)), (vr a25), (vi z4), (vi z5)]) 1 [(vr a127)] at_228 rfl (w47 hw) (w48 hw) (w40 hw) (w49 hw) (c75_init hw hs (p1 := a127) (p2 := a25) (p3 := a26) (x1 := z4) (x2 := z5)) (by decide) pd_Lcom_example_rochester_rochester_JdqlLexer_Kind_Ljava_lang_String_II_V rfl rfl rfl rfl (by decide) (fun v D' h => ?_)
         obtain ⟨rfl, rfl⟩ := h
         show W _ _ _ _ _ _ _ _ _ _ _ _ 231 _ [(vr a127)]
         refine W.astore (pc := 231) (ls' := #[iv z0, iv z1, iv z2, iv z3, iv z4, iv z5, iv g13, iv g14, iv g2, iv g5, iv g15, iv g16, iv g17, iv g8, iv g9, iv g10, iv g11, rv a25, rv a115, rv a127, uu, uu]) at_231 rfl rfl ?_
         refine W.iload (pc := 233) at_233 rfl ?_
         refine W.iload (pc := 235) at_235 rfl ?_
         refine W.icmpY (pc := 237) 283 at_237 (y_ne (by have := q0; have := q1; have := q5; omega)) (by decide) ?_
         refine W.iconst (pc := 283) (0) at_283 (by decide) ?_
         refine W.istore (pc := 284) (ls' := #[iv z0, iv z1, iv z2, iv z3, iv z4, iv z5, iv g13, iv g14, iv g2, iv g5, iv g15, iv g16, iv g17, iv g8, iv g9, iv g10, iv g11, rv a25, rv a115, rv a127, iv 0, uu]) at_284 rfl ?_
         refine W.iload (pc := 286) at_286 rfl ?_
         refine W.iconst (pc := 288) (5) at_288 (by decide) ?_
         refine W.icmpN (pc := 289) at_289 (n_ne (by have := q5; have := q0; have := q1; omega)) ?_
         refine W.iload (pc := 292) at_292 rfl ?_
         refine W.ifY (pc := 294) 301 at_294 (y_eq (by decide)) (by decide) ?_
         refine W.iconst (pc := 301) (0) at_301 (by decide) ?_
         refine W.istore (pc := 302) (ls' := #[iv z0, iv z1, iv z2, iv z3, iv z4, iv z5, iv g13, iv g14, iv g2, iv g5, iv g15, iv g16, iv g17, iv g8, iv g9, iv g10, iv g11, rv a25, rv a115, rv a127, iv 0, iv 0]) at_302 rfl ?_
         refine W.aload (pc := 304) 19 at_304 rfl rfl ?_
         refine W.aload (pc := 306) 18 at_306 rfl rfl ?_
         refine W.know (fun _ _ H => H.ne (i := 0) (j := 2) (by decide) rfl rfl (Or.inl rfl)) (fun ne129 => ?_)
         refine W.know (fun _ _ H => H.ne (i := 2) (j := 4) (by decide) rfl rfl (Or.inl rfl)) (fun ne130 => ?_)
         refine W.callV (pc := 308) (as := [(vr a115)]) 0 [] at_308 (w64 hw) (w65 hw) (w67 hw) (w67 hw) (w66 hw) (w40 hw) (w68 hw) (Hp.exa m0) (c85_isSymbol hw hs (p1 := a127) (p2 := a115) (p3 := a25) (p4 := a116) (p5 := a26) (x1 := z4) (x2 := z5) (x3 := g8.toInt8.toInt32) (hx3 := (by have := a_i2b g8; have := q0; have := q1; have := q5; omega)) (mp1 := m0) (mp3 := m4) (mp2 := m2) (mp5 := m3) (mp4 := m1) (ne_p1_p2 := ne129) (ne_p2_p3 := ne130)) (by decide) pd_Ljava_lang_String__Z rfl rfl rfl rfl (by decide) (fun v D' h => ?_)
         obtain ⟨rfl, rfl⟩ := h
         show W _ _ _ _ _ _ _ _ _ _ _ _ 311 _ [(vi 0)]
         refine W.iload (pc := 311) at_311 rfl ?_
         refine W.icmpN (pc := 313) at_313 (n_ne (by decide)) ?_
         refine W.iconst (pc := 316) (1) at_316 (by decide) ?_
         refine W.goto (pc := 317) 321 at_317 (by decide) ?_
         exact W.ireturn (pc := 321) at_321 rfl (Or.inr (Or.inl rfl)) (nw_bool (by decide)) (by decide) rfl
        ·
         have ih157 := f_eq h157
         show W _ _ _ _ _ _ _ _ _ _ _ _ 222 _ [(vr a128), (vr a127), (vr a127)]
         refine W.aload (pc := 222) 17 at_222 rfl rfl ?_
         refine W.iload (pc := 224) at_224 rfl ?_
         refine W.iload (pc := 226) at_226 rfl ?_
         refine W.callI (pc := 228) (as := [(vr a128), (vr a25), (vi z4), (vi z5)]) 1 [(vr a127)] at_228 rfl (w47 hw) (w48 hw) (w40 hw) (w49 hw) (c79_init hw hs (p1 := a127) (p2 := a128) (p3 := a25) (p4 := a26) (x1 := z4) (x2 := z5)) (by decide) pd_Lcom_example_rochester_rochester_JdqlLexer_Kind_Ljava_lang_String_II_V rfl rfl rfl rfl (by decide) (fun v D' h => ?_)
         obtain ⟨rfl, rfl⟩ := h
         show W _ _ _ _ _ _ _ _ _ _ _ _ 231 _ [(vr a127)]
         refine W.astore (pc := 231) (ls' := #[iv z0, iv z1, iv z2, iv z3, iv z4, iv z5, iv g13, iv g14, iv g2, iv g5, iv g15, iv g16, iv g17, iv g8, iv g9, iv g10, iv g11, rv a25, rv a115, rv a127, uu, uu]) at_231 rfl rfl ?_
         refine W.iload (pc := 233) at_233 rfl ?_
         refine W.iload (pc := 235) at_235 rfl ?_
         refine W.icmpY (pc := 237) 283 at_237 (y_ne (by have := q0; have := q1; have := q5; omega)) (by decide) ?_
         refine W.iconst (pc := 283) (0) at_283 (by decide) ?_
         refine W.istore (pc := 284) (ls' := #[iv z0, iv z1, iv z2, iv z3, iv z4, iv z5, iv g13, iv g14, iv g2, iv g5, iv g15, iv g16, iv g17, iv g8, iv g9, iv g10, iv g11, rv a25, rv a115, rv a127, iv 0, uu]) at_284 rfl ?_
         refine W.iload (pc := 286) at_286 rfl ?_
         refine W.iconst (pc := 288) (5) at_288 (by decide) ?_
         refine W.icmpY (pc := 289) 301 at_289 (y_ne (by have := q5; have := q0; have := q1; omega)) (by decide) ?_
         refine W.iconst (pc := 301) (0) at_301 (by decide) ?_
         refine W.istore (pc := 302) (ls' := #[iv z0, iv z1, iv z2, iv z3, iv z4, iv z5, iv g13, iv g14, iv g2, iv g5, iv g15, iv g16, iv g17, iv g8, iv g9, iv g10, iv g11, rv a25, rv a115, rv a127, iv 0, iv 0]) at_302 rfl ?_
         refine W.aload (pc := 304) 19 at_304 rfl rfl ?_
         refine W.aload (pc := 306) 18 at_306 rfl rfl ?_
         refine W.callV (pc := 308) (as := [(vr a115)]) 0 [] at_308 (w64 hw) (w65 hw) (w67 hw) (w67 hw) (w66 hw) (w40 hw) (w68 hw) (Hp.exa m0) (c88_isSymbol hw hs (p1 := a127) (p2 := a115) (p3 := a128) (p4 := a25) (p5 := a116) (p6 := a26) (x1 := z4) (x2 := z5) (x3 := g8.toInt8.toInt32) (hx3 := (by have := a_i2b g8; have := q0; have := q1; have := q5; omega)) (mp1 := m0) (ne_p3_kSYMBOLZ := h156)) (by decide) pd_Ljava_lang_String__Z rfl rfl rfl rfl (by decide) (fun v D' h => ?_)
         obtain ⟨rfl, rfl⟩ := h
         show W _ _ _ _ _ _ _ _ _ _ _ _ 311 _ [(vi 0)]
         refine W.iload (pc := 311) at_311 rfl ?_
         refine W.icmpN (pc := 313) at_313 (n_ne (by decide)) ?_
         refine W.iconst (pc := 316) (1) at_316 (by decide) ?_
         refine W.goto (pc := 317) 321 at_317 (by decide) ?_
         exact W.ireturn (pc := 321) at_321 rfl (Or.inr (Or.inl rfl)) (nw_bool (by decide)) (by decide) rfl
       ·
        have ih148 := f_ne h148
        show W _ _ _ _ _ _ _ _ _ _ _ _ 211 _ [(vr a117)]
        refine W.astore (pc := 211) (ls' := #[iv z0, iv z1, iv z2, iv z3, iv z4, iv z5, iv g13, iv g14, iv g2, iv g5, iv g15, iv g16, iv g17, iv g8, iv g9, iv g10, iv g11, rv a25, rv a117, uu, uu, uu]) at_211 rfl rfl ?_
        refine W.new (pc := 213) at_213 (w38 hw) (w39 hw) (w40 hw) (laJdqlLexer_Token hw) (by decide) (by decide) (fun a131 => ?_)
        show W _ _ _ _ _ _ _ _ _ _ _ _ 216 _ [(vr a131)]
        refine W.dup (pc := 216) at_216 rfl ?_
        refine W.iload (pc := 217) at_217 rfl ?_
        refine W.callS (pc := 219) (as := [(vi g13)]) 2 [(vr a131), (vr a131)] at_219 (w41 hw) (w42 hw) (w3 hw) (w43 hw) (c19_kindOfm hw hs (x1 := g13) (hx1 := (by have := q0; omega))) (by decide) pd_I_Lcom_example_rochester_rochester_JdqlLexer_Kind_ rfl rfl rfl rfl (by decide) (fun v D' h => ?_)
        rcases h with ⟨h158, rfl, rfl⟩ | ⟨a132, h159, h160, rfl, rfl⟩
        ·
         have ih158 := t_eq h158
         show W _ _ _ _ _ _ _ _ _ _ _ _ 222 _ [(vr (kSYMBOL Z)), (vr a131), (vr a131)]
         refine W.aload (pc := 222) 17 at_222 rfl rfl ?_
         refine W.iload (pc := 224) at_224 rfl ?_
         refine W.iload (pc := 226) at_226 rfl ?_
         refine W.callI (pc := 228) (as := [(vr (kSYMBOL Z)), (vr a25), (vi z4), (vi z5)]) 1 [(vr a131)] at_228 rfl (w47 hw) (w48 hw) (w40 hw) (w49 hw) (c75_init hw hs (p1 := a131) (p2 := a25) (p3 := a26) (x1 := z4) (x2 := z5)) (by decide) pd_Lcom_example_rochester_rochester_JdqlLexer_Kind_Ljava_lang_String_II_V rfl rfl rfl rfl (by decide) (fun v D' h => ?_)
         obtain ⟨rfl, rfl⟩ := h
         show W _ _ _ _ _ _ _ _ _ _ _ _ 231 _ [(vr a131)]
         refine W.astore (pc := 231) (ls' := #[iv z0, iv z1, iv z2, iv z3, iv z4, iv z5, iv g13, iv g14, iv g2, iv g5, iv g15, iv g16, iv g17, iv g8, iv g9, iv g10, iv g11, rv a25, rv a117, rv a131, uu, uu]) at_231 rfl rfl ?_
         refine W.iload (pc := 233) at_233 rfl ?_
         refine W.iload (pc := 235) at_235 rfl ?_
         refine W.icmpN (pc := 237) at_237 (n_ne (by have := q0; have := q5; omega)) ?_
         refine W.iload (pc := 240) at_240 rfl ?_
         refine W.iconst (pc := 242) (1) at_242 (by decide) ?_
         refine W.icmpY (pc := 243) 253 at_243 (y_lt (by have := q1; have := q0; have := q5; omega)) (by decide) ?_
         refine W.iload (pc := 253) at_253 rfl ?_
         refine W.iconst (pc := 255) (2) at_255 (by decide) ?_
         refine W.icmpY (pc := 256) 266 at_256 (y_lt (by have := q2; have := q0; have := q5; omega)) (by decide) ?_
         refine W.iload (pc := 266) at_266 rfl ?_
         refine W.iconst (pc := 268) (3) at_268 (by decide) ?_
         refine W.icmpY (pc := 269) 279 at_269 (y_lt (by have := q3; have := q0; have := q5; omega)) (by decide) ?_
         refine W.iconst (pc := 279) (1) at_279 (by decide) ?_
         refine W.goto (pc := 280) 284 at_280 (by decide) ?_
         refine W.istore (pc := 284) (ls' := #[iv z0, iv z1, iv z2, iv z3, iv z4, iv z5, iv g13, iv g14, iv g2, iv g5, iv g15, iv g16, iv g17, iv g8, iv g9, iv g10, iv g11, rv a25, rv a117, rv a131, iv 1, uu]) at_284 rfl ?_
         refine W.iload (pc := 286) at_286 rfl ?_
         refine W.iconst (pc := 288) (5) at_288 (by decide) ?_
         refine W.icmpN (pc := 289) at_289 (n_ne (by have := q5; have := q0; omega)) ?_
         refine W.iload (pc := 292) at_292 rfl ?_
         refine W.ifN (pc := 294) at_294 (n_eq (by decide)) ?_
         refine W.iconst (pc := 297) (1) at_297 (by decide) ?_
         refine W.goto (pc := 298) 302 at_298 (by decide) ?_
         refine W.istore (pc := 302) (ls' := #[iv z0, iv z1, iv z2, iv z3, iv z4, iv z5, iv g13, iv g14, iv g2, iv g5, iv g15, iv g16, iv g17, iv g8, iv g9, iv g10, iv g11, rv a25, rv a117, rv a131, iv 1, iv 1]) at_302 rfl ?_
         refine W.aload (pc := 304) 19 at_304 rfl rfl ?_
         refine W.aload (pc := 306) 18 at_306 rfl rfl ?_
         refine W.know (fun _ _ H => H.ne (i := 0) (j := 2) (by decide) rfl rfl (Or.inl rfl)) (fun ne133 => ?_)
         refine W.know (fun _ _ H => H.ne (i := 2) (j := 4) (by decide) rfl rfl (Or.inl rfl)) (fun ne134 => ?_)
         refine W.callV (pc := 308) (as := [(vr a117)]) 0 [] at_308 (w64 hw) (w65 hw) (w67 hw) (w67 hw) (w66 hw) (w40 hw) (w68 hw) (Hp.exa m0) (c89_isSymbol hw hs (p1 := a131) (p2 := a117) (p3 := a25) (p4 := a118) (p5 := a26) (x1 := z4) (x2 := z5) (mp1 := m0) (mp3 := m4) (mp2 := m2) (mp5 := m3) (mp4 := m1) (ne_p1_p2 := ne133) (ne_p2_p3 := ne134)) (by decide) pd_Ljava_lang_String__Z rfl rfl rfl rfl (by decide) (fun v D' h => ?_)
         obtain ⟨rfl, rfl⟩ := h
         show W _ _ _ _ _ _ _ _ _ _ _ _ 311 _ [(vi 1)]
         refine W.iload (pc := 311) at_311 rfl ?_
         refine W.icmpN (pc := 313) at_313 (n_ne (by decide)) ?_
         refine W.iconst (pc := 316) (1) at_316 (by decide) ?_
         refine W.goto (pc := 317) 321 at_317 (by decide) ?_
         exact W.ireturn (pc := 321) at_321 rfl (Or.inr (Or.inl rfl)) (nw_bool (by decide)) (by decide) rfl
        ·
         have ih160 := f_eq h160
         show W _ _ _ _ _ _ _ _ _ _ _ _ 222 _ [(vr a132), (vr a131), (vr a131)]
         refine W.aload (pc := 222) 17 at_222 rfl rfl ?_
         refine W.iload (pc := 224) at_224 rfl ?_
         refine W.iload (pc := 226) at_226 rfl ?_
         refine W.callI (pc := 228) (as := [(vr a132), (vr a25), (vi z4), (vi z5)]) 1 [(vr a131)] at_228 rfl (w47 hw) (w48 hw) (w40 hw) (w49 hw) (c79_init hw hs (p1 := a131) (p2 := a132) (p3 := a25) (p4 := a26) (x1 := z4) (x2 := z5)) (by decide) pd_Lcom_example_rochester_rochester_JdqlLexer_Kind_Ljava_lang_String_II_V rfl rfl rfl rfl (by decide) (fun v D' h => ?_)
         obtain ⟨rfl, rfl⟩ := h
         show W _ _ _ _ _ _ _ _ _ _ _ _ 231 _ [(vr a131)]
         refine W.astore (pc := 231) (ls' := #[iv z0, iv z1, iv z2, iv z3, iv z4, iv z5, iv g13, iv g14, iv g2, iv g5, iv g15, iv g16, iv g17, iv g8, iv g9, iv g10, iv g11, rv a25, rv a117, rv a131, uu, uu]) at_231 rfl rfl ?_
         refine W.iload (pc := 233) at_233 rfl ?_
         refine W.iload (pc := 235) at_235 rfl ?_
         refine W.icmpN (pc := 237) at_237 (n_ne (by have := q0; have := q5; omega)) ?_
         refine W.iload (pc := 240) at_240 rfl ?_
         refine W.iconst (pc := 242) (1) at_242 (by decide) ?_
         refine W.icmpY (pc := 243) 253 at_243 (y_lt (by have := q1; have := q0; have := q5; omega)) (by decide) ?_
         refine W.iload (pc := 253) at_253 rfl ?_
         refine W.iconst (pc := 255) (2) at_255 (by decide) ?_
         refine W.icmpY (pc := 256) 266 at_256 (y_lt (by have := q2; have := q0; have := q5; omega)) (by decide) ?_
         refine W.iload (pc := 266) at_266 rfl ?_
         refine W.iconst (pc := 268) (3) at_268 (by decide) ?_
         refine W.icmpY (pc := 269) 279 at_269 (y_lt (by have := q3; have := q0; have := q5; omega)) (by decide) ?_
         refine W.iconst (pc := 279) (1) at_279 (by decide) ?_
         refine W.goto (pc := 280) 284 at_280 (by decide) ?_
         refine W.istore (pc := 284) (ls' := #[iv z0, iv z1, iv z2, iv z3, iv z4, iv z5, iv g13, iv g14, iv g2, iv g5, iv g15, iv g16, iv g17, iv g8, iv g9, iv g10, iv g11, rv a25, rv a117, rv a131, iv 1, uu]) at_284 rfl ?_
         refine W.iload (pc := 286) at_286 rfl ?_
         refine W.iconst (pc := 288) (5) at_288 (by decide) ?_
         refine W.icmpY (pc := 289) 301 at_289 (y_ne (by have := q5; have := q0; omega)) (by decide) ?_
         refine W.iconst (pc := 301) (0) at_301 (by decide) ?_
         refine W.istore (pc := 302) (ls' := #[iv z0, iv z1, iv z2, iv z3, iv z4, iv z5, iv g13, iv g14, iv g2, iv g5, iv g15, iv g16, iv g17, iv g8, iv g9, iv g10, iv g11, rv a25, rv a117, rv a131, iv 1, iv 0]) at_302 rfl ?_
         refine W.aload (pc := 304) 19 at_304 rfl rfl ?_
         refine W.aload (pc := 306) 18 at_306 rfl rfl ?_
         refine W.callV (pc := 308) (as := [(vr a117)]) 0 [] at_308 (w64 hw) (w65 hw) (w67 hw) (w67 hw) (w66 hw) (w40 hw) (w68 hw) (Hp.exa m0) (c92_isSymbol hw hs (p1 := a131) (p2 := a117) (p3 := a132) (p4 := a25) (p5 := a118) (p6 := a26) (x1 := z4) (x2 := z5) (mp1 := m0) (ne_p3_kSYMBOLZ := h159)) (by decide) pd_Ljava_lang_String__Z rfl rfl rfl rfl (by decide) (fun v D' h => ?_)
         obtain ⟨rfl, rfl⟩ := h
         show W _ _ _ _ _ _ _ _ _ _ _ _ 311 _ [(vi 0)]
         refine W.iload (pc := 311) at_311 rfl ?_
         refine W.icmpN (pc := 313) at_313 (n_ne (by decide)) ?_
         refine W.iconst (pc := 316) (1) at_316 (by decide) ?_
         refine W.goto (pc := 317) 321 at_317 (by decide) ?_
         exact W.ireturn (pc := 321) at_321 rfl (Or.inr (Or.inl rfl)) (nw_bool (by decide)) (by decide) rfl
     exact K18 ((z0 &&& (2147483647 : Int32)) % (7 : Int32)) (z3 &&& (3 : Int32)) (z1 &&& (255 : Int32)) ((XT.ushr z1 (8 : Int32)) &&& (255 : Int32)) ((XT.ushr z1 (16 : Int32)) &&& (255 : Int32)) (by have := rng32 z0; have := q2147483647; have := am_2147483647 z0; have := q7; have := arem_7 (z0 &&& (2147483647 : Int32)); omega) (by have := rng32 z3; have := q3; have := am_3 z3; omega) (by have := rng32 z1; have := q255; have := am_255 z1; omega) (by have := rng32 z1; have := q8; have := aushr_8 z1; have := q255; have := am_255 (XT.ushr z1 (8 : Int32)); omega) (by have := rng32 z1; have := q16; have := aushr_16 z1; have := q255; have := am_255 (XT.ushr z1 (16 : Int32)); omega)
    refine W.iload (pc := 76) at_76 rfl ?_
    refine W.if (pc := 78) 150 at_78 (by decide) (fun h161 => ?_) (fun h161 => ?_)
    ·
     have ih161 := t_eq h161
     refine W.iloadN (pc := 150) at_150 rfl ?_
     refine W.iconst (pc := 151) (3) at_151 (by decide) ?_
     refine W.iushr (pc := 152) at_152 ?_
     refine W.iconst (pc := 153) (3) at_153 (by decide) ?_
     refine W.iand (pc := 154) at_154 ?_
     refine W.istore (pc := 155) (ls' := #[iv z0, iv z1, iv z2, iv z3, iv z4, iv z5, iv ((z0 &&& (2147483647 : Int32)) % (7 : Int32)), iv (z3 &&& (3 : Int32)), iv g2, iv g5, iv (z1 &&& (255 : Int32)), iv ((XT.ushr z1 (8 : Int32)) &&& (255 : Int32)), iv ((XT.ushr z1 (16 : Int32)) &&& (255 : Int32)), uu, uu, uu, iv ((XT.ushr z3 (3 : Int32)) &&& (3 : Int32)), uu, uu, uu, uu, uu]) at_155 rfl ?_
     refine W.iloadN (pc := 157) at_157 rfl ?_
     refine W.sipush (pc := 158) (255) at_158 (by decide) ?_
     refine W.iand (pc := 161) at_161 ?_
     refine W.i2cK (pc := 162) (z2 &&& (255 : Int32)) at_162 (z_i2c (by have := rng32 z2; have := q255; have := am_255 z2; have := q0; omega)) ?_
     refine W.istore (pc := 163) (ls' := #[iv z0, iv z1, iv z2, iv z3, iv z4, iv z5, iv ((z0 &&& (2147483647 : Int32)) % (7 : Int32)), iv (z3 &&& (3 : Int32)), iv g2, iv g5, iv (z1 &&& (255 : Int32)), iv ((XT.ushr z1 (8 : Int32)) &&& (255 : Int32)), iv ((XT.ushr z1 (16 : Int32)) &&& (255 : Int32)), iv (z2 &&& (255 : Int32)), uu, uu, iv ((XT.ushr z3 (3 : Int32)) &&& (3 : Int32)), uu, uu, uu, uu, uu]) at_163 rfl ?_
     refine W.iloadN (pc := 165) at_165 rfl ?_
     refine W.bipush (pc := 166) (8) at_166 (by decide) ?_
     refine W.iushr (pc := 168) at_168 ?_
     refine W.sipush (pc := 169) (255) at_169 (by decide) ?_
     refine W.iand (pc := 172) at_172 ?_
     refine W.i2cK (pc := 173) ((XT.ushr z2 (8 : Int32)) &&& (255 : Int32)) at_173 (z_i2c (by have := rng32 z2; have := q8; have := aushr_8 z2; have := q255; have := am_255 (XT.ushr z2 (8 : Int32)); have := q0; omega)) ?_
     refine W.istore (pc := 174) (ls' := #[iv z0, iv z1, iv z2, iv z3, iv z4, iv z5, iv ((z0 &&& (2147483647 : Int32)) % (7 : Int32)), iv (z3 &&& (3 : Int32)), iv g2, iv g5, iv (z1 &&& (255 : Int32)), iv ((XT.ushr z1 (8 : Int32)) &&& (255 : Int32)), iv ((XT.ushr z1 (16 : Int32)) &&& (255 : Int32)), iv (z2 &&& (255 : Int32)), iv ((XT.ushr z2 (8 : Int32)) &&& (255 : Int32)), uu, iv ((XT.ushr z3 (3 : Int32)) &&& (3 : Int32)), uu, uu, uu, uu, uu]) at_174 rfl ?_
     refine W.iloadN (pc := 176) at_176 rfl ?_
     refine W.bipush (pc := 177) (16) at_177 (by decide) ?_
     refine W.iushr (pc := 179) at_179 ?_
     refine W.sipush (pc := 180) (255) at_180 (by decide) ?_
     refine W.iand (pc := 183) at_183 ?_
     refine W.i2cK (pc := 184) ((XT.ushr z2 (16 : Int32)) &&& (255 : Int32)) at_184 (z_i2c (by have := rng32 z2; have := q16; have := aushr_16 z2; have := q255; have := am_255 (XT.ushr z2 (16 : Int32)); have := q0; omega)) ?_
     refine W.istore (pc := 185) (ls' := #[iv z0, iv z1, iv z2, iv z3, iv z4, iv z5, iv ((z0 &&& (2147483647 : Int32)) % (7 : Int32)), iv (z3 &&& (3 : Int32)), iv g2, iv g5, iv (z1 &&& (255 : Int32)), iv ((XT.ushr z1 (8 : Int32)) &&& (255 : Int32)), iv ((XT.ushr z1 (16 : Int32)) &&& (255 : Int32)), iv (z2 &&& (255 : Int32)), iv ((XT.ushr z2 (8 : Int32)) &&& (255 : Int32)), iv ((XT.ushr z2 (16 : Int32)) &&& (255 : Int32)), iv ((XT.ushr z3 (3 : Int32)) &&& (3 : Int32)), uu, uu, uu, uu, uu]) at_185 rfl ?_
     exact W.mono (by decide) (by decide) (K12 (z2 &&& (255 : Int32)) ((XT.ushr z2 (8 : Int32)) &&& (255 : Int32)) ((XT.ushr z2 (16 : Int32)) &&& (255 : Int32)) ((XT.ushr z3 (3 : Int32)) &&& (3 : Int32)) (by have := rng32 z2; have := q255; have := am_255 z2; have := q0; omega) (by have := rng32 z2; have := q8; have := aushr_8 z2; have := q255; have := am_255 (XT.ushr z2 (8 : Int32)); have := q0; omega) (by have := rng32 z2; have := q16; have := aushr_16 z2; have := q255; have := am_255 (XT.ushr z2 (16 : Int32)); have := q0; omega) (by have := rng32 z3; have := q3; have := aushr_3 z3; have := am_3 (XT.ushr z3 (3 : Int32)); have := q0; omega))
    ·
     have ih161 := f_eq h161
     refine W.iload (pc := 81) at_81 rfl ?_
     refine W.istore (pc := 83) (ls' := #[iv z0, iv z1, iv z2, iv z3, iv z4, iv z5, iv ((z0 &&& (2147483647 : Int32)) % (7 : Int32)), iv (z3 &&& (3 : Int32)), iv g2, iv g5, iv (z1 &&& (255 : Int32)), iv ((XT.ushr z1 (8 : Int32)) &&& (255 : Int32)), iv ((XT.ushr z1 (16 : Int32)) &&& (255 : Int32)), uu, uu, uu, iv (z3 &&& (3 : Int32)), uu, uu, uu, uu, uu]) at_83 rfl ?_
     have K137 : ∀ (g136 : Int32), 0 ≤ g136.toInt ∧ g136.toInt ≤ 255 → W Z EL room_1 "com/example/rochester/rochester/TokenIsSymbolPinLaw" "law" code maxLocals ret (fun v _ => v = some (.int 1)) ([]) 0 0 105 #[iv z0, iv z1, iv z2, iv z3, iv z4, iv z5, iv ((z0 &&& (2147483647 : Int32)) % (7 : Int32)), iv (z3 &&& (3 : Int32)), iv g2, iv g5, iv (z1 &&& (255 : Int32)), iv ((XT.ushr z1 (8 : Int32)) &&& (255 : Int32)), iv ((XT.ushr z1 (16 : Int32)) &&& (255 : Int32)), iv g136, uu, uu, iv (z3 &&& (3 : Int32)), uu, uu, uu, uu, uu] [] := by
      intro g136 hg136
      have K140 : ∀ (g139 : Int32), 0 ≤ g139.toInt ∧ g139.toInt ≤ 255 → W Z EL room_1 "com/example/rochester/rochester/TokenIsSymbolPinLaw" "law" code maxLocals ret (fun v _ => v = some (.int 1)) ([]) 0 0 126 #[iv z0, iv z1, iv z2, iv z3, iv z4, iv z5, iv ((z0 &&& (2147483647 : Int32)) % (7 : Int32)), iv (z3 &&& (3 : Int32)), iv g2, iv g5, iv (z1 &&& (255 : Int32)), iv ((XT.ushr z1 (8 : Int32)) &&& (255 : Int32)), iv ((XT.ushr z1 (16 : Int32)) &&& (255 : Int32)), iv g136, iv g139, uu, iv (z3 &&& (3 : Int32)), uu, uu, uu, uu, uu] [] := by
       intro g139 hg139
       have K143 : ∀ (g142 : Int32), 0 ≤ g142.toInt ∧ g142.toInt ≤ 255 → W Z EL room_1 "com/example/rochester/rochester/TokenIsSymbolPinLaw" "law" code maxLocals ret (fun v _ => v = some (.int 1)) ([]) 0 0 147 #[iv z0, iv z1, iv z2, iv z3, iv z4, iv z5, iv ((z0 &&& (2147483647 : Int32)) % (7 : Int32)), iv (z3 &&& (3 : Int32)), iv g2, iv g5, iv (z1 &&& (255 : Int32)), iv ((XT.ushr z1 (8 : Int32)) &&& (255 : Int32)), iv ((XT.ushr z1 (16 : Int32)) &&& (255 : Int32)), iv g136, iv g139, iv g142, iv (z3 &&& (3 : Int32)), uu, uu, uu, uu, uu] [] := by
        intro g142 hg142
        refine W.goto (pc := 147) 187 at_147 (by decide) ?_
        exact W.mono (by decide) (by decide) (K12 g136 g139 g142 (z3 &&& (3 : Int32)) hg136 hg139 hg142 (by have := rng32 z3; have := q3; have := am_3 z3; have := q0; omega))
       refine W.iload (pc := 126) at_126 rfl ?_
       refine W.iloadN (pc := 128) at_128 rfl ?_
       refine W.bipush (pc := 129) (7) at_129 (by decide) ?_
       refine W.iushr (pc := 131) at_131 ?_
       refine W.iconst (pc := 132) (1) at_132 (by decide) ?_
       refine W.iand (pc := 133) at_133 ?_
       refine W.if (pc := 134) 142 at_134 (by decide) (fun h162 => ?_) (fun h162 => ?_)
       ·
        have ih162 := t_eq h162
        refine W.iconst (pc := 142) (0) at_142 (by decide) ?_
        refine W.ixorK (pc := 143) ((XT.ushr z1 (16 : Int32)) &&& (255 : Int32)) at_143 (z_xor0 ((XT.ushr z1 (16 : Int32)) &&& (255 : Int32))) ?_
        refine W.i2cK (pc := 144) ((XT.ushr z1 (16 : Int32)) &&& (255 : Int32)) at_144 (z_i2c (by have := rng32 z1; have := q16; have := aushr_16 z1; have := q255; have := am_255 (XT.ushr z1 (16 : Int32)); have := q0; have := rng32 z3; have := q7; have := aushr_7 z3; have := q1; have := am_1 (XT.ushr z3 (7 : Int32)); omega)) ?_
        refine W.istore (pc := 145) (ls' := #[iv z0, iv z1, iv z2, iv z3, iv z4, iv z5, iv ((z0 &&& (2147483647 : Int32)) % (7 : Int32)), iv (z3 &&& (3 : Int32)), iv g2, iv g5, iv (z1 &&& (255 : Int32)), iv ((XT.ushr z1 (8 : Int32)) &&& (255 : Int32)), iv ((XT.ushr z1 (16 : Int32)) &&& (255 : Int32)), iv g136, iv g139, iv ((XT.ushr z1 (16 : Int32)) &&& (255 : Int32)), iv (z3 &&& (3 : Int32)), uu, uu, uu, uu, uu]) at_145 rfl ?_
        exact W.mono (by decide) (by decide) (K143 ((XT.ushr z1 (16 : Int32)) &&& (255 : Int32)) (by have := rng32 z1; have := q16; have := aushr_16 z1; have := q255; have := am_255 (XT.ushr z1 (16 : Int32)); have := q0; have := rng32 z3; have := q7; have := aushr_7 z3; have := q1; have := am_1 (XT.ushr z3 (7 : Int32)); omega))
       ·
        have ih162 := f_eq h162
        refine W.iload (pc := 137) at_137 rfl ?_
        refine W.goto (pc := 139) 143 at_139 (by decide) ?_
        refine W.ixor (pc := 143) at_143 ?_
        refine W.i2cK (pc := 144) (((XT.ushr z1 (16 : Int32)) &&& (255 : Int32)) ^^^ g5) at_144 (z_i2c (by have := rng32 z1; have := q16; have := aushr_16 z1; have := q255; have := am_255 (XT.ushr z1 (16 : Int32)); have := a_xor ((XT.ushr z1 (16 : Int32)) &&& (255 : Int32)) g5 8 256 (by decide) (by decide) (by have := rng32 z1; have := q16; have := aushr_16 z1; have := q255; have := am_255 (XT.ushr z1 (16 : Int32));  omega) (by  omega); have := q0; have := rng32 z3; have := q7; have := aushr_7 z3; have := q1; have := am_1 (XT.ushr z3 (7 : Int32)); omega)) ?_
        refine W.istore (pc := 145) (ls' := #[iv z0, iv z1, iv z2, iv z3, iv z4, iv z5, iv ((z0 &&& (2147483647 : Int32)) % (7 : Int32)), iv (z3 &&& (3 : Int32)), iv g2, iv g5, iv (z1 &&& (255 : Int32)), iv ((XT.ushr z1 (8 : Int32)) &&& (255 : Int32)), iv ((XT.ushr z1 (16 : Int32)) &&& (255 : Int32)), iv g136, iv g139, iv (((XT.ushr z1 (16 : Int32)) &&& (255 : Int32)) ^^^ g5), iv (z3 &&& (3 : Int32)), uu, uu, uu, uu, uu]) at_145 rfl ?_
        exact W.mono (by decide) (by decide) (K143 (((XT.ushr z1 (16 : Int32)) &&& (255 : Int32)) ^^^ g5) (by have := rng32 z1; have := q16; have := aushr_16 z1; have := q255; have := am_255 (XT.ushr z1 (16 : Int32)); have := a_xor ((XT.ushr z1 (16 : Int32)) &&& (255 : Int32)) g5 8 256 (by decide) (by decide) (by have := rng32 z1; have := q16; have := aushr_16 z1; have := q255; have := am_255 (XT.ushr z1 (16 : Int32));  omega) (by  omega); have := q0; have := rng32 z3; have := q7; have := aushr_7 z3; have := q1; have := am_1 (XT.ushr z3 (7 : Int32)); omega))
      refine W.iload (pc := 105) at_105 rfl ?_
      refine W.iloadN (pc := 107) at_107 rfl ?_
      refine W.bipush (pc := 108) (6) at_108 (by decide) ?_
      refine W.iushr (pc := 110) at_110 ?_
      refine W.iconst (pc := 111) (1) at_111 (by decide) ?_
      refine W.iand (pc := 112) at_112 ?_
      refine W.if (pc := 113) 121 at_113 (by decide) (fun h163 => ?_) (fun h163 => ?_)
      ·
       have ih163 := t_eq h163
       refine W.iconst (pc := 121) (0) at_121 (by decide) ?_
       refine W.ixorK (pc := 122) ((XT.ushr z1 (8 : Int32)) &&& (255 : Int32)) at_122 (z_xor0 ((XT.ushr z1 (8 : Int32)) &&& (255 : Int32))) ?_
       refine W.i2cK (pc := 123) ((XT.ushr z1 (8 : Int32)) &&& (255 : Int32)) at_123 (z_i2c (by have := rng32 z1; have := q8; have := aushr_8 z1; have := q255; have := am_255 (XT.ushr z1 (8 : Int32)); have := q0; have := rng32 z3; have := q6; have := aushr_6 z3; have := q1; have := am_1 (XT.ushr z3 (6 : Int32)); omega)) ?_
       refine W.istore (pc := 124) (ls' := #[iv z0, iv z1, iv z2, iv z3, iv z4, iv z5, iv ((z0 &&& (2147483647 : Int32)) % (7 : Int32)), iv (z3 &&& (3 : Int32)), iv g2, iv g5, iv (z1 &&& (255 : Int32)), iv ((XT.ushr z1 (8 : Int32)) &&& (255 : Int32)), iv ((XT.ushr z1 (16 : Int32)) &&& (255 : Int32)), iv g136, iv ((XT.ushr z1 (8 : Int32)) &&& (255 : Int32)), uu, iv (z3 &&& (3 : Int32)), uu, uu, uu, uu, uu]) at_124 rfl ?_
       exact W.mono (by decide) (by decide) (K140 ((XT.ushr z1 (8 : Int32)) &&& (255 : Int32)) (by have := rng32 z1; have := q8; have := aushr_8 z1; have := q255; have := am_255 (XT.ushr z1 (8 : Int32)); have := q0; have := rng32 z3; have := q6; have := aushr_6 z3; have := q1; have := am_1 (XT.ushr z3 (6 : Int32)); omega))
      ·
       have ih163 := f_eq h163
       refine W.iload (pc := 116) at_116 rfl ?_
       refine W.goto (pc := 118) 122 at_118 (by decide) ?_
       refine W.ixor (pc := 122) at_122 ?_
       refine W.i2cK (pc := 123) (((XT.ushr z1 (8 : Int32)) &&& (255 : Int32)) ^^^ g5) at_123 (z_i2c (by have := rng32 z1; have := q8; have := aushr_8 z1; have := q255; have := am_255 (XT.ushr z1 (8 : Int32)); have := a_xor ((XT.ushr z1 (8 : Int32)) &&& (255 : Int32)) g5 8 256 (by decide) (by decide) (by have := rng32 z1; have := q8; have := aushr_8 z1; have := q255; have := am_255 (XT.ushr z1 (8 : Int32));  omega) (by  omega); have := q0; have := rng32 z3; have := q6; have := aushr_6 z3; have := q1; have := am_1 (XT.ushr z3 (6 : Int32)); omega)) ?_
       refine W.istore (pc := 124) (ls' := #[iv z0, iv z1, iv z2, iv z3, iv z4, iv z5, iv ((z0 &&& (2147483647 : Int32)) % (7 : Int32)), iv (z3 &&& (3 : Int32)), iv g2, iv g5, iv (z1 &&& (255 : Int32)), iv ((XT.ushr z1 (8 : Int32)) &&& (255 : Int32)), iv ((XT.ushr z1 (16 : Int32)) &&& (255 : Int32)), iv g136, iv (((XT.ushr z1 (8 : Int32)) &&& (255 : Int32)) ^^^ g5), uu, iv (z3 &&& (3 : Int32)), uu, uu, uu, uu, uu]) at_124 rfl ?_
       exact W.mono (by decide) (by decide) (K140 (((XT.ushr z1 (8 : Int32)) &&& (255 : Int32)) ^^^ g5) (by have := rng32 z1; have := q8; have := aushr_8 z1; have := q255; have := am_255 (XT.ushr z1 (8 : Int32)); have := a_xor ((XT.ushr z1 (8 : Int32)) &&& (255 : Int32)) g5 8 256 (by decide) (by decide) (by have := rng32 z1; have := q8; have := aushr_8 z1; have := q255; have := am_255 (XT.ushr z1 (8 : Int32));  omega) (by  omega); have := q0; have := rng32 z3; have := q6; have := aushr_6 z3; have := q1; have := am_1 (XT.ushr z3 (6 : Int32)); omega))
     refine W.iload (pc := 85) at_85 rfl ?_
     refine W.iloadN (pc := 87) at_87 rfl ?_
     refine W.iconst (pc := 88) (5) at_88 (by decide) ?_
     refine W.iushr (pc := 89) at_89 ?_
     refine W.iconst (pc := 90) (1) at_90 (by decide) ?_
     refine W.iand (pc := 91) at_91 ?_
     refine W.if (pc := 92) 100 at_92 (by decide) (fun h164 => ?_) (fun h164 => ?_)
     ·
      have ih164 := t_eq h164
      refine W.iconst (pc := 100) (0) at_100 (by decide) ?_
      refine W.ixorK (pc := 101) (z1 &&& (255 : Int32)) at_101 (z_xor0 (z1 &&& (255 : Int32))) ?_
      refine W.i2cK (pc := 102) (z1 &&& (255 : Int32)) at_102 (z_i2c (by have := rng32 z1; have := q255; have := am_255 z1; have := q0; have := rng32 z3; have := q5; have := aushr_5 z3; have := q1; have := am_1 (XT.ushr z3 (5 : Int32)); omega)) ?_
      refine W.istore (pc := 103) (ls' := #[iv z0, iv z1, iv z2, iv z3, iv z4, iv z5, iv ((z0 &&& (2147483647 : Int32)) % (7 : Int32)), iv (z3 &&& (3 : Int32)), iv g2, iv g5, iv (z1 &&& (255 : Int32)), iv ((XT.ushr z1 (8 : Int32)) &&& (255 : Int32)), iv ((XT.ushr z1 (16 : Int32)) &&& (255 : Int32)), iv (z1 &&& (255 : Int32)), uu, uu, iv (z3 &&& (3 : Int32)), uu, uu, uu, uu, uu]) at_103 rfl ?_
      exact W.mono (by decide) (by decide) (K137 (z1 &&& (255 : Int32)) (by have := rng32 z1; have := q255; have := am_255 z1; have := q0; have := rng32 z3; have := q5; have := aushr_5 z3; have := q1; have := am_1 (XT.ushr z3 (5 : Int32)); omega))
     ·
      have ih164 := f_eq h164
      refine W.iload (pc := 95) at_95 rfl ?_
      refine W.goto (pc := 97) 101 at_97 (by decide) ?_
      refine W.ixor (pc := 101) at_101 ?_
      refine W.i2cK (pc := 102) ((z1 &&& (255 : Int32)) ^^^ g5) at_102 (z_i2c (by have := rng32 z1; have := q255; have := am_255 z1; have := a_xor (z1 &&& (255 : Int32)) g5 8 256 (by decide) (by decide) (by have := rng32 z1; have := q255; have := am_255 z1;  omega) (by  omega); have := q0; have := rng32 z3; have := q5; have := aushr_5 z3; have := q1; have := am_1 (XT.ushr z3 (5 : Int32)); omega)) ?_
      refine W.istore (pc := 103) (ls' := #[iv z0, iv z1, iv z2, iv z3, iv z4, iv z5, iv ((z0 &&& (2147483647 : Int32)) % (7 : Int32)), iv (z3 &&& (3 : Int32)), iv g2, iv g5, iv (z1 &&& (255 : Int32)), iv ((XT.ushr z1 (8 : Int32)) &&& (255 : Int32)), iv ((XT.ushr z1 (16 : Int32)) &&& (255 : Int32)), iv ((z1 &&& (255 : Int32)) ^^^ g5), uu, uu, iv (z3 &&& (3 : Int32)), uu, uu, uu, uu, uu]) at_103 rfl ?_
      exact W.mono (by decide) (by decide) (K137 ((z1 &&& (255 : Int32)) ^^^ g5) (by have := rng32 z1; have := q255; have := am_255 z1; have := a_xor (z1 &&& (255 : Int32)) g5 8 256 (by decide) (by decide) (by have := rng32 z1; have := q255; have := am_255 z1;  omega) (by  omega); have := q0; have := rng32 z3; have := q5; have := aushr_5 z3; have := q1; have := am_1 (XT.ushr z3 (5 : Int32)); omega))
   refine W.iloadN (pc := 29) at_29 rfl ?_
   refine W.bipush (pc := 30) (8) at_30 (by decide) ?_
   refine W.iushr (pc := 32) at_32 ?_
   refine W.iconst (pc := 33) (1) at_33 (by decide) ?_
   refine W.iand (pc := 34) at_34 ?_
   refine W.if (pc := 35) 43 at_35 (by decide) (fun h165 => ?_) (fun h165 => ?_)
   ·
    have ih165 := t_eq h165
    refine W.iconst (pc := 43) (1) at_43 (by decide) ?_
    refine W.istore (pc := 44) (ls' := #[iv z0, iv z1, iv z2, iv z3, iv z4, iv z5, iv ((z0 &&& (2147483647 : Int32)) % (7 : Int32)), iv (z3 &&& (3 : Int32)), iv g2, iv 1, uu, uu, uu, uu, uu, uu, uu, uu, uu, uu, uu, uu]) at_44 rfl ?_
    exact W.mono (by decide) (by decide) (K6 (1 : Int32) (by decide))
   ·
    have ih165 := f_eq h165
    refine W.bipush (pc := 38) (32) at_38 (by decide) ?_
    refine W.goto (pc := 40) 44 at_40 (by decide) ?_
    refine W.istore (pc := 44) (ls' := #[iv z0, iv z1, iv z2, iv z3, iv z4, iv z5, iv ((z0 &&& (2147483647 : Int32)) % (7 : Int32)), iv (z3 &&& (3 : Int32)), iv g2, iv 32, uu, uu, uu, uu, uu, uu, uu, uu, uu, uu, uu, uu]) at_44 rfl ?_
    exact W.mono (by decide) (by decide) (K6 (32 : Int32) (by decide))
  refine W.iloadN (pc := 14) at_14 rfl ?_
  refine W.iconst (pc := 15) (2) at_15 (by decide) ?_
  refine W.iushr (pc := 16) at_16 ?_
  refine W.iconst (pc := 17) (1) at_17 (by decide) ?_
  refine W.iand (pc := 18) at_18 ?_
  refine W.if (pc := 19) 26 at_19 (by decide) (fun h166 => ?_) (fun h166 => ?_)
  ·
   have ih166 := t_eq h166
   refine W.iconst (pc := 26) (0) at_26 (by decide) ?_
   refine W.istore (pc := 27) (ls' := #[iv z0, iv z1, iv z2, iv z3, iv z4, iv z5, iv ((z0 &&& (2147483647 : Int32)) % (7 : Int32)), iv (z3 &&& (3 : Int32)), iv 0, uu, uu, uu, uu, uu, uu, uu, uu, uu, uu, uu, uu, uu]) at_27 rfl ?_
   exact W.mono (by decide) (by decide) (K3 (0 : Int32) (by decide))
  ·
   have ih166 := f_eq h166
   refine W.iconst (pc := 22) (1) at_22 (by decide) ?_
   refine W.goto (pc := 23) 27 at_23 (by decide) ?_
   refine W.istore (pc := 27) (ls' := #[iv z0, iv z1, iv z2, iv z3, iv z4, iv z5, iv ((z0 &&& (2147483647 : Int32)) % (7 : Int32)), iv (z3 &&& (3 : Int32)), iv 1, uu, uu, uu, uu, uu, uu, uu, uu, uu, uu, uu, uu, uu]) at_27 rfl ?_
   exact W.mono (by decide) (by decide) (K3 (1 : Int32) (by decide))
theorem w45 {Z a0} (hw : HW a0 Z) : ((Jvm.Cond.initialized "com/example/rochester/rochester/JdqlLexer$Kind") : Jvm.Cond).before a0 Z = true := hw _ (List.mem_of_getElem? (i := 45) rfl)
theorem w46 {Z a0} (hw : HW a0 Z) : ((Jvm.Cond.laysStatic "com/example/rochester/rochester/JdqlLexer$Kind" "WORD" "Lcom/example/rochester/rochester/JdqlLexer$Kind;") : Jvm.Cond).before a0 Z = true := hw _ (List.mem_of_getElem? (i := 46) rfl)
theorem w76 {Z a0} (hw : HW a0 Z) : ((Jvm.Cond.laysStatic "com/example/rochester/rochester/JdqlLexer$Kind" "STRING" "Lcom/example/rochester/rochester/JdqlLexer$Kind;") : Jvm.Cond).before a0 Z = true := hw _ (List.mem_of_getElem? (i := 76) rfl)
theorem w74 {Z a0} (hw : HW a0 Z) : ((Jvm.Cond.laysStatic "com/example/rochester/rochester/JdqlLexer$Kind" "INTEGER" "Lcom/example/rochester/rochester/JdqlLexer$Kind;") : Jvm.Cond).before a0 Z = true := hw _ (List.mem_of_getElem? (i := 74) rfl)
theorem w78 {Z a0} (hw : HW a0 Z) : ((Jvm.Cond.laysStatic "com/example/rochester/rochester/JdqlLexer$Kind" "DECIMAL" "Lcom/example/rochester/rochester/JdqlLexer$Kind;") : Jvm.Cond).before a0 Z = true := hw _ (List.mem_of_getElem? (i := 78) rfl)
theorem w72 {Z a0} (hw : HW a0 Z) : ((Jvm.Cond.laysStatic "com/example/rochester/rochester/JdqlLexer$Kind" "PARAMETER" "Lcom/example/rochester/rochester/JdqlLexer$Kind;") : Jvm.Cond).before a0 Z = true := hw _ (List.mem_of_getElem? (i := 72) rfl)
theorem w70 {Z a0} (hw : HW a0 Z) : ((Jvm.Cond.laysStatic "com/example/rochester/rochester/JdqlLexer$Kind" "SYMBOL" "Lcom/example/rochester/rochester/JdqlLexer$Kind;") : Jvm.Cond).before a0 Z = true := hw _ (List.mem_of_getElem? (i := 70) rfl)
theorem w80 {Z a0} (hw : HW a0 Z) : ((Jvm.Cond.laysStatic "com/example/rochester/rochester/JdqlLexer$Kind" "END" "Lcom/example/rochester/rochester/JdqlLexer$Kind;") : Jvm.Cond).before a0 Z = true := hw _ (List.mem_of_getElem? (i := 80) rfl)
set_option maxRecDepth 65536 in
set_option maxHeartbeats 4000000 in
theorem comes_1 {Post : Tables → Env → Array Value → State → Outcome → State → Prop} (hpost : ∀ tb e args s v u, (limb_1_1.after args s (.returned v) u = true ∧ limb_1_2.after args s (.returned v) u = true ∧ True) → Jvm.D.FramedW s (.returned v) u (Jvm.fieldLocs frame_1_writes args s ++ Jvm.arrayLocs frame_1_arrays args s ++ Jvm.staticLocs frame_1_statics s) 24 1152 → Post tb e args s (.returned v) u) :
    ArmFor flags0 classFile x code maxLocals ret World_1 tables_1 room_1 Calls_1 rest_1 Pre_1 Post := by
  intro l hfl _ _ p e ha hc hk s m args below hf hA hF happ hP
  obtain ⟨hcalls, hrest, hpre⟩ := hP
  obtain ⟨-, -, -, hnamed, -, -, -, hat⟩ := (Spec.applies_iff hf).mp happ
  obtain ⟨hg, hn⟩ := and_e (Cond.before_iff.mp (show (Jvm.Cond.and given_1 narrow_1).before args s = true from hpre))
  obtain ⟨hcount, g0⟩ := and_e hg
  obtain ⟨w0, w1, w2, w3, w4, w5, rfl⟩ : ∃ w0 w1 w2 w3 w4 w5 : Value, args = #[w0, w1, w2, w3, w4, w5] := by
    have hs : args.size = 6 := by simpa [Cond.value, given_1] using hcount
    obtain ⟨L⟩ := args
    match L, hs with
    | [w0, w1, w2, w3, w4, w5], _ => exact ⟨w0, w1, w2, w3, w4, w5, rfl⟩
  have hw := fun d (hd : d ∈ tables_1) => atoms_spec (ws := Jvm.Cond.code x code maxLocals ret :: tables_1) hat d (List.mem_cons_of_mem _ hd)
  have hsets := (atoms_of jdkStatics_1 (show (jdkStatics_1.foldr Jvm.Cond.and restOwn_1).before _ s = true from by rw [← rest_1_c_eq]; exact hrest)).1
  obtain ⟨k0, g1⟩ := and_e g0
  obtain ⟨k1, g2⟩ := and_e g1
  obtain ⟨k2, g3⟩ := and_e g2
  obtain ⟨k3, g4⟩ := and_e g3
  obtain ⟨k4, g5⟩ := and_e g4
  have k5 := g5
  obtain ⟨z0, y0⟩ := is_v k0
  obtain rfl : w0 = (.int z0) := Option.some.inj y0
  obtain ⟨z1, y1⟩ := is_v k1
  obtain rfl : w1 = (.int z1) := Option.some.inj y1
  obtain ⟨z2, y2⟩ := is_v k2
  obtain rfl : w2 = (.int z2) := Option.some.inj y2
  obtain ⟨z3, y3⟩ := is_v k3
  obtain rfl : w3 = (.int z3) := Option.some.inj y3
  obtain ⟨z4, y4⟩ := is_v k4
  obtain rfl : w4 = (.int z4) := Option.some.inj y4
  obtain ⟨z5, y5⟩ := is_v k5
  obtain rfl : w5 = (.int z5) := Option.some.inj y5
  obtain ⟨n0, hn⟩ := and_e hn
  obtain ⟨n1, hn⟩ := and_e hn
  obtain ⟨n2, hn⟩ := and_e hn
  obtain ⟨n3, hn⟩ := and_e hn
  obtain ⟨n4, hn⟩ := and_e hn
  obtain ⟨n5, hn⟩ := and_e hn
  obtain ⟨n6, hn⟩ := and_e hn
  obtain ⟨n7, hn⟩ := and_e hn
  obtain ⟨n8, hn⟩ := and_e hn
  obtain ⟨n9, hn⟩ := and_e hn
  obtain ⟨n10, hn⟩ := and_e hn
  obtain ⟨n11, hn⟩ := and_e hn
  obtain ⟨n12, hn⟩ := and_e hn
  have n13 := hn
  have hSF : SF s := ⟨sf_int (hsets _ (List.mem_of_getElem? (i := 0) rfl)) (hsets _ (List.mem_of_getElem? (i := 1) rfl)), sf_nz (hsets _ (List.mem_of_getElem? (i := 1) rfl)) (hsets _ (List.mem_of_getElem? (i := 2) rfl)), sf_enum (w45 hw) (w46 hw) n0, sf_enum (w45 hw) (w76 hw) n8, sf_enum (w45 hw) (w74 hw) n6, sf_enum (w45 hw) (w78 hw) n10, sf_enum (w45 hw) (w72 hw) n4, sf_enum (w45 hw) (w70 hw) n1, sf_enum (w45 hw) (w80 hw) n12, sf_ne n13 n3 (by decide), sf_ne n5 n3 (by decide), sf_ne n11 n3 (by decide), sf_ne n7 n3 (by decide), sf_ne n9 n3 (by decide), sf_ne n2 n3 (by decide), trivial⟩
  have hE : EW s _ EL.2 := (EW.cons (w35 hw) (by decide) EW.nil)
  have hCH : CHv s EL.2 s.vm s.heap := CHv.start hE (fun q hq => hcalls.1 q hq) (hsets _ (List.mem_of_getElem? (i := 2) rfl)) (w24 hw) (w7 hw)
  have hHp := Hp.start hCH
  obtain ⟨nn, o, q1, q2, q3, v, L, rfl, N, ⟨D', -, rfl⟩, hq, hWH⟩ := lawW (Z := s) hw hSF z0 z1 z2 z3 z4 z5 ⟨⟨_, hE⟩, by decide⟩ l tables_1 p e ha hc hk s m _ below hf ((Spec.applies_iff_loose hf).mp happ).1 ⟨rfl, State.Warmed39.refl s, hHp⟩ trivial
  exact ⟨nn, _, q1, q2, q3, hpost _ _ _ _ _ _ ⟨Cond.after_iff.mpr rfl, Cond.after_iff.mpr (eq_i res_at (Term.int_eval (1)) rfl), trivial⟩ ⟨hq.1, hq.2.1, hq.2.2.1, (hq.2.2.2.sift fun y hy => Or.inr (N y hy)).mono (by decide) (by decide)⟩⟩
theorem main_1_1 : Claimed_1_1 := comes_1 fun _ _ _ _ _ _ h hF => ⟨h.1, hF⟩
theorem main_1_2 : Claimed_1_2 := comes_1 fun _ _ _ _ _ _ h hF => ⟨h.2.1, hF⟩
end Jvm.Pilot.@@N@@
namespace Jvm.Pilot.@@N@@
open Jvm Jvm.ClassFile Sem Op Lib Jvm.Free Jvm.Stand Jvm.Pilot.@@N@@.Jvm.D
/-! MADE BY PROGRAM (witnessworld.py) out of the Statement's table words and the real class files: 23 classes; the members and pool entries that the words name. The judged class is class 1, her method 3. -/
namespace start1
open Jvm.ClassFile
def u (s : String) : CpInfo := .utf8 (stringToUtf16 s)
/-- a pool by its gaps: so many unusable entries, then the entry; so many at the end -/
def gap : Nat → List CpInfo → List CpInfo
  | 0, r => r
  | n + 1, r => .unusable :: gap n r
def poolList (es : List (Nat × CpInfo)) (last : Nat) : List CpInfo := es.foldr (fun e r => gap e.1 (e.2 :: r)) (gap last [])
def pool (es : List (Nat × CpInfo)) (last : Nat) : Array CpInfo := ⟨poolList es last⟩
def fileOf (pool : Array CpInfo) (this : Nat) (attrs : Array Attribute := #[]) (ms : Array MethodInfo := #[]) (fl : Nat := 33) (sup : Nat := 0) (ifs : Array Nat := #[]) (fds : Array FieldInfo := #[]) : ClassFile where
  minorVersion := 0
  majorVersion := 65
  constantPool := pool
  accessFlags := fl
  thisClass := this
  superClass := sup
  interfaces := ifs
  fields := fds
  methods := ms
  attributes := attrs
def plain (name : String) (sup : Option ClassId) : Class where
  name := name
  kind := .ordinary
  loader := none
  accessFlags := 33
  super := sup
  interfaces := #[]
  cf := none
  fields := #[]
  methods := #[]
  instanceTypes := #[]
  staticTypes := #[]
  resolved := #[]
  callSites := []
  init := .initialized
  statics := none
  mirror := none

def pool0 : Array CpInfo := pool [(5, u "<init>"), (0, u "()V"), (1, .class_ 10), (1, u "java/lang/Object")] 113

def k0c0 : Code := { maxStack := 0, maxLocals := 1, code := object_method_1_code, exceptionTable := #[], attributes := #[] }
def k0m0 : Method := { name := "<init>", desc := "()V", sig := { parameters := [], returnType := none }, accessFlags := 1, code := some k0c0 }
/-- java/lang/Object -/
def k0 : Class := { plain "java/lang/Object" none with
  accessFlags := 33
  interfaces := #[]
  cf := some (fileOf pool0 8 #[] #[{ accessFlags := 1, nameIndex := 5, descriptorIndex := 6, attributes := #[] }] 33 0 #[] #[])
  fields := #[]
  methods := #[k0m0]
  instanceTypes := #[]
  staticTypes := #[]
  resolved := Array.replicate 124 none
  statics := none }

def pool1 : Array CpInfo := pool [(2, .class_ 4), (1, u "java/lang/Object"), (0, u "<init>"), (0, u "()V"), (0, .fieldref 8 9), (0, .class_ 10), (0, .nameAndType 11 12), (0, u "com/example/rochester/rochester/JdqlLexer$Kind"), (0, u "WORD"), (0, u "Lcom/example/rochester/rochester/JdqlLexer$Kind;"), (0, .fieldref 8 14), (0, .nameAndType 15 12), (0, u "STRING"), (0, .fieldref 8 17), (0, .nameAndType 18 12), (0, u "INTEGER"), (0, .fieldref 8 20), (0, .nameAndType 21 12), (0, u "DECIMAL"), (0, .fieldref 8 23), (0, .nameAndType 24 12), (0, u "PARAMETER"), (0, .fieldref 8 26), (0, .nameAndType 27 12), (0, u "SYMBOL"), (0, .fieldref 8 29), (0, .nameAndType 30 12), (0, u "END"), (0, .class_ 32), (0, u "java/lang/String"), (0, .methodref 31 34), (0, .nameAndType 5 35), (0, u "([C)V"), (0, .integer 2147483647), (0, .methodref 38 39), (0, .class_ 40), (0, .nameAndType 41 42), (0, u "com/example/rochester/rochester/TokenIsSymbolPinLaw"), (0, u "mk"), (0, u "(ICCC)Ljava/lang/String;"), (0, .class_ 44), (0, u "com/example/rochester/rochester/JdqlLexer$Token"), (0, .methodref 38 46), (0, .nameAndType 47 48), (0, u "kindOf"), (0, u "(I)Lcom/example/rochester/rochester/JdqlLexer$Kind;"), (0, .methodref 43 50), (0, .nameAndType 5 51), (0, u "(Lcom/example/rochester/rochester/JdqlLexer$Kind;Ljava/lang/String;II)V"), (0, .methodref 43 53), (0, .nameAndType 54 55), (0, u "isSymbol"), (0, u "(Ljava/lang/String;)Z"), (3, u "law"), (0, u "(IIIIII)Z")] 7

def k1m0 : Method := { name := "<init>", desc := "()V", sig := { parameters := [], returnType := none }, accessFlags := 1, code := none }
def k1c1 : Code := { maxStack := 2, maxLocals := 1, code := method_2_code, exceptionTable := #[], attributes := #[] }
def k1m1 : Method := { name := "kindOf", desc := "(I)Lcom/example/rochester/rochester/JdqlLexer$Kind;", sig := { parameters := [.int], returnType := some (.object "com/example/rochester/rochester/JdqlLexer$Kind") }, accessFlags := 10, code := some k1c1 }
def k1c2 : Code := { maxStack := 3, maxLocals := 5, code := method_3_code, exceptionTable := #[], attributes := #[] }
def k1m2 : Method := { name := "mk", desc := "(ICCC)Ljava/lang/String;", sig := { parameters := [.int, .char, .char, .char], returnType := some (.object "java/lang/String") }, accessFlags := 10, code := some k1c2 }
def k1c3 : Code := { maxStack := 6, maxLocals := 22, code := code, exceptionTable := #[], attributes := #[] }
def k1m3 : Method := { name := "law", desc := "(IIIIII)Z", sig := { parameters := [.int, .int, .int, .int, .int, .int], returnType := some .boolean }, accessFlags := 9, code := some k1c3 }
/-- com/example/rochester/rochester/TokenIsSymbolPinLaw -/
def k1 : Class := { plain "com/example/rochester/rochester/TokenIsSymbolPinLaw" (some 0) with
  accessFlags := 49
  interfaces := #[]
  cf := some (fileOf pool1 38 #[] #[{ accessFlags := 1, nameIndex := 5, descriptorIndex := 6, attributes := #[] }, { accessFlags := 10, nameIndex := 47, descriptorIndex := 48, attributes := #[] }, { accessFlags := 10, nameIndex := 41, descriptorIndex := 42, attributes := #[] }, { accessFlags := 9, nameIndex := 59, descriptorIndex := 60, attributes := #[] }] 49 2 #[] #[])
  fields := #[]
  methods := #[k1m0, k1m1, k1m2, k1m3]
  instanceTypes := #[]
  staticTypes := #[]
  resolved := Array.replicate 68 none
  statics := none }

def pool2 : Array CpInfo := pool [(1, .class_ 2), (0, u "java/io/Serializable"), (0, .class_ 4), (0, u "java/lang/Object")] 2

/-- java/io/Serializable -/
def k2 : Class := { plain "java/io/Serializable" (some 0) with
  accessFlags := 1537
  interfaces := #[]
  cf := some (fileOf pool2 1 #[] #[] 1537 3 #[] #[])
  fields := #[]
  methods := #[]
  instanceTypes := #[]
  staticTypes := #[]
  resolved := Array.replicate 7 none
  statics := none }

def pool3 : Array CpInfo := pool [(1, .class_ 2), (0, u "java/lang/Comparable"), (0, .class_ 4), (0, u "java/lang/Object")] 7

/-- java/lang/Comparable -/
def k3 : Class := { plain "java/lang/Comparable" (some 0) with
  accessFlags := 1537
  interfaces := #[]
  cf := some (fileOf pool3 1 #[] #[] 1537 3 #[] #[])
  fields := #[]
  methods := #[]
  instanceTypes := #[]
  staticTypes := #[]
  resolved := Array.replicate 12 none
  statics := none }

def pool4 : Array CpInfo := pool [(2, .class_ 4), (1, u "java/lang/CharSequence"), (42, .class_ 48), (0, u "java/lang/CharSequence$1CodePointIterator"), (10, .class_ 60), (0, u "java/lang/CharSequence$1CharIterator"), (5, .class_ 67), (0, u "java/lang/Object")] 63

/-- java/lang/CharSequence -/
def k4 : Class := { plain "java/lang/CharSequence" (some 0) with
  accessFlags := 1537
  interfaces := #[]
  cf := some (fileOf pool4 2 #[.nestMembers #[47, 59]] #[] 1537 66 #[] #[])
  fields := #[]
  methods := #[]
  instanceTypes := #[]
  staticTypes := #[]
  resolved := Array.replicate 131 none
  statics := none }

def pool5 : Array CpInfo := pool [(1, .class_ 2), (0, u "java/lang/constant/Constable"), (0, .class_ 4), (0, u "java/lang/Object")] 6

/-- java/lang/constant/Constable -/
def k5 : Class := { plain "java/lang/constant/Constable" (some 0) with
  accessFlags := 1537
  interfaces := #[]
  cf := some (fileOf pool5 1 #[] #[] 1537 3 #[] #[])
  fields := #[]
  methods := #[]
  instanceTypes := #[]
  staticTypes := #[]
  resolved := Array.replicate 11 none
  statics := none }

def pool6 : Array CpInfo := pool [(1, .class_ 2), (0, u "java/lang/constant/ConstantDesc"), (0, .class_ 4), (0, u "java/lang/Object")] 32

/-- java/lang/constant/ConstantDesc -/
def k6 : Class := { plain "java/lang/constant/ConstantDesc" (some 0) with
  accessFlags := 1537
  interfaces := #[]
  cf := some (fileOf pool6 1 #[] #[] 1537 3 #[] #[])
  fields := #[]
  methods := #[]
  instanceTypes := #[]
  staticTypes := #[]
  resolved := Array.replicate 37 none
  statics := none }

def pool7 : Array CpInfo := pool [(1, .methodref 2 3), (0, .class_ 4), (0, .nameAndType 5 6), (0, u "java/lang/Object"), (0, u "<init>"), (0, u "()V"), (0, .string 8), (0, u ""), (0, .fieldref 10 11), (0, .class_ 12), (0, .nameAndType 13 14), (0, u "java/lang/String"), (0, u "value"), (0, u "[B"), (0, .fieldref 10 16), (0, .nameAndType 17 18), (0, u "coder"), (0, u "B"), (2, u "hash"), (0, u "I"), (2, u "hashIsZero"), (0, u "Z"), (0, .methodref 10 28), (0, .nameAndType 5 29), (0, u "([CIILjava/lang/Void;)V"), (8, .fieldref 10 39), (0, .nameAndType 40 26), (0, u "COMPACT_STRINGS"), (1, .class_ 44), (1, u "java/lang/StringUTF16"), (0, u "compress"), (1, .methodref 42 48), (0, .nameAndType 49 50), (0, u "coderFromArrayLen"), (0, u "([BI)B"), (56, .class_ 109), (1, u "java/lang/StringLatin1"), (67, .methodref 42 178), (0, .nameAndType 45 179), (0, u "([CII)[B"), (361, .methodref 107 542), (0, .nameAndType 543 544), (0, u "equals"), (0, u "([B[B)Z"), (28, u "(Ljava/lang/Object;)Z"), (1, .class_ 576), (0, u "java/lang/CharSequence"), (22, u "CASE_INSENSITIVE_ORDER"), (0, u "Ljava/util/Comparator;"), (409, u "([C)V"), (90, u "serialPersistentFields"), (0, u "[Ljava/io/ObjectStreamField;"), (0, .class_ 1104), (0, u "java/lang/String$CaseInsensitiveComparator"), (1, .class_ 1107), (0, u "java/io/Serializable"), (0, .class_ 1109), (0, u "java/lang/Comparable"), (0, .class_ 1111), (0, u "java/lang/constant/Constable"), (0, .class_ 1113), (0, u "java/lang/constant/ConstantDesc"), (2, u "serialVersionUID"), (0, u "J"), (3, u "REPL"), (0, u "C"), (2, u "LATIN1"), (1, u "UTF16")] 323

def k7m0 : Method := { name := "<init>", desc := "()V", sig := { parameters := [], returnType := none }, accessFlags := 1, code := none }
def k7c1 : Code := { maxStack := 5, maxLocals := 2, code := jdk_42_method_3_code, exceptionTable := #[], attributes := #[] }
def k7m1 : Method := { name := "<init>", desc := "([C)V", sig := { parameters := [(.array .char)], returnType := none }, accessFlags := 1, code := some k7c1 }
def k7c2 : Code := { maxStack := 2, maxLocals := 3, code := jdk_42_method_66_code, exceptionTable := #[], attributes := #[] }
def k7m2 : Method := { name := "equals", desc := "(Ljava/lang/Object;)Z", sig := { parameters := [(.object "java/lang/Object")], returnType := some .boolean }, accessFlags := 1, code := some k7c2 }
def k7c3 : Code := { maxStack := 4, maxLocals := 6, code := jdk_42_method_149_code, exceptionTable := #[], attributes := #[] }
def k7m3 : Method := { name := "<init>", desc := "([CIILjava/lang/Void;)V", sig := { parameters := [(.array .char), .int, .int, (.object "java/lang/Void")], returnType := none }, accessFlags := 2, code := some k7c3 }
/-- java/lang/String -/
def k7 : Class := { plain "java/lang/String" (some 0) with
  accessFlags := 49
  interfaces := #[2, 3, 4, 5, 6]
  cf := some (fileOf pool7 10 #[.nestMembers #[1103]] #[{ accessFlags := 1, nameIndex := 5, descriptorIndex := 6, attributes := #[] }, { accessFlags := 1, nameIndex := 5, descriptorIndex := 1010, attributes := #[] }, { accessFlags := 1, nameIndex := 543, descriptorIndex := 573, attributes := #[] }, { accessFlags := 2, nameIndex := 5, descriptorIndex := 29, attributes := #[] }] 49 2 #[1106, 1108, 575, 1110, 1112] #[{ accessFlags := 18, nameIndex := 13, descriptorIndex := 14, attributes := #[] }, { accessFlags := 18, nameIndex := 17, descriptorIndex := 18, attributes := #[] }, { accessFlags := 2, nameIndex := 21, descriptorIndex := 22, attributes := #[] }, { accessFlags := 2, nameIndex := 25, descriptorIndex := 26, attributes := #[] }, { accessFlags := 26, nameIndex := 1116, descriptorIndex := 1117, attributes := #[] }, { accessFlags := 24, nameIndex := 40, descriptorIndex := 26, attributes := #[] }, { accessFlags := 26, nameIndex := 1101, descriptorIndex := 1102, attributes := #[] }, { accessFlags := 26, nameIndex := 1121, descriptorIndex := 1122, attributes := #[] }, { accessFlags := 25, nameIndex := 599, descriptorIndex := 600, attributes := #[] }, { accessFlags := 24, nameIndex := 1125, descriptorIndex := 18, attributes := #[] }, { accessFlags := 24, nameIndex := 1127, descriptorIndex := 18, attributes := #[] }])
  fields := #[{ name := "value", type := (.array .byte), accessFlags := 18, slot := 0, constantValue := 0 }, { name := "coder", type := .byte, accessFlags := 18, slot := 1, constantValue := 0 }, { name := "hash", type := .int, accessFlags := 2, slot := 2, constantValue := 0 }, { name := "hashIsZero", type := .boolean, accessFlags := 2, slot := 3, constantValue := 0 }, { name := "serialVersionUID", type := .long, accessFlags := 26, slot := 0, constantValue := 0 }, { name := "COMPACT_STRINGS", type := .boolean, accessFlags := 24, slot := 1, constantValue := 0 }, { name := "serialPersistentFields", type := (.array (.object "java/io/ObjectStreamField")), accessFlags := 26, slot := 2, constantValue := 0 }, { name := "REPL", type := .char, accessFlags := 26, slot := 3, constantValue := 0 }, { name := "CASE_INSENSITIVE_ORDER", type := (.object "java/util/Comparator"), accessFlags := 25, slot := 4, constantValue := 0 }, { name := "LATIN1", type := .byte, accessFlags := 24, slot := 5, constantValue := 0 }, { name := "UTF16", type := .byte, accessFlags := 24, slot := 6, constantValue := 0 }]
  methods := #[k7m0, k7m1, k7m2, k7m3]
  instanceTypes := #[(.array .byte), .byte, .int, .boolean]
  staticTypes := #[.long, .boolean, (.array (.object "java/io/ObjectStreamField")), .char, (.object "java/util/Comparator"), .byte, .byte]
  resolved := Array.replicate 1451 none
  statics := some 0 }

def pool8 : Array CpInfo := pool [(6, .class_ 8), (1, u "java/lang/Object"), (0, u "<init>"), (0, u "()V"), (1, .class_ 14), (1, u "java/lang/StringUTF16"), (31, u "$assertionsDisabled"), (0, u "Z"), (13, u "HI_BYTE_SHIFT"), (0, u "I"), (2, u "LO_BYTE_SHIFT"), (49, .methodref 12 116), (0, .nameAndType 117 118), (0, u "compress"), (0, u "([CI[BII)I"), (3, u "([CII)[B"), (138, u "coderFromArrayLen"), (0, u "([BI)B"), (106, .class_ 371), (1, u "java/lang/StringUTF16$LinesSpliterator"), (58, u "MAX_LENGTH"), (196, .class_ 628), (0, u "java/lang/StringUTF16$CodePointsSpliterator"), (0, .class_ 630), (0, u "java/lang/StringUTF16$CharsSpliterator")] 4

def k8m0 : Method := { name := "<init>", desc := "()V", sig := { parameters := [], returnType := none }, accessFlags := 0, code := none }
def k8c1 : Code := { maxStack := 2, maxLocals := 2, code := jdk_52_method_15_code, exceptionTable := #[], attributes := #[] }
def k8m1 : Method := { name := "coderFromArrayLen", desc := "([BI)B", sig := { parameters := [(.array .byte), .int], returnType := some .byte }, accessFlags := 8, code := some k8c1 }
def k8c2 : Code := { maxStack := 5, maxLocals := 6, code := jdk_52_method_16_code, exceptionTable := #[], attributes := #[] }
def k8m2 : Method := { name := "compress", desc := "([CII)[B", sig := { parameters := [(.array .char), .int, .int], returnType := some (.array .byte) }, accessFlags := 9, code := some k8c2 }
def k8c3 : Code := { maxStack := 3, maxLocals := 7, code := jdk_52_method_21_code, exceptionTable := #[], attributes := #[] }
def k8m3 : Method := { name := "compress", desc := "([CI[BII)I", sig := { parameters := [(.array .char), .int, (.array .byte), .int, .int], returnType := some .int }, accessFlags := 9, code := some k8c3 }
/-- java/lang/StringUTF16 -/
def k8 : Class := { plain "java/lang/StringUTF16" (some 0) with
  accessFlags := 48
  interfaces := #[]
  cf := some (fileOf pool8 12 #[.nestMembers #[627, 629, 369]] #[{ accessFlags := 0, nameIndex := 9, descriptorIndex := 10, attributes := #[] }, { accessFlags := 8, nameIndex := 261, descriptorIndex := 262, attributes := #[] }, { accessFlags := 9, nameIndex := 117, descriptorIndex := 122, attributes := #[] }, { accessFlags := 9, nameIndex := 117, descriptorIndex := 118, attributes := #[] }] 48 6 #[] #[{ accessFlags := 26, nameIndex := 61, descriptorIndex := 62, attributes := #[] }, { accessFlags := 26, nameIndex := 65, descriptorIndex := 62, attributes := #[] }, { accessFlags := 24, nameIndex := 430, descriptorIndex := 62, attributes := #[] }, { accessFlags := 4120, nameIndex := 46, descriptorIndex := 47, attributes := #[] }])
  fields := #[{ name := "HI_BYTE_SHIFT", type := .int, accessFlags := 26, slot := 0, constantValue := 0 }, { name := "LO_BYTE_SHIFT", type := .int, accessFlags := 26, slot := 1, constantValue := 0 }, { name := "MAX_LENGTH", type := .int, accessFlags := 24, slot := 2, constantValue := 0 }, { name := "$assertionsDisabled", type := .boolean, accessFlags := 4120, slot := 3, constantValue := 0 }]
  methods := #[k8m0, k8m1, k8m2, k8m3]
  instanceTypes := #[]
  staticTypes := #[.int, .int, .int, .boolean]
  resolved := Array.replicate 635 none
  statics := none }

def pool9 : Array CpInfo := pool [(1, .methodref 2 3), (0, .class_ 4), (0, .nameAndType 5 6), (0, u "java/lang/Object"), (0, u "<init>"), (0, u "()V"), (0, .class_ 8), (0, u "java/lang/Record")] 13

def k9c0 : Code := { maxStack := 1, maxLocals := 1, code := jdk_30_method_1_code, exceptionTable := #[], attributes := #[] }
def k9m0 : Method := { name := "<init>", desc := "()V", sig := { parameters := [], returnType := none }, accessFlags := 4, code := some k9c0 }
/-- java/lang/Record -/
def k9 : Class := { plain "java/lang/Record" (some 0) with
  accessFlags := 1057
  interfaces := #[]
  cf := some (fileOf pool9 7 #[] #[{ accessFlags := 4, nameIndex := 5, descriptorIndex := 6, attributes := #[] }] 1057 2 #[] #[])
  fields := #[]
  methods := #[k9m0]
  instanceTypes := #[]
  staticTypes := #[]
  resolved := Array.replicate 22 none
  statics := none }

def pool10 : Array CpInfo := pool [(1, .methodref 2 3), (0, .class_ 4), (0, .nameAndType 5 6), (0, u "java/lang/Record"), (0, u "<init>"), (0, u "()V"), (0, .fieldref 8 9), (0, .class_ 10), (0, .nameAndType 11 12), (0, u "com/example/rochester/rochester/JdqlLexer$Token"), (0, u "kind"), (0, u "Lcom/example/rochester/rochester/JdqlLexer$Kind;"), (0, .fieldref 8 14), (0, .nameAndType 15 16), (0, u "text"), (0, u "Ljava/lang/String;"), (0, .fieldref 8 18), (0, .nameAndType 19 20), (0, u "start"), (0, u "I"), (0, .fieldref 8 22), (0, .nameAndType 23 20), (0, u "end"), (1, .class_ 27), (1, u "com/example/rochester/rochester/JdqlLexer$Kind"), (5, .methodref 34 35), (0, .class_ 36), (0, .nameAndType 37 38), (0, u "java/lang/String"), (0, u "equals"), (0, u "(Ljava/lang/Object;)Z"), (0, .fieldref 25 40), (0, .nameAndType 41 12), (0, u "SYMBOL"), (51, u "(Lcom/example/rochester/rochester/JdqlLexer$Kind;Ljava/lang/String;II)V"), (4, u "(Ljava/lang/String;)Z"), (1, u "isSymbol"), (9, .class_ 111), (0, u "com/example/rochester/rochester/JdqlLexer")] 31

def k10c0 : Code := { maxStack := 2, maxLocals := 5, code := prog_12_method_1_code, exceptionTable := #[], attributes := #[] }
def k10m0 : Method := { name := "<init>", desc := "(Lcom/example/rochester/rochester/JdqlLexer$Kind;Ljava/lang/String;II)V", sig := { parameters := [(.object "com/example/rochester/rochester/JdqlLexer$Kind"), (.object "java/lang/String"), .int, .int], returnType := none }, accessFlags := 0, code := some k10c0 }
def k10c1 : Code := { maxStack := 2, maxLocals := 2, code := prog_12_method_3_code, exceptionTable := #[], attributes := #[] }
def k10m1 : Method := { name := "isSymbol", desc := "(Ljava/lang/String;)Z", sig := { parameters := [(.object "java/lang/String")], returnType := some .boolean }, accessFlags := 0, code := some k10c1 }
/-- com/example/rochester/rochester/JdqlLexer$Token -/
def k10 : Class := { plain "com/example/rochester/rochester/JdqlLexer$Token" (some 9) with
  accessFlags := 48
  interfaces := #[]
  cf := some (fileOf pool10 8 #[.nestHost 110] #[{ accessFlags := 0, nameIndex := 5, descriptorIndex := 93, attributes := #[] }, { accessFlags := 0, nameIndex := 100, descriptorIndex := 98, attributes := #[] }] 48 2 #[] #[{ accessFlags := 18, nameIndex := 11, descriptorIndex := 12, attributes := #[] }, { accessFlags := 18, nameIndex := 15, descriptorIndex := 16, attributes := #[] }, { accessFlags := 18, nameIndex := 19, descriptorIndex := 20, attributes := #[] }, { accessFlags := 18, nameIndex := 23, descriptorIndex := 20, attributes := #[] }])
  fields := #[{ name := "kind", type := (.object "com/example/rochester/rochester/JdqlLexer$Kind"), accessFlags := 18, slot := 0, constantValue := 0 }, { name := "text", type := (.object "java/lang/String"), accessFlags := 18, slot := 1, constantValue := 0 }, { name := "start", type := .int, accessFlags := 18, slot := 2, constantValue := 0 }, { name := "end", type := .int, accessFlags := 18, slot := 3, constantValue := 0 }]
  methods := #[k10m0, k10m1]
  instanceTypes := #[(.object "com/example/rochester/rochester/JdqlLexer$Kind"), (.object "java/lang/String"), .int, .int]
  staticTypes := #[]
  resolved := Array.replicate 143 none
  statics := none }

def pool11 : Array CpInfo := pool [(2, .class_ 4), (1, u "java/lang/Enum"), (0, u "name"), (0, u "Ljava/lang/String;"), (2, u "ordinal"), (0, u "I"), (1, .class_ 14), (1, u "java/lang/Object"), (4, u "hash"), (86, .class_ 108), (1, u "java/lang/Enum$EnumDesc"), (2, .class_ 112), (0, u "java/lang/constant/Constable"), (0, .class_ 114), (0, u "java/lang/Comparable"), (0, .class_ 116), (0, u "java/io/Serializable")] 87

/-- java/lang/Enum -/
def k11 : Class := { plain "java/lang/Enum" (some 0) with
  accessFlags := 1057
  interfaces := #[5, 3, 2]
  cf := some (fileOf pool11 2 #[.nestMembers #[106]] #[] 1057 12 #[111, 113, 115] #[{ accessFlags := 18, nameIndex := 5, descriptorIndex := 6, attributes := #[] }, { accessFlags := 18, nameIndex := 9, descriptorIndex := 10, attributes := #[] }, { accessFlags := 2, nameIndex := 19, descriptorIndex := 10, attributes := #[] }])
  fields := #[{ name := "name", type := (.object "java/lang/String"), accessFlags := 18, slot := 0, constantValue := 0 }, { name := "ordinal", type := .int, accessFlags := 18, slot := 1, constantValue := 0 }, { name := "hash", type := .int, accessFlags := 2, slot := 2, constantValue := 0 }]
  methods := #[]
  instanceTypes := #[(.object "java/lang/String"), .int, .int]
  staticTypes := #[]
  resolved := Array.replicate 204 none
  statics := none }

def pool12 : Array CpInfo := pool [(1, .class_ 2), (0, u "com/example/rochester/rochester/JdqlLexer$Kind"), (2, u "WORD"), (0, u "Lcom/example/rochester/rochester/JdqlLexer$Kind;"), (2, u "STRING"), (2, u "INTEGER"), (2, u "DECIMAL"), (2, u "PARAMETER"), (2, u "SYMBOL"), (2, u "END"), (2, u "$VALUES"), (0, u "[Lcom/example/rochester/rochester/JdqlLexer$Kind;"), (6, .class_ 37), (1, u "java/lang/Enum"), (30, .class_ 69), (0, u "com/example/rochester/rochester/JdqlLexer")] 2

/-- com/example/rochester/rochester/JdqlLexer$Kind -/
def k12 : Class := { plain "com/example/rochester/rochester/JdqlLexer$Kind" (some 11) with
  accessFlags := 16432
  interfaces := #[]
  cf := some (fileOf pool12 1 #[.nestHost 68] #[] 16432 35 #[] #[{ accessFlags := 16409, nameIndex := 5, descriptorIndex := 6, attributes := #[] }, { accessFlags := 16409, nameIndex := 9, descriptorIndex := 6, attributes := #[] }, { accessFlags := 16409, nameIndex := 12, descriptorIndex := 6, attributes := #[] }, { accessFlags := 16409, nameIndex := 15, descriptorIndex := 6, attributes := #[] }, { accessFlags := 16409, nameIndex := 18, descriptorIndex := 6, attributes := #[] }, { accessFlags := 16409, nameIndex := 21, descriptorIndex := 6, attributes := #[] }, { accessFlags := 16409, nameIndex := 24, descriptorIndex := 6, attributes := #[] }, { accessFlags := 4122, nameIndex := 27, descriptorIndex := 28, attributes := #[] }])
  fields := #[{ name := "WORD", type := (.object "com/example/rochester/rochester/JdqlLexer$Kind"), accessFlags := 16409, slot := 0, constantValue := 0 }, { name := "STRING", type := (.object "com/example/rochester/rochester/JdqlLexer$Kind"), accessFlags := 16409, slot := 1, constantValue := 0 }, { name := "INTEGER", type := (.object "com/example/rochester/rochester/JdqlLexer$Kind"), accessFlags := 16409, slot := 2, constantValue := 0 }, { name := "DECIMAL", type := (.object "com/example/rochester/rochester/JdqlLexer$Kind"), accessFlags := 16409, slot := 3, constantValue := 0 }, { name := "PARAMETER", type := (.object "com/example/rochester/rochester/JdqlLexer$Kind"), accessFlags := 16409, slot := 4, constantValue := 0 }, { name := "SYMBOL", type := (.object "com/example/rochester/rochester/JdqlLexer$Kind"), accessFlags := 16409, slot := 5, constantValue := 0 }, { name := "END", type := (.object "com/example/rochester/rochester/JdqlLexer$Kind"), accessFlags := 16409, slot := 6, constantValue := 0 }, { name := "$VALUES", type := (.array (.object "com/example/rochester/rochester/JdqlLexer$Kind")), accessFlags := 4122, slot := 7, constantValue := 0 }]
  methods := #[]
  instanceTypes := #[(.object "java/lang/String"), .int, .int]
  staticTypes := #[(.object "com/example/rochester/rochester/JdqlLexer$Kind"), (.object "com/example/rochester/rochester/JdqlLexer$Kind"), (.object "com/example/rochester/rochester/JdqlLexer$Kind"), (.object "com/example/rochester/rochester/JdqlLexer$Kind"), (.object "com/example/rochester/rochester/JdqlLexer$Kind"), (.object "com/example/rochester/rochester/JdqlLexer$Kind"), (.object "com/example/rochester/rochester/JdqlLexer$Kind"), (.array (.object "com/example/rochester/rochester/JdqlLexer$Kind"))]
  resolved := Array.replicate 72 none
  statics := some 1 }

def pool13 : Array CpInfo := pool [(4, .class_ 6), (1, u "java/lang/Object"), (0, u "<init>"), (0, u "()V"), (5, .class_ 16), (1, u "java/lang/StringLatin1"), (104, u "$assertionsDisabled"), (0, u "Z"), (98, .class_ 223), (1, u "java/lang/StringLatin1$LinesSpliterator"), (57, u "equals"), (0, u "([B[B)Z"), (107, .class_ 391), (0, u "java/lang/StringLatin1$CharsSpliterator")] 3

def k13m0 : Method := { name := "<init>", desc := "()V", sig := { parameters := [], returnType := none }, accessFlags := 0, code := none }
def k13c1 : Code := { maxStack := 3, maxLocals := 3, code := jdk_43_method_13_code, exceptionTable := #[], attributes := #[] }
def k13m1 : Method := { name := "equals", desc := "([B[B)Z", sig := { parameters := [(.array .byte), (.array .byte)], returnType := some .boolean }, accessFlags := 9, code := some k13c1 }
/-- java/lang/StringLatin1 -/
def k13 : Class := { plain "java/lang/StringLatin1" (some 0) with
  accessFlags := 48
  interfaces := #[]
  cf := some (fileOf pool13 14 #[.nestMembers #[390, 221]] #[{ accessFlags := 0, nameIndex := 7, descriptorIndex := 8, attributes := #[] }, { accessFlags := 9, nameIndex := 281, descriptorIndex := 282, attributes := #[] }] 48 4 #[] #[{ accessFlags := 4120, nameIndex := 121, descriptorIndex := 122, attributes := #[] }])
  fields := #[{ name := "$assertionsDisabled", type := .boolean, accessFlags := 4120, slot := 0, constantValue := 0 }]
  methods := #[k13m0, k13m1]
  instanceTypes := #[]
  staticTypes := #[.boolean]
  resolved := Array.replicate 395 none
  statics := none }

def pool14 : Array CpInfo := pool [(2, .class_ 4), (1, u "java/lang/Object"), (0, u "<init>"), (0, u "()V"), (17, .class_ 26), (1, u "jdk/internal/util/Preconditions"), (28, .class_ 56), (0, u "jdk/internal/util/Preconditions$4"), (57, .class_ 115), (0, u "jdk/internal/util/Preconditions$1"), (7, u "SIOOBE_FORMATTER"), (0, u "Ljava/util/function/BiFunction;"), (0, .class_ 126), (0, u "jdk/internal/util/Preconditions$2"), (3, u "AIOOBE_FORMATTER"), (0, .class_ 132), (0, u "jdk/internal/util/Preconditions$3"), (3, u "IOOBE_FORMATTER")] 57

def k14m0 : Method := { name := "<init>", desc := "()V", sig := { parameters := [], returnType := none }, accessFlags := 1, code := none }
/-- jdk/internal/util/Preconditions -/
def k14 : Class := { plain "jdk/internal/util/Preconditions" (some 0) with
  accessFlags := 33
  interfaces := #[]
  cf := some (fileOf pool14 24 #[.nestMembers #[55, 131, 125, 114]] #[{ accessFlags := 1, nameIndex := 5, descriptorIndex := 6, attributes := #[] }] 33 2 #[] #[{ accessFlags := 25, nameIndex := 123, descriptorIndex := 124, attributes := #[] }, { accessFlags := 25, nameIndex := 130, descriptorIndex := 124, attributes := #[] }, { accessFlags := 25, nameIndex := 136, descriptorIndex := 124, attributes := #[] }])
  fields := #[{ name := "SIOOBE_FORMATTER", type := (.object "java/util/function/BiFunction"), accessFlags := 25, slot := 0, constantValue := 0 }, { name := "AIOOBE_FORMATTER", type := (.object "java/util/function/BiFunction"), accessFlags := 25, slot := 1, constantValue := 0 }, { name := "IOOBE_FORMATTER", type := (.object "java/util/function/BiFunction"), accessFlags := 25, slot := 2, constantValue := 0 }]
  methods := #[k14m0]
  instanceTypes := #[]
  staticTypes := #[(.object "java/util/function/BiFunction"), (.object "java/util/function/BiFunction"), (.object "java/util/function/BiFunction")]
  resolved := Array.replicate 194 none
  statics := some 2 }

def pool15 : Array CpInfo := pool [(9, u "<init>"), (6, .class_ 18), (1, u "java/lang/Object"), (0, u "()V"), (1, .class_ 23), (1, u "jdk/internal/util/ArraysSupport"), (0, u "LOG2_ARRAY_LONG_INDEX_SCALE"), (0, u "I"), (2, u "U"), (0, u "Ljdk/internal/misc/Unsafe;"), (8, u "BIG_ENDIAN"), (0, u "Z"), (8, u "LOG2_BYTE_BIT_SIZE"), (4, u "LOG2_ARRAY_INT_INDEX_SCALE"), (54, u "JLA"), (0, u "Ljdk/internal/access/JavaLangAccess;"), (11, u "LOG2_ARRAY_BOOLEAN_INDEX_SCALE"), (9, u "LOG2_ARRAY_BYTE_INDEX_SCALE"), (5, u "LOG2_ARRAY_CHAR_INDEX_SCALE"), (5, u "LOG2_ARRAY_SHORT_INDEX_SCALE"), (18, u "LOG2_ARRAY_FLOAT_INDEX_SCALE"), (24, u "LOG2_ARRAY_DOUBLE_INDEX_SCALE"), (89, u "T_BOOLEAN"), (2, u "T_CHAR"), (1, u "T_FLOAT"), (1, u "T_DOUBLE"), (1, u "T_BYTE"), (1, u "T_SHORT"), (1, u "T_INT"), (1, u "T_LONG"), (1, u "SOFT_MAX_ARRAY_LENGTH")] 83

def k15m0 : Method := { name := "<init>", desc := "()V", sig := { parameters := [], returnType := none }, accessFlags := 2, code := none }
/-- jdk/internal/util/ArraysSupport -/
def k15 : Class := { plain "jdk/internal/util/ArraysSupport" (some 0) with
  accessFlags := 33
  interfaces := #[]
  cf := some (fileOf pool15 21 #[] #[{ accessFlags := 2, nameIndex := 9, descriptorIndex := 19, attributes := #[] }] 33 16 #[] #[{ accessFlags := 24, nameIndex := 28, descriptorIndex := 29, attributes := #[] }, { accessFlags := 26, nameIndex := 38, descriptorIndex := 39, attributes := #[] }, { accessFlags := 25, nameIndex := 121, descriptorIndex := 25, attributes := #[] }, { accessFlags := 25, nameIndex := 131, descriptorIndex := 25, attributes := #[] }, { accessFlags := 25, nameIndex := 137, descriptorIndex := 25, attributes := #[] }, { accessFlags := 25, nameIndex := 143, descriptorIndex := 25, attributes := #[] }, { accessFlags := 25, nameIndex := 53, descriptorIndex := 25, attributes := #[] }, { accessFlags := 25, nameIndex := 24, descriptorIndex := 25, attributes := #[] }, { accessFlags := 25, nameIndex := 162, descriptorIndex := 25, attributes := #[] }, { accessFlags := 25, nameIndex := 187, descriptorIndex := 25, attributes := #[] }, { accessFlags := 26, nameIndex := 48, descriptorIndex := 25, attributes := #[] }, { accessFlags := 25, nameIndex := 277, descriptorIndex := 25, attributes := #[] }, { accessFlags := 25, nameIndex := 280, descriptorIndex := 25, attributes := #[] }, { accessFlags := 25, nameIndex := 282, descriptorIndex := 25, attributes := #[] }, { accessFlags := 25, nameIndex := 284, descriptorIndex := 25, attributes := #[] }, { accessFlags := 25, nameIndex := 286, descriptorIndex := 25, attributes := #[] }, { accessFlags := 25, nameIndex := 288, descriptorIndex := 25, attributes := #[] }, { accessFlags := 25, nameIndex := 290, descriptorIndex := 25, attributes := #[] }, { accessFlags := 25, nameIndex := 292, descriptorIndex := 25, attributes := #[] }, { accessFlags := 26, nameIndex := 108, descriptorIndex := 109, attributes := #[] }, { accessFlags := 25, nameIndex := 294, descriptorIndex := 25, attributes := #[] }])
  fields := #[{ name := "U", type := (.object "jdk/internal/misc/Unsafe"), accessFlags := 24, slot := 0, constantValue := 0 }, { name := "BIG_ENDIAN", type := .boolean, accessFlags := 26, slot := 1, constantValue := 0 }, { name := "LOG2_ARRAY_BOOLEAN_INDEX_SCALE", type := .int, accessFlags := 25, slot := 2, constantValue := 0 }, { name := "LOG2_ARRAY_BYTE_INDEX_SCALE", type := .int, accessFlags := 25, slot := 3, constantValue := 0 }, { name := "LOG2_ARRAY_CHAR_INDEX_SCALE", type := .int, accessFlags := 25, slot := 4, constantValue := 0 }, { name := "LOG2_ARRAY_SHORT_INDEX_SCALE", type := .int, accessFlags := 25, slot := 5, constantValue := 0 }, { name := "LOG2_ARRAY_INT_INDEX_SCALE", type := .int, accessFlags := 25, slot := 6, constantValue := 0 }, { name := "LOG2_ARRAY_LONG_INDEX_SCALE", type := .int, accessFlags := 25, slot := 7, constantValue := 0 }, { name := "LOG2_ARRAY_FLOAT_INDEX_SCALE", type := .int, accessFlags := 25, slot := 8, constantValue := 0 }, { name := "LOG2_ARRAY_DOUBLE_INDEX_SCALE", type := .int, accessFlags := 25, slot := 9, constantValue := 0 }, { name := "LOG2_BYTE_BIT_SIZE", type := .int, accessFlags := 26, slot := 10, constantValue := 0 }, { name := "T_BOOLEAN", type := .int, accessFlags := 25, slot := 11, constantValue := 0 }, { name := "T_CHAR", type := .int, accessFlags := 25, slot := 12, constantValue := 0 }, { name := "T_FLOAT", type := .int, accessFlags := 25, slot := 13, constantValue := 0 }, { name := "T_DOUBLE", type := .int, accessFlags := 25, slot := 14, constantValue := 0 }, { name := "T_BYTE", type := .int, accessFlags := 25, slot := 15, constantValue := 0 }, { name := "T_SHORT", type := .int, accessFlags := 25, slot := 16, constantValue := 0 }, { name := "T_INT", type := .int, accessFlags := 25, slot := 17, constantValue := 0 }, { name := "T_LONG", type := .int, accessFlags := 25, slot := 18, constantValue := 0 }, { name := "JLA", type := (.object "jdk/internal/access/JavaLangAccess"), accessFlags := 26, slot := 19, constantValue := 0 }, { name := "SOFT_MAX_ARRAY_LENGTH", type := .int, accessFlags := 25, slot := 20, constantValue := 0 }]
  methods := #[k15m0]
  instanceTypes := #[]
  staticTypes := #[(.object "jdk/internal/misc/Unsafe"), .boolean, .int, .int, .int, .int, .int, .int, .int, .int, .int, .int, .int, .int, .int, .int, .int, .int, .int, (.object "jdk/internal/access/JavaLangAccess"), .int]
  resolved := Array.replicate 378 none
  statics := none }

def pool16 : Array CpInfo := pool [(1, u "java/lang/Cloneable"), (0, .class_ 1), (0, u "java/lang/Object"), (0, .class_ 3)] 3

/-- java/lang/Cloneable -/
def k16 : Class := { plain "java/lang/Cloneable" (some 0) with
  accessFlags := 1537
  interfaces := #[]
  cf := some (fileOf pool16 2 #[] #[] 1537 4 #[] #[])
  fields := #[]
  methods := #[]
  instanceTypes := #[]
  staticTypes := #[]
  resolved := Array.replicate 8 none
  statics := none }

/-- the primitive byte -/
def k17 : Class := { plain "byte" none with kind := .primitive 'B', accessFlags := 0x411 }
/-- [B -/
def k18 : Class := { plain "[B" (some 0) with kind := .array 17 .byte, interfaces := #[16, 2], accessFlags := 1041 }

/-- the primitive char -/
def k19 : Class := { plain "char" none with kind := .primitive 'C', accessFlags := 0x411 }
/-- [C -/
def k20 : Class := { plain "[C" (some 0) with kind := .array 19 .char, interfaces := #[16, 2], accessFlags := 1041 }

/-- the primitive int -/
def k21 : Class := { plain "int" none with kind := .primitive 'I', accessFlags := 0x411 }
/-- [I -/
def k22 : Class := { plain "[I" (some 0) with kind := .array 21 .int, interfaces := #[16, 2], accessFlags := 1041 }

def heap : Heap := #[{ cls := 7, slots := #[.long 0, .int 1, .null, .int 0, .null, .int 0, .int 0], vm := .statics 7 },
  { cls := 12, slots := #[.ref 3, .ref 4, .ref 5, .ref 6, .ref 7, .ref 8, .ref 9, .null], vm := .statics 12 },
  { cls := 14, slots := #[.null, .null, .null], vm := .statics 14 },
  { cls := 12, slots := #[.null, .int 0, .int 0], vm := .none },
  { cls := 12, slots := #[.null, .int 1, .int 0], vm := .none },
  { cls := 12, slots := #[.null, .int 2, .int 0], vm := .none },
  { cls := 12, slots := #[.null, .int 3, .int 0], vm := .none },
  { cls := 12, slots := #[.null, .int 4, .int 0], vm := .none },
  { cls := 12, slots := #[.null, .int 5, .int 0], vm := .none },
  { cls := 12, slots := #[.null, .int 6, .int 0], vm := .none }]
def classes : Array Class := #[k0, k1, k2, k3, k4, k5, k6, k7, k8, k9, k10, k11, k12, k13, k14, k15, k16, k17, k18, k19, k20, k21, k22]
def interned : List (Array UInt16 × Addr) := []
def slotsUsed : Nat := 39
def theMethod : MethodId := ⟨1, 3⟩
def args0 : Array Value := #[.int 5, .int 65, .int 66, .int 1, .int 0, .int 1]
def aboutOver (below : List Frame) : State where
  vm := { classes := classes, interned := interned.toArray }
  heap := heap
  slotsUsed := slotsUsed
  threads := #[{ frames := .invoking theMethod args0 :: below }]
def below0 : List Frame := [.native { method := ⟨0, 0⟩, args := #[] }]
def about1 : State := aboutOver below0
def p0 : Program := .bare "" "" ""
def e0 : Env := launch0.env 0 0 0
theorem w_frames : about1.frames = Frame.invoking theMethod args0 :: below0 := rfl
set_option maxRecDepth 65536 in
theorem w_args : argsFit about1.vm theMethod args0 = true := by decide +kernel
set_option maxRecDepth 65536 in
theorem w_heap : heapFits about1 = true := by decide +kernel
set_option maxRecDepth 65536 in
theorem w_runnable : about1.curStatus? = some .runnable := by decide +kernel
set_option maxRecDepth 65536 in
theorem w_alone : about1.alone = true := by decide +kernel
set_option maxRecDepth 65536 in
theorem w_named : about1.methodNamed? x = some theMethod := by decide +kernel
set_option maxRecDepth 65536 in
theorem w_hears : about1.hears theMethod below0 = true := by decide +kernel
set_option maxRecDepth 65536 in
theorem w_ripe : about1.ripe theMethod args0 below0 = true := by decide +kernel
theorem w_running : about1.status = .running := rfl
set_option maxRecDepth 65536 in
theorem w_room : about1.hasRoom e0.platform room_1 = true :=
  launch0.hasRoom_least _ room_1 (by decide +kernel) (by decide +kernel) (by decide +kernel) (by decide +kernel) (by decide +kernel) (by decide +kernel)
theorem allAtoms_all (ts : List Jvm.Cond) (a : Array Jvm.Value) (st : Jvm.State) : (allAtoms ts).before a st = ts.all (fun c => c.before a st) := by
  induction ts with
  | nil => rfl
  | cons c t ih =>
    show (Jvm.Cond.and c (allAtoms t)).before a st = _
    rw [Jvm.Cond.before_and, ih, List.all_cons]
def words1 : List Jvm.Cond := Jvm.Cond.code x code maxLocals ret :: tables_1
/-- a 'code' word, met by the world's own term for the bytes: nothing is compared byte by byte -/
theorem code_word {y : MethodName} {bytes : ByteArray} {mx : Nat} {rt : Option FieldType} {a : Array Value} {s : State} {m : MethodId} {meth : Method} {c : Code} (h1 : s.methodNamed? y = some m) (h2 : s.vm.method? m = some meth) (h3 : meth.code = some c) (h4 : c.code = bytes)
    (h5 : (c.maxLocals == mx && c.exceptionTable.isEmpty && decide (c.maxStack ≤ mostOperands) && decide (meth.sig.returnType = rt) && !meth.locks && decide (parseMethodDescriptor y.desc = some meth.sig)) = true) : (Jvm.Cond.code y bytes mx rt).before a s = true := by
  simp only [Bool.and_eq_true, beq_iff_eq, Bool.not_eq_true', decide_eq_true_eq] at h5
  obtain ⟨⟨⟨⟨⟨g1, g2⟩, g3⟩, g4⟩, g5⟩, g6⟩ := h5
  simp [Cond.before, Cond.holds, Cond.value, h1, h2, h3, h4, g1, g2, g3, g4, g5, g6]
def isCode : Jvm.Cond → Bool
  | .code _ _ _ _ => true
  | _ => false
theorem all_split {L : List Jvm.Cond} {P : Jvm.Cond → Bool} (h1 : L.all (fun c => isCode c || P c) = true) (h2 : ∀ c ∈ L.filter isCode, P c = true) : L.all P = true := by
  refine List.all_eq_true.mpr fun c hc => ?_
  have h := List.all_eq_true.mp h1 c hc
  rcases Bool.eq_false_or_eq_true (isCode c) with hi | hi
  · exact h2 c (List.mem_filter.mpr ⟨hc, hi⟩)
  · simpa [hi] using h
set_option maxRecDepth 65536 in
theorem w_c0 : (Jvm.Cond.code x code maxLocals ret).before args0 about1 = true := code_word (m := ⟨1, 3⟩) (meth := k1m3) (c := k1c3) (by decide +kernel) rfl rfl rfl (by decide +kernel)
set_option maxRecDepth 65536 in
theorem w_c1 : (Jvm.Cond.code ({ cls := "com/example/rochester/rochester/TokenIsSymbolPinLaw", name := "mk", desc := "(ICCC)Ljava/lang/String;" } : Jvm.MethodName) method_3_code (5 : Nat) (Option.some (Jvm.ClassFile.FieldType.object "java/lang/String"))).before args0 about1 = true := code_word (m := ⟨1, 2⟩) (meth := k1m2) (c := k1c2) (by decide +kernel) rfl rfl rfl (by decide +kernel)
set_option maxRecDepth 65536 in
theorem w_c2 : (Jvm.Cond.code ({ cls := "java/lang/String", name := "<init>", desc := "([C)V" } : Jvm.MethodName) jdk_42_method_3_code (2 : Nat) (Option.none : Option Jvm.ClassFile.FieldType)).before args0 about1 = true := code_word (m := ⟨7, 1⟩) (meth := k7m1) (c := k7c1) (by decide +kernel) rfl rfl rfl (by decide +kernel)
set_option maxRecDepth 65536 in
theorem w_c3 : (Jvm.Cond.code ({ cls := "java/lang/String", name := "<init>", desc := "([CIILjava/lang/Void;)V" } : Jvm.MethodName) jdk_42_method_149_code (6 : Nat) (Option.none : Option Jvm.ClassFile.FieldType)).before args0 about1 = true := code_word (m := ⟨7, 3⟩) (meth := k7m3) (c := k7c3) (by decide +kernel) rfl rfl rfl (by decide +kernel)
set_option maxRecDepth 65536 in
theorem w_c4 : (Jvm.Cond.code ({ cls := "java/lang/Object", name := "<init>", desc := "()V" } : Jvm.MethodName) object_method_1_code (1 : Nat) (Option.none : Option Jvm.ClassFile.FieldType)).before args0 about1 = true := code_word (m := ⟨0, 0⟩) (meth := k0m0) (c := k0c0) (by decide +kernel) rfl rfl rfl (by decide +kernel)
set_option maxRecDepth 65536 in
theorem w_c5 : (Jvm.Cond.code ({ cls := "java/lang/StringUTF16", name := "compress", desc := "([CII)[B" } : Jvm.MethodName) jdk_52_method_16_code (6 : Nat) (Option.some (Jvm.ClassFile.FieldType.array Jvm.ClassFile.FieldType.byte))).before args0 about1 = true := code_word (m := ⟨8, 2⟩) (meth := k8m2) (c := k8c2) (by decide +kernel) rfl rfl rfl (by decide +kernel)
set_option maxRecDepth 65536 in
theorem w_c6 : (Jvm.Cond.code ({ cls := "java/lang/StringUTF16", name := "compress", desc := "([CI[BII)I" } : Jvm.MethodName) jdk_52_method_21_code (7 : Nat) (Option.some Jvm.ClassFile.FieldType.int)).before args0 about1 = true := code_word (m := ⟨8, 3⟩) (meth := k8m3) (c := k8c3) (by decide +kernel) rfl rfl rfl (by decide +kernel)
set_option maxRecDepth 65536 in
theorem w_c7 : (Jvm.Cond.code ({ cls := "java/lang/StringUTF16", name := "coderFromArrayLen", desc := "([BI)B" } : Jvm.MethodName) jdk_52_method_15_code (2 : Nat) (Option.some Jvm.ClassFile.FieldType.byte)).before args0 about1 = true := code_word (m := ⟨8, 1⟩) (meth := k8m1) (c := k8c1) (by decide +kernel) rfl rfl rfl (by decide +kernel)
set_option maxRecDepth 65536 in
theorem w_c8 : (Jvm.Cond.code ({ cls := "com/example/rochester/rochester/TokenIsSymbolPinLaw", name := "kindOf", desc := "(I)Lcom/example/rochester/rochester/JdqlLexer$Kind;" } : Jvm.MethodName) method_2_code (1 : Nat) (Option.some (Jvm.ClassFile.FieldType.object "com/example/rochester/rochester/JdqlLexer$Kind"))).before args0 about1 = true := code_word (m := ⟨1, 1⟩) (meth := k1m1) (c := k1c1) (by decide +kernel) rfl rfl rfl (by decide +kernel)
set_option maxRecDepth 65536 in
theorem w_c9 : (Jvm.Cond.code ({ cls := "com/example/rochester/rochester/JdqlLexer$Token", name := "<init>", desc := "(Lcom/example/rochester/rochester/JdqlLexer$Kind;Ljava/lang/String;II)V" } : Jvm.MethodName) prog_12_method_1_code (5 : Nat) (Option.none : Option Jvm.ClassFile.FieldType)).before args0 about1 = true := code_word (m := ⟨10, 0⟩) (meth := k10m0) (c := k10c0) (by decide +kernel) rfl rfl rfl (by decide +kernel)
set_option maxRecDepth 65536 in
theorem w_c10 : (Jvm.Cond.code ({ cls := "java/lang/Record", name := "<init>", desc := "()V" } : Jvm.MethodName) jdk_30_method_1_code (1 : Nat) (Option.none : Option Jvm.ClassFile.FieldType)).before args0 about1 = true := code_word (m := ⟨9, 0⟩) (meth := k9m0) (c := k9c0) (by decide +kernel) rfl rfl rfl (by decide +kernel)
set_option maxRecDepth 65536 in
theorem w_c11 : (Jvm.Cond.code ({ cls := "com/example/rochester/rochester/JdqlLexer$Token", name := "isSymbol", desc := "(Ljava/lang/String;)Z" } : Jvm.MethodName) prog_12_method_3_code (2 : Nat) (Option.some Jvm.ClassFile.FieldType.boolean)).before args0 about1 = true := code_word (m := ⟨10, 1⟩) (meth := k10m1) (c := k10c1) (by decide +kernel) rfl rfl rfl (by decide +kernel)
set_option maxRecDepth 65536 in
theorem w_c12 : (Jvm.Cond.code ({ cls := "java/lang/String", name := "equals", desc := "(Ljava/lang/Object;)Z" } : Jvm.MethodName) jdk_42_method_66_code (3 : Nat) (Option.some Jvm.ClassFile.FieldType.boolean)).before args0 about1 = true := code_word (m := ⟨7, 2⟩) (meth := k7m2) (c := k7c2) (by decide +kernel) rfl rfl rfl (by decide +kernel)
set_option maxRecDepth 65536 in
theorem w_c13 : (Jvm.Cond.code ({ cls := "java/lang/StringLatin1", name := "equals", desc := "([B[B)Z" } : Jvm.MethodName) jdk_43_method_13_code (3 : Nat) (Option.some Jvm.ClassFile.FieldType.boolean)).before args0 about1 = true := code_word (m := ⟨13, 1⟩) (meth := k13m1) (c := k13c1) (by decide +kernel) rfl rfl rfl (by decide +kernel)
def codes1 : List Jvm.Cond := [Jvm.Cond.code x code maxLocals ret, Jvm.Cond.code ({ cls := "com/example/rochester/rochester/TokenIsSymbolPinLaw", name := "mk", desc := "(ICCC)Ljava/lang/String;" } : Jvm.MethodName) method_3_code (5 : Nat) (Option.some (Jvm.ClassFile.FieldType.object "java/lang/String")), Jvm.Cond.code ({ cls := "java/lang/String", name := "<init>", desc := "([C)V" } : Jvm.MethodName) jdk_42_method_3_code (2 : Nat) (Option.none : Option Jvm.ClassFile.FieldType), Jvm.Cond.code ({ cls := "java/lang/String", name := "<init>", desc := "([CIILjava/lang/Void;)V" } : Jvm.MethodName) jdk_42_method_149_code (6 : Nat) (Option.none : Option Jvm.ClassFile.FieldType), Jvm.Cond.code ({ cls := "java/lang/Object", name := "<init>", desc := "()V" } : Jvm.MethodName) object_method_1_code (1 : Nat) (Option.none : Option Jvm.ClassFile.FieldType), Jvm.Cond.code ({ cls := "java/lang/StringUTF16", name := "compress", desc := "([CII)[B" } : Jvm.MethodName) jdk_52_method_16_code (6 : Nat) (Option.some (Jvm.ClassFile.FieldType.array Jvm.ClassFile.FieldType.byte)), Jvm.Cond.code ({ cls := "java/lang/StringUTF16", name := "compress", desc := "([CI[BII)I" } : Jvm.MethodName) jdk_52_method_21_code (7 : Nat) (Option.some Jvm.ClassFile.FieldType.int), Jvm.Cond.code ({ cls := "java/lang/StringUTF16", name := "coderFromArrayLen", desc := "([BI)B" } : Jvm.MethodName) jdk_52_method_15_code (2 : Nat) (Option.some Jvm.ClassFile.FieldType.byte), Jvm.Cond.code ({ cls := "com/example/rochester/rochester/TokenIsSymbolPinLaw", name := "kindOf", desc := "(I)Lcom/example/rochester/rochester/JdqlLexer$Kind;" } : Jvm.MethodName) method_2_code (1 : Nat) (Option.some (Jvm.ClassFile.FieldType.object "com/example/rochester/rochester/JdqlLexer$Kind")), Jvm.Cond.code ({ cls := "com/example/rochester/rochester/JdqlLexer$Token", name := "<init>", desc := "(Lcom/example/rochester/rochester/JdqlLexer$Kind;Ljava/lang/String;II)V" } : Jvm.MethodName) prog_12_method_1_code (5 : Nat) (Option.none : Option Jvm.ClassFile.FieldType), Jvm.Cond.code ({ cls := "java/lang/Record", name := "<init>", desc := "()V" } : Jvm.MethodName) jdk_30_method_1_code (1 : Nat) (Option.none : Option Jvm.ClassFile.FieldType), Jvm.Cond.code ({ cls := "com/example/rochester/rochester/JdqlLexer$Token", name := "isSymbol", desc := "(Ljava/lang/String;)Z" } : Jvm.MethodName) prog_12_method_3_code (2 : Nat) (Option.some Jvm.ClassFile.FieldType.boolean), Jvm.Cond.code ({ cls := "java/lang/String", name := "equals", desc := "(Ljava/lang/Object;)Z" } : Jvm.MethodName) jdk_42_method_66_code (3 : Nat) (Option.some Jvm.ClassFile.FieldType.boolean), Jvm.Cond.code ({ cls := "java/lang/StringLatin1", name := "equals", desc := "([B[B)Z" } : Jvm.MethodName) jdk_43_method_13_code (3 : Nat) (Option.some Jvm.ClassFile.FieldType.boolean)]
set_option maxRecDepth 65536 in
theorem codes_eq : words1.filter isCode = codes1 := rfl
theorem w_codes : ∀ c ∈ words1.filter isCode, c.before args0 about1 = true := by
  rw [codes_eq]
  intro c hc
  simp only [codes1, List.mem_cons, List.not_mem_nil, or_false] at hc
  rcases hc with rfl | rfl | rfl | rfl | rfl | rfl | rfl | rfl | rfl | rfl | rfl | rfl | rfl | rfl
  · exact w_c0
  · exact w_c1
  · exact w_c2
  · exact w_c3
  · exact w_c4
  · exact w_c5
  · exact w_c6
  · exact w_c7
  · exact w_c8
  · exact w_c9
  · exact w_c10
  · exact w_c11
  · exact w_c12
  · exact w_c13
set_option maxRecDepth 65536 in
theorem w_t1 : (words1.take 24).all (fun c => isCode c || c.before args0 about1) = true := by decide +kernel
set_option maxRecDepth 65536 in
theorem w_t2 : ((words1.drop 24).take 24).all (fun c => isCode c || c.before args0 about1) = true := by decide +kernel
set_option maxRecDepth 65536 in
theorem w_t3 : (((words1.drop 24).drop 24).take 24).all (fun c => isCode c || c.before args0 about1) = true := by decide +kernel
set_option maxRecDepth 65536 in
theorem w_t4 : (((words1.drop 24).drop 24).drop 24).all (fun c => isCode c || c.before args0 about1) = true := by decide +kernel
theorem w_tables : (allAtoms (Jvm.Cond.code x code maxLocals ret :: tables_1)).before args0 about1 = true := by
  rw [allAtoms_all]
  show words1.all (fun c => c.before args0 about1) = true
  refine all_split ?_ w_codes
  rw [← List.take_append_drop 24 words1, List.all_append, w_t1, ← List.take_append_drop 24 (words1.drop 24), List.all_append, w_t2, ← List.take_append_drop 24 ((words1.drop 24).drop 24), List.all_append, w_t3, w_t4]
  rfl
set_option maxRecDepth 65536 in
theorem w_rest : rest_1_c.before args0 about1 = true := by decide +kernel
set_option maxRecDepth 65536 in
theorem w_case : (Jvm.Cond.and given_1 narrow_1).before args0 about1 = true := by decide +kernel
set_option maxRecDepth 65536 in
theorem w_consts : constsHeld consts_1 about1 := Jvm.Lit.constsHeldB_iff.mp (by decide +kernel)
theorem w_applies : (headSpec (Jvm.Cond.code x code maxLocals ret :: tables_1) room_1).applies x e0.platform about1 = true :=
  (Spec.applies_iff w_frames).mpr ⟨w_running, w_runnable, w_alone, w_named, w_hears, w_ripe, w_room, w_tables⟩
theorem atStart : AtStart classFile x code maxLocals ret World_1 tables_1 room_1 Calls_1 rest_1 Pre_1 launch0 p0 e0 about1 theMethod args0 below0 :=
  ⟨lists_1, trivial, launch0.admits_env _ _ _, launch0.least_env, fairChoices_fair.cas, fairChoices_fair.clock, w_frames, w_args, w_heap, w_applies, ⟨w_consts, trivial⟩, w_rest, w_case⟩
end start1
theorem witness_1 : WitnessClaimed_1 := ⟨start1.p0, start1.e0, start1.about1, start1.theMethod, start1.args0, start1.below0, start1.atStart⟩
end Jvm.Pilot.@@N@@
