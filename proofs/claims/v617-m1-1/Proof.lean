import JvmDerived
import JvmDerived.Pilot.@@N@@Statement
import JvmDerived.Pilot.@@N@@Code
set_option linter.unusedVariables false
set_option linter.unusedSimpArgs false
namespace Jvm.Wk
open Jvm Jvm.ClassFile Sem Op Lib Bundle Jvm.Free Jvm.Stand Jvm.LawKit Jvm.RoadKit
abbrev Fd : Type := String × String × String × Value
abbrev Desc : Type := (String × List Fd) ⊕ (String × FieldType × List Value)
abbrev Ent : Type := Addr × Bool × Desc
def sl (Z : State) (f : Fd) : Nat := Jvm.RoadKit.slotOf Z f.1 f.2.1 f.2.2.1
def Dist (Z : State) : Desc → Prop
  | .inl (_, fs) => (fs.map (sl Z)).Pairwise (fun x y => x ≠ y)
  | .inr _ => True
def Sat (Z : State) (h : Heap) (a : Addr) : Desc → Prop
  | .inl (C, fs) => Exa Z h a C ∧ ∀ f ∈ fs, Fld Z h a f.1 f.2.1 f.2.2.1 f.2.2.2
  | .inr (ad, ty, vs) => ∃ c : Cell, Arr Z h a c ty ∧ c.slots = vs.toArray ∧ vs.length < 2147483648 ∧ (∀ v ∈ vs, fits ty v = true) ∧ (ad ≠ "" → Exa Z h a ad)
def Apart (x y : Ent) : Prop := (x.2.1 = true ∨ y.2.1 = true) → x.1 ≠ y.1
def Hp (Z : State) (EL : Bool × List (String × Nat)) (D : List Ent) (vm : Vm) (h : Heap) : Prop :=
  Ext Z.heap h ∧ CHv Z EL.2 vm h ∧ (∀ x ∈ D, Sat Z h x.1 x.2.2 ∧ (x.2.1 = true → Z.heap.size ≤ x.1 ∧ Safe Z EL.2 vm h x.1 ∧ Dist Z x.2.2)) ∧ D.Pairwise Apart
section Facts
variable {Z : State} {EL : Bool × List (String × Nat)} {D D' : List Ent} {vm vm1 : Vm} {h h' : Heap} {a b : Addr} {d d' : Desc} {s1 : Nat} {v : Value} {x y : Ent}
theorem Sat.ext (E : Ext h h') (S : Sat Z h a d) : Sat Z h' a d := by
  match d, S with
  | .inl (C, fs), S => exact ⟨S.1.ext E, fun f hf => (S.2 f hf).ext E⟩
  | .inr (ad, ty, vs), S => obtain ⟨c, A, r1, r2, r3, r4⟩ := S; exact ⟨c, A.ext E, r1, r2, r3, fun q => (r4 q).ext E⟩
theorem Sat.keep {ws : List Addr} (K : Keep h h' ws) (q : a ∉ ws) (S : Sat Z h a d) : Sat Z h' a d := by
  match d, S with
  | .inl (C, fs), S => exact ⟨S.1.keep K, fun f hf => (S.2 f hf).keep K q⟩
  | .inr (ad, ty, vs), S => obtain ⟨c, A, r1, r2, r3, r4⟩ := S; exact ⟨c, ⟨K.2.1 _ _ A.1 q, A.2⟩, r1, r2, r3, fun q => (r4 q).keep K⟩
theorem Sat.lt (S : Sat Z h a d) : a < h.size := by
  match d, S with
  | .inl (C, fs), S => exact S.1.lt
  | .inr (ad, ty, vs), S => obtain ⟨c, A, -⟩ := S; exact A.lt
theorem Apart.symm (q : Apart x y) : Apart y x := fun r e => q r.symm e.symm
theorem Hp.perm (P : D.Perm D') (H : Hp Z EL D vm h) : Hp Z EL D' vm h :=
  ⟨H.1, H.2.1, fun x hx => H.2.2.1 x (P.mem_iff.mpr hx), (P.pairwise_iff (fun q => Apart.symm q)).mp H.2.2.2⟩
theorem perm_front {α : Type} : ∀ (D : List α) (i : Nat) (x : α), D[i]? = some x → D.Perm (x :: D.eraseIdx i)
  | [], _, _, q => by simp at q
  | y :: D, 0, x, q => by simp at q; subst q; exact List.Perm.refl _
  | y :: D, i + 1, x, q => by
    have q' : D[i]? = some x := by simpa using q
    exact ((perm_front D i x q').cons y).trans (List.Perm.swap x y _)
theorem perm_set {α : Type} : ∀ (D : List α) (i : Nat) (x x' : α), D[i]? = some x → (D.set i x').Perm (x' :: D.eraseIdx i)
  | [], _, _, _, q => by simp at q
  | y :: D, 0, x, x', q => List.Perm.refl _
  | y :: D, i + 1, x, x', q => by
    have q' : D[i]? = some x := by simpa using q
    exact ((perm_set D i x x' q').cons y).trans (List.Perm.swap x' y _)
theorem Hp.new (H : Hp Z EL D vm h) (E : Ext h h') (S : Sat Z h' h.size d) (dd : Dist Z d) : Hp Z EL ((h.size, true, d) :: D) vm h' := by
  obtain ⟨h1, h2, h3, h4⟩ := H
  refine ⟨⟨Nat.le_trans h1.1 E.1, fun a c q => E.2 _ _ (h1.2 _ _ q)⟩, h2.ext E, fun x hx => ?_, List.pairwise_cons.mpr ⟨fun y hy _ => ?_, h4⟩⟩
  · rcases List.mem_cons.mp hx with rfl | hx
    · exact ⟨S, fun _ => ⟨h1.1, Safe.ext E h2 (Safe.new (Nat.le_refl _)), dd⟩⟩
    · exact ⟨(h3 x hx).1.ext E, fun w => ⟨((h3 x hx).2 w).1, Safe.ext E h2 ((h3 x hx).2 w).2.1, ((h3 x hx).2 w).2.2⟩⟩
  · have := (h3 y hy).1.lt
    exact fun e => by rw [← e] at this; exact Nat.lt_irrefl _ this
theorem Hp.keepHead (H : Hp Z EL ((a, true, d) :: D) vm h) (K : Keep h h' [a]) (S : Sat Z h' a d') (dd : Dist Z d') : Hp Z EL ((a, true, d') :: D) vm h' := by
  obtain ⟨h1, h2, h3, h4⟩ := H
  obtain ⟨g1, g2, -⟩ := (h3 _ (List.mem_cons_self ..)).2 rfl
  have hs : ∀ x ∈ [a], Safe Z EL.2 vm h x := fun x hx => by cases List.mem_singleton.mp hx; exact g2
  obtain ⟨p1, p2⟩ := List.pairwise_cons.mp h4
  refine ⟨⟨Nat.le_trans h1.1 K.1, fun b c q => K.2.1 _ _ (h1.2 _ _ q) fun z => ?_⟩, h2.keep K hs, fun x hx => ?_, List.pairwise_cons.mpr ⟨fun y hy r => p1 y hy (Or.inl rfl), p2⟩⟩
  · cases List.mem_singleton.mp z
    exact Nat.lt_irrefl _ (Nat.lt_of_lt_of_le (Array.getElem?_eq_some_iff.mp q).1 g1)
  · rcases List.mem_cons.mp hx with rfl | hx
    · exact ⟨S, fun _ => ⟨g1, Safe.keep K hs h2 g2, dd⟩⟩
    · have ne : x.1 ∉ [a] := fun z => p1 x hx (Or.inl rfl) (List.mem_singleton.mp z).symm
      have hx' := h3 x (List.mem_cons_of_mem _ hx)
      exact ⟨hx'.1.keep K ne, fun w => ⟨(hx'.2 w).1, Safe.keep K hs h2 (hx'.2 w).2.1, (hx'.2 w).2.2⟩⟩
theorem Hp.keepSet {i : Nat} (H : Hp Z EL D vm h) (hi : D[i]? = some (a, true, d)) (K : Keep h h' [a]) (S : Sat Z h' a d') (dd : Dist Z d') : Hp Z EL (D.set i (a, true, d')) vm h' :=
  ((H.perm (perm_front D i _ hi)).keepHead K S dd).perm (perm_set D i _ _ hi).symm
theorem Hp.toVm (H : Hp Z EL D vm h) (C : CHr Z EL.2 vm h vm1 h) : Hp Z EL D vm1 h :=
  ⟨H.1, C.1, fun x hx => ⟨(H.2.2.1 x hx).1, fun w => ⟨((H.2.2.1 x hx).2 w).1, C.safe (H.2.2.1 x hx).1.lt ((H.2.2.1 x hx).2 w).2.1, ((H.2.2.1 x hx).2 w).2.2⟩⟩, H.2.2.2⟩
theorem Hp.sub (H : Hp Z EL D vm h) (q : D'.Sublist D) : Hp Z EL D' vm h := ⟨H.1, H.2.1, fun x hx => H.2.2.1 x (q.subset hx), H.2.2.2.sublist q⟩
theorem Hp.grown (H : Hp Z EL D vm h) (E : Ext h h') (C : CHr Z EL.2 vm h vm1 h') : Hp Z EL D vm1 h' :=
  ⟨⟨Nat.le_trans H.1.1 E.1, fun a c q => E.2 _ _ (H.1.2 _ _ q)⟩, C.1, fun x hx => ⟨(H.2.2.1 x hx).1.ext E, fun w => ⟨((H.2.2.1 x hx).2 w).1, C.safe (H.2.2.1 x hx).1.lt ((H.2.2.1 x hx).2 w).2.1, ((H.2.2.1 x hx).2 w).2.2⟩⟩, H.2.2.2⟩
theorem Hp.read (H : Hp Z EL D vm h) (S : Sat Z h a d) (ne : ∀ x, Safe Z EL.2 vm h x → Z.heap.size ≤ x → x ≠ a) : Hp Z EL ((a, false, d) :: D) vm h := by
  refine ⟨H.1, H.2.1, fun x hx => ?_, List.pairwise_cons.mpr ⟨fun y hy r e => ?_, H.2.2.2⟩⟩
  · rcases List.mem_cons.mp hx with rfl | hx
    · exact ⟨S, fun w => by cases w⟩
    · exact H.2.2.1 x hx
  · rcases r with r | r
    · cases r
    · exact ne y.1 ((H.2.2.1 y hy).2 r).2.1 ((H.2.2.1 y hy).2 r).1 e.symm
theorem Sat.of_arv {ad : String} {ty : FieldType} {vs : List Value} {k : ClassId} {z : Int32} {dv : Value} (A : Arv Z h a k ty z vs dv) (hl : z.toNatClampNeg = vs.length) (hE : ad ≠ "" → Exa Z h a ad) : Sat Z h a (.inr (ad, ty, vs)) := by
  obtain ⟨c, A, r1, r2, r3, r4, r5⟩ := A
  have hs : c.slots.size = vs.length := r2.trans hl
  refine ⟨c, A, ?_, ?_, fun v hv => ?_, hE⟩
  · apply Array.ext_getElem?
    intro i
    by_cases hi : i < vs.length
    · rw [r4 i (by omega)]; simp [hi]
    · rw [Array.getElem?_eq_none (by omega), Array.getElem?_eq_none (by simpa using Nat.le_of_not_lt hi)]
  · have := (back32 r3).2; omega
  · obtain ⟨i, hi, rfl⟩ := List.mem_iff_getElem.mp hv
    have := r5 i (by omega)
    simpa [hi] using this
end Facts
def Idx (j : Int32) (i : Nat) : Prop := ¬ j < 0 ∧ j.toNatClampNeg = i
theorem Idx.of_nat {i : Nat} (hi : i < 2147483648) : Idx (Nat.toInt32 i) i := by
  have e1 : (Nat.toInt32 i).toInt = i := len_toInt hi
  refine ⟨fun q => ?_, by simp [Int32.toNatClampNeg, e1]⟩
  rw [Int32.lt_iff_toInt_lt, e1] at q
  have : (0 : Int32).toInt = 0 := rfl
  omega
theorem Idx.toInt {j : Int32} {i : Nat} (q : Idx j i) : j.toInt = i := by
  have h1 : ¬ j.toInt < 0 := fun r => q.1 (by rw [Int32.lt_iff_toInt_lt]; exact r)
  have h2 := q.2
  simp only [Int32.toNatClampNeg] at h2
  omega
end Jvm.Wk
namespace Jvm.Wk
open Jvm Jvm.ClassFile Sem Op Lib Bundle Jvm.Free Jvm.Stand Jvm.LawKit Jvm.RoadKit
def ELok (Z : State) (EL : Bool × List (String × Nat)) : Prop := (∃ a0, EW Z a0 EL.2) ∧ (EL.1 = true → EL.2 = [])
def Res (Z : State) (EL : Bool × List (String × Nat)) (Q : Option Value → List Ent → Prop) (R : Room) (s : State) (o : Outcome) (t : State) : Prop :=
  ∃ v L, o = .returned v ∧ Fr Z.heap.size L ∧ (∃ D', Hp Z EL D' t.vm t.heap ∧ Q v D') ∧ ReturnedEndW s o t L R.cells R.slots ∧ (EL.1 = true → s.WarmedH t.vm)
def Here (Z : State) (EL : Bool × List (String × Nat)) (R : Room) (own nm : String) (bytes : ByteArray) (ml : Nat) (ret : Option FieldType) (D : List Ent) (k n : Nat)
    (p : Program) (l : Launch) (e : Env) (s : State) (m : MethodId) (args : Array Value) (below : List Frame) (meth : Method) (c : Code) (T : State) (vm0 : Vm) (k0 : Nat) (locs : List Loc) (cells slots : Nat) : Prop :=
  Stand p l e R (s.setVm vm0) m args below meth c T locs cells slots ∧ s.Since vm0 k0 ∧ k0 ≤ T.heap.size ∧ p.tables.exec = Jvm.exec ∧ c.code = bytes ∧ c.maxLocals = ml ∧ vm0.findClass own = some m.cls ∧ Z.Warmed39 vm0 ∧
    meth.sig.returnType = ret ∧ meth.locks = false ∧ meth.name = nm ∧ Fr Z.heap.size locs ∧ Hp Z EL D vm0 T.heap ∧ cells ≤ k ∧ slots ≤ n ∧ ELok Z EL ∧ (EL.1 = true → vm0 = s.vm)
def W (Z : State) (EL : Bool × List (String × Nat)) (R : Room) (own nm : String) (bytes : ByteArray) (ml : Nat) (ret : Option FieldType) (Q : Option Value → List Ent → Prop) (D : List Ent) (k n : Nat) (pc : Nat) (ls : Array Slot) (st : List Value) : Prop :=
  ∀ p l e s m args below meth c T vm0 k0 locs cells slots, Here Z EL R own nm bytes ml ret D k n p l e s m args below meth c T vm0 k0 locs cells slots →
    ∃ s₂ o, Steps p.tables e below (T.setTop (mkF m pc ls st)) s₂ ∧ s₂.status = .running ∧ Ended s₂ below o ∧ Res Z EL Q R s o s₂
def Con (Z : State) (EL : Bool × List (String × Nat)) (y : MethodName) (bytes : ByteArray) (maxL : Nat) (ret : Option FieldType) (rm : Room) (as : List Value) (D : List Ent) (Q : Option Value → List Ent → Prop) : Prop :=
  ELok Z EL → ∀ (l : Launch) (ws : List Cond), MetFree l y (head1 (Cond.code y bytes maxL ret :: ws) rm) (fun a U => a = as.toArray ∧ Z.Warmed39 U.vm ∧ Hp Z EL D U.vm U.heap) (fun _ _ _ _ _ => True) (fun _ U o U' => Res Z EL Q rm U o U')
def SlOk (t : Slot) : Prop := t = .unset ∨ ∃ v : Value, t = .val v ∧ v.category = 1
section Walk
variable {Z : State} {EL : Bool × List (String × Nat)} {R : Room} {own nm : String} {bytes : ByteArray} {ml : Nat} {ret : Option FieldType} {Q : Option Value → List Ent → Prop} {D D' : List Ent} {k n pc : Nat} {ls ls' : Array Slot} {st : List Value} {a0 : Array Value}
theorem Con.of {y : MethodName} {as : List Value} (hpl : plainFor y = true) (hent : Jvm.Sym.laidSlots as ++ List.replicate (ml - (Jvm.Sym.laidSlots as).length) .unset = ls.toList) (hW : W Z EL R y.cls y.name bytes ml ret Q D 0 0 0 ls []) : Con Z EL y bytes ml ret R as D Q := by
  intro hE l ws
  refine MetFree.of_bodySF hpl hisR ?_
  intro p e s m args below meth c s₁ Bd hml0 hP hK
  obtain ⟨rfl, hZ, hh⟩ := hP
  have X0 : Stand p l e R s m as.toArray below meth c s₁ [] 0 0 := Stand.of_body Bd
  have e0 : s₁.heap = s.heap := by rw [Bd.state]; rfl
  have hown : s.vm.findClass y.cls = some m.cls := findClass_of_methodNamed Bd.named
  have hnm := (name_of_methodNamed Bd.named Bd.method).1
  obtain ⟨s₂, o, h1, r⟩ := hW p l e s m as.toArray below meth c s₁ s.vm 0 [] 0 0
    ⟨X0, (State.WarmedH.refl s).since 0, Nat.zero_le _, Bd.exec, Bd.bytes, hml0, hown, hZ, Bd.returns, Bd.notSynchronized, hnm, Fr.nil _, by rw [e0]; exact hh, Nat.le_refl _, Nat.le_refl _, hE, fun _ => rfl⟩
  exact ⟨s₂, o, (XT.entry (by simpa using hent)).trans h1, r⟩
theorem W.pure {pc' : Nat} {st' : List Value} (H : ∀ {p : Program} {e : Env} {below : List Frame} {T target : State} {m : MethodId} {c : Code}, At T m c below → p.tables.exec = Jvm.exec → c.code = bytes → Steps p.tables e below (T.setTop (mkF m pc' ls' st')) target → Steps p.tables e below (T.setTop (mkF m pc ls st)) target)
    (next : W Z EL R own nm bytes ml ret Q D k n pc' ls' st') : W Z EL R own nm bytes ml ret Q D k n pc ls st := by
  intro p l e s m args below meth c T vm0 k0 locs cells slots A
  obtain ⟨s₂, o, h1, r⟩ := next p l e s m args below meth c T vm0 k0 locs cells slots A
  exact ⟨s₂, o, H A.1.here A.2.2.2.1 A.2.2.2.2.1 h1, r⟩
theorem W.mono {k' n' : Nat} (hk : k ≤ k') (hn : n ≤ n') (next : W Z EL R own nm bytes ml ret Q D k' n' pc ls st) : W Z EL R own nm bytes ml ret Q D k n pc ls st := by
  intro p l e s m args below meth c T vm0 k0 locs cells slots A
  obtain ⟨X, hS, hk0, hx, hby, hml, hown, hZ, r1, r2, r3, hN, hH, hc, hl, hE, hNI⟩ := A
  exact next p l e s m args below meth c T vm0 k0 locs cells slots ⟨X, hS, hk0, hx, hby, hml, hown, hZ, r1, r2, r3, hN, hH, Nat.le_trans hc hk, Nat.le_trans hl hn, hE, hNI⟩
theorem W.heap (H : ∀ vm h, Hp Z EL D vm h → Hp Z EL D' vm h) (next : W Z EL R own nm bytes ml ret Q D' k n pc ls st) : W Z EL R own nm bytes ml ret Q D k n pc ls st := by
  intro p l e s m args below meth c T vm0 k0 locs cells slots A
  obtain ⟨X, hS, hk0, hx, hby, hml, hown, hZ, r1, r2, r3, hN, hH, hc, hl, hE, hNI⟩ := A
  exact next p l e s m args below meth c T vm0 k0 locs cells slots ⟨X, hS, hk0, hx, hby, hml, hown, hZ, r1, r2, r3, hN, H _ _ hH, hc, hl, hE, hNI⟩
theorem W.perm (P : D.Perm D') (next : W Z EL R own nm bytes ml ret Q D' k n pc ls st) : W Z EL R own nm bytes ml ret Q D k n pc ls st := W.heap (fun _ _ H => H.perm P) next
theorem W.front (i : Nat) {x : Ent} (hi : D[i]? = some x) (hD : x :: D.eraseIdx i = D') (next : W Z EL R own nm bytes ml ret Q D' k n pc ls st) : W Z EL R own nm bytes ml ret Q D k n pc ls st := W.perm (hD ▸ perm_front D i x hi) next
theorem W.aload (i : Nat) {v : Value} (hd : decode bytes pc = .ok (.aload i, 2)) (hl : ls[i]? = some (.val v)) (hv : v.isRef = true) (next : W Z EL R own nm bytes ml ret Q D k n (pc + 2) ls (v :: st)) : W Z EL R own nm bytes ml ret Q D k n pc ls st :=
  W.pure (fun h hx hc hr => XS.aload (g := mkF _ pc ls st) h hx rfl (hb hc hd) hl hv hr) next
theorem W.aloadN {i : Fin 4} {v : Value} (hd : decode bytes pc = .ok (.aload_n i, 1)) (hl : ls[i.val]? = some (.val v)) (hv : v.isRef = true) (next : W Z EL R own nm bytes ml ret Q D k n (pc + 1) ls (v :: st)) : W Z EL R own nm bytes ml ret Q D k n pc ls st :=
  W.pure (fun h hx hc hr => XS.aloadN (g := mkF _ pc ls st) h hx rfl (hb hc hd) hl hv hr) next
theorem W.iload {i : Nat} {v : Int32} (hd : decode bytes pc = .ok (.iload i, 2)) (hl : ls[i]? = some (.val (.int v))) (next : W Z EL R own nm bytes ml ret Q D k n (pc + 2) ls (.int v :: st)) : W Z EL R own nm bytes ml ret Q D k n pc ls st :=
  W.pure (fun h hx hc hr => XS.iload (g := mkF _ pc ls st) h hx rfl (hb hc hd) hl hr) next
theorem W.iloadN {i : Fin 4} {v : Int32} (hd : decode bytes pc = .ok (.iload_n i, 1)) (hl : ls[i.val]? = some (.val (.int v))) (next : W Z EL R own nm bytes ml ret Q D k n (pc + 1) ls (.int v :: st)) : W Z EL R own nm bytes ml ret Q D k n pc ls st :=
  W.pure (fun h hx hc hr => XS.iloadN (g := mkF _ pc ls st) h hx rfl (hb hc hd) hl hr) next
theorem W.astore {i : Nat} {v : Value} (hd : decode bytes pc = .ok (.astore i, 2)) (hv : v.isRef = true) (hl : storeLocals ls i v = some ls') (next : W Z EL R own nm bytes ml ret Q D k n (pc + 2) ls' st) : W Z EL R own nm bytes ml ret Q D k n pc ls (v :: st) :=
  W.pure (fun h hx hc hr => XS.astore (g := mkF _ pc ls (v :: st)) h hx rfl (hb hc hd) rfl hv hl hr) next
theorem W.astoreN {i : Fin 4} {v : Value} (hd : decode bytes pc = .ok (.astore_n i, 1)) (hv : v.isRef = true) (hl : storeLocals ls i.val v = some ls') (next : W Z EL R own nm bytes ml ret Q D k n (pc + 1) ls' st) : W Z EL R own nm bytes ml ret Q D k n pc ls (v :: st) :=
  W.pure (fun h hx hc hr => XS.astoreN (g := mkF _ pc ls (v :: st)) h hx rfl (hb hc hd) rfl hv hl hr) next
theorem W.istore {i : Nat} {v : Int32} (hd : decode bytes pc = .ok (.istore i, 2)) (hl : storeLocals ls i (.int v) = some ls') (next : W Z EL R own nm bytes ml ret Q D k n (pc + 2) ls' st) : W Z EL R own nm bytes ml ret Q D k n pc ls (.int v :: st) :=
  W.pure (fun h hx hc hr => XS.istore (g := mkF _ pc ls (.int v :: st)) h hx rfl (hb hc hd) rfl hl hr) next
theorem W.istoreN {i : Fin 4} {v : Int32} (hd : decode bytes pc = .ok (.istore_n i, 1)) (hl : storeLocals ls i.val (.int v) = some ls') (next : W Z EL R own nm bytes ml ret Q D k n (pc + 1) ls' st) : W Z EL R own nm bytes ml ret Q D k n pc ls (.int v :: st) :=
  W.pure (fun h hx hc hr => XS.istoreN (g := mkF _ pc ls (.int v :: st)) h hx rfl (hb hc hd) rfl hl hr) next
theorem W.iconst {i : Int} (v : Int32) (hd : decode bytes pc = .ok (.iconst i, 1)) (hv : Int32.ofInt i = v) (next : W Z EL R own nm bytes ml ret Q D k n (pc + 1) ls (.int v :: st)) : W Z EL R own nm bytes ml ret Q D k n pc ls st :=
  W.pure (fun h hx hc hr => XT.iconstV (g := mkF _ pc ls st) h hx rfl v (hb hc hd) hv hr) next
theorem W.bipush {i : Int} (v : Int32) (hd : decode bytes pc = .ok (.bipush i, 2)) (hv : (Int8.ofInt i).toInt32 = v) (next : W Z EL R own nm bytes ml ret Q D k n (pc + 2) ls (.int v :: st)) : W Z EL R own nm bytes ml ret Q D k n pc ls st :=
  W.pure (fun h hx hc hr => XT.bipushV (g := mkF _ pc ls st) h hx rfl v (hb hc hd) hv hr) next
theorem W.sipush {i : Int} (v : Int32) (hd : decode bytes pc = .ok (.sipush i, 3)) (hv : (Int16.ofInt i).toInt32 = v) (next : W Z EL R own nm bytes ml ret Q D k n (pc + 3) ls (.int v :: st)) : W Z EL R own nm bytes ml ret Q D k n pc ls st :=
  W.pure (fun h hx hc hr => XT.sipushV (g := mkF _ pc ls st) h hx rfl v (hb hc hd) hv hr) next
theorem W.aconstNull (hd : decode bytes pc = .ok (.aconst_null, 1)) (next : W Z EL R own nm bytes ml ret Q D k n (pc + 1) ls (.null :: st)) : W Z EL R own nm bytes ml ret Q D k n pc ls st :=
  W.pure (fun h hx hc hr => XS.aconstNull (g := mkF _ pc ls st) h hx rfl (hb hc hd) hr) next
theorem W.iinc {i : Nat} {cst : Int} {x : Int32} (v : Int32) (hd : decode bytes pc = .ok (.iinc i cst, 3)) (hv : Int32.ofInt cst = v) (hl : ls[i]? = some (.val (.int x))) (hl' : storeLocals ls i (.int (x + v)) = some ls') (next : W Z EL R own nm bytes ml ret Q D k n (pc + 3) ls' st) : W Z EL R own nm bytes ml ret Q D k n pc ls st :=
  W.pure (fun h hx hc hr => XT.iincV (g := mkF _ pc ls st) h hx rfl v (hb hc hd) hv hl hl' hr) next
theorem W.dup {x : Value} (hd : decode bytes pc = .ok (.dup, 1)) (hc1 : x.category = 1) (next : W Z EL R own nm bytes ml ret Q D k n (pc + 1) ls (x :: x :: st)) : W Z EL R own nm bytes ml ret Q D k n pc ls (x :: st) :=
  W.pure (fun h hx hc hr => XS.dup (g := mkF _ pc ls (x :: st)) h hx rfl (hb hc hd) rfl hc1 hr) next
theorem W.isub {x y : Int32} (hd : decode bytes pc = .ok (.isub, 1)) (next : W Z EL R own nm bytes ml ret Q D k n (pc + 1) ls (.int (x - y) :: st)) : W Z EL R own nm bytes ml ret Q D k n pc ls (.int y :: .int x :: st) :=
  W.pure (fun h hx hc hr => XS.isub (g := mkF _ pc ls (.int y :: .int x :: st)) h hx rfl (hb hc hd) rfl hr) next
theorem W.irem {x y : Int32} (hd : decode bytes pc = .ok (.irem, 1)) (hy : y ≠ 0) (next : W Z EL R own nm bytes ml ret Q D k n (pc + 1) ls (.int (x % y) :: st)) : W Z EL R own nm bytes ml ret Q D k n pc ls (.int y :: .int x :: st) := by
  intro p l e s m args below meth c T vm0 k0 locs cells slots A
  obtain ⟨s₂, o, h1, r⟩ := next p l e s m args below meth c T vm0 k0 locs cells slots A
  exact ⟨s₂, o, iremM (g := mkF m pc ls (.int y :: .int x :: st)) A.1 A.2.2.2.1 rfl (hb A.2.2.2.2.1 hd) rfl hy h1, r⟩
theorem W.iand {x y : Int32} (hd : decode bytes pc = .ok (.iand, 1)) (next : W Z EL R own nm bytes ml ret Q D k n (pc + 1) ls (.int (x &&& y) :: st)) : W Z EL R own nm bytes ml ret Q D k n pc ls (.int y :: .int x :: st) :=
  W.pure (fun h hx hc hr => XS.iand (g := mkF _ pc ls (.int y :: .int x :: st)) h hx rfl (hb hc hd) rfl hr) next
theorem W.iushr {x y : Int32} (hd : decode bytes pc = .ok (.iushr, 1)) (next : W Z EL R own nm bytes ml ret Q D k n (pc + 1) ls (.int (XT.ushr x y) :: st)) : W Z EL R own nm bytes ml ret Q D k n pc ls (.int y :: .int x :: st) :=
  W.pure (fun h hx hc hr => XT.iushr (g := mkF _ pc ls (.int y :: .int x :: st)) h hx rfl (hb hc hd) rfl hr) next
theorem W.i2b {x : Int32} (hd : decode bytes pc = .ok (.i2b, 1)) (next : W Z EL R own nm bytes ml ret Q D k n (pc + 1) ls (.int x.toInt8.toInt32 :: st)) : W Z EL R own nm bytes ml ret Q D k n pc ls (.int x :: st) :=
  W.pure (fun h hx hc hr => XT.i2b (g := mkF _ pc ls (.int x :: st)) h hx rfl (hb hc hd) rfl hr) next
theorem W.i2c {x : Int32} (hd : decode bytes pc = .ok (.i2c, 1)) (next : W Z EL R own nm bytes ml ret Q D k n (pc + 1) ls (.int x.toUInt32.toUInt16.toUInt32.toInt32 :: st)) : W Z EL R own nm bytes ml ret Q D k n pc ls (.int x :: st) :=
  W.pure (fun h hx hc hr => XT.i2c (g := mkF _ pc ls (.int x :: st)) h hx rfl (hb hc hd) rfl hr) next
theorem W.goto (pc' : Nat) {o : Int} (hd : decode bytes pc = .ok (.goto o, 3)) (ho : 0 ≤ (pc : Int) + o ∧ ((pc : Int) + o).toNat = pc') (next : W Z EL R own nm bytes ml ret Q D k n pc' ls st) : W Z EL R own nm bytes ml ret Q D k n pc ls st :=
  W.pure (fun h hx hc hr => XS.goto (g := mkF _ pc ls st) h hx rfl rfl (hb hc hd) ho.1 ho.2 hr) next
def Cd : ClassFile.Cond → Int32 → Int32 → Prop
  | .eq, x, y => x = y
  | .ne, x, y => ¬ x = y
  | .lt, x, y => x < y
  | .ge, x, y => ¬ x < y
  | .gt, x, y => y < x
  | .le, x, y => ¬ y < x
theorem Cd.yes {cd : ClassFile.Cond} {x y : Int32} (q : Cd cd x y) : if_icmp.holds cd x y = true := by
  cases cd <;> first | exact (teq q).1 | exact (feq q).2 | exact (tlt q).1 | exact (flt q).2.1 | exact (tlt q).2.2.1 | exact (flt q).2.2.2
theorem Cd.no {cd : ClassFile.Cond} {x y : Int32} (q : ¬ Cd cd x y) : if_icmp.holds cd x y = false := by
  cases cd <;> first | exact (feq q).1 | exact (teq (Classical.not_not.mp q)).2 | exact (flt q).1 | exact (tlt (Classical.not_not.mp q)).2.1 | exact (flt q).2.2.1 | exact (tlt (Classical.not_not.mp q)).2.2.2
theorem W.icmpY (pc' : Nat) {cd : ClassFile.Cond} {x y : Int32} {o : Int} (hd : decode bytes pc = .ok (.if_icmp cd o, 3)) (q : Cd cd x y) (ho : 0 ≤ (pc : Int) + o ∧ ((pc : Int) + o).toNat = pc') (next : W Z EL R own nm bytes ml ret Q D k n pc' ls st) : W Z EL R own nm bytes ml ret Q D k n pc ls (.int y :: .int x :: st) :=
  W.pure (fun h hx hc hr => XS.icmpYes (g := mkF _ pc ls (.int y :: .int x :: st)) h hx rfl rfl (hb hc hd) rfl q.yes ho.1 ho.2 hr) next
theorem W.icmpN {cd : ClassFile.Cond} {x y : Int32} {o : Int} (hd : decode bytes pc = .ok (.if_icmp cd o, 3)) (q : ¬ Cd cd x y) (next : W Z EL R own nm bytes ml ret Q D k n (pc + 3) ls st) : W Z EL R own nm bytes ml ret Q D k n pc ls (.int y :: .int x :: st) :=
  W.pure (fun h hx hc hr => XS.icmpNo (g := mkF _ pc ls (.int y :: .int x :: st)) h hx rfl (hb hc hd) rfl (Cd.no q) hr) next
theorem W.icmp (pc' : Nat) {cd : ClassFile.Cond} {x y : Int32} {o : Int} (hd : decode bytes pc = .ok (.if_icmp cd o, 3)) (ho : 0 ≤ (pc : Int) + o ∧ ((pc : Int) + o).toNat = pc') (nextY : Cd cd x y → W Z EL R own nm bytes ml ret Q D k n pc' ls st) (nextN : ¬ Cd cd x y → W Z EL R own nm bytes ml ret Q D k n (pc + 3) ls st) : W Z EL R own nm bytes ml ret Q D k n pc ls (.int y :: .int x :: st) := by
  by_cases q : Cd cd x y
  · exact W.icmpY pc' hd q ho (nextY q)
  · exact W.icmpN hd q (nextN q)
theorem W.ifY (pc' : Nat) {cd : ClassFile.Cond} {x : Int32} {o : Int} (hd : decode bytes pc = .ok (.ifCond cd o, 3)) (q : Cd cd x 0) (ho : 0 ≤ (pc : Int) + o ∧ ((pc : Int) + o).toNat = pc') (next : W Z EL R own nm bytes ml ret Q D k n pc' ls st) : W Z EL R own nm bytes ml ret Q D k n pc ls (.int x :: st) :=
  W.pure (fun h hx hc hr => XS.ifYes (g := mkF _ pc ls (.int x :: st)) h hx rfl rfl (hb hc hd) rfl ((if0 _ _).trans q.yes) ho.1 ho.2 hr) next
theorem W.ifN {cd : ClassFile.Cond} {x : Int32} {o : Int} (hd : decode bytes pc = .ok (.ifCond cd o, 3)) (q : ¬ Cd cd x 0) (next : W Z EL R own nm bytes ml ret Q D k n (pc + 3) ls st) : W Z EL R own nm bytes ml ret Q D k n pc ls (.int x :: st) :=
  W.pure (fun h hx hc hr => XS.ifNo (g := mkF _ pc ls (.int x :: st)) h hx rfl (hb hc hd) rfl ((if0 _ _).trans (Cd.no q)) hr) next
theorem W.if (pc' : Nat) {cd : ClassFile.Cond} {x : Int32} {o : Int} (hd : decode bytes pc = .ok (.ifCond cd o, 3)) (ho : 0 ≤ (pc : Int) + o ∧ ((pc : Int) + o).toNat = pc') (nextY : Cd cd x 0 → W Z EL R own nm bytes ml ret Q D k n pc' ls st) (nextN : ¬ Cd cd x 0 → W Z EL R own nm bytes ml ret Q D k n (pc + 3) ls st) : W Z EL R own nm bytes ml ret Q D k n pc ls (.int x :: st) := by
  by_cases q : Cd cd x 0
  · exact W.ifY pc' hd q ho (nextY q)
  · exact W.ifN hd q (nextN q)
theorem W.ifnullY (pc' : Nat) {o : Int} (hd : decode bytes pc = .ok (.ifnull o, 3)) (ho : 0 ≤ (pc : Int) + o ∧ ((pc : Int) + o).toNat = pc') (next : W Z EL R own nm bytes ml ret Q D k n pc' ls st) : W Z EL R own nm bytes ml ret Q D k n pc ls (.null :: st) :=
  W.pure (fun h hx hc hr => XS.ifnullYes (g := mkF _ pc ls (.null :: st)) h hx rfl rfl (hb hc hd) rfl ho.1 ho.2 hr) next
theorem W.ifnullN {o : Int} {a : Addr} (hd : decode bytes pc = .ok (.ifnull o, 3)) (next : W Z EL R own nm bytes ml ret Q D k n (pc + 3) ls st) : W Z EL R own nm bytes ml ret Q D k n pc ls (.ref a :: st) :=
  W.pure (fun h hx hc hr => XS.ifnullNo (g := mkF _ pc ls (.ref a :: st)) h hx rfl (hb hc hd) rfl hr) next
def Ca : ClassFile.ACond → Value → Value → Prop
  | .eq, x, y => x = y
  | .ne, x, y => ¬ x = y
theorem Ca.yes {cd : ClassFile.ACond} {x y : Value} (q : Ca cd x y) : XT.acmp cd x y = true := by
  cases cd
  · exact XT.aa_eq_t q
  · exact XT.aa_ne_t q
theorem Ca.no {cd : ClassFile.ACond} {x y : Value} (q : ¬ Ca cd x y) : XT.acmp cd x y = false := by
  cases cd
  · exact XT.aa_eq_f q
  · exact XT.aa_ne_f (Classical.not_not.mp q)
theorem W.acmpY (pc' : Nat) {cd : ClassFile.ACond} {x y : Value} {o : Int} (hd : decode bytes pc = .ok (.if_acmp cd o, 3)) (hx1 : x.isRef = true) (hy1 : y.isRef = true) (q : Ca cd x y) (ho : 0 ≤ (pc : Int) + o ∧ ((pc : Int) + o).toNat = pc') (next : W Z EL R own nm bytes ml ret Q D k n pc' ls st) : W Z EL R own nm bytes ml ret Q D k n pc ls (y :: x :: st) :=
  W.pure (fun h hx hc hr => XT.acmpYes (g := mkF _ pc ls (y :: x :: st)) h hx rfl rfl (hb hc hd) rfl hx1 hy1 q.yes ho.1 ho.2 hr) next
theorem W.acmpN {cd : ClassFile.ACond} {x y : Value} {o : Int} (hd : decode bytes pc = .ok (.if_acmp cd o, 3)) (hx1 : x.isRef = true) (hy1 : y.isRef = true) (q : ¬ Ca cd x y) (next : W Z EL R own nm bytes ml ret Q D k n (pc + 3) ls st) : W Z EL R own nm bytes ml ret Q D k n pc ls (y :: x :: st) :=
  W.pure (fun h hx hc hr => XT.acmpNo (g := mkF _ pc ls (y :: x :: st)) h hx rfl (hb hc hd) rfl hx1 hy1 (Ca.no q) hr) next
theorem W.acmp (pc' : Nat) {cd : ClassFile.ACond} {x y : Value} {o : Int} (hd : decode bytes pc = .ok (.if_acmp cd o, 3)) (hx1 : x.isRef = true) (hy1 : y.isRef = true) (ho : 0 ≤ (pc : Int) + o ∧ ((pc : Int) + o).toNat = pc') (nextY : Ca cd x y → W Z EL R own nm bytes ml ret Q D k n pc' ls st) (nextN : ¬ Ca cd x y → W Z EL R own nm bytes ml ret Q D k n (pc + 3) ls st) : W Z EL R own nm bytes ml ret Q D k n pc ls (y :: x :: st) := by
  by_cases q : Ca cd x y
  · exact W.acmpY pc' hd hx1 hy1 q ho (nextY q)
  · exact W.acmpN hd hx1 hy1 q (nextN q)
end Walk
end Jvm.Wk
namespace Jvm.Wk
open Jvm Jvm.ClassFile Sem Op Lib Bundle Jvm.Free Jvm.Stand Jvm.LawKit Jvm.RoadKit
section Walk
variable {Z : State} {EL : Bool × List (String × Nat)} {R : Room} {own nm : String} {bytes : ByteArray} {ml : Nat} {ret : Option FieldType} {Q : Option Value → List Ent → Prop} {D D' : List Ent} {k n pc : Nat} {ls ls' : Array Slot} {st : List Value} {a0 : Array Value}
theorem W.still {pc' : Nat} {st' : List Value}
    (H : ∀ {p : Program} {l : Launch} {e : Env} {s : State} {m : MethodId} {args : Array Value} {below : List Frame} {meth : Method} {c : Code} {T : State} {locs : List Loc} {cells slots : Nat}, Stand p l e R s m args below meth c T locs cells slots → p.tables.exec = Jvm.exec → c.code = bytes → c.maxLocals = ml → s.vm.findClass own = some m.cls → Z.Warmed39 s.vm → (∃ vm, Hp Z EL D vm T.heap) →
      ∃ T', Stand p l e R s m args below meth c T' locs cells slots ∧ T'.heap = T.heap ∧ ∀ target, Steps p.tables e below (T'.setTop (mkF m pc' ls' st')) target → Steps p.tables e below (T.setTop (mkF m pc ls st)) target)
    (next : W Z EL R own nm bytes ml ret Q D k n pc' ls' st') : W Z EL R own nm bytes ml ret Q D k n pc ls st := by
  intro p l e s m args below meth c T vm0 k0 locs cells slots A
  obtain ⟨X, hS, hk0, hx, hby, hml, hown, hZ, r1, r2, r3, hN, hH, hc, hl, hE, hNI⟩ := A
  obtain ⟨T', X', e', stp⟩ := H X hx hby hml hown hZ ⟨_, hH⟩
  obtain ⟨s₂, o, h1, r⟩ := next p l e s m args below meth c T' vm0 k0 locs cells slots ⟨X', hS, by rw [e']; exact hk0, hx, hby, hml, hown, hZ, r1, r2, r3, hN, by rw [e']; exact hH, hc, hl, hE, hNI⟩
  exact ⟨s₂, o, stp _ h1, r⟩
theorem W.getf {a : Addr} {b : Bool} {C O f d R0 : String} {fs : List Fd} {v : Value} {idx : Nat} (hd : decode bytes pc = .ok (.getfield idx, 3)) (w : (Cond.fieldLink own idx R0 f d).before a0 Z = true) (via : Via Z R0 O f d) (hm : (a, b, .inl (C, fs)) ∈ D) (hf : (O, f, d, v) ∈ fs)
    (next : W Z EL R own nm bytes ml ret Q D k n (pc + 3) ls (v :: st)) : W Z EL R own nm bytes ml ret Q D k n pc ls (.ref a :: st) :=
  W.still (fun X hx hby hml hown hZ hH => by
    obtain ⟨vm, hH⟩ := hH
    exact getF (host := "") X hx hZ hown (Or.inl w) via rfl ((hH.2.2.1 _ hm).1.2 _ hf) (g := mkF _ pc ls (.ref a :: st)) rfl rfl (hb hby hd)) next
theorem W.gets {O f d R0 : String} {v : Value} {idx : Nat} (hd : decode bytes pc = .ok (.getstatic idx, 3)) (w : (Cond.fieldLink own idx R0 f d).before a0 Z = true) (via : Via Z R0 O f d) (F : Sta Z Z.heap O f d v)
    (next : W Z EL R own nm bytes ml ret Q D k n (pc + 3) ls (v :: st)) : W Z EL R own nm bytes ml ret Q D k n pc ls st :=
  W.still (fun X hx hby hml hown hZ hH => by
    obtain ⟨vm, hH⟩ := hH
    exact getS (host := "") X hx hZ hown w via rfl (F.ext hH.1) (g := mkF _ pc ls st) rfl (hb hby hd)) next
theorem W.alen {a : Addr} {b : Bool} {ad : String} {ty : FieldType} {vs : List Value} (z : Int32) (hd : decode bytes pc = .ok (.arraylength, 1)) (hm : (a, b, .inr (ad, ty, vs)) ∈ D) (hz : Nat.toInt32 vs.length = z)
    (next : W Z EL R own nm bytes ml ret Q D k n (pc + 1) ls (.int z :: st)) : W Z EL R own nm bytes ml ret Q D k n pc ls (.ref a :: st) :=
  W.still (fun X hx hby hml hown hZ hH => by
    obtain ⟨vm, hH⟩ := hH
    obtain ⟨c, A, r1, -⟩ := (hH.2.2.1 _ hm).1
    refine ⟨_, X, rfl, fun target ht => ?_⟩
    refine X.arraylength hx A.1 (State.isArrayOf_alike hZ.alike A.2.1) (g := mkF _ pc ls (.ref a :: st)) rfl rfl (hb hby hd) target ?_
    rw [r1]
    have : vs.toArray.size = vs.length := by simp
    rw [this, hz]; exact ht) next
theorem idx_in' {j : Int32} {i : Nat} {vs : List Value} {c : Cell} (r1 : c.slots = vs.toArray) (hj : Idx j i) (hi : i < vs.length) : ¬ (j < 0 ∨ c.slots.size ≤ j.toNatClampNeg) := by
  rw [r1, hj.2]; rintro (q | q)
  · exact hj.1 q
  · simp at q; omega
theorem idx_at' {j : Int32} {i : Nat} {vs : List Value} {c : Cell} {v : Value} (r1 : c.slots = vs.toArray) (hj : Idx j i) (hv : vs[i]? = some v) : c.slots[j.toNatClampNeg]? = some v := by
  rw [r1, hj.2]; simpa using hv
theorem lt_of_at {vs : List Value} {i : Nat} {v : Value} (hv : vs[i]? = some v) : i < vs.length := (List.getElem?_eq_some_iff.mp hv).1
theorem W.caload {a : Addr} {b : Bool} {ad : String} {vs : List Value} {j : Int32} (i : Nat) {v : Value} (hd : decode bytes pc = .ok (.caload, 1)) (hm : (a, b, .inr (ad, .char, vs)) ∈ D) (hj : Idx j i) (hv : vs[i]? = some v)
    (next : W Z EL R own nm bytes ml ret Q D k n (pc + 1) ls (v :: st)) : W Z EL R own nm bytes ml ret Q D k n pc ls (.int j :: .ref a :: st) :=
  W.still (fun X hx hby hml hown hZ hH => by
    obtain ⟨vm, hH⟩ := hH
    obtain ⟨c, A, r1, -⟩ := (hH.2.2.1 _ hm).1
    exact ⟨_, X, rfl, fun target ht => X.caload hx A.1 (State.isArrayOf_alike hZ.alike A.2.1) A.2.2 (idx_in' r1 hj (lt_of_at hv)) (idx_at' r1 hj hv) (g := mkF _ pc ls (.int j :: .ref a :: st)) rfl rfl (hb hby hd) target ht⟩) next
theorem W.baload {a : Addr} {b : Bool} {ad : String} {vs : List Value} {j : Int32} (i : Nat) {v : Value} (hd : decode bytes pc = .ok (.baload, 1)) (hm : (a, b, .inr (ad, .byte, vs)) ∈ D) (hj : Idx j i) (hv : vs[i]? = some v)
    (next : W Z EL R own nm bytes ml ret Q D k n (pc + 1) ls (v :: st)) : W Z EL R own nm bytes ml ret Q D k n pc ls (.int j :: .ref a :: st) :=
  W.still (fun X hx hby hml hown hZ hH => by
    obtain ⟨vm, hH⟩ := hH
    obtain ⟨c, A, r1, -⟩ := (hH.2.2.1 _ hm).1
    exact ⟨_, X, rfl, fun target ht => X.baloadBytes hx A.1 (State.isArrayOf_alike hZ.alike A.2.1) A.2.2 (idx_in' r1 hj (lt_of_at hv)) (idx_at' r1 hj hv) (g := mkF _ pc ls (.int j :: .ref a :: st)) rfl rfl (hb hby hd) target ht⟩) next
theorem Hp.exa {D : List Ent} {a : Addr} {b : Bool} {C : String} {fs : List Fd} (hm : (a, b, .inl (C, fs)) ∈ D) : ∀ vm h, Hp Z EL D vm h → Exa Z h a C := fun _ _ H => (H.2.2.1 _ hm).1.1
theorem W.initO {a : Addr} {idx : Nat} (Wt : Nat) (hd : decode bytes pc = .ok (.invokespecial idx, 3)) (w1 : (Cond.methodLink own idx Lib.objectInit).before a0 Z = true) (w2 : (Cond.instanceMethod Lib.objectInit).before a0 Z = true) (w3 : (Cond.code Lib.objectInit ⟨#[0xb1]⟩ 1 none).before a0 Z = true)
    (hls : ls.size = ml) (hW : (st.map fun v => v.category).sum = Wt) (hr : 1 ≤ R.frames ∧ Wt + 12 ≤ R.locals) (next : W Z EL R own nm bytes ml ret Q D k n (pc + 3) ls st) : W Z EL R own nm bytes ml ret Q D k n pc ls (.ref a :: st) :=
  W.still (fun X hx hby hml hown hZ hH => Jvm.RoadKit.initO X hx hZ hown w1 w2 w3 rfl (g := mkF _ pc ls (.ref a :: st)) rfl (by rw [hml]; exact hls) rfl (hb hby hd) hr.1 (W := Wt) (by show 2 * 0 + _ ≤ _; omega) hr.2) next
def LaidAll (Z : State) (a0 : Array Value) (C : String) : List Fd → Prop
  | [] => True
  | f :: r => (Laid Z a0 C f.1 f.2.1 f.2.2.1 ∧ ∃ ty, parseFieldDescriptor f.2.2.1 = some ty ∧ f.2.2.2 = defaultValue ty) ∧ LaidAll Z a0 C r
theorem LaidAll.mem {C : String} : ∀ {fs : List Fd}, LaidAll Z a0 C fs → ∀ f ∈ fs, Laid Z a0 C f.1 f.2.1 f.2.2.1 ∧ ∃ ty, parseFieldDescriptor f.2.2.1 = some ty ∧ f.2.2.2 = defaultValue ty
  | [], _, _, q => nomatch q
  | f :: r, L, g, q => by
    rcases List.mem_cons.mp q with rfl | q
    · exact L.1
    · exact LaidAll.mem L.2 g q
theorem LaidAll.dist {C : String} : ∀ {fs : List Fd}, LaidAll Z a0 C fs → (fs.map (·.2.1)).Pairwise (fun x y => x ≠ y) → (fs.map (sl Z)).Pairwise (fun x y => x ≠ y)
  | [], _, _ => List.Pairwise.nil
  | f :: r, L, N => by
    obtain ⟨n1, n2⟩ := List.pairwise_cons.mp N
    refine List.pairwise_cons.mpr ⟨fun y hy => ?_, LaidAll.dist L.2 n2⟩
    obtain ⟨g, hg, rfl⟩ := List.mem_map.mp hy
    obtain ⟨l1, t1, q1, -⟩ := L.1
    obtain ⟨l2, t2, q2, -⟩ := LaidAll.mem L.2 g hg
    exact slot_ne l1 l2 (n1 _ (List.mem_map.mpr ⟨g, hg, rfl⟩)) q1 q2
theorem W.new {C : String} {idx nn : Nat} {fs : List Fd} (hd : decode bytes pc = .ok (.new idx, 3)) (w : (Cond.classLink own idx C).before a0 Z = true) (wi : (Cond.instantiable C nn).before a0 Z = true) (wz : (Cond.initialized C).before a0 Z = true)
    (hfs : LaidAll Z a0 C fs) (hnm : (fs.map (·.2.1)).Pairwise (fun x y => x ≠ y)) (hr : k + 1 ≤ R.cells ∧ n + nn ≤ R.slots) (next : ∀ a, W Z EL R own nm bytes ml ret Q ((a, true, .inl (C, fs)) :: D) (k + 1) (n + nn) (pc + 3) ls (.ref a :: st)) : W Z EL R own nm bytes ml ret Q D k n pc ls st := by
  intro p l e s m args below meth c T vm0 k0 locs cells slots A
  obtain ⟨X, hS, hk0, hx, hby, hml, hown, hZ, r1, r2, r3, hN, hH, hc, hl, hE, hNI⟩ := A
  obtain ⟨T', h', X', e', E, A2, D2, -, stp⟩ := newO X hx hZ hown w wi wz rfl (g := mkF m pc ls st) rfl (hb hby hd) (by omega) (by omega)
  have H' : Hp Z EL ((T.heap.size, true, .inl (C, fs)) :: D) vm0 h' := hH.new E ⟨A2, fun f hf => by
    obtain ⟨l1, ty, q1, q2⟩ := hfs.mem f hf
    rw [q2]; exact D2 l1 q1⟩ (hfs.dist hnm)
  obtain ⟨s₂, o, h1, r⟩ := next T.heap.size p l e s m args below meth c T' vm0 k0 locs (cells + 1) (slots + nn) ⟨X', hS, by rw [e']; exact Nat.le_trans hk0 E.1, hx, hby, hml, hown, hZ, r1, r2, r3, hN, by rw [e']; exact H', by omega, by omega, hE, hNI⟩
  exact ⟨s₂, o, stp _ h1, r⟩
theorem fits_default (ty : FieldType) : fits ty (defaultValue ty) = true := by cases ty <;> rfl
theorem W.newarr {aty : ArrayType} {z : Int32} (N : Nat) {ad : String} {ty : FieldType} (hd : decode bytes pc = .ok (.newarray aty, 2)) (hty : newarray.typeOf aty = ty) (w : (Cond.arrayClass ty).before a0 Z = true) (hz : Idx z N) (had : "[" ++ ty.toString = ad) (hb8 : N * 8 ≤ 536870912) (hr : k + 1 ≤ R.cells ∧ n + N ≤ R.slots)
    (next : ∀ a, W Z EL R own nm bytes ml ret Q ((a, true, .inr (ad, ty, List.replicate N (defaultValue ty))) :: D) (k + 1) (n + N) (pc + 2) ls (.ref a :: st)) : W Z EL R own nm bytes ml ret Q D k n pc ls (.int z :: st) := by
  intro p l e s m args below meth c T vm0 k0 locs cells slots A
  subst hty
  obtain ⟨X, hS, hk0, hx, hby, hml, hown, hZ, r1, r2, r3, hN, hH, hc, hl, hE, hNI⟩ := A
  obtain ⟨T', h', cA, X', e', E, A2, E2, stp⟩ := newPE X hx hZ w rfl (g := mkF m pc ls (.int z :: st)) rfl (hb hby hd) rfl hz.1 (cap := N) (by rw [hz.2]; exact Nat.le_refl _) hb8 (by omega) (by omega) had
  have H' : Hp Z EL ((T.heap.size, true, .inr (ad, newarray.typeOf aty, List.replicate N (defaultValue (newarray.typeOf aty)))) :: D) vm0 h' := hH.new E ⟨_, A2, by simp [newA, hz.2], by simp; omega, fun v hv => by rw [(List.mem_replicate.mp hv).2]; exact fits_default _, fun _ => E2⟩ trivial
  obtain ⟨s₂, o, h1, r⟩ := next T.heap.size p l e s m args below meth c T' vm0 k0 locs (cells + 1) (slots + N) ⟨X', hS, by rw [e']; exact Nat.le_trans hk0 E.1, hx, hby, hml, hown, hZ, r1, r2, r3, hN, by rw [e']; exact H', by omega, by omega, hE, hNI⟩
  exact ⟨s₂, o, stp _ h1, r⟩
theorem pw_ne {l : List Nat} (P : l.Pairwise (fun x y => x ≠ y)) {i j : Nat} {x y : Nat} (hij : i ≠ j) (hi : l[i]? = some x) (hj : l[j]? = some y) : x ≠ y := by
  obtain ⟨i1, rfl⟩ := List.getElem?_eq_some_iff.mp hi
  obtain ⟨j1, rfl⟩ := List.getElem?_eq_some_iff.mp hj
  rw [List.pairwise_iff_getElem] at P
  rcases Nat.lt_or_gt_of_ne hij with q | q
  · exact P i j i1 j1 q
  · exact (P j i j1 i1 q).symm
theorem set_map_sl {fs : List Fd} {j : Nat} {f g : Fd} (hj : fs[j]? = some f) (e : sl Z g = sl Z f) : (fs.set j g).map (sl Z) = fs.map (sl Z) := by
  rw [List.map_set, e]
  apply List.ext_getElem?
  intro i
  rw [List.getElem?_set]
  split
  · rename_i q; subst q
    rw [List.getElem?_map, hj]
    have := (List.getElem?_eq_some_iff.mp hj).1
    simp [this]
  · rfl
theorem Sat.put {h h' : Heap} {a : Addr} {C O f d : String} {fs : List Fd} {j : Nat} {old v : Value} (S : Sat Z h a (.inl (C, fs))) (hD : Dist Z (.inl (C, fs))) (hj : fs[j]? = some (O, f, d, old)) (Wr1 : Wr h h' a (Jvm.RoadKit.slotOf Z O f d) v) : Sat Z h' a (.inl (C, fs.set j (O, f, d, v))) := by
  refine ⟨S.1.wr Wr1, fun g hg => ?_⟩
  obtain ⟨i, hi⟩ := List.mem_iff_getElem?.mp hg
  rw [List.getElem?_set] at hi
  split at hi
  · rename_i q; subst q
    split at hi
    · cases hi; exact (S.2 _ (List.mem_of_getElem? hj)).same Wr1
    · cases hi
  · rename_i q
    refine (S.2 g (List.mem_of_getElem? hi)).other Wr1 (Or.inr ?_)
    exact pw_ne hD (Ne.symm q) (x := sl Z g) (y := sl Z (O, f, d, old)) (by rw [List.getElem?_map, hi]; rfl) (by rw [List.getElem?_map, hj]; rfl)
theorem W.putf {a : Addr} {C O f d R0 : String} {fs : List Fd} {old v : Value} {idx kk : Nat} {ty : FieldType} (i j : Nat) (hd : decode bytes pc = .ok (.putfield idx, 3)) (w : (Cond.fieldLink own idx R0 f d).before a0 Z = true) (via : Via Z R0 O f d)
    (hi : D[i]? = some (a, true, .inl (C, fs))) (hj : fs[j]? = some (O, f, d, old)) (L : (Cond.lays C O f d).before a0 Z = true ∨ ((Cond.laysFinal C O f d).before a0 Z = true ∧ own = O ∧ nm = "<init>")) (wi : (Cond.instantiable C kk).before a0 Z = true)
    (hty : parseFieldDescriptor d = some ty) (hn : narrow ty v = v) (hf : fits ty v = true) (hD : D.set i (a, true, .inl (C, fs.set j (O, f, d, v))) = D')
    (next : W Z EL R own nm bytes ml ret Q D' k n (pc + 3) ls st) : W Z EL R own nm bytes ml ret Q D k n pc ls (v :: .ref a :: st) := by
  intro p l e s m args below meth c T vm0 k0 locs cells slots A
  obtain ⟨X, hS, hk0, hx, hby, hml, hown, hZ, r1, r2, r3, hN, hH, hc, hl, hE, hNI⟩ := A
  subst hD
  obtain ⟨S, g⟩ := hH.2.2.1 _ (List.mem_of_getElem? hi)
  obtain ⟨T', h', X', e', W1, stp⟩ := putF (host := "") X hx hZ hown (Or.inl w) via rfl (S.2 _ (List.mem_of_getElem? hj)) S.1 (L.imp id fun q => ⟨q.1, q.2.1, r3.trans q.2.2⟩) wi hty hn hf (g := mkF m pc ls (v :: .ref a :: st)) rfl rfl (hb hby hd)
  obtain ⟨g1, g2, g3⟩ := g rfl
  have H' := hH.keepSet (d' := .inl (C, fs.set j (O, f, d, v))) hi (Keep.of_wr W1) (Sat.put S g3 hj W1) (by show List.Pairwise _ _; rw [set_map_sl (Z := Z) (g := (O, f, d, v)) hj rfl]; exact g3)
  obtain ⟨s₂, o, q1, r⟩ := next p l e s m args below meth c T' vm0 k0 _ cells slots ⟨X', hS, by rw [e', W1.size]; exact hk0, hx, hby, hml, hown, hZ, r1, r2, r3, Fr.snoc X' hN g1, by rw [e']; exact H', hc, hl, hE, hNI⟩
  exact ⟨s₂, o, stp _ q1, r⟩
theorem Sat.store {h h' : Heap} {a : Addr} {ad : String} {ty : FieldType} {vs : List Value} {i : Nat} {v : Value} (S : Sat Z h a (.inr (ad, ty, vs))) (hv : fits ty v = true) (W1 : Wr h h' a i v) : Sat Z h' a (.inr (ad, ty, vs.set i v)) := by
  obtain ⟨c, A, r1, r2, r3, r4⟩ := S
  refine ⟨_, A.same W1, ?_, by simpa using r2, fun x hx => ?_, fun q => (r4 q).wr W1⟩
  · simp [Cell.setSlot, r1]
  · rcases List.mem_or_eq_of_mem_set hx with hx | rfl
    · exact r3 x hx
    · exact hv
theorem W.stA {a : Addr} {ad : String} {ty : FieldType} {vs : List Value} {i j : Nat} {v : Value} {st' : List Value} {pc' : Nat}
    (H : ∀ {p : Program} {l : Launch} {e : Env} {s : State} {m : MethodId} {args : Array Value} {below : List Frame} {meth : Method} {c : Code} {T : State} {locs : List Loc} {cells slots : Nat} {cl : Cell}, Stand p l e R s m args below meth c T locs cells slots → p.tables.exec = Jvm.exec → c.code = bytes → Z.Warmed39 s.vm → Arr Z T.heap a cl ty → cl.slots = vs.toArray →
      ∃ T' h', Stand p l e R s m args below meth c T' (locs ++ [⟨a, j⟩]) cells slots ∧ T'.heap = h' ∧ Wr T.heap h' a j v ∧ ∀ target, Steps p.tables e below (T'.setTop (mkF m pc' ls st')) target → Steps p.tables e below (T.setTop (mkF m pc ls st)) target)
    (hi : D[i]? = some (a, true, .inr (ad, ty, vs))) (hf : fits ty v = true) (hD : D.set i (a, true, .inr (ad, ty, vs.set j v)) = D')
    (next : W Z EL R own nm bytes ml ret Q D' k n pc' ls st') : W Z EL R own nm bytes ml ret Q D k n pc ls st := by
  intro p l e s m args below meth c T vm0 k0 locs cells slots A
  obtain ⟨X, hS, hk0, hx, hby, hml, hown, hZ, r1, r2, r3, hN, hH, hc, hl, hE, hNI⟩ := A
  subst hD
  obtain ⟨S, g⟩ := hH.2.2.1 _ (List.mem_of_getElem? hi)
  obtain ⟨cl, A, q1, -⟩ := id S
  obtain ⟨T', h', X', e', W1, stp⟩ := H X hx hby hZ A q1
  obtain ⟨g1, g2, g3⟩ := g rfl
  have H' := hH.keepSet hi (Keep.of_wr W1) (Sat.store S hf W1) trivial
  obtain ⟨s₂, o, q1, r⟩ := next p l e s m args below meth c T' vm0 k0 _ cells slots ⟨X', hS, by rw [e', W1.size]; exact hk0, hx, hby, hml, hown, hZ, r1, r2, r3, Fr.snoc X' hN g1, by rw [e']; exact H', hc, hl, hE, hNI⟩
  exact ⟨s₂, o, stp _ q1, r⟩
theorem W.castore {a : Addr} {ad : String} {vs : List Value} {z x x' : Int32} (i j : Nat) (hd : decode bytes pc = .ok (.castore, 1)) (hi : D[i]? = some (a, true, .inr (ad, .char, vs))) (hz : Idx z j) (hj : j < vs.length) (hx' : nar .char x = x')
    (hD : D.set i (a, true, .inr (ad, .char, vs.set j (.int x'))) = D') (next : W Z EL R own nm bytes ml ret Q D' k n (pc + 1) ls st) : W Z EL R own nm bytes ml ret Q D k n pc ls (.int x :: .int z :: .ref a :: st) :=
  W.stA (i := i) (j := j) (fun X hx hby hZ A q => by
    have r := stC X hx hZ rfl A (j := z) (x := x) (idx_in' q hz hj) (g := mkF _ pc ls (.int x :: .int z :: .ref a :: st)) rfl rfl (hb hby hd)
    rw [hz.2, hx'] at r; exact r) hi (by rw [← hx']; exact fits_nar_char x) hD next
theorem W.bastore {a : Addr} {ad : String} {vs : List Value} {z x x' : Int32} (i j : Nat) (hd : decode bytes pc = .ok (.bastore, 1)) (hi : D[i]? = some (a, true, .inr (ad, .byte, vs))) (hz : Idx z j) (hj : j < vs.length) (hx' : nar .byte x = x')
    (hD : D.set i (a, true, .inr (ad, .byte, vs.set j (.int x'))) = D') (next : W Z EL R own nm bytes ml ret Q D' k n (pc + 1) ls st) : W Z EL R own nm bytes ml ret Q D k n pc ls (.int x :: .int z :: .ref a :: st) :=
  W.stA (i := i) (j := j) (fun X hx hby hZ A q => by
    have r := stB X hx hZ rfl A (j := z) (x := x) (idx_in' q hz hj) (g := mkF _ pc ls (.int x :: .int z :: .ref a :: st)) rfl rfl (hb hby hd)
    rw [hz.2, hx'] at r; exact r) hi (by rw [← hx']; exact fits_nar_byte x) hD next
abbrev dStr (c : Int32) (v : Value) : Desc := .inl ("java/lang/String", [("java/lang/String", "value", "[B", v), ("java/lang/String", "coder", "B", .int c)])
theorem W.ldcT {idx : Nat} {text : String} (N : Nat) {vs : List Value} (hni : EL.1 = false) (hd : decode bytes pc = .ok (.ldc idx, 2)) (w : (Cond.stringLink own idx text).before a0 Z = true) (wS : ∀ a ∈ Bundle.stringAtoms, a.before a0 Z = true) (hmem : (own, idx) ∈ EL.2)
    (ht : (∀ c ∈ text.toList, c.toNat < 256) ∧ text.toList.map (fun c => Value.int (Jvm.Lit.byteI c.toNat.toUInt16)) = vs) (hn : 4 * text.toList.length ≤ N) (hbig : N ≤ 536870912) (hr : k + 2 ≤ R.cells ∧ n + (N + 4) ≤ R.slots)
    (next : ∀ a b, W Z EL R own nm bytes ml ret Q ((a, false, dStr 0 (.ref b)) :: (b, false, .inr ("", .byte, vs)) :: D) (k + 2) (n + (N + 4)) (pc + 2) ls (.ref a :: st)) : W Z EL R own nm bytes ml ret Q D k n pc ls st := by
  intro p l e s m args below meth c T vm0 k0 locs cells slots A
  obtain ⟨X, hS, hk0, hx, hby, hml, hown, hZ, r1, r2, r3, hN, hH, hc, hl, ⟨⟨b0, hE⟩, hNL⟩, hNI⟩ := A
  have hE' : EW Z a0 EL.2 := fun q hq => by
    obtain ⟨t, ht, r⟩ := hE q hq
    exact ⟨t, by have := mvS (s := Z) (args := a0) (State.Warmed39.refl Z) ht; simpa using this, r⟩
  have hlen : vs.length = text.toList.length := by rw [← ht.2]; simp
  have hv31 : vs.length < 2147483648 := by omega
  have iz := Idx.of_nat hv31
  obtain ⟨a, T', h', k1, b, kk, X', e', E, hS', hk1, hZ', hown', F1, F2, F3, F4, g1, g2, hC, -, hne, stp⟩ := ldcCH X hx hZ hown w wS rfl hS hk0 hE' hmem hH.2.1 (z := Nat.toInt32 vs.length) ht iz.1 iz.2 (g := mkF m pc ls st) rfl (hb hby hd) hn hbig (by omega) (by omega)
  have hH1 := hH.grown E hC
  have hH2 : Hp Z EL ((b, false, .inr ("", .byte, vs)) :: D) T'.vm h' := hH1.read (Sat.of_arv F4 iz.2 fun q => absurd rfl q) fun x q _ => (hne x q).2
  have hH3 : Hp Z EL ((a, false, dStr 0 (.ref b)) :: (b, false, .inr ("", .byte, vs)) :: D) T'.vm h' := hH2.read ⟨F1, fun f hf => by
    rcases List.mem_cons.mp hf with rfl | hf
    · exact F3
    · cases List.mem_singleton.mp hf; exact F2⟩ fun x q _ => (hne x q).1
  obtain ⟨s₂, o, q1, r⟩ := next a b p l e s m args below meth c T' T'.vm k1 locs (cells + 2) (slots + (N + 4)) ⟨X', hS', by rw [e']; exact hk1, hx, hby, hml, hown', hZ', r1, r2, r3, hN, by rw [e']; exact hH3, by omega, by omega, ⟨⟨b0, hE⟩, hNL⟩, fun q => by rw [hni] at q; cases q⟩
  exact ⟨s₂, o, stp _ q1, r⟩
theorem W.out {v : Option Value} (hk : k ≤ R.cells ∧ n ≤ R.slots) (hv : ret = none → v = none) (q : Q v D)
    (H : ∀ {p : Program} {l : Launch} {e : Env} {s : State} {m : MethodId} {args : Array Value} {below : List Frame} {meth : Method} {c : Code} {T : State} {locs : List Loc} {cells slots : Nat} {fs : List Frame}, Stand p l e R s m args below meth c T locs cells slots → p.tables.exec = Jvm.exec → c.code = bytes → meth.sig.returnType = ret →
      (∀ (f : JFrame) (acts : List Action), f.method = m → f.locked = none → f.entered = [] → (doReturn e (T.setTop f) acts v).1 = T.setFrames fs) → Steps p.tables e below (T.setTop (mkF m pc ls st)) (T.setFrames fs)) : W Z EL R own nm bytes ml ret Q D k n pc ls st := by
  intro p l e s m args below meth c T vm0 k0 locs cells slots A
  obtain ⟨X, hS, hk0, hx, hby, hml, hown, hZ, r1, r2, r3, hN, hH, hc, hl, ⟨⟨b0, hE⟩, hNL⟩, hNI⟩ := A
  obtain ⟨fs, h1, h2, h3, ⟨h4, h5, h6, h7⟩⟩ := X.leaveW hS hk0 (v := v) (fun z => hv (r1 ▸ z)) r2
  refine ⟨_, _, H X hx hby r1 h1, h2, h3, v, locs, rfl, hN, ⟨D, (show Hp Z EL D T.vm T.heap from hH.toVm (CHv.at X hZ hE hH.2.1)), q⟩, ⟨h4, h5, h6, h7.mono (by omega) (by omega)⟩, fun q => ?_⟩
  have := X.warmed
  rw [hNI q] at this; exact this
theorem W.ireturn {x : Int32} {t : FieldType} (hd : decode bytes pc = .ok (.ireturn, 1)) (hret : ret = some t) (ht : t = .int ∨ t = .boolean ∨ t = .byte ∨ t = .char ∨ t = .short) (hn : narrow t (.int x) = .int x) (hk : k ≤ R.cells ∧ n ≤ R.slots) (q : Q (some (.int x)) D) : W Z EL R own nm bytes ml ret Q D k n pc ls (.int x :: st) :=
  W.out hk (fun z => by rw [hret] at z; cases z) q (fun X hx hby hr hl => retOut X hx (hr.trans hret) hn (Or.inl ⟨rfl, ht, x, rfl⟩) (hb hby hd) hl)
theorem W.areturn {v : Value} {t : FieldType} (hd : decode bytes pc = .ok (.areturn, 1)) (hret : ret = some t) (ht : t.isReference = true) (hv : v.isRef = true) (hk : k ≤ R.cells ∧ n ≤ R.slots) (q : Q (some v) D) : W Z EL R own nm bytes ml ret Q D k n pc ls (v :: st) :=
  W.out hk (fun z => by rw [hret] at z; cases z) q (fun X hx hby hr hl => retOut X hx (hr.trans hret) (by cases t <;> first | rfl | cases ht) (Or.inr (Or.inr (Or.inr (Or.inr ⟨rfl, ht, hv⟩)))) (hb hby hd) hl)
theorem W.return_ (hd : decode bytes pc = .ok (.return_, 1)) (hret : ret = none) (hk : k ≤ R.cells ∧ n ≤ R.slots) (q : Q none D) : W Z EL R own nm bytes ml ret Q D k n pc ls [] :=
  W.out hk (fun _ => rfl) q (fun X hx hby hr hl => X.returnOut hx (hr.trans hret) (hb hby hd) hl)
end Walk
end Jvm.Wk
namespace Jvm.Wk
open Jvm Jvm.ClassFile Sem Op Lib Bundle Jvm.Free Jvm.Stand Jvm.LawKit Jvm.RoadKit
section Calls
variable {Z : State} {EL : Bool × List (String × Nat)} {R : Room} {own nm : String} {bytes : ByteArray} {ml : Nat} {ret : Option FieldType} {Q : Option Value → List Ent → Prop} {D D' : List Ent} {k n pc : Nat} {ls ls' : Array Slot} {st : List Value} {a0 : Array Value}
variable {y : MethodName} {cb : ByteArray} {cm : Nat} {cr : Option FieldType} {rm : Room} {as : List Value} {Q' : Option Value → List Ent → Prop} {idx : Nat}
abbrev CPre (Z : State) (EL : Bool × List (String × Nat)) (R rm : Room) (D : List Ent) (vm0 : Vm) (as : List Value) : Pt → Array Value → Prop := fun A a => a = as.toArray ∧ Hp Z EL D vm0 A.U.heap ∧ A.cells + rm.cells ≤ R.cells ∧ A.slots + rm.slots ≤ R.slots
abbrev CPost (Z : State) (EL : Bool × List (String × Nat)) (rm : Room) (Q' : Option Value → List Ent → Prop) : Pt → Array Value → Option Value → Pt → Prop :=
  fun A _ v B => ∃ L D', Fr Z.heap.size L ∧ Hp Z EL D' B.U.vm B.U.heap ∧ Q' v D' ∧ B.locs = A.locs ++ L ∧ B.cells = A.cells + rm.cells ∧ B.slots = A.slots + rm.slots ∧ (EL.1 = true → A.U.WarmedH B.U.vm)
theorem conBack {p : Program} {l : Launch} {e : Env} {s : State} {args : Array Value} {below : List Frame} {vm0 : Vm} {len Wt : Nat} (hC : Con Z EL y cb cm cr rm as D Q') (hZ : Z.Warmed39 vm0) (wc : (Cond.code y cb cm cr).before a0 Z = true) (wz : (Cond.initialized y.cls).before a0 Z = true) (hE : ELok Z EL)
    (hf : rm.frames + 1 ≤ R.frames) (hl : Wt + (cm + 11) + rm.locals ≤ R.locals) : BackS l R p e below (s.setVm vm0) args y len Wt (CPre Z EL R rm D vm0 as) (CPost Z EL rm Q') := by
  obtain ⟨⟨b0, hE0⟩, hNL⟩ := id hE
  exact BackS.of_freeW (bytes := cb) (maxL := cm) (ret := cr) (E := fun _ first o t L k n => k = rm.cells ∧ n = rm.slots ∧ Fr Z.heap.size L ∧ (EL.1 = true → first.WarmedH t.vm) ∧ ∃ v, o = .returned v ∧ ∃ D', Hp Z EL D' t.vm t.heap ∧ Q' v D') (hC hE l []) hf hl
    (fun m meth c A a Y hp => have hU : Z.Warmed39 A.U.vm := wtrans (s := s.setVm vm0) hZ Y.warmed
      ⟨by show (Cond.and _ .tt).before a A.U = true; rw [Cond.before_and, mv hU wc]; rfl, mv hU wc, mv hU wz, hp.2.2.1, hp.2.2.2⟩)
    (fun m meth c A a g mk Y hp => ⟨hp.1, wtrans (s := s.setVm vm0) hZ Y.warmed, (show Hp Z EL D A.U.vm A.U.heap from hp.2.1.toVm (CHv.at Y hZ hE0 hp.2.1.2.1))⟩) (fun _ _ _ _ _ _ _ _ _ => trivial)
    (fun _ _ _ _ ⟨v, L, h1, h2, h3, h4, h5⟩ => ⟨L, _, _, h4, rfl, rfl, h2, h5, v, h1, h3⟩)
    (fun m meth c A a g mk v t L k n Y hp _ _ ⟨e1, e2, e3, e7, v', e4, D', e5, e6⟩ => by
      cases e4; subst e1 e2
      exact ⟨L, D', e3, e5, e6, rfl, rfl, rfl, e7⟩)
theorem W.afterCall {p : Program} {l : Launch} {e : Env} {s : State} {m : MethodId} {args : Array Value} {below : List Frame} {meth : Method} {c : Code} {T : State} {vm0 : Vm} {k0 : Nat} {locs : List Loc} {cells slots : Nat} {len : Nat} {rest : List Value} {aa : Array Value}
    (A : Here Z EL R own nm bytes ml ret D k n p l e s m args below meth c T vm0 k0 locs cells slots)
    (hB : ∃ (v : Option Value) (vm₁ : Vm) (B : Pt), (s.setVm vm0).WarmedH vm₁ ∧ Stand p l e R ((s.setVm vm0).setVm B.U.vm) m args below meth c B.U B.locs B.cells B.slots ∧ (s.setVm vm0).Since B.U.vm B.U.heap.size ∧ T.heap.size ≤ B.U.heap.size ∧ CPost Z EL rm Q' ⟨T.setVm vm₁, locs, cells, slots⟩ aa v B ∧
      Steps p.tables e below (T.setTop (mkF m pc ls st)) (B.U.setTop { mkF m pc ls st with pc := pc + len, stack := v.toList ++ rest }))
    (next : ∀ v D', Q' v D' → W Z EL R own nm bytes ml ret Q D' (k + rm.cells) (n + rm.slots) (pc + len) ls (v.toList ++ rest)) :
    ∃ s₂ o, Steps p.tables e below (T.setTop (mkF m pc ls st)) s₂ ∧ s₂.status = .running ∧ Ended s₂ below o ∧ Res Z EL Q R s o s₂ := by
  obtain ⟨X, hS, hk0, hx, hby, hml, hown, hZ, r1, r2, r3, hN, hH, hc, hl, hE, hNI⟩ := A
  obtain ⟨v, vm₁, ⟨U, L1, c1, n1⟩, hW1, X', hS', hg, ⟨L, D', hL, hH', hq, e1, e2, e3, e4⟩, stp⟩ := hB
  dsimp only [Pt.U, Pt.locs, Pt.cells, Pt.slots] at X' hS' hg hH' e1 e2 e3 e4 stp
  subst e1 e2 e3
  cases hb : EL.1 with
  | false =>
    obtain ⟨s₂, o, q1, r⟩ := next v D' hq p l e s m args below meth c U U.vm U.heap.size (locs ++ L) (cells + rm.cells) (slots + rm.slots)
      ⟨X', hS.trans hS' (Nat.le_trans hk0 hg), Nat.le_refl _, hx, hby, hml, (hS'.1.alike.findClass _ _).trans hown, State.Warmed39.trans (t := s.setVm vm0) hZ hS'.1, r1, r2, r3, Fr.app hN hL, hH', by omega, by omega, hE, fun q => by rw [hb] at q; cases q⟩
    exact ⟨s₂, o, stp.trans q1, r⟩
  | true =>
    have hWU : (s.setVm vm0).WarmedH U.vm := State.WarmedH.trans hW1 (e4 hb)
    have X2 : Stand p l e R (s.setVm vm0) m args below meth c U (locs ++ L) (cells + rm.cells) (slots + rm.slots) :=
      ⟨X.admits, X.cas, X.clock, X.frames, X.room, X.hears, X.method, X.code, X'.here, X'.tail, hWU, X'.limits, X'.bytes, X'.same.setVm vm0⟩
    have hn0 : EL.2 = [] := hE.2 hb
    have hH2 : Hp Z EL D' vm0 U.heap := ⟨hH'.1, by rw [hn0]; exact fun p hp => (by cases hp), fun x hx => ⟨(hH'.2.2.1 x hx).1, fun w => ⟨((hH'.2.2.1 x hx).2 w).1, (by rw [hn0]; rintro ⟨p, hp, -⟩; cases hp), ((hH'.2.2.1 x hx).2 w).2.2⟩⟩, hH'.2.2.2⟩
    obtain ⟨s₂, o, q1, r⟩ := next v D' hq p l e s m args below meth c U vm0 k0 (locs ++ L) (cells + rm.cells) (slots + rm.slots)
      ⟨X2, hS, Nat.le_trans hk0 hg, hx, hby, hml, hown, hZ, r1, r2, r3, Fr.app hN hL, hH2, by omega, by omega, hE, hNI⟩
    exact ⟨s₂, o, stp.trans q1, r⟩
abbrev Rooms (R rm : Room) (Wt cm k n : Nat) : Prop := rm.frames + 1 ≤ R.frames ∧ Wt + (cm + 11) + rm.locals ≤ R.locals ∧ k + rm.cells ≤ R.cells ∧ n + rm.slots ≤ R.slots
abbrev okCls (y : MethodName) : Prop := y.cls ≠ "java/lang/invoke/MethodHandle" ∧ y.cls ≠ "java/lang/invoke/VarHandle"
theorem W.callS {ps : List FieldType} {r : Option FieldType} (Wt : Nat) (rest : List Value) (hd : decode bytes pc = .ok (.invokestatic idx, 3)) (wl : (Cond.methodLink own idx y).before a0 Z = true) (ws : (Cond.static y).before a0 Z = true) (wz : (Cond.initialized y.cls).before a0 Z = true) (wc : (Cond.code y cb cm cr).before a0 Z = true)
    (hC : Con Z EL y cb cm cr rm as D Q') (hy : okCls y) (hps : parseMethodDescriptor y.desc = some ⟨ps, r⟩) (hlen : as.length = ps.length) (hst : as.reverse ++ rest = st) (hls : ls.size = ml) (hW : (rest.map fun v => v.category).sum = Wt) (hr : Rooms R rm Wt cm k n)
    (next : ∀ v D', Q' v D' → W Z EL R own nm bytes ml ret Q D' (k + rm.cells) (n + rm.slots) (pc + 3) ls (v.toList ++ rest)) : W Z EL R own nm bytes ml ret Q D k n pc ls st := by
  intro p l e s m args below meth c T vm0 k0 locs cells slots A
  obtain ⟨X, hS, hk0, hx, hby, hml, hown, hZ, r1, r2, r3, hN, hH, hc, hl, hE, hNI⟩ := id A
  subst hst
  exact W.afterCall A (callSS X hx hown (mvT hZ wl) (mvT hZ ws) (mvT hZ wz) (mvT hZ wc) hy (conBack (Wt := Wt) (len := 3) hC hZ wc wz hE hr.1 hr.2.1) (g := mkF m pc ls (as.reverse ++ rest)) rfl (by rw [hml]; exact hls) (lenOf hps hlen) rfl (by show 2 * 0 + _ ≤ _; omega) (hb hby hd) (fun _ _ => ⟨rfl, hH, by show cells + _ ≤ _; have := hr.2.2.1; omega, by show slots + _ ≤ _; have := hr.2.2.2; omega⟩)) next
theorem W.callI {ps : List FieldType} {r : Option FieldType} {a : Addr} (Wt : Nat) (rest : List Value) (hd : decode bytes pc = .ok (.invokespecial idx, 3)) (hy1 : y.name = "<init>") (wl : (Cond.methodLink own idx y).before a0 Z = true) (wi : (Cond.instanceMethod y).before a0 Z = true) (wz : (Cond.initialized y.cls).before a0 Z = true) (wc : (Cond.code y cb cm none).before a0 Z = true)
    (hC : Con Z EL y cb cm none rm (.ref a :: as) D Q') (hy : okCls y) (hps : parseMethodDescriptor y.desc = some ⟨ps, r⟩) (hlen : as.length = ps.length) (hst : as.reverse ++ .ref a :: rest = st) (hls : ls.size = ml) (hW : (rest.map fun v => v.category).sum = Wt) (hr : Rooms R rm Wt cm k n)
    (next : ∀ v D', Q' v D' → W Z EL R own nm bytes ml ret Q D' (k + rm.cells) (n + rm.slots) (pc + 3) ls (v.toList ++ rest)) : W Z EL R own nm bytes ml ret Q D k n pc ls st := by
  intro p l e s m args below meth c T vm0 k0 locs cells slots A
  obtain ⟨X, hS, hk0, hx, hby, hml, hown, hZ, r1, r2, r3, hN, hH, hc, hl, hE, hNI⟩ := id A
  subst hst
  exact W.afterCall A (X.specialBackS hx hy1 hown (mvT hZ wl) (mvT hZ wi) (mvT hZ wc) hy (conBack (Wt := Wt) (len := 3) hC hZ wc wz hE hr.1 hr.2.1) (g := mkF m pc ls (as.reverse ++ .ref a :: rest)) rfl (by rw [hml]; exact hls) (Steps.refl _) (lenOf hps hlen) rfl (by show 2 * 0 + _ ≤ _; omega) (hb hby hd) (fun _ _ => ⟨rfl, hH, by show cells + _ ≤ _; have := hr.2.2.1; omega, by show slots + _ ≤ _; have := hr.2.2.2; omega⟩)) next
theorem W.callV {z : MethodName} {ps : List FieldType} {r : Option FieldType} {a : Addr} {C C' : String} (Wt : Nat) (rest : List Value) (hd : decode bytes pc = .ok (.invokevirtual idx, 3)) (wl : (Cond.methodLink own idx y).before a0 Z = true) (wdl : (Cond.declares y).before a0 Z = true) (wsy : (Cond.selects C' y y).before a0 Z = true) (wse : (Cond.selects C y z).before a0 Z = true) (wi : (Cond.instanceMethod z).before a0 Z = true) (wz : (Cond.initialized z.cls).before a0 Z = true) (wc : (Cond.code z cb cm cr).before a0 Z = true)
    (hI : ∀ vm h, Hp Z EL D vm h → Exa Z h a C) (hC : Con Z EL z cb cm cr rm (.ref a :: as) D Q') (hy : okCls y) (hps : parseMethodDescriptor y.desc = some ⟨ps, r⟩) (hlen : as.length = ps.length) (hst : as.reverse ++ .ref a :: rest = st) (hls : ls.size = ml) (hW : (rest.map fun v => v.category).sum = Wt) (hr : Rooms R rm Wt cm k n)
    (next : ∀ v D', Q' v D' → W Z EL R own nm bytes ml ret Q D' (k + rm.cells) (n + rm.slots) (pc + 3) ls (v.toList ++ rest)) : W Z EL R own nm bytes ml ret Q D k n pc ls st := by
  intro p l e s m args below meth c T vm0 k0 locs cells slots A
  obtain ⟨X, hS, hk0, hx, hby, hml, hown, hZ, r1, r2, r3, hN, hH, hc, hl, hE, hNI⟩ := id A
  subst hst
  obtain ⟨cq, kq, qa, qb, qc⟩ := isOf (s := s.setVm vm0) hZ rfl (hI _ _ hH)
  exact W.afterCall A (X.virtualBackS hx hown (mvT hZ wl) (mvT hZ wdl) (notFace_of_selects (args := #[]) (mvT hZ wsy)) (mvT hZ wse) (mvT hZ wi) hy (conBack (Wt := Wt) (len := 3) hC hZ wc wz hE hr.1 hr.2.1) qa qc (g := mkF m pc ls (as.reverse ++ .ref a :: rest)) rfl (by rw [hml]; exact hls) (Steps.refl _) (lenOf hps hlen) rfl (by show 2 * 0 + _ ≤ _; omega) (hb hby hd) (fun _ _ => ⟨rfl, hH, by show cells + _ ≤ _; have := hr.2.2.1; omega, by show slots + _ ≤ _; have := hr.2.2.2; omega⟩)) next
end Calls
end Jvm.Wk
namespace Jvm.Wk
open Jvm Jvm.ClassFile Sem Op Lib Bundle Jvm.Free Jvm.Stand Jvm.LawKit Jvm.RoadKit
abbrev vi (x : Int32) : Value := .int x
abbrev vr (a : Addr) : Value := .ref a
abbrev uu : Slot := .unset
abbrev ar (ad : String) (ty : FieldType) (vs : List Value) : Desc := .inr (ad, ty, vs)
theorem m0 {α : Type} {x : α} {l : List α} : x ∈ x :: l := List.mem_cons_self ..
theorem mS {α : Type} {x y : α} {l : List α} (h : x ∈ l) : x ∈ y :: l := List.mem_cons_of_mem _ h
theorem m1 {α : Type} {x y1 : α} {l : List α} : x ∈ y1 :: x :: l := mS m0
theorem m2 {α : Type} {x y1 y2 : α} {l : List α} : x ∈ y1 :: y2 :: x :: l := mS m1
theorem m3 {α : Type} {x y1 y2 y3 : α} {l : List α} : x ∈ y1 :: y2 :: y3 :: x :: l := mS m2
theorem m4 {α : Type} {x y1 y2 y3 y4 : α} {l : List α} : x ∈ y1 :: y2 :: y3 :: y4 :: x :: l := mS m3
theorem m5 {α : Type} {x y1 y2 y3 y4 y5 : α} {l : List α} : x ∈ y1 :: y2 :: y3 :: y4 :: y5 :: x :: l := mS m4
theorem m6 {α : Type} {x y1 y2 y3 y4 y5 y6 : α} {l : List α} : x ∈ y1 :: y2 :: y3 :: y4 :: y5 :: y6 :: x :: l := mS m5
theorem i_lt {x y : Int32} (h : x < y) : x.toInt < y.toInt := Int32.lt_iff_toInt_lt.mp h
theorem i_nlt {x y : Int32} (h : ¬ x < y) : y.toInt ≤ x.toInt := by rw [Int32.lt_iff_toInt_lt] at h; omega
theorem i_eq {x y : Int32} (h : x = y) : x.toInt = y.toInt := by rw [h]
theorem i_ne {x y : Int32} (h : ¬ x = y) : x.toInt ≠ y.toInt := fun e => h (Int32.toInt_inj.mp e)
theorem eqI {x y : Int32} (h : x.toInt = y.toInt) : x = y := Int32.toInt_inj.mp h
section C
variable {x y : Int32}
theorem y_eq (h : x.toInt = y.toInt) : Cd .eq x y := eqI h
theorem n_eq (h : x.toInt ≠ y.toInt) : ¬ Cd .eq x y := fun e => h (i_eq e)
theorem y_ne (h : x.toInt ≠ y.toInt) : Cd .ne x y := fun e => h (i_eq e)
theorem n_ne (h : x.toInt = y.toInt) : ¬ Cd .ne x y := fun e => e (eqI h)
theorem y_lt (h : x.toInt < y.toInt) : Cd .lt x y := Int32.lt_iff_toInt_lt.mpr h
theorem n_lt (h : y.toInt ≤ x.toInt) : ¬ Cd .lt x y := fun e => by have := i_lt e; omega
theorem y_ge (h : y.toInt ≤ x.toInt) : Cd .ge x y := fun e => by have := i_lt e; omega
theorem n_ge (h : x.toInt < y.toInt) : ¬ Cd .ge x y := fun e => e (Int32.lt_iff_toInt_lt.mpr h)
theorem y_gt (h : y.toInt < x.toInt) : Cd .gt x y := Int32.lt_iff_toInt_lt.mpr h
theorem n_gt (h : x.toInt ≤ y.toInt) : ¬ Cd .gt x y := fun e => by have := i_lt e; omega
theorem y_le (h : x.toInt ≤ y.toInt) : Cd .le x y := fun e => by have := i_lt e; omega
theorem n_le (h : y.toInt < x.toInt) : ¬ Cd .le x y := fun e => e (Int32.lt_iff_toInt_lt.mpr h)
theorem t_eq (h : Cd .eq x y) : x.toInt = y.toInt := i_eq h
theorem f_eq (h : ¬ Cd .eq x y) : x.toInt ≠ y.toInt := i_ne h
theorem t_ne (h : Cd .ne x y) : x.toInt ≠ y.toInt := i_ne h
theorem f_ne (h : ¬ Cd .ne x y) : x.toInt = y.toInt := i_eq (Classical.not_not.mp h)
theorem t_lt (h : Cd .lt x y) : x.toInt < y.toInt := i_lt h
theorem f_lt (h : ¬ Cd .lt x y) : y.toInt ≤ x.toInt := i_nlt h
theorem t_le (h : Cd .le x y) : x.toInt ≤ y.toInt := i_nlt h
theorem f_le (h : ¬ Cd .le x y) : y.toInt < x.toInt := i_lt (Classical.not_not.mp h)
end C
theorem a_sub (x y : Int32) : ((x - y).toInt - (x.toInt - y.toInt)) % 4294967296 = 0 ∧ -2147483648 ≤ (x - y).toInt ∧ (x - y).toInt < 2147483648 := ⟨c_isub x y, rng32 _⟩
theorem a_and (x m : Int32) (k : Nat) (M : Int) (hk : k ≤ 31) (hm : m.toBitVec.toNat = 2 ^ k - 1) (hM : ((2 ^ k : Nat) : Int) = M) : (x &&& m).toInt = x.toInt % M := by rw [← hM]; exact c_mask x m k hk hm
theorem a_ushr (x q : Int32) (k : Nat) (M : Int) (hk : q.toBitVec.toNat % 32 = k) (h0 : 0 < k) (hM : ((2 ^ k : Nat) : Int) = M) : (XT.ushr x q).toInt = (x.toInt % 4294967296) / M := by rw [← hM]; exact c_iushr x q k hk h0
theorem a_rem (x y : Int32) (d : Int) (hy : y.toInt = d) (hd : 0 < d) : (0 ≤ x.toInt → (x % y).toInt = x.toInt % d) ∧ (x.toInt < 0 → (x % y).toInt = -((-x.toInt) % d)) := c_irem x y d hy
theorem a_i2c (x : Int32) : (x.toUInt32.toUInt16.toUInt32.toInt32.toInt - x.toInt) % 65536 = 0 ∧ 0 ≤ x.toUInt32.toUInt16.toUInt32.toInt32.toInt ∧ x.toUInt32.toUInt16.toUInt32.toInt32.toInt < 65536 := c_i2c x
theorem a_i2b (x : Int32) : (x.toInt8.toInt32.toInt - x.toInt) % 256 = 0 ∧ -128 ≤ x.toInt8.toInt32.toInt ∧ x.toInt8.toInt32.toInt < 128 := c_i2b x
theorem z_i2c {x : Int32} (h : 0 ≤ x.toInt ∧ x.toInt ≤ 65535) : x.toUInt32.toUInt16.toUInt32.toInt32 = x := eqI (by have := a_i2c x; omega)
theorem z_i2b {x : Int32} (h : -128 ≤ x.toInt ∧ x.toInt ≤ 127) : x.toInt8.toInt32 = x := eqI (by have := a_i2b x; omega)
theorem z_narC {x : Int32} (h : 0 ≤ x.toInt ∧ x.toInt ≤ 65535) : nar .char x = x := z_i2c h
theorem z_narB {x : Int32} (h : -128 ≤ x.toInt ∧ x.toInt ≤ 127) : nar .byte x = x := z_i2b h
theorem nw_char {x : Int32} (h : 0 ≤ x.toInt ∧ x.toInt ≤ 65535) : narrow .char (.int x) = .int x := by have e := z_i2c h; have := XT.narrow_c x; rw [e] at this; exact this
theorem nw_byte {x : Int32} (h : -128 ≤ x.toInt ∧ x.toInt ≤ 127) : narrow .byte (.int x) = .int x := by have e := z_i2b h; have := XT.narrow_b x; rw [e] at this; exact this
theorem nw_bool {x : Int32} (h : 0 ≤ x.toInt ∧ x.toInt ≤ 1) : narrow .boolean (.int x) = .int x := by
  have : x = 0 ∨ x = 1 := by
    rcases (by omega : x.toInt = 0 ∨ x.toInt = 1) with q | q
    · exact Or.inl (eqI q)
    · exact Or.inr (eqI q)
  rcases this with rfl | rfl <;> rfl
theorem ft_byte {x : Int32} (h : -128 ≤ x.toInt ∧ x.toInt ≤ 127) : fits .byte (.int x) = true := by have := fits_nar_byte x; rw [z_i2b h] at this; exact this
end Jvm.Wk
namespace Jvm.Wk
open Jvm Jvm.ClassFile Sem Op Lib Bundle Jvm.Free Jvm.Stand Jvm.LawKit Jvm.RoadKit
section Walk
variable {Z : State} {EL : Bool × List (String × Nat)} {R : Room} {own nm : String} {bytes : ByteArray} {ml : Nat} {ret : Option FieldType} {Q : Option Value → List Ent → Prop} {D D' : List Ent} {k n pc : Nat} {ls ls' : Array Slot} {st : List Value} {a0 : Array Value}
theorem W.dropAt (i : Nat) (hD : D.eraseIdx i = D') (next : W Z EL R own nm bytes ml ret Q D' k n pc ls st) : W Z EL R own nm bytes ml ret Q D k n pc ls st := W.heap (fun _ _ H => hD ▸ H.sub (List.eraseIdx_sublist ..)) next
theorem Hp.ne {i j : Nat} {x y : Ent} {vm : Vm} {h : Heap} (H : Hp Z EL D vm h) (hij : i ≠ j) (hi : D[i]? = some x) (hj : D[j]? = some y) (w : x.2.1 = true ∨ y.2.1 = true) : x.1 ≠ y.1 := by
  have P := H.2.2.2
  obtain ⟨i1, rfl⟩ := List.getElem?_eq_some_iff.mp hi
  obtain ⟨j1, rfl⟩ := List.getElem?_eq_some_iff.mp hj
  rw [List.pairwise_iff_getElem] at P
  rcases Nat.lt_or_gt_of_ne hij with q | q
  · exact P i j i1 j1 q w
  · exact (P j i j1 i1 q w.symm).symm
theorem wS_of (h1 : (Cond.initialized "java/lang/String").before a0 Z = true) (h2 : (Cond.instantiable "java/lang/String" 4).before a0 Z = true) (h3 : (Cond.arrayClass .byte).before a0 Z = true) (h4 : (Cond.laysFinal "java/lang/String" "java/lang/String" "value" "[B").before a0 Z = true) (h5 : (Cond.laysFinal "java/lang/String" "java/lang/String" "coder" "B").before a0 Z = true) (h6 : (Cond.soleField "java/lang/String" "value").before a0 Z = true) (h7 : (Cond.soleField "java/lang/String" "coder").before a0 Z = true) :
    ∀ a ∈ Bundle.stringAtoms, a.before a0 Z = true := fun a ha => by
  simp only [Bundle.stringAtoms, Bundle.sN, List.mem_cons, List.not_mem_nil, or_false] at ha
  rcases ha with rfl | rfl | rfl | rfl | rfl | rfl | rfl <;> assumption
theorem W.isubK {x y : Int32} (z : Int32) (hd : decode bytes pc = .ok (.isub, 1)) (hz : x - y = z) (next : W Z EL R own nm bytes ml ret Q D k n (pc + 1) ls (.int z :: st)) : W Z EL R own nm bytes ml ret Q D k n pc ls (.int y :: .int x :: st) := W.isub hd (hz ▸ next)
theorem W.iushrK {x y : Int32} (z : Int32) (hd : decode bytes pc = .ok (.iushr, 1)) (hz : XT.ushr x y = z) (next : W Z EL R own nm bytes ml ret Q D k n (pc + 1) ls (.int z :: st)) : W Z EL R own nm bytes ml ret Q D k n pc ls (.int y :: .int x :: st) := W.iushr hd (hz ▸ next)
theorem W.i2bK {x : Int32} (z : Int32) (hd : decode bytes pc = .ok (.i2b, 1)) (hz : x.toInt8.toInt32 = z) (next : W Z EL R own nm bytes ml ret Q D k n (pc + 1) ls (.int z :: st)) : W Z EL R own nm bytes ml ret Q D k n pc ls (.int x :: st) := W.i2b hd (hz ▸ next)
theorem W.i2cK {x : Int32} (z : Int32) (hd : decode bytes pc = .ok (.i2c, 1)) (hz : x.toUInt32.toUInt16.toUInt32.toInt32 = z) (next : W Z EL R own nm bytes ml ret Q D k n (pc + 1) ls (.int z :: st)) : W Z EL R own nm bytes ml ret Q D k n pc ls (.int x :: st) := W.i2c hd (hz ▸ next)
theorem W.iincK {i : Nat} {cst : Int} {x : Int32} (v r : Int32) (hd : decode bytes pc = .ok (.iinc i cst, 3)) (hv : Int32.ofInt cst = v) (hl : ls[i]? = some (.val (.int x))) (hr : x + v = r) (hl' : storeLocals ls i (.int r) = some ls') (next : W Z EL R own nm bytes ml ret Q D k n (pc + 3) ls' st) : W Z EL R own nm bytes ml ret Q D k n pc ls st :=
  W.iinc v hd hv hl (hr ▸ hl') next
end Walk
section L
variable {x y : Int64}
end L
def si (Z : State) (C n d : String) : Int32 := match (Term.static C n d).eval #[] Z none [] Z with | some (.int x) => x | _ => 0
theorem eval_static {Z : State} {a b : Array Value} {C n d : String} : (Term.static C n d).eval a Z none [] Z = (Term.static C n d).eval b Z none [] Z := rfl
theorem si_of {Z : State} {C n d : String} {x : Int32} {a : Array Value} (h : (Term.static C n d).eval a Z none [] Z = some (.int x)) : si Z C n d = x := by
  unfold si; rw [eval_static (b := a), h]
end Jvm.Wk
namespace Jvm.Wk
open Jvm Jvm.ClassFile Sem Op Lib Bundle Jvm.Free Jvm.Stand Jvm.LawKit Jvm.RoadKit
section Natives
variable {Z : State} {EL : Bool × List (String × Nat)} {R : Room} {own nm : String} {bytes : ByteArray} {ml : Nat} {ret : Option FieldType} {Q : Option Value → List Ent → Prop} {D D' : List Ent} {k n pc : Nat} {ls ls' : Array Slot} {st : List Value} {a0 : Array Value} {idx : Nat}
end Natives
end Jvm.Wk
namespace Jvm.Wk
open Jvm Jvm.ClassFile Sem Op Lib Bundle Jvm.Free Jvm.Stand Jvm.LawKit Jvm.RoadKit
section Start
variable {s : State} {args : Array Value} {C n d C' n' d' K : String}
theorem sf_int (hi : (Cond.initializedFor C n d).before args s = true) (h : (Cond.isInt (.static C n d)).before args s = true) : Sta s s.heap C n d (.int (si s C n d)) := by
  obtain ⟨x, e⟩ := is_v (Cond.before_iff.mp h)
  rw [si_of e]; exact Sta.start e (Or.inl hi)
theorem sf_nz (h : (Cond.isInt (.static C n d)).before args s = true) (hz : (Cond.not (.eq (.static C n d) (.int 0))).before args s = true) : (si s C n d).toInt ≠ 0 := by
  obtain ⟨x, e⟩ := is_v (Cond.before_iff.mp h)
  rw [si_of e]
  intro q
  have : x = 0 := eqI q
  subst this
  have h2 := not_v (Cond.before_iff.mp hz)
  rw [eq_i e (Term.int_eval 0) rfl] at h2
  cases h2
end Start
theorem CHv.nil {Z : State} {vm : Vm} {h : Heap} : CHv Z [] vm h := fun p hp => by cases hp
theorem Hp.start {Z : State} {EL : Bool × List (String × Nat)} (H : CHv Z EL.2 Z.vm Z.heap) : Hp Z EL [] Z.vm Z.heap := ⟨⟨Nat.le_refl _, fun _ _ q => q⟩, H, fun x hx => (by cases hx), List.Pairwise.nil⟩
end Jvm.Wk
namespace Jvm.Wk
open Jvm Jvm.ClassFile Sem Op Lib Bundle Jvm.Free Jvm.Stand Jvm.LawKit Jvm.RoadKit
theorem Con.mono {Z : State} {EL : Bool × List (String × Nat)} {y : MethodName} {bytes : ByteArray} {maxL : Nat} {ret : Option FieldType} {rm : Room} {as : List Value} {D : List Ent} {Q Q' : Option Value → List Ent → Prop} (h : Con Z EL y bytes maxL ret rm as D Q) (q : ∀ v D', Q v D' → Q' v D') : Con Z EL y bytes maxL ret rm as D Q' := by
  intro hE l ws
  refine MetFree.mono (h hE l ws) (fun _ _ p => p) (fun _ _ _ _ _ p => p) ?_
  intro a s o t _ r
  obtain ⟨v, L, h1, h2, ⟨D', h3, h4⟩, h5⟩ := r
  exact ⟨v, L, h1, h2, ⟨D', h3, q v D' h4⟩, h5⟩
end Jvm.Wk
namespace Jvm.Wk
open Jvm Jvm.ClassFile Sem Op Lib Bundle Jvm.Free Jvm.Stand Jvm.LawKit Jvm.RoadKit
end Jvm.Wk
namespace Jvm.Wk
open Jvm Jvm.ClassFile Sem Op Lib Bundle Jvm.Free Jvm.Stand Jvm.LawKit Jvm.RoadKit
section Old
variable {s : State} {args : Array Value} {t : Term} {O f d K : String} {EL : Bool × List (String × Nat)} {D : List Ent} {a : Addr} {de : Desc}
end Old
end Jvm.Wk
namespace Jvm.Wk
end Jvm.Wk
namespace Jvm.Wk
open Jvm Jvm.ClassFile Sem Op Lib Bundle Jvm.Free Jvm.Stand Jvm.LawKit Jvm.RoadKit
end Jvm.Wk
namespace Jvm.Wk
open Jvm Jvm.ClassFile Sem Op Lib Bundle Jvm.Free Jvm.Stand Jvm.LawKit Jvm.RoadKit
end Jvm.Wk
namespace Jvm.Wk
open Jvm Jvm.ClassFile Sem Op Lib Bundle Jvm.Free Jvm.Stand Jvm.LawKit Jvm.RoadKit
end Jvm.Wk

namespace Jvm.Pilot.@@N@@
open Jvm Jvm.ClassFile Sem Op Lib Jvm.Free Jvm.Stand Jvm.LawKit Jvm.RoadKit Bundle Jvm.Wk Jvm.Pilot.@@N@@.Jvm.D
abbrev EL : Bool × List (String × Nat) := (false, consts_1)
def csv (Z : State) : Int32 := si Z "java/lang/String" "COMPACT_STRINGS" "Z"
def SF (Z : State) : Prop := Sta Z Z.heap "java/lang/String" "COMPACT_STRINGS" "Z" (.int (csv Z)) ∧ (csv Z).toInt ≠ 0 ∧ True
set_option maxRecDepth 65536
abbrev HW (a0 : Array Value) (Z : State) : Prop := ∀ d ∈ tables_1, d.before a0 Z = true
theorem wq {Z a0} (hw : HW a0 Z) (i : Nat) {d : Jvm.Cond} (h : tables_1[i]? = some d) : d.before a0 Z = true := hw _ (List.mem_of_getElem? h)
abbrev rmm (a b c d : Nat) : Room := { frames := a, cells := b, slots := c, locals := d }
theorem q16 : (16 : Int32).toInt = 16 := by decide
theorem aushr_16 (x : Int32) : (XT.ushr x (16 : Int32)).toInt = (x.toInt % 4294967296) / 65536 := a_ushr x 16 16 65536 (by decide) (by decide) (by decide)
theorem q3 : (3 : Int32).toInt = 3 := by decide
theorem arem_3 (x : Int32) : (0 ≤ x.toInt → (x % (3 : Int32)).toInt = x.toInt % 3) ∧ (x.toInt < 0 → (x % (3 : Int32)).toInt = -((-x.toInt) % 3)) := a_rem x 3 3 (by decide) (by decide)
theorem q0 : (0 : Int32).toInt = 0 := by decide
theorem q1 : (1 : Int32).toInt = 1 := by decide
theorem q2 : (2 : Int32).toInt = 2 := by decide
theorem w0 {Z a0} (hw : HW a0 Z) : ((Jvm.Cond.arrayClass Jvm.ClassFile.FieldType.char) : Jvm.Cond).before a0 Z = true := hw _ (List.mem_of_getElem? (i := 0) rfl)
theorem ix0 : Idx (0 : Int32) 0 := by unfold Idx; decide
theorem w16 {Z a0} (hw : HW a0 Z) : ((Jvm.Cond.laysFinal "java/lang/String" "java/lang/String" "value" "[B") : Jvm.Cond).before a0 Z = true := hw _ (List.mem_of_getElem? (i := 16) rfl)
theorem w17 {Z a0} (hw : HW a0 Z) : ((Jvm.Cond.laysFinal "java/lang/String" "java/lang/String" "coder" "B") : Jvm.Cond).before a0 Z = true := hw _ (List.mem_of_getElem? (i := 17) rfl)
theorem laString {Z a0} (hw : HW a0 Z) : LaidAll Z a0 "java/lang/String" [("java/lang/String", "value", "[B", .null), ("java/lang/String", "coder", "B", (vi 0))] := ⟨⟨Or.inr (w16 hw), (.array .byte), by decide, rfl⟩, ⟨⟨Or.inr (w17 hw), .byte, by decide, rfl⟩, trivial⟩⟩
theorem w1 {Z a0} (hw : HW a0 Z) : ((Jvm.Cond.classLink "com/example/chainvouch/chainvouch/chain/TimeRangeStartsAfterPinLaw" (7 : Nat) "java/lang/String") : Jvm.Cond).before a0 Z = true := hw _ (List.mem_of_getElem? (i := 1) rfl)
theorem w2 {Z a0} (hw : HW a0 Z) : ((Jvm.Cond.instantiable "java/lang/String" (4 : Nat)) : Jvm.Cond).before a0 Z = true := hw _ (List.mem_of_getElem? (i := 2) rfl)
theorem w3 {Z a0} (hw : HW a0 Z) : ((Jvm.Cond.initialized "java/lang/String") : Jvm.Cond).before a0 Z = true := hw _ (List.mem_of_getElem? (i := 3) rfl)
theorem d1_0 : decode jdk_42_method_3_code 0 = .ok (.aload_n 0, 1) := by decide +kernel
theorem d1_1 : decode jdk_42_method_3_code 1 = .ok (.aload_n 1, 1) := by decide +kernel
theorem d1_2 : decode jdk_42_method_3_code 2 = .ok (.iconst 0, 1) := by decide +kernel
theorem d1_3 : decode jdk_42_method_3_code 3 = .ok (.aload_n 1, 1) := by decide +kernel
theorem d1_4 : decode jdk_42_method_3_code 4 = .ok (.arraylength, 1) := by decide +kernel
theorem d1_5 : decode jdk_42_method_3_code 5 = .ok (.aconst_null, 1) := by decide +kernel
theorem d1_6 : decode jdk_42_method_3_code 6 = .ok (.invokespecial 27, 3) := by decide +kernel
theorem d2_0 : decode jdk_42_method_149_code 0 = .ok (.aload_n 0, 1) := by decide +kernel
theorem d2_1 : decode jdk_42_method_149_code 1 = .ok (.invokespecial 1, 3) := by decide +kernel
theorem w11 {Z a0} (hw : HW a0 Z) : ((Jvm.Cond.methodLink "java/lang/String" (1 : Nat) ({ cls := "java/lang/Object", name := "<init>", desc := "()V" } : Jvm.MethodName)) : Jvm.Cond).before a0 Z = true := hw _ (List.mem_of_getElem? (i := 11) rfl)
theorem w12 {Z a0} (hw : HW a0 Z) : ((Jvm.Cond.instanceMethod ({ cls := "java/lang/Object", name := "<init>", desc := "()V" } : Jvm.MethodName)) : Jvm.Cond).before a0 Z = true := hw _ (List.mem_of_getElem? (i := 12) rfl)
theorem w13 {Z a0} (hw : HW a0 Z) : ((Jvm.Cond.code ({ cls := "java/lang/Object", name := "<init>", desc := "()V" } : Jvm.MethodName) object_method_1_code (1 : Nat) (Option.none : Option Jvm.ClassFile.FieldType)) : Jvm.Cond).before a0 Z = true := hw _ (List.mem_of_getElem? (i := 13) rfl)
theorem d2_4 : decode jdk_42_method_149_code 4 = .ok (.iload_n 3, 1) := by decide +kernel
theorem d2_5 : decode jdk_42_method_149_code 5 = .ok (.ifCond .ne 22, 3) := by decide +kernel
theorem d2_8 : decode jdk_42_method_149_code 8 = .ok (.aload_n 0, 1) := by decide +kernel
theorem d2_9 : decode jdk_42_method_149_code 9 = .ok (.ldc 7, 2) := by decide +kernel
theorem w14 {Z a0} (hw : HW a0 Z) : ((Jvm.Cond.stringLink "java/lang/String" (7 : Nat) "") : Jvm.Cond).before a0 Z = true := hw _ (List.mem_of_getElem? (i := 14) rfl)
theorem tx_ : (∀ c ∈ ("" : String).toList, c.toNat < 256) ∧ ("" : String).toList.map (fun c => Value.int (Jvm.Lit.byteI c.toNat.toUInt16)) = [] := by decide
theorem w15 {Z a0} (hw : HW a0 Z) : ((Jvm.Cond.arrayClass Jvm.ClassFile.FieldType.byte) : Jvm.Cond).before a0 Z = true := hw _ (List.mem_of_getElem? (i := 15) rfl)
theorem w18 {Z a0} (hw : HW a0 Z) : ((Jvm.Cond.soleField "java/lang/String" "value") : Jvm.Cond).before a0 Z = true := hw _ (List.mem_of_getElem? (i := 18) rfl)
theorem w19 {Z a0} (hw : HW a0 Z) : ((Jvm.Cond.soleField "java/lang/String" "coder") : Jvm.Cond).before a0 Z = true := hw _ (List.mem_of_getElem? (i := 19) rfl)
theorem wS {Z a0} (hw : HW a0 Z) : ∀ a ∈ Bundle.stringAtoms, a.before a0 Z = true := wS_of (w3 hw) (w2 hw) (w15 hw) (w16 hw) (w17 hw) (w18 hw) (w19 hw)
theorem d2_11 : decode jdk_42_method_149_code 11 = .ok (.getfield 9, 3) := by decide +kernel
theorem w20 {Z a0} (hw : HW a0 Z) : ((Jvm.Cond.fieldLink "java/lang/String" (9 : Nat) "java/lang/String" "value" "[B") : Jvm.Cond).before a0 Z = true := hw _ (List.mem_of_getElem? (i := 20) rfl)
theorem d2_14 : decode jdk_42_method_149_code 14 = .ok (.putfield 9, 3) := by decide +kernel
theorem pf_B : parseFieldDescriptor "[B" = some (.array .byte) := by decide
abbrev oString (f0 f1 : Value) : Desc := .inl ("java/lang/String", [("java/lang/String", "value", "[B", f0), ("java/lang/String", "coder", "B", f1)])
theorem d2_17 : decode jdk_42_method_149_code 17 = .ok (.aload_n 0, 1) := by decide +kernel
theorem d2_18 : decode jdk_42_method_149_code 18 = .ok (.ldc 7, 2) := by decide +kernel
theorem d2_20 : decode jdk_42_method_149_code 20 = .ok (.getfield 15, 3) := by decide +kernel
theorem w21 {Z a0} (hw : HW a0 Z) : ((Jvm.Cond.fieldLink "java/lang/String" (15 : Nat) "java/lang/String" "coder" "B") : Jvm.Cond).before a0 Z = true := hw _ (List.mem_of_getElem? (i := 21) rfl)
theorem d2_23 : decode jdk_42_method_149_code 23 = .ok (.putfield 15, 3) := by decide +kernel
theorem pfB : parseFieldDescriptor "B" = some .byte := by decide
theorem d2_26 : decode jdk_42_method_149_code 26 = .ok (.return_, 1) := by decide +kernel
theorem c2_init {Z a0} (hw : HW a0 Z) (hs : SF Z) {p1 p2 : Addr} {F : List Ent} : Con Z EL (⟨"java/lang/String", "<init>", "([CIILjava/lang/Void;)V"⟩ : MethodName) jdk_42_method_149_code 6 (Option.none : Option Jvm.ClassFile.FieldType) (rmm 1 4 8 12) [(vr p1), (vr p2), (vi 0), (vi 0), .null] ((p1, true, oString .null (vi 0)) :: F) (fun v D' => (∃ a2 : Addr, v = none ∧ (a2, false, ar "" .byte []) :: (p1, true, oString (vr a2) (vi 0)) :: F = D')) := by
  refine Con.of (ls := #[rv p1, rv p2, iv 0, iv 0, .val .null, uu]) (by decide +kernel) rfl ?_
  show W Z EL _ "java/lang/String" "<init>" _ _ _ _ _ _ _ _ _ _
  refine W.aloadN (pc := 0) d2_0 rfl rfl ?_
  refine W.initO (pc := 1) 0 d2_1 (w11 hw) (w12 hw) (w13 hw) rfl rfl (by decide) ?_
  refine W.iloadN (pc := 4) d2_4 rfl ?_
  refine W.ifN (pc := 5) d2_5 (n_ne (by decide)) ?_
  refine W.aloadN (pc := 8) d2_8 rfl rfl ?_
  refine W.ldcT (pc := 9) 0 (vs := []) rfl d2_9 (w14 hw) (wS hw) m1 tx_ (by decide) (by decide) (by decide) (fun a1 a2 => ?_)
  show W _ _ _ _ _ _ _ _ _ _ _ _ 11 _ [(vr a1), (vr p1)]
  refine W.getf (pc := 11) d2_11 (w20 hw) Via.refl m0 m0 ?_
  refine W.putf (pc := 14) (D' := (a1, false, oString (vr a2) (vi 0)) :: (a2, false, ar "" .byte []) :: (p1, true, oString (vr a2) (vi 0)) :: F) 2 0 d2_14 (w20 hw) Via.refl rfl rfl (Or.inr ⟨(w16 hw), rfl, rfl⟩) (w2 hw) pf_B rfl rfl rfl ?_
  refine W.aloadN (pc := 17) d2_17 rfl rfl ?_
  refine W.ldcT (pc := 18) 0 (vs := []) rfl d2_18 (w14 hw) (wS hw) m1 tx_ (by decide) (by decide) (by decide) (fun a3 a4 => ?_)
  show W _ _ _ _ _ _ _ _ _ _ _ _ 20 _ [(vr a3), (vr p1)]
  refine W.getf (pc := 20) d2_20 (w21 hw) Via.refl m0 m1 ?_
  refine W.putf (pc := 23) (D' := (a3, false, oString (vr a4) (vi 0)) :: (a4, false, ar "" .byte []) :: (a1, false, oString (vr a2) (vi 0)) :: (a2, false, ar "" .byte []) :: (p1, true, oString (vr a2) (vi 0)) :: F) 4 1 d2_23 (w21 hw) Via.refl rfl rfl (Or.inr ⟨(w17 hw), rfl, rfl⟩) (w2 hw) pfB (nw_byte (by decide)) (ft_byte (by decide)) rfl ?_
  refine W.dropAt 0 (D' := (a4, false, ar "" .byte []) :: (a1, false, oString (vr a2) (vi 0)) :: (a2, false, ar "" .byte []) :: (p1, true, oString (vr a2) (vi 0)) :: F) rfl ?_
  refine W.dropAt 0 (D' := (a1, false, oString (vr a2) (vi 0)) :: (a2, false, ar "" .byte []) :: (p1, true, oString (vr a2) (vi 0)) :: F) rfl ?_
  refine W.dropAt 0 (D' := (a2, false, ar "" .byte []) :: (p1, true, oString (vr a2) (vi 0)) :: F) rfl ?_
  exact W.return_ (pc := 26) d2_26 rfl (by decide) ⟨a2, rfl, rfl⟩
theorem pd__CIILjava_lang_Void__V : parseMethodDescriptor "([CIILjava/lang/Void;)V" = some ⟨[(.array .char), .int, .int, (.object "java/lang/Void")], none⟩ := by decide +kernel
theorem w7 {Z a0} (hw : HW a0 Z) : ((Jvm.Cond.methodLink "java/lang/String" (27 : Nat) ({ cls := "java/lang/String", name := "<init>", desc := "([CIILjava/lang/Void;)V" } : Jvm.MethodName)) : Jvm.Cond).before a0 Z = true := hw _ (List.mem_of_getElem? (i := 7) rfl)
theorem w8 {Z a0} (hw : HW a0 Z) : ((Jvm.Cond.instanceMethod ({ cls := "java/lang/String", name := "<init>", desc := "([CIILjava/lang/Void;)V" } : Jvm.MethodName)) : Jvm.Cond).before a0 Z = true := hw _ (List.mem_of_getElem? (i := 8) rfl)
theorem w10 {Z a0} (hw : HW a0 Z) : ((Jvm.Cond.code ({ cls := "java/lang/String", name := "<init>", desc := "([CIILjava/lang/Void;)V" } : Jvm.MethodName) jdk_42_method_149_code (6 : Nat) (Option.none : Option Jvm.ClassFile.FieldType)) : Jvm.Cond).before a0 Z = true := hw _ (List.mem_of_getElem? (i := 10) rfl)
theorem d1_9 : decode jdk_42_method_3_code 9 = .ok (.return_, 1) := by decide +kernel
theorem c1_init {Z a0} (hw : HW a0 Z) (hs : SF Z) {p1 p2 : Addr} {w_p2 : Bool} {ad_p2 : String} {F : List Ent} (mp2 : (p2, w_p2, ar ad_p2 .char []) ∈ F) : Con Z EL (⟨"java/lang/String", "<init>", "([C)V"⟩ : MethodName) jdk_42_method_3_code 2 (Option.none : Option Jvm.ClassFile.FieldType) (rmm 2 4 8 29) [(vr p1), (vr p2)] ((p1, true, oString .null (vi 0)) :: F) (fun v D' => (∃ a1 : Addr, v = none ∧ (a1, false, ar "" .byte []) :: (p1, true, oString (vr a1) (vi 0)) :: F = D')) := by
  refine Con.of (ls := #[rv p1, rv p2]) (by decide +kernel) rfl ?_
  show W Z EL _ "java/lang/String" "<init>" _ _ _ _ _ _ _ _ _ _
  refine W.aloadN (pc := 0) d1_0 rfl rfl ?_
  refine W.aloadN (pc := 1) d1_1 rfl rfl ?_
  refine W.iconst (pc := 2) (0) d1_2 (by decide) ?_
  refine W.aloadN (pc := 3) d1_3 rfl rfl ?_
  refine W.alen (pc := 4) (0) d1_4 (mS mp2) rfl ?_
  refine W.aconstNull (pc := 5) d1_5 ?_
  refine W.callI (pc := 6) (as := [(vr p2), (vi 0), (vi 0), .null]) 0 [] d1_6 rfl (w7 hw) (w8 hw) (w3 hw) (w10 hw) (c2_init hw hs (p1 := p1) (p2 := p2)) (by decide) pd__CIILjava_lang_Void__V rfl rfl rfl rfl (by decide) (fun v D' h => ?_)
  obtain ⟨a1, rfl, rfl⟩ := h
  show W _ _ _ _ _ _ _ _ _ _ _ _ 9 _ []
  exact W.return_ (pc := 9) d1_9 rfl (by decide) ⟨a1, rfl, rfl⟩
theorem pd__C_V : parseMethodDescriptor "([C)V" = some ⟨[(.array .char)], none⟩ := by decide +kernel
theorem w4 {Z a0} (hw : HW a0 Z) : ((Jvm.Cond.methodLink "com/example/chainvouch/chainvouch/chain/TimeRangeStartsAfterPinLaw" (9 : Nat) ({ cls := "java/lang/String", name := "<init>", desc := "([C)V" } : Jvm.MethodName)) : Jvm.Cond).before a0 Z = true := hw _ (List.mem_of_getElem? (i := 4) rfl)
theorem w5 {Z a0} (hw : HW a0 Z) : ((Jvm.Cond.instanceMethod ({ cls := "java/lang/String", name := "<init>", desc := "([C)V" } : Jvm.MethodName)) : Jvm.Cond).before a0 Z = true := hw _ (List.mem_of_getElem? (i := 5) rfl)
theorem w6 {Z a0} (hw : HW a0 Z) : ((Jvm.Cond.code ({ cls := "java/lang/String", name := "<init>", desc := "([C)V" } : Jvm.MethodName) jdk_42_method_3_code (2 : Nat) (Option.none : Option Jvm.ClassFile.FieldType)) : Jvm.Cond).before a0 Z = true := hw _ (List.mem_of_getElem? (i := 6) rfl)
theorem w57 {Z a0} (hw : HW a0 Z) : ((Jvm.Cond.laysFinal "com/example/chainvouch/chainvouch/chain/TimeRange" "com/example/chainvouch/chainvouch/chain/TimeRange" "start" "Ljava/lang/String;") : Jvm.Cond).before a0 Z = true := hw _ (List.mem_of_getElem? (i := 57) rfl)
theorem w59 {Z a0} (hw : HW a0 Z) : ((Jvm.Cond.laysFinal "com/example/chainvouch/chainvouch/chain/TimeRange" "com/example/chainvouch/chainvouch/chain/TimeRange" "end" "Ljava/lang/String;") : Jvm.Cond).before a0 Z = true := hw _ (List.mem_of_getElem? (i := 59) rfl)
theorem laTimeRange {Z a0} (hw : HW a0 Z) : LaidAll Z a0 "com/example/chainvouch/chainvouch/chain/TimeRange" [("com/example/chainvouch/chainvouch/chain/TimeRange", "start", "Ljava/lang/String;", .null), ("com/example/chainvouch/chainvouch/chain/TimeRange", "end", "Ljava/lang/String;", .null)] := ⟨⟨Or.inr (w57 hw), (.object "java/lang/String"), by decide, rfl⟩, ⟨⟨Or.inr (w59 hw), (.object "java/lang/String"), by decide, rfl⟩, trivial⟩⟩
theorem w23 {Z a0} (hw : HW a0 Z) : ((Jvm.Cond.classLink "com/example/chainvouch/chainvouch/chain/TimeRangeStartsAfterPinLaw" (14 : Nat) "com/example/chainvouch/chainvouch/chain/TimeRange") : Jvm.Cond).before a0 Z = true := hw _ (List.mem_of_getElem? (i := 23) rfl)
theorem w24 {Z a0} (hw : HW a0 Z) : ((Jvm.Cond.instantiable "com/example/chainvouch/chainvouch/chain/TimeRange" (2 : Nat)) : Jvm.Cond).before a0 Z = true := hw _ (List.mem_of_getElem? (i := 24) rfl)
theorem w25 {Z a0} (hw : HW a0 Z) : ((Jvm.Cond.initialized "com/example/chainvouch/chainvouch/chain/TimeRange") : Jvm.Cond).before a0 Z = true := hw _ (List.mem_of_getElem? (i := 25) rfl)
theorem d4_0 : decode prog_15_method_1_code 0 = .ok (.aload_n 0, 1) := by decide +kernel
theorem d4_1 : decode prog_15_method_1_code 1 = .ok (.invokespecial 1, 3) := by decide +kernel
theorem w29 {Z a0} (hw : HW a0 Z) : ((Jvm.Cond.methodLink "com/example/chainvouch/chainvouch/chain/TimeRange" (1 : Nat) ({ cls := "java/lang/Object", name := "<init>", desc := "()V" } : Jvm.MethodName)) : Jvm.Cond).before a0 Z = true := hw _ (List.mem_of_getElem? (i := 29) rfl)
theorem d4_4 : decode prog_15_method_1_code 4 = .ok (.aload_n 1, 1) := by decide +kernel
theorem d4_5 : decode prog_15_method_1_code 5 = .ok (.ifnull 30, 3) := by decide +kernel
theorem d4_35 : decode prog_15_method_1_code 35 = .ok (.aload_n 0, 1) := by decide +kernel
theorem d4_36 : decode prog_15_method_1_code 36 = .ok (.aload_n 1, 1) := by decide +kernel
theorem d4_37 : decode prog_15_method_1_code 37 = .ok (.putfield 22, 3) := by decide +kernel
theorem pfLjava_lang_String_ : parseFieldDescriptor "Ljava/lang/String;" = some (.object "java/lang/String") := by decide
abbrev oTimeRange (f0 f1 : Value) : Desc := .inl ("com/example/chainvouch/chainvouch/chain/TimeRange", [("com/example/chainvouch/chainvouch/chain/TimeRange", "start", "Ljava/lang/String;", f0), ("com/example/chainvouch/chainvouch/chain/TimeRange", "end", "Ljava/lang/String;", f1)])
theorem w56 {Z a0} (hw : HW a0 Z) : ((Jvm.Cond.fieldLink "com/example/chainvouch/chainvouch/chain/TimeRange" (22 : Nat) "com/example/chainvouch/chainvouch/chain/TimeRange" "start" "Ljava/lang/String;") : Jvm.Cond).before a0 Z = true := hw _ (List.mem_of_getElem? (i := 56) rfl)
theorem d4_40 : decode prog_15_method_1_code 40 = .ok (.aload_n 0, 1) := by decide +kernel
theorem d4_41 : decode prog_15_method_1_code 41 = .ok (.aload_n 2, 1) := by decide +kernel
theorem d4_42 : decode prog_15_method_1_code 42 = .ok (.putfield 28, 3) := by decide +kernel
theorem w58 {Z a0} (hw : HW a0 Z) : ((Jvm.Cond.fieldLink "com/example/chainvouch/chainvouch/chain/TimeRange" (28 : Nat) "com/example/chainvouch/chainvouch/chain/TimeRange" "end" "Ljava/lang/String;") : Jvm.Cond).before a0 Z = true := hw _ (List.mem_of_getElem? (i := 58) rfl)
theorem d4_45 : decode prog_15_method_1_code 45 = .ok (.return_, 1) := by decide +kernel
theorem c3_init {Z a0} (hw : HW a0 Z) (hs : SF Z) {p1 p2 p3 : Addr} {F : List Ent} : Con Z EL (⟨"com/example/chainvouch/chainvouch/chain/TimeRange", "<init>", "(Ljava/lang/String;Ljava/lang/String;)V"⟩ : MethodName) prog_15_method_1_code 3 (Option.none : Option Jvm.ClassFile.FieldType) (rmm 1 0 0 12) [(vr p1), .null, (vr p2)] ((p1, true, oTimeRange .null .null) :: F) (fun v D' => (v = none ∧ (p1, true, oTimeRange .null (vr p2)) :: F = D')) := by
  refine Con.of (ls := #[rv p1, .val .null, rv p2]) (by decide +kernel) rfl ?_
  show W Z EL _ "com/example/chainvouch/chainvouch/chain/TimeRange" "<init>" _ _ _ _ _ _ _ _ _ _
  refine W.aloadN (pc := 0) d4_0 rfl rfl ?_
  refine W.initO (pc := 1) 0 d4_1 (w29 hw) (w12 hw) (w13 hw) rfl rfl (by decide) ?_
  refine W.aloadN (pc := 4) d4_4 rfl rfl ?_
  refine W.ifnullY (pc := 5) 35 d4_5 (by decide) ?_
  refine W.aloadN (pc := 35) d4_35 rfl rfl ?_
  refine W.aloadN (pc := 36) d4_36 rfl rfl ?_
  refine W.putf (pc := 37) (D' := (p1, true, oTimeRange .null .null) :: F) 0 0 d4_37 (w56 hw) Via.refl rfl rfl (Or.inr ⟨(w57 hw), rfl, rfl⟩) (w24 hw) pfLjava_lang_String_ rfl rfl rfl ?_
  refine W.aloadN (pc := 40) d4_40 rfl rfl ?_
  refine W.aloadN (pc := 41) d4_41 rfl rfl ?_
  refine W.putf (pc := 42) (D' := (p1, true, oTimeRange .null (vr p2)) :: F) 0 1 d4_42 (w58 hw) Via.refl rfl rfl (Or.inr ⟨(w59 hw), rfl, rfl⟩) (w24 hw) pfLjava_lang_String_ rfl rfl rfl ?_
  exact W.return_ (pc := 45) d4_45 rfl (by decide) ⟨rfl, rfl⟩
theorem pd_Ljava_lang_String_Ljava_lang_String__V : parseMethodDescriptor "(Ljava/lang/String;Ljava/lang/String;)V" = some ⟨[(.object "java/lang/String"), (.object "java/lang/String")], none⟩ := by decide +kernel
theorem w26 {Z a0} (hw : HW a0 Z) : ((Jvm.Cond.methodLink "com/example/chainvouch/chainvouch/chain/TimeRangeStartsAfterPinLaw" (16 : Nat) ({ cls := "com/example/chainvouch/chainvouch/chain/TimeRange", name := "<init>", desc := "(Ljava/lang/String;Ljava/lang/String;)V" } : Jvm.MethodName)) : Jvm.Cond).before a0 Z = true := hw _ (List.mem_of_getElem? (i := 26) rfl)
theorem w27 {Z a0} (hw : HW a0 Z) : ((Jvm.Cond.instanceMethod ({ cls := "com/example/chainvouch/chainvouch/chain/TimeRange", name := "<init>", desc := "(Ljava/lang/String;Ljava/lang/String;)V" } : Jvm.MethodName)) : Jvm.Cond).before a0 Z = true := hw _ (List.mem_of_getElem? (i := 27) rfl)
theorem w28 {Z a0} (hw : HW a0 Z) : ((Jvm.Cond.code ({ cls := "com/example/chainvouch/chainvouch/chain/TimeRange", name := "<init>", desc := "(Ljava/lang/String;Ljava/lang/String;)V" } : Jvm.MethodName) prog_15_method_1_code (3 : Nat) (Option.none : Option Jvm.ClassFile.FieldType)) : Jvm.Cond).before a0 Z = true := hw _ (List.mem_of_getElem? (i := 28) rfl)
theorem d4_8 : decode prog_15_method_1_code 8 = .ok (.aload_n 2, 1) := by decide +kernel
theorem d4_9 : decode prog_15_method_1_code 9 = .ok (.ifnull 26, 3) := by decide +kernel
theorem d4_12 : decode prog_15_method_1_code 12 = .ok (.aload_n 1, 1) := by decide +kernel
theorem d4_13 : decode prog_15_method_1_code 13 = .ok (.aload_n 2, 1) := by decide +kernel
theorem d4_14 : decode prog_15_method_1_code 14 = .ok (.invokevirtual 7, 3) := by decide +kernel
theorem d5_0 : decode jdk_42_method_71_code 0 = .ok (.aload_n 0, 1) := by decide +kernel
theorem d5_1 : decode jdk_42_method_71_code 1 = .ok (.getfield 9, 3) := by decide +kernel
theorem d5_4 : decode jdk_42_method_71_code 4 = .ok (.astore_n 2, 1) := by decide +kernel
theorem d5_5 : decode jdk_42_method_71_code 5 = .ok (.aload_n 1, 1) := by decide +kernel
theorem d5_6 : decode jdk_42_method_71_code 6 = .ok (.getfield 9, 3) := by decide +kernel
theorem d5_9 : decode jdk_42_method_71_code 9 = .ok (.astore_n 3, 1) := by decide +kernel
theorem d5_10 : decode jdk_42_method_71_code 10 = .ok (.aload_n 0, 1) := by decide +kernel
theorem d5_11 : decode jdk_42_method_71_code 11 = .ok (.invokevirtual 335, 3) := by decide +kernel
theorem d6_0 : decode jdk_42_method_152_code 0 = .ok (.getstatic 38, 3) := by decide +kernel
theorem w40 {Z a0} (hw : HW a0 Z) : ((Jvm.Cond.fieldLink "java/lang/String" (38 : Nat) "java/lang/String" "COMPACT_STRINGS" "Z") : Jvm.Cond).before a0 Z = true := hw _ (List.mem_of_getElem? (i := 40) rfl)
theorem d6_3 : decode jdk_42_method_152_code 3 = .ok (.ifCond .eq 10, 3) := by decide +kernel
theorem d6_6 : decode jdk_42_method_152_code 6 = .ok (.aload_n 0, 1) := by decide +kernel
theorem d6_7 : decode jdk_42_method_152_code 7 = .ok (.getfield 15, 3) := by decide +kernel
theorem d6_10 : decode jdk_42_method_152_code 10 = .ok (.goto 4, 3) := by decide +kernel
theorem d6_14 : decode jdk_42_method_152_code 14 = .ok (.ireturn, 1) := by decide +kernel
theorem c6_coder {Z a0} (hw : HW a0 Z) (hs : SF Z) {p1 p2 : Addr} {w_p1 : Bool} {F : List Ent} (mp1 : (p1, w_p1, oString (vr p2) (vi 0)) ∈ F) : Con Z EL (⟨"java/lang/String", "coder", "()B"⟩ : MethodName) jdk_42_method_152_code 1 (Option.some Jvm.ClassFile.FieldType.byte) (rmm 0 0 0 0) [(vr p1)] (F) (fun v D' => (v = some (vi 0) ∧ F = D')) := by
  refine Con.of (ls := #[rv p1]) (by decide +kernel) rfl ?_
  show W Z EL _ "java/lang/String" "coder" _ _ _ _ _ _ _ _ _ _
  refine W.gets (pc := 0) d6_0 (w40 hw) Via.refl hs.1 ?_
  refine W.ifN (pc := 3) d6_3 (n_eq (by have := hs.2.1; have := q0; omega)) ?_
  refine W.aloadN (pc := 6) d6_6 rfl rfl ?_
  refine W.getf (pc := 7) d6_7 (w21 hw) Via.refl mp1 m1 ?_
  refine W.goto (pc := 10) 14 d6_10 (by decide) ?_
  exact W.ireturn (pc := 14) d6_14 rfl (Or.inr (Or.inr (Or.inl rfl))) (nw_byte (by decide)) (by decide) ⟨rfl, rfl⟩
theorem pd__B : parseMethodDescriptor "()B" = some ⟨[], some .byte⟩ := by decide +kernel
theorem w35 {Z a0} (hw : HW a0 Z) : ((Jvm.Cond.methodLink "java/lang/String" (335 : Nat) ({ cls := "java/lang/String", name := "coder", desc := "()B" } : Jvm.MethodName)) : Jvm.Cond).before a0 Z = true := hw _ (List.mem_of_getElem? (i := 35) rfl)
theorem w36 {Z a0} (hw : HW a0 Z) : ((Jvm.Cond.declares ({ cls := "java/lang/String", name := "coder", desc := "()B" } : Jvm.MethodName)) : Jvm.Cond).before a0 Z = true := hw _ (List.mem_of_getElem? (i := 36) rfl)
theorem w38 {Z a0} (hw : HW a0 Z) : ((Jvm.Cond.selects "java/lang/String" ({ cls := "java/lang/String", name := "coder", desc := "()B" } : Jvm.MethodName) ({ cls := "java/lang/String", name := "coder", desc := "()B" } : Jvm.MethodName)) : Jvm.Cond).before a0 Z = true := hw _ (List.mem_of_getElem? (i := 38) rfl)
theorem w37 {Z a0} (hw : HW a0 Z) : ((Jvm.Cond.instanceMethod ({ cls := "java/lang/String", name := "coder", desc := "()B" } : Jvm.MethodName)) : Jvm.Cond).before a0 Z = true := hw _ (List.mem_of_getElem? (i := 37) rfl)
theorem w39 {Z a0} (hw : HW a0 Z) : ((Jvm.Cond.code ({ cls := "java/lang/String", name := "coder", desc := "()B" } : Jvm.MethodName) jdk_42_method_152_code (1 : Nat) (Option.some Jvm.ClassFile.FieldType.byte)) : Jvm.Cond).before a0 Z = true := hw _ (List.mem_of_getElem? (i := 39) rfl)
theorem d5_14 : decode jdk_42_method_71_code 14 = .ok (.istore 4, 2) := by decide +kernel
theorem d5_16 : decode jdk_42_method_71_code 16 = .ok (.iload 4, 2) := by decide +kernel
theorem d5_18 : decode jdk_42_method_71_code 18 = .ok (.aload_n 1, 1) := by decide +kernel
theorem d5_19 : decode jdk_42_method_71_code 19 = .ok (.invokevirtual 335, 3) := by decide +kernel
theorem d5_22 : decode jdk_42_method_71_code 22 = .ok (.if_icmp .ne 22, 3) := by decide +kernel
theorem d5_25 : decode jdk_42_method_71_code 25 = .ok (.iload 4, 2) := by decide +kernel
theorem d5_27 : decode jdk_42_method_71_code 27 = .ok (.ifCond .ne 11, 3) := by decide +kernel
theorem d5_30 : decode jdk_42_method_71_code 30 = .ok (.aload_n 2, 1) := by decide +kernel
theorem d5_31 : decode jdk_42_method_71_code 31 = .ok (.aload_n 3, 1) := by decide +kernel
theorem d5_32 : decode jdk_42_method_71_code 32 = .ok (.invokestatic 586, 3) := by decide +kernel
theorem d7_0 : decode jdk_43_method_14_code 0 = .ok (.aload_n 0, 1) := by decide +kernel
theorem d7_1 : decode jdk_43_method_14_code 1 = .ok (.arraylength, 1) := by decide +kernel
theorem d7_2 : decode jdk_43_method_14_code 2 = .ok (.istore_n 2, 1) := by decide +kernel
theorem d7_3 : decode jdk_43_method_14_code 3 = .ok (.aload_n 1, 1) := by decide +kernel
theorem d7_4 : decode jdk_43_method_14_code 4 = .ok (.arraylength, 1) := by decide +kernel
theorem d7_5 : decode jdk_43_method_14_code 5 = .ok (.istore_n 3, 1) := by decide +kernel
theorem d7_6 : decode jdk_43_method_14_code 6 = .ok (.aload_n 0, 1) := by decide +kernel
theorem d7_7 : decode jdk_43_method_14_code 7 = .ok (.aload_n 1, 1) := by decide +kernel
theorem d7_8 : decode jdk_43_method_14_code 8 = .ok (.iload_n 2, 1) := by decide +kernel
theorem d7_9 : decode jdk_43_method_14_code 9 = .ok (.iload_n 3, 1) := by decide +kernel
theorem d7_10 : decode jdk_43_method_14_code 10 = .ok (.invokestatic 34, 3) := by decide +kernel
theorem d8_0 : decode jdk_43_method_15_code 0 = .ok (.iload_n 2, 1) := by decide +kernel
theorem d8_1 : decode jdk_43_method_15_code 1 = .ok (.iload_n 3, 1) := by decide +kernel
theorem d8_2 : decode jdk_43_method_15_code 2 = .ok (.invokestatic 38, 3) := by decide +kernel
theorem d9_0 : decode jdk_29_method_69_code 0 = .ok (.iload_n 0, 1) := by decide +kernel
theorem d9_1 : decode jdk_29_method_69_code 1 = .ok (.iload_n 1, 1) := by decide +kernel
theorem d9_2 : decode jdk_29_method_69_code 2 = .ok (.if_icmp .gt 7, 3) := by decide +kernel
theorem d9_5 : decode jdk_29_method_69_code 5 = .ok (.iload_n 0, 1) := by decide +kernel
theorem d9_6 : decode jdk_29_method_69_code 6 = .ok (.goto 4, 3) := by decide +kernel
theorem d9_10 : decode jdk_29_method_69_code 10 = .ok (.ireturn, 1) := by decide +kernel
theorem c9_min {Z a0} (hw : HW a0 Z) (hs : SF Z) {F : List Ent} : Con Z EL (⟨"java/lang/Math", "min", "(II)I"⟩ : MethodName) jdk_29_method_69_code 2 (Option.some Jvm.ClassFile.FieldType.int) (rmm 0 0 0 0) [(vi 0), (vi 0)] (F) (fun v D' => (v = some (vi 0) ∧ F = D')) := by
  refine Con.of (ls := #[iv 0, iv 0]) (by decide +kernel) rfl ?_
  show W Z EL _ "java/lang/Math" "min" _ _ _ _ _ _ _ _ _ _
  refine W.iloadN (pc := 0) d9_0 rfl ?_
  refine W.iloadN (pc := 1) d9_1 rfl ?_
  refine W.icmpN (pc := 2) d9_2 (n_gt (by decide)) ?_
  refine W.iloadN (pc := 5) d9_5 rfl ?_
  refine W.goto (pc := 6) 10 d9_6 (by decide) ?_
  exact W.ireturn (pc := 10) d9_10 rfl (Or.inl rfl) rfl (by decide) ⟨rfl, rfl⟩
theorem pd_II_I : parseMethodDescriptor "(II)I" = some ⟨[.int, .int], some .int⟩ := by decide +kernel
theorem w48 {Z a0} (hw : HW a0 Z) : ((Jvm.Cond.methodLink "java/lang/StringLatin1" (38 : Nat) ({ cls := "java/lang/Math", name := "min", desc := "(II)I" } : Jvm.MethodName)) : Jvm.Cond).before a0 Z = true := hw _ (List.mem_of_getElem? (i := 48) rfl)
theorem w49 {Z a0} (hw : HW a0 Z) : ((Jvm.Cond.static ({ cls := "java/lang/Math", name := "min", desc := "(II)I" } : Jvm.MethodName)) : Jvm.Cond).before a0 Z = true := hw _ (List.mem_of_getElem? (i := 49) rfl)
theorem w50 {Z a0} (hw : HW a0 Z) : ((Jvm.Cond.initialized "java/lang/Math") : Jvm.Cond).before a0 Z = true := hw _ (List.mem_of_getElem? (i := 50) rfl)
theorem w51 {Z a0} (hw : HW a0 Z) : ((Jvm.Cond.code ({ cls := "java/lang/Math", name := "min", desc := "(II)I" } : Jvm.MethodName) jdk_29_method_69_code (2 : Nat) (Option.some Jvm.ClassFile.FieldType.int)) : Jvm.Cond).before a0 Z = true := hw _ (List.mem_of_getElem? (i := 51) rfl)
theorem d8_5 : decode jdk_43_method_15_code 5 = .ok (.istore 4, 2) := by decide +kernel
theorem d8_7 : decode jdk_43_method_15_code 7 = .ok (.aload_n 0, 1) := by decide +kernel
theorem d8_8 : decode jdk_43_method_15_code 8 = .ok (.aload_n 1, 1) := by decide +kernel
theorem d8_9 : decode jdk_43_method_15_code 9 = .ok (.iload 4, 2) := by decide +kernel
theorem d8_11 : decode jdk_43_method_15_code 11 = .ok (.invokestatic 44, 3) := by decide +kernel
theorem d10_0 : decode jdk_48_method_13_code 0 = .ok (.iconst 0, 1) := by decide +kernel
theorem d10_1 : decode jdk_48_method_13_code 1 = .ok (.istore_n 3, 1) := by decide +kernel
theorem d10_2 : decode jdk_48_method_13_code 2 = .ok (.iload_n 2, 1) := by decide +kernel
theorem d10_3 : decode jdk_48_method_13_code 3 = .ok (.bipush 7, 2) := by decide +kernel
theorem d10_5 : decode jdk_48_method_13_code 5 = .ok (.if_icmp .le 44, 3) := by decide +kernel
theorem d10_49 : decode jdk_48_method_13_code 49 = .ok (.iload_n 3, 1) := by decide +kernel
theorem d10_50 : decode jdk_48_method_13_code 50 = .ok (.iload_n 2, 1) := by decide +kernel
theorem d10_51 : decode jdk_48_method_13_code 51 = .ok (.if_icmp .ge 20, 3) := by decide +kernel
theorem d10_71 : decode jdk_48_method_13_code 71 = .ok (.iconst (-1), 1) := by decide +kernel
theorem d10_72 : decode jdk_48_method_13_code 72 = .ok (.ireturn, 1) := by decide +kernel
theorem c10_mismatch {Z a0} (hw : HW a0 Z) (hs : SF Z) {p1 : Addr} {F : List Ent} : Con Z EL (⟨"jdk/internal/util/ArraysSupport", "mismatch", "([B[BI)I"⟩ : MethodName) jdk_48_method_13_code 4 (Option.some Jvm.ClassFile.FieldType.int) (rmm 0 0 0 0) [(vr p1), (vr p1), (vi 0)] (F) (fun v D' => (v = some (vi (-1)) ∧ F = D')) := by
  refine Con.of (ls := #[rv p1, rv p1, iv 0, uu]) (by decide +kernel) rfl ?_
  show W Z EL _ "jdk/internal/util/ArraysSupport" "mismatch" _ _ _ _ _ _ _ _ _ _
  refine W.iconst (pc := 0) (0) d10_0 (by decide) ?_
  refine W.istoreN (pc := 1) (ls' := #[rv p1, rv p1, iv 0, iv 0]) d10_1 rfl ?_
  refine W.iloadN (pc := 2) d10_2 rfl ?_
  refine W.bipush (pc := 3) (7) d10_3 (by decide) ?_
  refine W.icmpY (pc := 5) 49 d10_5 (y_le (by decide)) (by decide) ?_
  refine W.iloadN (pc := 49) d10_49 rfl ?_
  refine W.iloadN (pc := 50) d10_50 rfl ?_
  refine W.icmpY (pc := 51) 71 d10_51 (y_ge (by decide)) (by decide) ?_
  refine W.iconst (pc := 71) (-1) d10_71 (by decide) ?_
  exact W.ireturn (pc := 72) d10_72 rfl (Or.inl rfl) rfl (by decide) ⟨rfl, rfl⟩
theorem pd__B_BI_I : parseMethodDescriptor "([B[BI)I" = some ⟨[(.array .byte), (.array .byte), .int], some .int⟩ := by decide +kernel
theorem w52 {Z a0} (hw : HW a0 Z) : ((Jvm.Cond.methodLink "java/lang/StringLatin1" (44 : Nat) ({ cls := "jdk/internal/util/ArraysSupport", name := "mismatch", desc := "([B[BI)I" } : Jvm.MethodName)) : Jvm.Cond).before a0 Z = true := hw _ (List.mem_of_getElem? (i := 52) rfl)
theorem w53 {Z a0} (hw : HW a0 Z) : ((Jvm.Cond.static ({ cls := "jdk/internal/util/ArraysSupport", name := "mismatch", desc := "([B[BI)I" } : Jvm.MethodName)) : Jvm.Cond).before a0 Z = true := hw _ (List.mem_of_getElem? (i := 53) rfl)
theorem w54 {Z a0} (hw : HW a0 Z) : ((Jvm.Cond.initialized "jdk/internal/util/ArraysSupport") : Jvm.Cond).before a0 Z = true := hw _ (List.mem_of_getElem? (i := 54) rfl)
theorem w55 {Z a0} (hw : HW a0 Z) : ((Jvm.Cond.code ({ cls := "jdk/internal/util/ArraysSupport", name := "mismatch", desc := "([B[BI)I" } : Jvm.MethodName) jdk_48_method_13_code (4 : Nat) (Option.some Jvm.ClassFile.FieldType.int)) : Jvm.Cond).before a0 Z = true := hw _ (List.mem_of_getElem? (i := 55) rfl)
theorem d8_14 : decode jdk_43_method_15_code 14 = .ok (.istore 5, 2) := by decide +kernel
theorem d8_16 : decode jdk_43_method_15_code 16 = .ok (.iload 5, 2) := by decide +kernel
theorem d8_18 : decode jdk_43_method_15_code 18 = .ok (.ifCond .ge 9, 3) := by decide +kernel
theorem d8_21 : decode jdk_43_method_15_code 21 = .ok (.iload_n 2, 1) := by decide +kernel
theorem d8_22 : decode jdk_43_method_15_code 22 = .ok (.iload_n 3, 1) := by decide +kernel
theorem d8_23 : decode jdk_43_method_15_code 23 = .ok (.isub, 1) := by decide +kernel
theorem d8_24 : decode jdk_43_method_15_code 24 = .ok (.goto 16, 3) := by decide +kernel
theorem d8_40 : decode jdk_43_method_15_code 40 = .ok (.ireturn, 1) := by decide +kernel
theorem c11_mismatch {Z a0} (hw : HW a0 Z) (hs : SF Z) {p1 : Addr} {F : List Ent} : Con Z EL (⟨"jdk/internal/util/ArraysSupport", "mismatch", "([B[BI)I"⟩ : MethodName) jdk_48_method_13_code 4 (Option.some Jvm.ClassFile.FieldType.int) (rmm 0 0 0 0) [(vr p1), (vr p1), (vi 0)] (F) (fun v D' => (v = some (vi (-1)) ∧ F = D')) := by
  refine Con.of (ls := #[rv p1, rv p1, iv 0, uu]) (by decide +kernel) rfl ?_
  show W Z EL _ "jdk/internal/util/ArraysSupport" "mismatch" _ _ _ _ _ _ _ _ _ _
  refine W.iconst (pc := 0) (0) d10_0 (by decide) ?_
  refine W.istoreN (pc := 1) (ls' := #[rv p1, rv p1, iv 0, iv 0]) d10_1 rfl ?_
  refine W.iloadN (pc := 2) d10_2 rfl ?_
  refine W.bipush (pc := 3) (7) d10_3 (by decide) ?_
  refine W.icmpY (pc := 5) 49 d10_5 (y_le (by decide)) (by decide) ?_
  refine W.iloadN (pc := 49) d10_49 rfl ?_
  refine W.iloadN (pc := 50) d10_50 rfl ?_
  refine W.icmpY (pc := 51) 71 d10_51 (y_ge (by decide)) (by decide) ?_
  refine W.iconst (pc := 71) (-1) d10_71 (by decide) ?_
  exact W.ireturn (pc := 72) d10_72 rfl (Or.inl rfl) rfl (by decide) ⟨rfl, rfl⟩
theorem c8_compareTo {Z a0} (hw : HW a0 Z) (hs : SF Z) {p1 : Addr} {F : List Ent} : Con Z EL (⟨"java/lang/StringLatin1", "compareTo", "([B[BII)I"⟩ : MethodName) jdk_43_method_15_code 6 (Option.some Jvm.ClassFile.FieldType.int) (rmm 1 0 0 15) [(vr p1), (vr p1), (vi 0), (vi 0)] (F) (fun v D' => (v = some (vi 0) ∧ F = D')) := by
  refine Con.of (ls := #[rv p1, rv p1, iv 0, iv 0, uu, uu]) (by decide +kernel) rfl ?_
  show W Z EL _ "java/lang/StringLatin1" "compareTo" _ _ _ _ _ _ _ _ _ _
  refine W.iloadN (pc := 0) d8_0 rfl ?_
  refine W.iloadN (pc := 1) d8_1 rfl ?_
  refine W.callS (pc := 2) (as := [(vi 0), (vi 0)]) 0 [] d8_2 (w48 hw) (w49 hw) (w50 hw) (w51 hw) (c9_min hw hs) (by decide) pd_II_I rfl rfl rfl rfl (by decide) (fun v D' h => ?_)
  obtain ⟨rfl, rfl⟩ := h
  show W _ _ _ _ _ _ _ _ _ _ _ _ 5 _ [(vi 0)]
  refine W.istore (pc := 5) (ls' := #[rv p1, rv p1, iv 0, iv 0, iv 0, uu]) d8_5 rfl ?_
  refine W.aloadN (pc := 7) d8_7 rfl rfl ?_
  refine W.aloadN (pc := 8) d8_8 rfl rfl ?_
  refine W.iload (pc := 9) d8_9 rfl ?_
  refine W.callS (pc := 11) (as := [(vr p1), (vr p1), (vi 0)]) 0 [] d8_11 (w52 hw) (w53 hw) (w54 hw) (w55 hw) (c11_mismatch hw hs (p1 := p1)) (by decide) pd__B_BI_I rfl rfl rfl rfl (by decide) (fun v D' h => ?_)
  obtain ⟨rfl, rfl⟩ := h
  show W _ _ _ _ _ _ _ _ _ _ _ _ 14 _ [(vi (-1))]
  refine W.istore (pc := 14) (ls' := #[rv p1, rv p1, iv 0, iv 0, iv 0, iv (-1)]) d8_14 rfl ?_
  refine W.iload (pc := 16) d8_16 rfl ?_
  refine W.ifN (pc := 18) d8_18 (n_ge (by decide)) ?_
  refine W.iloadN (pc := 21) d8_21 rfl ?_
  refine W.iloadN (pc := 22) d8_22 rfl ?_
  refine W.isubK (pc := 23) (0 : Int32) d8_23 (by decide) ?_
  refine W.goto (pc := 24) 40 d8_24 (by decide) ?_
  exact W.ireturn (pc := 40) d8_40 rfl (Or.inl rfl) rfl (by decide) ⟨rfl, rfl⟩
theorem pd__B_BII_I : parseMethodDescriptor "([B[BII)I" = some ⟨[(.array .byte), (.array .byte), .int, .int], some .int⟩ := by decide +kernel
theorem w45 {Z a0} (hw : HW a0 Z) : ((Jvm.Cond.methodLink "java/lang/StringLatin1" (34 : Nat) ({ cls := "java/lang/StringLatin1", name := "compareTo", desc := "([B[BII)I" } : Jvm.MethodName)) : Jvm.Cond).before a0 Z = true := hw _ (List.mem_of_getElem? (i := 45) rfl)
theorem w46 {Z a0} (hw : HW a0 Z) : ((Jvm.Cond.static ({ cls := "java/lang/StringLatin1", name := "compareTo", desc := "([B[BII)I" } : Jvm.MethodName)) : Jvm.Cond).before a0 Z = true := hw _ (List.mem_of_getElem? (i := 46) rfl)
theorem w43 {Z a0} (hw : HW a0 Z) : ((Jvm.Cond.initialized "java/lang/StringLatin1") : Jvm.Cond).before a0 Z = true := hw _ (List.mem_of_getElem? (i := 43) rfl)
theorem w47 {Z a0} (hw : HW a0 Z) : ((Jvm.Cond.code ({ cls := "java/lang/StringLatin1", name := "compareTo", desc := "([B[BII)I" } : Jvm.MethodName) jdk_43_method_15_code (6 : Nat) (Option.some Jvm.ClassFile.FieldType.int)) : Jvm.Cond).before a0 Z = true := hw _ (List.mem_of_getElem? (i := 47) rfl)
theorem d7_13 : decode jdk_43_method_14_code 13 = .ok (.ireturn, 1) := by decide +kernel
theorem c7_compareTo {Z a0} (hw : HW a0 Z) (hs : SF Z) {p1 : Addr} {w_p1 : Bool} {ad_p1 : String} {F : List Ent} (mp1 : (p1, w_p1, ar ad_p1 .byte []) ∈ F) : Con Z EL (⟨"java/lang/StringLatin1", "compareTo", "([B[B)I"⟩ : MethodName) jdk_43_method_14_code 4 (Option.some Jvm.ClassFile.FieldType.int) (rmm 2 0 0 32) [(vr p1), (vr p1)] (F) (fun v D' => (v = some (vi 0) ∧ F = D')) := by
  refine Con.of (ls := #[rv p1, rv p1, uu, uu]) (by decide +kernel) rfl ?_
  show W Z EL _ "java/lang/StringLatin1" "compareTo" _ _ _ _ _ _ _ _ _ _
  refine W.aloadN (pc := 0) d7_0 rfl rfl ?_
  refine W.alen (pc := 1) (0) d7_1 mp1 rfl ?_
  refine W.istoreN (pc := 2) (ls' := #[rv p1, rv p1, iv 0, uu]) d7_2 rfl ?_
  refine W.aloadN (pc := 3) d7_3 rfl rfl ?_
  refine W.alen (pc := 4) (0) d7_4 mp1 rfl ?_
  refine W.istoreN (pc := 5) (ls' := #[rv p1, rv p1, iv 0, iv 0]) d7_5 rfl ?_
  refine W.aloadN (pc := 6) d7_6 rfl rfl ?_
  refine W.aloadN (pc := 7) d7_7 rfl rfl ?_
  refine W.iloadN (pc := 8) d7_8 rfl ?_
  refine W.iloadN (pc := 9) d7_9 rfl ?_
  refine W.callS (pc := 10) (as := [(vr p1), (vr p1), (vi 0), (vi 0)]) 0 [] d7_10 (w45 hw) (w46 hw) (w43 hw) (w47 hw) (c8_compareTo hw hs (p1 := p1)) (by decide) pd__B_BII_I rfl rfl rfl rfl (by decide) (fun v D' h => ?_)
  obtain ⟨rfl, rfl⟩ := h
  show W _ _ _ _ _ _ _ _ _ _ _ _ 13 _ [(vi 0)]
  exact W.ireturn (pc := 13) d7_13 rfl (Or.inl rfl) rfl (by decide) ⟨rfl, rfl⟩
theorem pd__B_B_I : parseMethodDescriptor "([B[B)I" = some ⟨[(.array .byte), (.array .byte)], some .int⟩ := by decide +kernel
theorem w41 {Z a0} (hw : HW a0 Z) : ((Jvm.Cond.methodLink "java/lang/String" (586 : Nat) ({ cls := "java/lang/StringLatin1", name := "compareTo", desc := "([B[B)I" } : Jvm.MethodName)) : Jvm.Cond).before a0 Z = true := hw _ (List.mem_of_getElem? (i := 41) rfl)
theorem w42 {Z a0} (hw : HW a0 Z) : ((Jvm.Cond.static ({ cls := "java/lang/StringLatin1", name := "compareTo", desc := "([B[B)I" } : Jvm.MethodName)) : Jvm.Cond).before a0 Z = true := hw _ (List.mem_of_getElem? (i := 42) rfl)
theorem w44 {Z a0} (hw : HW a0 Z) : ((Jvm.Cond.code ({ cls := "java/lang/StringLatin1", name := "compareTo", desc := "([B[B)I" } : Jvm.MethodName) jdk_43_method_14_code (4 : Nat) (Option.some Jvm.ClassFile.FieldType.int)) : Jvm.Cond).before a0 Z = true := hw _ (List.mem_of_getElem? (i := 44) rfl)
theorem d5_35 : decode jdk_42_method_71_code 35 = .ok (.goto 8, 3) := by decide +kernel
theorem d5_43 : decode jdk_42_method_71_code 43 = .ok (.ireturn, 1) := by decide +kernel
theorem c5_compareTo {Z a0} (hw : HW a0 Z) (hs : SF Z) {p1 p2 : Addr} {w_p1 : Bool} {w_p2 : Bool} {ad_p2 : String} {F : List Ent} (mp1 : (p1, w_p1, oString (vr p2) (vi 0)) ∈ F) (mp2 : (p2, w_p2, ar ad_p2 .byte []) ∈ F) : Con Z EL (⟨"java/lang/String", "compareTo", "(Ljava/lang/String;)I"⟩ : MethodName) jdk_42_method_71_code 5 (Option.some Jvm.ClassFile.FieldType.int) (rmm 3 0 0 47) [(vr p1), (vr p1)] (F) (fun v D' => (v = some (vi 0) ∧ F = D')) := by
  refine Con.of (ls := #[rv p1, rv p1, uu, uu, uu]) (by decide +kernel) rfl ?_
  show W Z EL _ "java/lang/String" "compareTo" _ _ _ _ _ _ _ _ _ _
  refine W.aloadN (pc := 0) d5_0 rfl rfl ?_
  refine W.getf (pc := 1) d5_1 (w20 hw) Via.refl mp1 m0 ?_
  refine W.astoreN (pc := 4) (ls' := #[rv p1, rv p1, rv p2, uu, uu]) d5_4 rfl rfl ?_
  refine W.aloadN (pc := 5) d5_5 rfl rfl ?_
  refine W.getf (pc := 6) d5_6 (w20 hw) Via.refl mp1 m0 ?_
  refine W.astoreN (pc := 9) (ls' := #[rv p1, rv p1, rv p2, rv p2, uu]) d5_9 rfl rfl ?_
  refine W.aloadN (pc := 10) d5_10 rfl rfl ?_
  refine W.callV (pc := 11) (as := []) 0 [] d5_11 (w35 hw) (w36 hw) (w38 hw) (w38 hw) (w37 hw) (w3 hw) (w39 hw) (Hp.exa mp1) (c6_coder hw hs (p1 := p1) (p2 := p2) (mp1 := mp1)) (by decide) pd__B rfl rfl rfl rfl (by decide) (fun v D' h => ?_)
  obtain ⟨rfl, rfl⟩ := h
  show W _ _ _ _ _ _ _ _ _ _ _ _ 14 _ [(vi 0)]
  refine W.istore (pc := 14) (ls' := #[rv p1, rv p1, rv p2, rv p2, iv 0]) d5_14 rfl ?_
  refine W.iload (pc := 16) d5_16 rfl ?_
  refine W.aloadN (pc := 18) d5_18 rfl rfl ?_
  refine W.callV (pc := 19) (as := []) 1 [(vi 0)] d5_19 (w35 hw) (w36 hw) (w38 hw) (w38 hw) (w37 hw) (w3 hw) (w39 hw) (Hp.exa mp1) (c6_coder hw hs (p1 := p1) (p2 := p2) (mp1 := mp1)) (by decide) pd__B rfl rfl rfl rfl (by decide) (fun v D' h => ?_)
  obtain ⟨rfl, rfl⟩ := h
  show W _ _ _ _ _ _ _ _ _ _ _ _ 22 _ [(vi 0), (vi 0)]
  refine W.icmpN (pc := 22) d5_22 (n_ne (by decide)) ?_
  refine W.iload (pc := 25) d5_25 rfl ?_
  refine W.ifN (pc := 27) d5_27 (n_ne (by decide)) ?_
  refine W.aloadN (pc := 30) d5_30 rfl rfl ?_
  refine W.aloadN (pc := 31) d5_31 rfl rfl ?_
  refine W.callS (pc := 32) (as := [(vr p2), (vr p2)]) 0 [] d5_32 (w41 hw) (w42 hw) (w43 hw) (w44 hw) (c7_compareTo hw hs (p1 := p2) (mp1 := mp2)) (by decide) pd__B_B_I rfl rfl rfl rfl (by decide) (fun v D' h => ?_)
  obtain ⟨rfl, rfl⟩ := h
  show W _ _ _ _ _ _ _ _ _ _ _ _ 35 _ [(vi 0)]
  refine W.goto (pc := 35) 43 d5_35 (by decide) ?_
  exact W.ireturn (pc := 43) d5_43 rfl (Or.inl rfl) rfl (by decide) ⟨rfl, rfl⟩
theorem pd_Ljava_lang_String__I : parseMethodDescriptor "(Ljava/lang/String;)I" = some ⟨[(.object "java/lang/String")], some .int⟩ := by decide +kernel
theorem w30 {Z a0} (hw : HW a0 Z) : ((Jvm.Cond.methodLink "com/example/chainvouch/chainvouch/chain/TimeRange" (7 : Nat) ({ cls := "java/lang/String", name := "compareTo", desc := "(Ljava/lang/String;)I" } : Jvm.MethodName)) : Jvm.Cond).before a0 Z = true := hw _ (List.mem_of_getElem? (i := 30) rfl)
theorem w31 {Z a0} (hw : HW a0 Z) : ((Jvm.Cond.declares ({ cls := "java/lang/String", name := "compareTo", desc := "(Ljava/lang/String;)I" } : Jvm.MethodName)) : Jvm.Cond).before a0 Z = true := hw _ (List.mem_of_getElem? (i := 31) rfl)
theorem w33 {Z a0} (hw : HW a0 Z) : ((Jvm.Cond.selects "java/lang/String" ({ cls := "java/lang/String", name := "compareTo", desc := "(Ljava/lang/String;)I" } : Jvm.MethodName) ({ cls := "java/lang/String", name := "compareTo", desc := "(Ljava/lang/String;)I" } : Jvm.MethodName)) : Jvm.Cond).before a0 Z = true := hw _ (List.mem_of_getElem? (i := 33) rfl)
theorem w32 {Z a0} (hw : HW a0 Z) : ((Jvm.Cond.instanceMethod ({ cls := "java/lang/String", name := "compareTo", desc := "(Ljava/lang/String;)I" } : Jvm.MethodName)) : Jvm.Cond).before a0 Z = true := hw _ (List.mem_of_getElem? (i := 32) rfl)
theorem w34 {Z a0} (hw : HW a0 Z) : ((Jvm.Cond.code ({ cls := "java/lang/String", name := "compareTo", desc := "(Ljava/lang/String;)I" } : Jvm.MethodName) jdk_42_method_71_code (5 : Nat) (Option.some Jvm.ClassFile.FieldType.int)) : Jvm.Cond).before a0 Z = true := hw _ (List.mem_of_getElem? (i := 34) rfl)
theorem d4_17 : decode prog_15_method_1_code 17 = .ok (.ifCond .le 18, 3) := by decide +kernel
theorem c4_init {Z a0} (hw : HW a0 Z) (hs : SF Z) {p1 p2 p3 : Addr} {w_p2 : Bool} {w_p3 : Bool} {ad_p3 : String} {F : List Ent} (mp2 : (p2, w_p2, oString (vr p3) (vi 0)) ∈ F) (mp3 : (p3, w_p3, ar ad_p3 .byte []) ∈ F) : Con Z EL (⟨"com/example/chainvouch/chainvouch/chain/TimeRange", "<init>", "(Ljava/lang/String;Ljava/lang/String;)V"⟩ : MethodName) prog_15_method_1_code 3 (Option.none : Option Jvm.ClassFile.FieldType) (rmm 4 0 0 63) [(vr p1), (vr p2), (vr p2)] ((p1, true, oTimeRange .null .null) :: F) (fun v D' => (v = none ∧ (p1, true, oTimeRange (vr p2) (vr p2)) :: F = D')) := by
  refine Con.of (ls := #[rv p1, rv p2, rv p2]) (by decide +kernel) rfl ?_
  show W Z EL _ "com/example/chainvouch/chainvouch/chain/TimeRange" "<init>" _ _ _ _ _ _ _ _ _ _
  refine W.aloadN (pc := 0) d4_0 rfl rfl ?_
  refine W.initO (pc := 1) 0 d4_1 (w29 hw) (w12 hw) (w13 hw) rfl rfl (by decide) ?_
  refine W.aloadN (pc := 4) d4_4 rfl rfl ?_
  refine W.ifnullN (pc := 5) d4_5 ?_
  refine W.aloadN (pc := 8) d4_8 rfl rfl ?_
  refine W.ifnullN (pc := 9) d4_9 ?_
  refine W.aloadN (pc := 12) d4_12 rfl rfl ?_
  refine W.aloadN (pc := 13) d4_13 rfl rfl ?_
  refine W.callV (pc := 14) (as := [(vr p2)]) 0 [] d4_14 (w30 hw) (w31 hw) (w33 hw) (w33 hw) (w32 hw) (w3 hw) (w34 hw) (Hp.exa (mS mp2)) (c5_compareTo hw hs (p1 := p2) (p2 := p3) (mp1 := (mS mp2)) (mp2 := (mS mp3))) (by decide) pd_Ljava_lang_String__I rfl rfl rfl rfl (by decide) (fun v D' h => ?_)
  obtain ⟨rfl, rfl⟩ := h
  show W _ _ _ _ _ _ _ _ _ _ _ _ 17 _ [(vi 0)]
  refine W.ifY (pc := 17) 35 d4_17 (y_le (by decide)) (by decide) ?_
  refine W.aloadN (pc := 35) d4_35 rfl rfl ?_
  refine W.aloadN (pc := 36) d4_36 rfl rfl ?_
  refine W.putf (pc := 37) (D' := (p1, true, oTimeRange (vr p2) .null) :: F) 0 0 d4_37 (w56 hw) Via.refl rfl rfl (Or.inr ⟨(w57 hw), rfl, rfl⟩) (w24 hw) pfLjava_lang_String_ rfl rfl rfl ?_
  refine W.aloadN (pc := 40) d4_40 rfl rfl ?_
  refine W.aloadN (pc := 41) d4_41 rfl rfl ?_
  refine W.putf (pc := 42) (D' := (p1, true, oTimeRange (vr p2) (vr p2)) :: F) 0 1 d4_42 (w58 hw) Via.refl rfl rfl (Or.inr ⟨(w59 hw), rfl, rfl⟩) (w24 hw) pfLjava_lang_String_ rfl rfl rfl ?_
  exact W.return_ (pc := 45) d4_45 rfl (by decide) ⟨rfl, rfl⟩
theorem w22 {Z a0} (hw : HW a0 Z) : ((Jvm.Cond.stringLink "com/example/chainvouch/chainvouch/chain/TimeRangeStartsAfterPinLaw" (12 : Nat) "") : Jvm.Cond).before a0 Z = true := hw _ (List.mem_of_getElem? (i := 22) rfl)
theorem aushr_1 (x : Int32) : (XT.ushr x (1 : Int32)).toInt = (x.toInt % 4294967296) / 2 := a_ushr x 1 1 2 (by decide) (by decide) (by decide)
theorem am_3 (x : Int32) : (x &&& (3 : Int32)).toInt = x.toInt % 4 := a_and x 3 2 4 (by decide) (by decide) (by decide)
theorem c16_mismatch {Z a0} (hw : HW a0 Z) (hs : SF Z) {p1 p2 : Addr} {F : List Ent} : Con Z EL (⟨"jdk/internal/util/ArraysSupport", "mismatch", "([B[BI)I"⟩ : MethodName) jdk_48_method_13_code 4 (Option.some Jvm.ClassFile.FieldType.int) (rmm 0 0 0 0) [(vr p1), (vr p2), (vi 0)] (F) (fun v D' => (v = some (vi (-1)) ∧ F = D')) := by
  refine Con.of (ls := #[rv p1, rv p2, iv 0, uu]) (by decide +kernel) rfl ?_
  show W Z EL _ "jdk/internal/util/ArraysSupport" "mismatch" _ _ _ _ _ _ _ _ _ _
  refine W.iconst (pc := 0) (0) d10_0 (by decide) ?_
  refine W.istoreN (pc := 1) (ls' := #[rv p1, rv p2, iv 0, iv 0]) d10_1 rfl ?_
  refine W.iloadN (pc := 2) d10_2 rfl ?_
  refine W.bipush (pc := 3) (7) d10_3 (by decide) ?_
  refine W.icmpY (pc := 5) 49 d10_5 (y_le (by decide)) (by decide) ?_
  refine W.iloadN (pc := 49) d10_49 rfl ?_
  refine W.iloadN (pc := 50) d10_50 rfl ?_
  refine W.icmpY (pc := 51) 71 d10_51 (y_ge (by decide)) (by decide) ?_
  refine W.iconst (pc := 71) (-1) d10_71 (by decide) ?_
  exact W.ireturn (pc := 72) d10_72 rfl (Or.inl rfl) rfl (by decide) ⟨rfl, rfl⟩
theorem c17_mismatch {Z a0} (hw : HW a0 Z) (hs : SF Z) {p1 p2 : Addr} {F : List Ent} : Con Z EL (⟨"jdk/internal/util/ArraysSupport", "mismatch", "([B[BI)I"⟩ : MethodName) jdk_48_method_13_code 4 (Option.some Jvm.ClassFile.FieldType.int) (rmm 0 0 0 0) [(vr p1), (vr p2), (vi 0)] (F) (fun v D' => (v = some (vi (-1)) ∧ F = D')) := by
  refine Con.of (ls := #[rv p1, rv p2, iv 0, uu]) (by decide +kernel) rfl ?_
  show W Z EL _ "jdk/internal/util/ArraysSupport" "mismatch" _ _ _ _ _ _ _ _ _ _
  refine W.iconst (pc := 0) (0) d10_0 (by decide) ?_
  refine W.istoreN (pc := 1) (ls' := #[rv p1, rv p2, iv 0, iv 0]) d10_1 rfl ?_
  refine W.iloadN (pc := 2) d10_2 rfl ?_
  refine W.bipush (pc := 3) (7) d10_3 (by decide) ?_
  refine W.icmpY (pc := 5) 49 d10_5 (y_le (by decide)) (by decide) ?_
  refine W.iloadN (pc := 49) d10_49 rfl ?_
  refine W.iloadN (pc := 50) d10_50 rfl ?_
  refine W.icmpY (pc := 51) 71 d10_51 (y_ge (by decide)) (by decide) ?_
  refine W.iconst (pc := 71) (-1) d10_71 (by decide) ?_
  exact W.ireturn (pc := 72) d10_72 rfl (Or.inl rfl) rfl (by decide) ⟨rfl, rfl⟩
theorem c15_compareTo {Z a0} (hw : HW a0 Z) (hs : SF Z) {p1 p2 : Addr} {F : List Ent} : Con Z EL (⟨"java/lang/StringLatin1", "compareTo", "([B[BII)I"⟩ : MethodName) jdk_43_method_15_code 6 (Option.some Jvm.ClassFile.FieldType.int) (rmm 1 0 0 15) [(vr p1), (vr p2), (vi 0), (vi 0)] (F) (fun v D' => (v = some (vi 0) ∧ F = D')) := by
  refine Con.of (ls := #[rv p1, rv p2, iv 0, iv 0, uu, uu]) (by decide +kernel) rfl ?_
  show W Z EL _ "java/lang/StringLatin1" "compareTo" _ _ _ _ _ _ _ _ _ _
  refine W.iloadN (pc := 0) d8_0 rfl ?_
  refine W.iloadN (pc := 1) d8_1 rfl ?_
  refine W.callS (pc := 2) (as := [(vi 0), (vi 0)]) 0 [] d8_2 (w48 hw) (w49 hw) (w50 hw) (w51 hw) (c9_min hw hs) (by decide) pd_II_I rfl rfl rfl rfl (by decide) (fun v D' h => ?_)
  obtain ⟨rfl, rfl⟩ := h
  show W _ _ _ _ _ _ _ _ _ _ _ _ 5 _ [(vi 0)]
  refine W.istore (pc := 5) (ls' := #[rv p1, rv p2, iv 0, iv 0, iv 0, uu]) d8_5 rfl ?_
  refine W.aloadN (pc := 7) d8_7 rfl rfl ?_
  refine W.aloadN (pc := 8) d8_8 rfl rfl ?_
  refine W.iload (pc := 9) d8_9 rfl ?_
  refine W.callS (pc := 11) (as := [(vr p1), (vr p2), (vi 0)]) 0 [] d8_11 (w52 hw) (w53 hw) (w54 hw) (w55 hw) (c17_mismatch hw hs (p1 := p1) (p2 := p2)) (by decide) pd__B_BI_I rfl rfl rfl rfl (by decide) (fun v D' h => ?_)
  obtain ⟨rfl, rfl⟩ := h
  show W _ _ _ _ _ _ _ _ _ _ _ _ 14 _ [(vi (-1))]
  refine W.istore (pc := 14) (ls' := #[rv p1, rv p2, iv 0, iv 0, iv 0, iv (-1)]) d8_14 rfl ?_
  refine W.iload (pc := 16) d8_16 rfl ?_
  refine W.ifN (pc := 18) d8_18 (n_ge (by decide)) ?_
  refine W.iloadN (pc := 21) d8_21 rfl ?_
  refine W.iloadN (pc := 22) d8_22 rfl ?_
  refine W.isubK (pc := 23) (0 : Int32) d8_23 (by decide) ?_
  refine W.goto (pc := 24) 40 d8_24 (by decide) ?_
  exact W.ireturn (pc := 40) d8_40 rfl (Or.inl rfl) rfl (by decide) ⟨rfl, rfl⟩
theorem c14_compareTo {Z a0} (hw : HW a0 Z) (hs : SF Z) {p1 p2 : Addr} {w_p1 : Bool} {ad_p1 : String} {w_p2 : Bool} {ad_p2 : String} {F : List Ent} (mp1 : (p1, w_p1, ar ad_p1 .byte []) ∈ F) (mp2 : (p2, w_p2, ar ad_p2 .byte []) ∈ F) : Con Z EL (⟨"java/lang/StringLatin1", "compareTo", "([B[B)I"⟩ : MethodName) jdk_43_method_14_code 4 (Option.some Jvm.ClassFile.FieldType.int) (rmm 2 0 0 32) [(vr p1), (vr p2)] (F) (fun v D' => (v = some (vi 0) ∧ F = D')) := by
  refine Con.of (ls := #[rv p1, rv p2, uu, uu]) (by decide +kernel) rfl ?_
  show W Z EL _ "java/lang/StringLatin1" "compareTo" _ _ _ _ _ _ _ _ _ _
  refine W.aloadN (pc := 0) d7_0 rfl rfl ?_
  refine W.alen (pc := 1) (0) d7_1 mp1 rfl ?_
  refine W.istoreN (pc := 2) (ls' := #[rv p1, rv p2, iv 0, uu]) d7_2 rfl ?_
  refine W.aloadN (pc := 3) d7_3 rfl rfl ?_
  refine W.alen (pc := 4) (0) d7_4 mp2 rfl ?_
  refine W.istoreN (pc := 5) (ls' := #[rv p1, rv p2, iv 0, iv 0]) d7_5 rfl ?_
  refine W.aloadN (pc := 6) d7_6 rfl rfl ?_
  refine W.aloadN (pc := 7) d7_7 rfl rfl ?_
  refine W.iloadN (pc := 8) d7_8 rfl ?_
  refine W.iloadN (pc := 9) d7_9 rfl ?_
  refine W.callS (pc := 10) (as := [(vr p1), (vr p2), (vi 0), (vi 0)]) 0 [] d7_10 (w45 hw) (w46 hw) (w43 hw) (w47 hw) (c15_compareTo hw hs (p1 := p1) (p2 := p2)) (by decide) pd__B_BII_I rfl rfl rfl rfl (by decide) (fun v D' h => ?_)
  obtain ⟨rfl, rfl⟩ := h
  show W _ _ _ _ _ _ _ _ _ _ _ _ 13 _ [(vi 0)]
  exact W.ireturn (pc := 13) d7_13 rfl (Or.inl rfl) rfl (by decide) ⟨rfl, rfl⟩
theorem c13_compareTo {Z a0} (hw : HW a0 Z) (hs : SF Z) {p1 p2 p3 p4 : Addr} {w_p1 : Bool} {w_p2 : Bool} {w_p3 : Bool} {ad_p3 : String} {w_p4 : Bool} {ad_p4 : String} {F : List Ent} (mp1 : (p1, w_p1, oString (vr p3) (vi 0)) ∈ F) (mp2 : (p2, w_p2, oString (vr p4) (vi 0)) ∈ F) (mp3 : (p3, w_p3, ar ad_p3 .byte []) ∈ F) (mp4 : (p4, w_p4, ar ad_p4 .byte []) ∈ F) : Con Z EL (⟨"java/lang/String", "compareTo", "(Ljava/lang/String;)I"⟩ : MethodName) jdk_42_method_71_code 5 (Option.some Jvm.ClassFile.FieldType.int) (rmm 3 0 0 47) [(vr p1), (vr p2)] (F) (fun v D' => (v = some (vi 0) ∧ F = D')) := by
  refine Con.of (ls := #[rv p1, rv p2, uu, uu, uu]) (by decide +kernel) rfl ?_
  show W Z EL _ "java/lang/String" "compareTo" _ _ _ _ _ _ _ _ _ _
  refine W.aloadN (pc := 0) d5_0 rfl rfl ?_
  refine W.getf (pc := 1) d5_1 (w20 hw) Via.refl mp1 m0 ?_
  refine W.astoreN (pc := 4) (ls' := #[rv p1, rv p2, rv p3, uu, uu]) d5_4 rfl rfl ?_
  refine W.aloadN (pc := 5) d5_5 rfl rfl ?_
  refine W.getf (pc := 6) d5_6 (w20 hw) Via.refl mp2 m0 ?_
  refine W.astoreN (pc := 9) (ls' := #[rv p1, rv p2, rv p3, rv p4, uu]) d5_9 rfl rfl ?_
  refine W.aloadN (pc := 10) d5_10 rfl rfl ?_
  refine W.callV (pc := 11) (as := []) 0 [] d5_11 (w35 hw) (w36 hw) (w38 hw) (w38 hw) (w37 hw) (w3 hw) (w39 hw) (Hp.exa mp1) (c6_coder hw hs (p1 := p1) (p2 := p3) (mp1 := mp1)) (by decide) pd__B rfl rfl rfl rfl (by decide) (fun v D' h => ?_)
  obtain ⟨rfl, rfl⟩ := h
  show W _ _ _ _ _ _ _ _ _ _ _ _ 14 _ [(vi 0)]
  refine W.istore (pc := 14) (ls' := #[rv p1, rv p2, rv p3, rv p4, iv 0]) d5_14 rfl ?_
  refine W.iload (pc := 16) d5_16 rfl ?_
  refine W.aloadN (pc := 18) d5_18 rfl rfl ?_
  refine W.callV (pc := 19) (as := []) 1 [(vi 0)] d5_19 (w35 hw) (w36 hw) (w38 hw) (w38 hw) (w37 hw) (w3 hw) (w39 hw) (Hp.exa mp2) (c6_coder hw hs (p1 := p2) (p2 := p4) (mp1 := mp2)) (by decide) pd__B rfl rfl rfl rfl (by decide) (fun v D' h => ?_)
  obtain ⟨rfl, rfl⟩ := h
  show W _ _ _ _ _ _ _ _ _ _ _ _ 22 _ [(vi 0), (vi 0)]
  refine W.icmpN (pc := 22) d5_22 (n_ne (by decide)) ?_
  refine W.iload (pc := 25) d5_25 rfl ?_
  refine W.ifN (pc := 27) d5_27 (n_ne (by decide)) ?_
  refine W.aloadN (pc := 30) d5_30 rfl rfl ?_
  refine W.aloadN (pc := 31) d5_31 rfl rfl ?_
  refine W.callS (pc := 32) (as := [(vr p3), (vr p4)]) 0 [] d5_32 (w41 hw) (w42 hw) (w43 hw) (w44 hw) (c14_compareTo hw hs (p1 := p3) (p2 := p4) (mp1 := mp3) (mp2 := mp4)) (by decide) pd__B_B_I rfl rfl rfl rfl (by decide) (fun v D' h => ?_)
  obtain ⟨rfl, rfl⟩ := h
  show W _ _ _ _ _ _ _ _ _ _ _ _ 35 _ [(vi 0)]
  refine W.goto (pc := 35) 43 d5_35 (by decide) ?_
  exact W.ireturn (pc := 43) d5_43 rfl (Or.inl rfl) rfl (by decide) ⟨rfl, rfl⟩
theorem c12_init {Z a0} (hw : HW a0 Z) (hs : SF Z) {p1 p2 p3 p4 p5 : Addr} {w_p2 : Bool} {w_p3 : Bool} {w_p4 : Bool} {ad_p4 : String} {w_p5 : Bool} {ad_p5 : String} {F : List Ent} (mp2 : (p2, w_p2, oString (vr p4) (vi 0)) ∈ F) (mp3 : (p3, w_p3, oString (vr p5) (vi 0)) ∈ F) (mp4 : (p4, w_p4, ar ad_p4 .byte []) ∈ F) (mp5 : (p5, w_p5, ar ad_p5 .byte []) ∈ F) : Con Z EL (⟨"com/example/chainvouch/chainvouch/chain/TimeRange", "<init>", "(Ljava/lang/String;Ljava/lang/String;)V"⟩ : MethodName) prog_15_method_1_code 3 (Option.none : Option Jvm.ClassFile.FieldType) (rmm 4 0 0 63) [(vr p1), (vr p2), (vr p3)] ((p1, true, oTimeRange .null .null) :: F) (fun v D' => (v = none ∧ (p1, true, oTimeRange (vr p2) (vr p3)) :: F = D')) := by
  refine Con.of (ls := #[rv p1, rv p2, rv p3]) (by decide +kernel) rfl ?_
  show W Z EL _ "com/example/chainvouch/chainvouch/chain/TimeRange" "<init>" _ _ _ _ _ _ _ _ _ _
  refine W.aloadN (pc := 0) d4_0 rfl rfl ?_
  refine W.initO (pc := 1) 0 d4_1 (w29 hw) (w12 hw) (w13 hw) rfl rfl (by decide) ?_
  refine W.aloadN (pc := 4) d4_4 rfl rfl ?_
  refine W.ifnullN (pc := 5) d4_5 ?_
  refine W.aloadN (pc := 8) d4_8 rfl rfl ?_
  refine W.ifnullN (pc := 9) d4_9 ?_
  refine W.aloadN (pc := 12) d4_12 rfl rfl ?_
  refine W.aloadN (pc := 13) d4_13 rfl rfl ?_
  refine W.callV (pc := 14) (as := [(vr p3)]) 0 [] d4_14 (w30 hw) (w31 hw) (w33 hw) (w33 hw) (w32 hw) (w3 hw) (w34 hw) (Hp.exa (mS mp2)) (c13_compareTo hw hs (p1 := p2) (p2 := p3) (p3 := p4) (p4 := p5) (mp1 := (mS mp2)) (mp2 := (mS mp3)) (mp3 := (mS mp4)) (mp4 := (mS mp5))) (by decide) pd_Ljava_lang_String__I rfl rfl rfl rfl (by decide) (fun v D' h => ?_)
  obtain ⟨rfl, rfl⟩ := h
  show W _ _ _ _ _ _ _ _ _ _ _ _ 17 _ [(vi 0)]
  refine W.ifY (pc := 17) 35 d4_17 (y_le (by decide)) (by decide) ?_
  refine W.aloadN (pc := 35) d4_35 rfl rfl ?_
  refine W.aloadN (pc := 36) d4_36 rfl rfl ?_
  refine W.putf (pc := 37) (D' := (p1, true, oTimeRange (vr p2) .null) :: F) 0 0 d4_37 (w56 hw) Via.refl rfl rfl (Or.inr ⟨(w57 hw), rfl, rfl⟩) (w24 hw) pfLjava_lang_String_ rfl rfl rfl ?_
  refine W.aloadN (pc := 40) d4_40 rfl rfl ?_
  refine W.aloadN (pc := 41) d4_41 rfl rfl ?_
  refine W.putf (pc := 42) (D' := (p1, true, oTimeRange (vr p2) (vr p3)) :: F) 0 1 d4_42 (w58 hw) Via.refl rfl rfl (Or.inr ⟨(w59 hw), rfl, rfl⟩) (w24 hw) pfLjava_lang_String_ rfl rfl rfl ?_
  exact W.return_ (pc := 45) d4_45 rfl (by decide) ⟨rfl, rfl⟩
theorem d11_0 : decode prog_15_method_3_code 0 = .ok (.aload_n 0, 1) := by decide +kernel
theorem d11_1 : decode prog_15_method_3_code 1 = .ok (.getfield 28, 3) := by decide +kernel
theorem d11_4 : decode prog_15_method_3_code 4 = .ok (.ifnull 18, 3) := by decide +kernel
theorem d11_7 : decode prog_15_method_3_code 7 = .ok (.aload_n 1, 1) := by decide +kernel
theorem d11_8 : decode prog_15_method_3_code 8 = .ok (.aload_n 0, 1) := by decide +kernel
theorem d11_9 : decode prog_15_method_3_code 9 = .ok (.getfield 28, 3) := by decide +kernel
theorem d11_12 : decode prog_15_method_3_code 12 = .ok (.invokevirtual 7, 3) := by decide +kernel
theorem d11_15 : decode prog_15_method_3_code 15 = .ok (.ifCond .lt 7, 3) := by decide +kernel
theorem d11_18 : decode prog_15_method_3_code 18 = .ok (.iconst 1, 1) := by decide +kernel
theorem d11_19 : decode prog_15_method_3_code 19 = .ok (.goto 4, 3) := by decide +kernel
theorem d11_23 : decode prog_15_method_3_code 23 = .ok (.ireturn, 1) := by decide +kernel
theorem c18_startsAfter {Z a0} (hw : HW a0 Z) (hs : SF Z) {p1 p2 p3 p4 p5 : Addr} {u1 : Value} (hu1 : u1.isRef = true) {w_p1 : Bool} {w_p2 : Bool} {w_p3 : Bool} {w_p4 : Bool} {ad_p4 : String} {w_p5 : Bool} {ad_p5 : String} {F : List Ent} (mp1 : (p1, w_p1, oTimeRange u1 (vr p3)) ∈ F) (mp2 : (p2, w_p2, oString (vr p4) (vi 0)) ∈ F) (mp3 : (p3, w_p3, oString (vr p5) (vi 0)) ∈ F) (mp4 : (p4, w_p4, ar ad_p4 .byte []) ∈ F) (mp5 : (p5, w_p5, ar ad_p5 .byte []) ∈ F) : Con Z EL (⟨"com/example/chainvouch/chainvouch/chain/TimeRange", "startsAfter", "(Ljava/lang/String;)Z"⟩ : MethodName) prog_15_method_3_code 2 (Option.some Jvm.ClassFile.FieldType.boolean) (rmm 4 0 0 63) [(vr p1), (vr p2)] (F) (fun v D' => (v = some (vi 1) ∧ F = D')) := by
  refine Con.of (ls := #[rv p1, rv p2]) (by decide +kernel) rfl ?_
  show W Z EL _ "com/example/chainvouch/chainvouch/chain/TimeRange" "startsAfter" _ _ _ _ _ _ _ _ _ _
  refine W.aloadN (pc := 0) d11_0 rfl rfl ?_
  refine W.getf (pc := 1) d11_1 (w58 hw) Via.refl mp1 m1 ?_
  refine W.ifnullN (pc := 4) d11_4 ?_
  refine W.aloadN (pc := 7) d11_7 rfl rfl ?_
  refine W.aloadN (pc := 8) d11_8 rfl rfl ?_
  refine W.getf (pc := 9) d11_9 (w58 hw) Via.refl mp1 m1 ?_
  refine W.callV (pc := 12) (as := [(vr p3)]) 0 [] d11_12 (w30 hw) (w31 hw) (w33 hw) (w33 hw) (w32 hw) (w3 hw) (w34 hw) (Hp.exa mp2) (c13_compareTo hw hs (p1 := p2) (p2 := p3) (p3 := p4) (p4 := p5) (mp1 := mp2) (mp2 := mp3) (mp3 := mp4) (mp4 := mp5)) (by decide) pd_Ljava_lang_String__I rfl rfl rfl rfl (by decide) (fun v D' h => ?_)
  obtain ⟨rfl, rfl⟩ := h
  show W _ _ _ _ _ _ _ _ _ _ _ _ 15 _ [(vi 0)]
  refine W.ifN (pc := 15) d11_15 (n_lt (by decide)) ?_
  refine W.iconst (pc := 18) (1) d11_18 (by decide) ?_
  refine W.goto (pc := 19) 23 d11_19 (by decide) ?_
  exact W.ireturn (pc := 23) d11_23 rfl (Or.inr (Or.inl rfl)) (nw_bool (by decide)) (by decide) ⟨rfl, rfl⟩
theorem pd_Ljava_lang_String__Z : parseMethodDescriptor "(Ljava/lang/String;)Z" = some ⟨[(.object "java/lang/String")], some .boolean⟩ := by decide +kernel
theorem w60 {Z a0} (hw : HW a0 Z) : ((Jvm.Cond.methodLink "com/example/chainvouch/chainvouch/chain/TimeRangeStartsAfterPinLaw" (19 : Nat) ({ cls := "com/example/chainvouch/chainvouch/chain/TimeRange", name := "startsAfter", desc := "(Ljava/lang/String;)Z" } : Jvm.MethodName)) : Jvm.Cond).before a0 Z = true := hw _ (List.mem_of_getElem? (i := 60) rfl)
theorem w61 {Z a0} (hw : HW a0 Z) : ((Jvm.Cond.declares ({ cls := "com/example/chainvouch/chainvouch/chain/TimeRange", name := "startsAfter", desc := "(Ljava/lang/String;)Z" } : Jvm.MethodName)) : Jvm.Cond).before a0 Z = true := hw _ (List.mem_of_getElem? (i := 61) rfl)
theorem w63 {Z a0} (hw : HW a0 Z) : ((Jvm.Cond.selects "com/example/chainvouch/chainvouch/chain/TimeRange" ({ cls := "com/example/chainvouch/chainvouch/chain/TimeRange", name := "startsAfter", desc := "(Ljava/lang/String;)Z" } : Jvm.MethodName) ({ cls := "com/example/chainvouch/chainvouch/chain/TimeRange", name := "startsAfter", desc := "(Ljava/lang/String;)Z" } : Jvm.MethodName)) : Jvm.Cond).before a0 Z = true := hw _ (List.mem_of_getElem? (i := 63) rfl)
theorem w62 {Z a0} (hw : HW a0 Z) : ((Jvm.Cond.instanceMethod ({ cls := "com/example/chainvouch/chainvouch/chain/TimeRange", name := "startsAfter", desc := "(Ljava/lang/String;)Z" } : Jvm.MethodName)) : Jvm.Cond).before a0 Z = true := hw _ (List.mem_of_getElem? (i := 62) rfl)
theorem w64 {Z a0} (hw : HW a0 Z) : ((Jvm.Cond.code ({ cls := "com/example/chainvouch/chainvouch/chain/TimeRange", name := "startsAfter", desc := "(Ljava/lang/String;)Z" } : Jvm.MethodName) prog_15_method_3_code (2 : Nat) (Option.some Jvm.ClassFile.FieldType.boolean)) : Jvm.Cond).before a0 Z = true := hw _ (List.mem_of_getElem? (i := 64) rfl)
theorem d12_0 : decode method_3_code 0 = .ok (.iload_n 0, 1) := by decide +kernel
theorem d12_1 : decode method_3_code 1 = .ok (.ifCond .eq 7, 3) := by decide +kernel
theorem d12_8 : decode method_3_code 8 = .ok (.iload_n 0, 1) := by decide +kernel
theorem d12_9 : decode method_3_code 9 = .ok (.iload_n 3, 1) := by decide +kernel
theorem d12_10 : decode method_3_code 10 = .ok (.if_icmp .lt 7, 3) := by decide +kernel
theorem d12_13 : decode method_3_code 13 = .ok (.iconst 1, 1) := by decide +kernel
theorem d12_14 : decode method_3_code 14 = .ok (.goto 4, 3) := by decide +kernel
theorem d12_18 : decode method_3_code 18 = .ok (.ireturn, 1) := by decide +kernel
theorem c19_geq {Z a0} (hw : HW a0 Z) (hs : SF Z) {x1 : Int32} (hx1 : 0 ≤ x1.toInt ∧ x1.toInt ≤ 255) {x2 : Int32} (hx2 : 0 ≤ x2.toInt ∧ x2.toInt ≤ 255) {x3 : Int32} (hx3 : 0 ≤ x3.toInt ∧ x3.toInt ≤ 255) {x4 : Int32} (hx4 : 0 ≤ x4.toInt ∧ x4.toInt ≤ 255) {F : List Ent} : Con Z EL (⟨"com/example/chainvouch/chainvouch/chain/TimeRangeStartsAfterPinLaw", "geq", "(IIIIII)Z"⟩ : MethodName) method_3_code 6 (Option.some Jvm.ClassFile.FieldType.boolean) (rmm 0 0 0 0) [(vi 0), (vi x1), (vi x2), (vi 0), (vi x3), (vi x4)] (F) (fun v D' => (v = some (vi 1) ∧ F = D')) := by
  refine Con.of (ls := #[iv 0, iv x1, iv x2, iv 0, iv x3, iv x4]) (by decide +kernel) rfl ?_
  show W Z EL _ "com/example/chainvouch/chainvouch/chain/TimeRangeStartsAfterPinLaw" "geq" _ _ _ _ _ _ _ _ _ _
  refine W.iloadN (pc := 0) d12_0 rfl ?_
  refine W.ifY (pc := 1) 8 d12_1 (y_eq (by decide)) (by decide) ?_
  refine W.iloadN (pc := 8) d12_8 rfl ?_
  refine W.iloadN (pc := 9) d12_9 rfl ?_
  refine W.icmpN (pc := 10) d12_10 (n_lt (by decide)) ?_
  refine W.iconst (pc := 13) (1) d12_13 (by decide) ?_
  refine W.goto (pc := 14) 18 d12_14 (by decide) ?_
  exact W.ireturn (pc := 18) d12_18 rfl (Or.inr (Or.inl rfl)) (nw_bool (by decide)) (by decide) ⟨rfl, rfl⟩
theorem q255 : (255 : Int32).toInt = 255 := by decide
theorem am_255 (x : Int32) : (x &&& (255 : Int32)).toInt = x.toInt % 256 := a_and x 255 8 256 (by decide) (by decide) (by decide)
theorem q8 : (8 : Int32).toInt = 8 := by decide
theorem aushr_8 (x : Int32) : (XT.ushr x (8 : Int32)).toInt = (x.toInt % 4294967296) / 256 := a_ushr x 8 8 256 (by decide) (by decide) (by decide)
theorem pd_IIIIII_Z : parseMethodDescriptor "(IIIIII)Z" = some ⟨[.int, .int, .int, .int, .int, .int], some .boolean⟩ := by decide +kernel
theorem w65 {Z a0} (hw : HW a0 Z) : ((Jvm.Cond.methodLink "com/example/chainvouch/chainvouch/chain/TimeRangeStartsAfterPinLaw" (23 : Nat) ({ cls := "com/example/chainvouch/chainvouch/chain/TimeRangeStartsAfterPinLaw", name := "geq", desc := "(IIIIII)Z" } : Jvm.MethodName)) : Jvm.Cond).before a0 Z = true := hw _ (List.mem_of_getElem? (i := 65) rfl)
theorem w66 {Z a0} (hw : HW a0 Z) : ((Jvm.Cond.static ({ cls := "com/example/chainvouch/chainvouch/chain/TimeRangeStartsAfterPinLaw", name := "geq", desc := "(IIIIII)Z" } : Jvm.MethodName)) : Jvm.Cond).before a0 Z = true := hw _ (List.mem_of_getElem? (i := 66) rfl)
theorem w67 {Z a0} (hw : HW a0 Z) : ((Jvm.Cond.initialized "com/example/chainvouch/chainvouch/chain/TimeRangeStartsAfterPinLaw") : Jvm.Cond).before a0 Z = true := hw _ (List.mem_of_getElem? (i := 67) rfl)
theorem w68 {Z a0} (hw : HW a0 Z) : ((Jvm.Cond.code ({ cls := "com/example/chainvouch/chainvouch/chain/TimeRangeStartsAfterPinLaw", name := "geq", desc := "(IIIIII)Z" } : Jvm.MethodName) method_3_code (6 : Nat) (Option.some Jvm.ClassFile.FieldType.boolean)) : Jvm.Cond).before a0 Z = true := hw _ (List.mem_of_getElem? (i := 68) rfl)
theorem c20_init {Z a0} (hw : HW a0 Z) (hs : SF Z) {p1 : Addr} {F : List Ent} : Con Z EL (⟨"com/example/chainvouch/chainvouch/chain/TimeRange", "<init>", "(Ljava/lang/String;Ljava/lang/String;)V"⟩ : MethodName) prog_15_method_1_code 3 (Option.none : Option Jvm.ClassFile.FieldType) (rmm 1 0 0 12) [(vr p1), .null, .null] ((p1, true, oTimeRange .null .null) :: F) (fun v D' => (v = none ∧ (p1, true, oTimeRange .null .null) :: F = D')) := by
  refine Con.of (ls := #[rv p1, .val .null, .val .null]) (by decide +kernel) rfl ?_
  show W Z EL _ "com/example/chainvouch/chainvouch/chain/TimeRange" "<init>" _ _ _ _ _ _ _ _ _ _
  refine W.aloadN (pc := 0) d4_0 rfl rfl ?_
  refine W.initO (pc := 1) 0 d4_1 (w29 hw) (w12 hw) (w13 hw) rfl rfl (by decide) ?_
  refine W.aloadN (pc := 4) d4_4 rfl rfl ?_
  refine W.ifnullY (pc := 5) 35 d4_5 (by decide) ?_
  refine W.aloadN (pc := 35) d4_35 rfl rfl ?_
  refine W.aloadN (pc := 36) d4_36 rfl rfl ?_
  refine W.putf (pc := 37) (D' := (p1, true, oTimeRange .null .null) :: F) 0 0 d4_37 (w56 hw) Via.refl rfl rfl (Or.inr ⟨(w57 hw), rfl, rfl⟩) (w24 hw) pfLjava_lang_String_ rfl rfl rfl ?_
  refine W.aloadN (pc := 40) d4_40 rfl rfl ?_
  refine W.aloadN (pc := 41) d4_41 rfl rfl ?_
  refine W.putf (pc := 42) (D' := (p1, true, oTimeRange .null .null) :: F) 0 1 d4_42 (w58 hw) Via.refl rfl rfl (Or.inr ⟨(w59 hw), rfl, rfl⟩) (w24 hw) pfLjava_lang_String_ rfl rfl rfl ?_
  exact W.return_ (pc := 45) d4_45 rfl (by decide) ⟨rfl, rfl⟩
theorem c21_init {Z a0} (hw : HW a0 Z) (hs : SF Z) {p1 p2 p3 : Addr} {F : List Ent} : Con Z EL (⟨"com/example/chainvouch/chainvouch/chain/TimeRange", "<init>", "(Ljava/lang/String;Ljava/lang/String;)V"⟩ : MethodName) prog_15_method_1_code 3 (Option.none : Option Jvm.ClassFile.FieldType) (rmm 1 0 0 12) [(vr p1), (vr p2), .null] ((p1, true, oTimeRange .null .null) :: F) (fun v D' => (v = none ∧ (p1, true, oTimeRange (vr p2) .null) :: F = D')) := by
  refine Con.of (ls := #[rv p1, rv p2, .val .null]) (by decide +kernel) rfl ?_
  show W Z EL _ "com/example/chainvouch/chainvouch/chain/TimeRange" "<init>" _ _ _ _ _ _ _ _ _ _
  refine W.aloadN (pc := 0) d4_0 rfl rfl ?_
  refine W.initO (pc := 1) 0 d4_1 (w29 hw) (w12 hw) (w13 hw) rfl rfl (by decide) ?_
  refine W.aloadN (pc := 4) d4_4 rfl rfl ?_
  refine W.ifnullN (pc := 5) d4_5 ?_
  refine W.aloadN (pc := 8) d4_8 rfl rfl ?_
  refine W.ifnullY (pc := 9) 35 d4_9 (by decide) ?_
  refine W.aloadN (pc := 35) d4_35 rfl rfl ?_
  refine W.aloadN (pc := 36) d4_36 rfl rfl ?_
  refine W.putf (pc := 37) (D' := (p1, true, oTimeRange (vr p2) .null) :: F) 0 0 d4_37 (w56 hw) Via.refl rfl rfl (Or.inr ⟨(w57 hw), rfl, rfl⟩) (w24 hw) pfLjava_lang_String_ rfl rfl rfl ?_
  refine W.aloadN (pc := 40) d4_40 rfl rfl ?_
  refine W.aloadN (pc := 41) d4_41 rfl rfl ?_
  refine W.putf (pc := 42) (D' := (p1, true, oTimeRange (vr p2) .null) :: F) 0 1 d4_42 (w58 hw) Via.refl rfl rfl (Or.inr ⟨(w59 hw), rfl, rfl⟩) (w24 hw) pfLjava_lang_String_ rfl rfl rfl ?_
  exact W.return_ (pc := 45) d4_45 rfl (by decide) ⟨rfl, rfl⟩
theorem d11_22 : decode prog_15_method_3_code 22 = .ok (.iconst 0, 1) := by decide +kernel
theorem c22_startsAfter {Z a0} (hw : HW a0 Z) (hs : SF Z) {p1 p2 p3 : Addr} {u1 : Value} (hu1 : u1.isRef = true) {w_p1 : Bool} {F : List Ent} (mp1 : (p1, w_p1, oTimeRange u1 .null) ∈ F) : Con Z EL (⟨"com/example/chainvouch/chainvouch/chain/TimeRange", "startsAfter", "(Ljava/lang/String;)Z"⟩ : MethodName) prog_15_method_3_code 2 (Option.some Jvm.ClassFile.FieldType.boolean) (rmm 0 0 0 0) [(vr p1), (vr p2)] (F) (fun v D' => (v = some (vi 0) ∧ F = D')) := by
  refine Con.of (ls := #[rv p1, rv p2]) (by decide +kernel) rfl ?_
  show W Z EL _ "com/example/chainvouch/chainvouch/chain/TimeRange" "startsAfter" _ _ _ _ _ _ _ _ _ _
  refine W.aloadN (pc := 0) d11_0 rfl rfl ?_
  refine W.getf (pc := 1) d11_1 (w58 hw) Via.refl mp1 m1 ?_
  refine W.ifnullY (pc := 4) 22 d11_4 (by decide) ?_
  refine W.iconst (pc := 22) (0) d11_22 (by decide) ?_
  exact W.ireturn (pc := 23) d11_23 rfl (Or.inr (Or.inl rfl)) (nw_bool (by decide)) (by decide) ⟨rfl, rfl⟩
theorem ix1 : Idx (1 : Int32) 1 := by unfold Idx; decide
theorem d2_27 : decode jdk_42_method_149_code 27 = .ok (.getstatic 38, 3) := by decide +kernel
theorem d2_30 : decode jdk_42_method_149_code 30 = .ok (.ifCond .eq 28, 3) := by decide +kernel
theorem d2_33 : decode jdk_42_method_149_code 33 = .ok (.aload_n 1, 1) := by decide +kernel
theorem d2_34 : decode jdk_42_method_149_code 34 = .ok (.iload_n 2, 1) := by decide +kernel
theorem d2_35 : decode jdk_42_method_149_code 35 = .ok (.iload_n 3, 1) := by decide +kernel
theorem d2_36 : decode jdk_42_method_149_code 36 = .ok (.invokestatic 177, 3) := by decide +kernel
theorem d13_0 : decode jdk_52_method_16_code 0 = .ok (.iload_n 2, 1) := by decide +kernel
theorem d13_1 : decode jdk_52_method_16_code 1 = .ok (.newarray .byte, 2) := by decide +kernel
theorem d13_3 : decode jdk_52_method_16_code 3 = .ok (.astore_n 3, 1) := by decide +kernel
theorem d13_4 : decode jdk_52_method_16_code 4 = .ok (.aload_n 0, 1) := by decide +kernel
theorem d13_5 : decode jdk_52_method_16_code 5 = .ok (.iload_n 1, 1) := by decide +kernel
theorem d13_6 : decode jdk_52_method_16_code 6 = .ok (.aload_n 3, 1) := by decide +kernel
theorem d13_7 : decode jdk_52_method_16_code 7 = .ok (.iconst 0, 1) := by decide +kernel
theorem d13_8 : decode jdk_52_method_16_code 8 = .ok (.iload_n 2, 1) := by decide +kernel
theorem d13_9 : decode jdk_52_method_16_code 9 = .ok (.invokestatic 115, 3) := by decide +kernel
theorem d14_0 : decode jdk_52_method_21_code 0 = .ok (.iconst 0, 1) := by decide +kernel
theorem d14_1 : decode jdk_52_method_21_code 1 = .ok (.istore 5, 2) := by decide +kernel
theorem d14_3 : decode jdk_52_method_21_code 3 = .ok (.iload 5, 2) := by decide +kernel
theorem d14_5 : decode jdk_52_method_21_code 5 = .ok (.iload 4, 2) := by decide +kernel
theorem d14_7 : decode jdk_52_method_21_code 7 = .ok (.if_icmp .ge 37, 3) := by decide +kernel
theorem d14_10 : decode jdk_52_method_21_code 10 = .ok (.aload_n 0, 1) := by decide +kernel
theorem d14_11 : decode jdk_52_method_21_code 11 = .ok (.iload_n 1, 1) := by decide +kernel
theorem d14_12 : decode jdk_52_method_21_code 12 = .ok (.caload, 1) := by decide +kernel
theorem d14_13 : decode jdk_52_method_21_code 13 = .ok (.istore 6, 2) := by decide +kernel
theorem d14_15 : decode jdk_52_method_21_code 15 = .ok (.iload 6, 2) := by decide +kernel
theorem d14_17 : decode jdk_52_method_21_code 17 = .ok (.sipush 255, 3) := by decide +kernel
theorem d14_20 : decode jdk_52_method_21_code 20 = .ok (.if_icmp .le 6, 3) := by decide +kernel
theorem d14_26 : decode jdk_52_method_21_code 26 = .ok (.aload_n 2, 1) := by decide +kernel
theorem d14_27 : decode jdk_52_method_21_code 27 = .ok (.iload_n 3, 1) := by decide +kernel
theorem d14_28 : decode jdk_52_method_21_code 28 = .ok (.iload 6, 2) := by decide +kernel
theorem d14_30 : decode jdk_52_method_21_code 30 = .ok (.i2b, 1) := by decide +kernel
theorem d14_31 : decode jdk_52_method_21_code 31 = .ok (.bastore, 1) := by decide +kernel
theorem d14_32 : decode jdk_52_method_21_code 32 = .ok (.iinc 1 1, 3) := by decide +kernel
theorem d14_35 : decode jdk_52_method_21_code 35 = .ok (.iinc 3 1, 3) := by decide +kernel
theorem d14_38 : decode jdk_52_method_21_code 38 = .ok (.iinc 5 1, 3) := by decide +kernel
theorem d14_41 : decode jdk_52_method_21_code 41 = .ok (.goto (-38), 3) := by decide +kernel
theorem d14_44 : decode jdk_52_method_21_code 44 = .ok (.iload 4, 2) := by decide +kernel
theorem d14_46 : decode jdk_52_method_21_code 46 = .ok (.ireturn, 1) := by decide +kernel
theorem c26_compress {Z a0} (hw : HW a0 Z) (hs : SF Z) {p1 p2 : Addr} {x1 : Int32} (hx1 : 0 ≤ x1.toInt ∧ x1.toInt ≤ 255) {ad_p2 : String} {w_p1 : Bool} {ad_p1 : String} {F : List Ent} (mp1 : (p1, w_p1, ar ad_p1 .char [(vi x1)]) ∈ F) : Con Z EL (⟨"java/lang/StringUTF16", "compress", "([CI[BII)I"⟩ : MethodName) jdk_52_method_21_code 7 (Option.some Jvm.ClassFile.FieldType.int) (rmm 0 0 0 0) [(vr p1), (vi 0), (vr p2), (vi 0), (vi 1)] ((p2, true, ar ad_p2 .byte [(vi 0)]) :: F) (fun v D' => (v = some (vi 1) ∧ (p2, true, ar ad_p2 .byte [(vi x1.toInt8.toInt32)]) :: F = D')) := by
  refine Con.of (ls := #[rv p1, iv 0, rv p2, iv 0, iv 1, uu, uu]) (by decide +kernel) rfl ?_
  show W Z EL _ "java/lang/StringUTF16" "compress" _ _ _ _ _ _ _ _ _ _
  refine W.iconst (pc := 0) (0) d14_0 (by decide) ?_
  refine W.istore (pc := 1) (ls' := #[rv p1, iv 0, rv p2, iv 0, iv 1, iv 0, uu]) d14_1 rfl ?_
  refine W.iload (pc := 3) d14_3 rfl ?_
  refine W.iload (pc := 5) d14_5 rfl ?_
  refine W.icmpN (pc := 7) d14_7 (n_ge (by decide)) ?_
  refine W.aloadN (pc := 10) d14_10 rfl rfl ?_
  refine W.iloadN (pc := 11) d14_11 rfl ?_
  refine W.caload (pc := 12) 0 d14_12 (mS mp1) ix0 rfl ?_
  refine W.istore (pc := 13) (ls' := #[rv p1, iv 0, rv p2, iv 0, iv 1, iv 0, iv x1]) d14_13 rfl ?_
  refine W.iload (pc := 15) d14_15 rfl ?_
  refine W.sipush (pc := 17) (255) d14_17 (by decide) ?_
  refine W.icmpY (pc := 20) 26 d14_20 (y_le (by have := q255; omega)) (by decide) ?_
  refine W.aloadN (pc := 26) d14_26 rfl rfl ?_
  refine W.iloadN (pc := 27) d14_27 rfl ?_
  refine W.iload (pc := 28) d14_28 rfl ?_
  refine W.i2b (pc := 30) d14_30 ?_
  refine W.bastore (pc := 31) (D' := (p2, true, ar ad_p2 .byte [(vi x1.toInt8.toInt32)]) :: F) 0 0 d14_31 rfl ix0 (Nat.le_of_ble_eq_true rfl) (z_narB (by have := a_i2b x1; omega)) rfl ?_
  refine W.iincK (pc := 32) (ls' := #[rv p1, iv 1, rv p2, iv 0, iv 1, iv 0, iv x1]) (1) (1 : Int32) d14_32 (by decide) rfl (by decide) rfl ?_
  refine W.iincK (pc := 35) (ls' := #[rv p1, iv 1, rv p2, iv 1, iv 1, iv 0, iv x1]) (1) (1 : Int32) d14_35 (by decide) rfl (by decide) rfl ?_
  refine W.iincK (pc := 38) (ls' := #[rv p1, iv 1, rv p2, iv 1, iv 1, iv 1, iv x1]) (1) (1 : Int32) d14_38 (by decide) rfl (by decide) rfl ?_
  refine W.goto (pc := 41) 3 d14_41 (by decide) ?_
  refine W.iload (pc := 3) d14_3 rfl ?_
  refine W.iload (pc := 5) d14_5 rfl ?_
  refine W.icmpY (pc := 7) 44 d14_7 (y_ge (by decide)) (by decide) ?_
  refine W.iload (pc := 44) d14_44 rfl ?_
  exact W.ireturn (pc := 46) d14_46 rfl (Or.inl rfl) rfl (by decide) ⟨rfl, rfl⟩
theorem pd__CI_BII_I : parseMethodDescriptor "([CI[BII)I" = some ⟨[(.array .char), .int, (.array .byte), .int, .int], some .int⟩ := by decide +kernel
theorem w73 {Z a0} (hw : HW a0 Z) : ((Jvm.Cond.methodLink "java/lang/StringUTF16" (115 : Nat) ({ cls := "java/lang/StringUTF16", name := "compress", desc := "([CI[BII)I" } : Jvm.MethodName)) : Jvm.Cond).before a0 Z = true := hw _ (List.mem_of_getElem? (i := 73) rfl)
theorem w74 {Z a0} (hw : HW a0 Z) : ((Jvm.Cond.static ({ cls := "java/lang/StringUTF16", name := "compress", desc := "([CI[BII)I" } : Jvm.MethodName)) : Jvm.Cond).before a0 Z = true := hw _ (List.mem_of_getElem? (i := 74) rfl)
theorem w71 {Z a0} (hw : HW a0 Z) : ((Jvm.Cond.initialized "java/lang/StringUTF16") : Jvm.Cond).before a0 Z = true := hw _ (List.mem_of_getElem? (i := 71) rfl)
theorem w75 {Z a0} (hw : HW a0 Z) : ((Jvm.Cond.code ({ cls := "java/lang/StringUTF16", name := "compress", desc := "([CI[BII)I" } : Jvm.MethodName) jdk_52_method_21_code (7 : Nat) (Option.some Jvm.ClassFile.FieldType.int)) : Jvm.Cond).before a0 Z = true := hw _ (List.mem_of_getElem? (i := 75) rfl)
theorem d13_12 : decode jdk_52_method_16_code 12 = .ok (.istore 4, 2) := by decide +kernel
theorem d13_14 : decode jdk_52_method_16_code 14 = .ok (.iload 4, 2) := by decide +kernel
theorem d13_16 : decode jdk_52_method_16_code 16 = .ok (.iload_n 2, 1) := by decide +kernel
theorem d13_17 : decode jdk_52_method_16_code 17 = .ok (.if_icmp .eq 40, 3) := by decide +kernel
theorem d13_57 : decode jdk_52_method_16_code 57 = .ok (.aload_n 3, 1) := by decide +kernel
theorem d13_58 : decode jdk_52_method_16_code 58 = .ok (.areturn, 1) := by decide +kernel
theorem c25_compress {Z a0} (hw : HW a0 Z) (hs : SF Z) {p1 : Addr} {x1 : Int32} (hx1 : 0 ≤ x1.toInt ∧ x1.toInt ≤ 255) {w_p1 : Bool} {ad_p1 : String} {F : List Ent} (mp1 : (p1, w_p1, ar ad_p1 .char [(vi x1)]) ∈ F) : Con Z EL (⟨"java/lang/StringUTF16", "compress", "([CII)[B"⟩ : MethodName) jdk_52_method_16_code 6 (Option.some (Jvm.ClassFile.FieldType.array Jvm.ClassFile.FieldType.byte)) (rmm 1 1 1 18) [(vr p1), (vi 0), (vi 1)] (F) (fun v D' => (∃ a1 : Addr, v = some (vr a1) ∧ (a1, true, ar "[B" .byte [(vi x1.toInt8.toInt32)]) :: F = D')) := by
  refine Con.of (ls := #[rv p1, iv 0, iv 1, uu, uu, uu]) (by decide +kernel) rfl ?_
  show W Z EL _ "java/lang/StringUTF16" "compress" _ _ _ _ _ _ _ _ _ _
  refine W.iloadN (pc := 0) d13_0 rfl ?_
  refine W.newarr (pc := 1) 1 (ad := "[B") (ty := .byte) d13_1 rfl (w15 hw) ix1 rfl (by decide) (by decide) (fun a1 => ?_)
  show W _ _ _ _ _ _ _ _ _ _ _ _ 3 _ [(vr a1)]
  refine W.astoreN (pc := 3) (ls' := #[rv p1, iv 0, iv 1, rv a1, uu, uu]) d13_3 rfl rfl ?_
  refine W.aloadN (pc := 4) d13_4 rfl rfl ?_
  refine W.iloadN (pc := 5) d13_5 rfl ?_
  refine W.aloadN (pc := 6) d13_6 rfl rfl ?_
  refine W.iconst (pc := 7) (0) d13_7 (by decide) ?_
  refine W.iloadN (pc := 8) d13_8 rfl ?_
  refine W.callS (pc := 9) (as := [(vr p1), (vi 0), (vr a1), (vi 0), (vi 1)]) 0 [] d13_9 (w73 hw) (w74 hw) (w71 hw) (w75 hw) (c26_compress hw hs (p1 := p1) (p2 := a1) (x1 := x1) (hx1 := hx1) (mp1 := mp1)) (by decide) pd__CI_BII_I rfl rfl rfl rfl (by decide) (fun v D' h => ?_)
  obtain ⟨rfl, rfl⟩ := h
  show W _ _ _ _ _ _ _ _ _ _ _ _ 12 _ [(vi 1)]
  refine W.istore (pc := 12) (ls' := #[rv p1, iv 0, iv 1, rv a1, iv 1, uu]) d13_12 rfl ?_
  refine W.iload (pc := 14) d13_14 rfl ?_
  refine W.iloadN (pc := 16) d13_16 rfl ?_
  refine W.icmpY (pc := 17) 57 d13_17 (y_eq (by decide)) (by decide) ?_
  refine W.aloadN (pc := 57) d13_57 rfl rfl ?_
  exact W.areturn (pc := 58) d13_58 rfl rfl rfl (by decide) ⟨a1, rfl, rfl⟩
theorem pd__CII__B : parseMethodDescriptor "([CII)[B" = some ⟨[(.array .char), .int, .int], some (.array .byte)⟩ := by decide +kernel
theorem w69 {Z a0} (hw : HW a0 Z) : ((Jvm.Cond.methodLink "java/lang/String" (177 : Nat) ({ cls := "java/lang/StringUTF16", name := "compress", desc := "([CII)[B" } : Jvm.MethodName)) : Jvm.Cond).before a0 Z = true := hw _ (List.mem_of_getElem? (i := 69) rfl)
theorem w70 {Z a0} (hw : HW a0 Z) : ((Jvm.Cond.static ({ cls := "java/lang/StringUTF16", name := "compress", desc := "([CII)[B" } : Jvm.MethodName)) : Jvm.Cond).before a0 Z = true := hw _ (List.mem_of_getElem? (i := 70) rfl)
theorem w72 {Z a0} (hw : HW a0 Z) : ((Jvm.Cond.code ({ cls := "java/lang/StringUTF16", name := "compress", desc := "([CII)[B" } : Jvm.MethodName) jdk_52_method_16_code (6 : Nat) (Option.some (Jvm.ClassFile.FieldType.array Jvm.ClassFile.FieldType.byte))) : Jvm.Cond).before a0 Z = true := hw _ (List.mem_of_getElem? (i := 72) rfl)
theorem d2_39 : decode jdk_42_method_149_code 39 = .ok (.astore 5, 2) := by decide +kernel
theorem d2_41 : decode jdk_42_method_149_code 41 = .ok (.aload_n 0, 1) := by decide +kernel
theorem d2_42 : decode jdk_42_method_149_code 42 = .ok (.aload 5, 2) := by decide +kernel
theorem d2_44 : decode jdk_42_method_149_code 44 = .ok (.iload_n 3, 1) := by decide +kernel
theorem d2_45 : decode jdk_42_method_149_code 45 = .ok (.invokestatic 47, 3) := by decide +kernel
theorem d15_0 : decode jdk_52_method_15_code 0 = .ok (.iload_n 1, 1) := by decide +kernel
theorem d15_1 : decode jdk_52_method_15_code 1 = .ok (.aload_n 0, 1) := by decide +kernel
theorem d15_2 : decode jdk_52_method_15_code 2 = .ok (.arraylength, 1) := by decide +kernel
theorem d15_3 : decode jdk_52_method_15_code 3 = .ok (.isub, 1) := by decide +kernel
theorem d15_4 : decode jdk_52_method_15_code 4 = .ok (.bipush 31, 2) := by decide +kernel
theorem d15_6 : decode jdk_52_method_15_code 6 = .ok (.iushr, 1) := by decide +kernel
theorem d15_7 : decode jdk_52_method_15_code 7 = .ok (.i2b, 1) := by decide +kernel
theorem d15_8 : decode jdk_52_method_15_code 8 = .ok (.ireturn, 1) := by decide +kernel
theorem c27_coderFromArrayLen {Z a0} (hw : HW a0 Z) (hs : SF Z) {p1 : Addr} {x1 : Int32} (hx1 : -128 ≤ x1.toInt ∧ x1.toInt ≤ 127) {w_p1 : Bool} {ad_p1 : String} {F : List Ent} (mp1 : (p1, w_p1, ar ad_p1 .byte [(vi x1)]) ∈ F) : Con Z EL (⟨"java/lang/StringUTF16", "coderFromArrayLen", "([BI)B"⟩ : MethodName) jdk_52_method_15_code 2 (Option.some Jvm.ClassFile.FieldType.byte) (rmm 0 0 0 0) [(vr p1), (vi 1)] (F) (fun v D' => (v = some (vi 0) ∧ F = D')) := by
  refine Con.of (ls := #[rv p1, iv 1]) (by decide +kernel) rfl ?_
  show W Z EL _ "java/lang/StringUTF16" "coderFromArrayLen" _ _ _ _ _ _ _ _ _ _
  refine W.iloadN (pc := 0) d15_0 rfl ?_
  refine W.aloadN (pc := 1) d15_1 rfl rfl ?_
  refine W.alen (pc := 2) (1) d15_2 mp1 rfl ?_
  refine W.isubK (pc := 3) (0 : Int32) d15_3 (by decide) ?_
  refine W.bipush (pc := 4) (31) d15_4 (by decide) ?_
  refine W.iushrK (pc := 6) (0 : Int32) d15_6 (by decide) ?_
  refine W.i2bK (pc := 7) (0 : Int32) d15_7 (by decide) ?_
  exact W.ireturn (pc := 8) d15_8 rfl (Or.inr (Or.inr (Or.inl rfl))) (nw_byte (by decide)) (by decide) ⟨rfl, rfl⟩
theorem pd__BI_B : parseMethodDescriptor "([BI)B" = some ⟨[(.array .byte), .int], some .byte⟩ := by decide +kernel
theorem w76 {Z a0} (hw : HW a0 Z) : ((Jvm.Cond.methodLink "java/lang/String" (47 : Nat) ({ cls := "java/lang/StringUTF16", name := "coderFromArrayLen", desc := "([BI)B" } : Jvm.MethodName)) : Jvm.Cond).before a0 Z = true := hw _ (List.mem_of_getElem? (i := 76) rfl)
theorem w77 {Z a0} (hw : HW a0 Z) : ((Jvm.Cond.static ({ cls := "java/lang/StringUTF16", name := "coderFromArrayLen", desc := "([BI)B" } : Jvm.MethodName)) : Jvm.Cond).before a0 Z = true := hw _ (List.mem_of_getElem? (i := 77) rfl)
theorem w78 {Z a0} (hw : HW a0 Z) : ((Jvm.Cond.code ({ cls := "java/lang/StringUTF16", name := "coderFromArrayLen", desc := "([BI)B" } : Jvm.MethodName) jdk_52_method_15_code (2 : Nat) (Option.some Jvm.ClassFile.FieldType.byte)) : Jvm.Cond).before a0 Z = true := hw _ (List.mem_of_getElem? (i := 78) rfl)
theorem d2_48 : decode jdk_42_method_149_code 48 = .ok (.putfield 15, 3) := by decide +kernel
theorem d2_51 : decode jdk_42_method_149_code 51 = .ok (.aload_n 0, 1) := by decide +kernel
theorem d2_52 : decode jdk_42_method_149_code 52 = .ok (.aload 5, 2) := by decide +kernel
theorem d2_54 : decode jdk_42_method_149_code 54 = .ok (.putfield 9, 3) := by decide +kernel
theorem d2_57 : decode jdk_42_method_149_code 57 = .ok (.return_, 1) := by decide +kernel
theorem c24_init {Z a0} (hw : HW a0 Z) (hs : SF Z) {p1 p2 : Addr} {x1 : Int32} (hx1 : 0 ≤ x1.toInt ∧ x1.toInt ≤ 255) {w_p2 : Bool} {ad_p2 : String} {F : List Ent} (mp2 : (p2, w_p2, ar ad_p2 .char [(vi x1)]) ∈ F) : Con Z EL (⟨"java/lang/String", "<init>", "([CIILjava/lang/Void;)V"⟩ : MethodName) jdk_42_method_149_code 6 (Option.none : Option Jvm.ClassFile.FieldType) (rmm 2 1 1 35) [(vr p1), (vr p2), (vi 0), (vi 1), .null] ((p1, true, oString .null (vi 0)) :: F) (fun v D' => (∃ a1 : Addr, v = none ∧ (a1, true, ar "[B" .byte [(vi x1.toInt8.toInt32)]) :: (p1, true, oString (vr a1) (vi 0)) :: F = D')) := by
  refine Con.of (ls := #[rv p1, rv p2, iv 0, iv 1, .val .null, uu]) (by decide +kernel) rfl ?_
  show W Z EL _ "java/lang/String" "<init>" _ _ _ _ _ _ _ _ _ _
  refine W.aloadN (pc := 0) d2_0 rfl rfl ?_
  refine W.initO (pc := 1) 0 d2_1 (w11 hw) (w12 hw) (w13 hw) rfl rfl (by decide) ?_
  refine W.iloadN (pc := 4) d2_4 rfl ?_
  refine W.ifY (pc := 5) 27 d2_5 (y_ne (by decide)) (by decide) ?_
  refine W.gets (pc := 27) d2_27 (w40 hw) Via.refl hs.1 ?_
  refine W.ifN (pc := 30) d2_30 (n_eq (by have := hs.2.1; have := q0; omega)) ?_
  refine W.aloadN (pc := 33) d2_33 rfl rfl ?_
  refine W.iloadN (pc := 34) d2_34 rfl ?_
  refine W.iloadN (pc := 35) d2_35 rfl ?_
  refine W.callS (pc := 36) (as := [(vr p2), (vi 0), (vi 1)]) 0 [] d2_36 (w69 hw) (w70 hw) (w71 hw) (w72 hw) (c25_compress hw hs (p1 := p2) (x1 := x1) (hx1 := hx1) (mp1 := (mS mp2))) (by decide) pd__CII__B rfl rfl rfl rfl (by decide) (fun v D' h => ?_)
  obtain ⟨a1, rfl, rfl⟩ := h
  show W _ _ _ _ _ _ _ _ _ _ _ _ 39 _ [(vr a1)]
  refine W.astore (pc := 39) (ls' := #[rv p1, rv p2, iv 0, iv 1, .val .null, rv a1]) d2_39 rfl rfl ?_
  refine W.aloadN (pc := 41) d2_41 rfl rfl ?_
  refine W.aload (pc := 42) 5 d2_42 rfl rfl ?_
  refine W.iloadN (pc := 44) d2_44 rfl ?_
  refine W.callS (pc := 45) (as := [(vr a1), (vi 1)]) 1 [(vr p1)] d2_45 (w76 hw) (w77 hw) (w71 hw) (w78 hw) (c27_coderFromArrayLen hw hs (p1 := a1) (x1 := x1.toInt8.toInt32) (hx1 := (by have := a_i2b x1; omega)) (mp1 := m0)) (by decide) pd__BI_B rfl rfl rfl rfl (by decide) (fun v D' h => ?_)
  obtain ⟨rfl, rfl⟩ := h
  show W _ _ _ _ _ _ _ _ _ _ _ _ 48 _ [(vi 0), (vr p1)]
  refine W.putf (pc := 48) (D' := (a1, true, ar "[B" .byte [(vi x1.toInt8.toInt32)]) :: (p1, true, oString .null (vi 0)) :: F) 1 1 d2_48 (w21 hw) Via.refl rfl rfl (Or.inr ⟨(w17 hw), rfl, rfl⟩) (w2 hw) pfB (nw_byte (by decide)) (ft_byte (by decide)) rfl ?_
  refine W.aloadN (pc := 51) d2_51 rfl rfl ?_
  refine W.aload (pc := 52) 5 d2_52 rfl rfl ?_
  refine W.putf (pc := 54) (D' := (a1, true, ar "[B" .byte [(vi x1.toInt8.toInt32)]) :: (p1, true, oString (vr a1) (vi 0)) :: F) 1 0 d2_54 (w20 hw) Via.refl rfl rfl (Or.inr ⟨(w16 hw), rfl, rfl⟩) (w2 hw) pf_B rfl rfl rfl ?_
  exact W.return_ (pc := 57) d2_57 rfl (by decide) ⟨a1, rfl, rfl⟩
theorem c23_init {Z a0} (hw : HW a0 Z) (hs : SF Z) {p1 p2 : Addr} {x1 : Int32} (hx1 : 0 ≤ x1.toInt ∧ x1.toInt ≤ 255) {w_p2 : Bool} {ad_p2 : String} {F : List Ent} (mp2 : (p2, w_p2, ar ad_p2 .char [(vi x1)]) ∈ F) : Con Z EL (⟨"java/lang/String", "<init>", "([C)V"⟩ : MethodName) jdk_42_method_3_code 2 (Option.none : Option Jvm.ClassFile.FieldType) (rmm 3 1 1 52) [(vr p1), (vr p2)] ((p1, true, oString .null (vi 0)) :: F) (fun v D' => (∃ a1 : Addr, v = none ∧ (a1, true, ar "[B" .byte [(vi x1.toInt8.toInt32)]) :: (p1, true, oString (vr a1) (vi 0)) :: F = D')) := by
  refine Con.of (ls := #[rv p1, rv p2]) (by decide +kernel) rfl ?_
  show W Z EL _ "java/lang/String" "<init>" _ _ _ _ _ _ _ _ _ _
  refine W.aloadN (pc := 0) d1_0 rfl rfl ?_
  refine W.aloadN (pc := 1) d1_1 rfl rfl ?_
  refine W.iconst (pc := 2) (0) d1_2 (by decide) ?_
  refine W.aloadN (pc := 3) d1_3 rfl rfl ?_
  refine W.alen (pc := 4) (1) d1_4 (mS mp2) rfl ?_
  refine W.aconstNull (pc := 5) d1_5 ?_
  refine W.callI (pc := 6) (as := [(vr p2), (vi 0), (vi 1), .null]) 0 [] d1_6 rfl (w7 hw) (w8 hw) (w3 hw) (w10 hw) (c24_init hw hs (p1 := p1) (p2 := p2) (x1 := x1) (hx1 := hx1) (mp2 := mp2)) (by decide) pd__CIILjava_lang_Void__V rfl rfl rfl rfl (by decide) (fun v D' h => ?_)
  obtain ⟨a1, rfl, rfl⟩ := h
  show W _ _ _ _ _ _ _ _ _ _ _ _ 9 _ []
  exact W.return_ (pc := 9) d1_9 rfl (by decide) ⟨a1, rfl, rfl⟩
theorem c28_init {Z a0} (hw : HW a0 Z) (hs : SF Z) {p1 p2 p3 : Addr} {x1 : Int32} (hx1 : -128 ≤ x1.toInt ∧ x1.toInt ≤ 127) {F : List Ent} : Con Z EL (⟨"com/example/chainvouch/chainvouch/chain/TimeRange", "<init>", "(Ljava/lang/String;Ljava/lang/String;)V"⟩ : MethodName) prog_15_method_1_code 3 (Option.none : Option Jvm.ClassFile.FieldType) (rmm 1 0 0 12) [(vr p1), .null, (vr p2)] ((p1, true, oTimeRange .null .null) :: F) (fun v D' => (v = none ∧ (p1, true, oTimeRange .null (vr p2)) :: F = D')) := by
  refine Con.of (ls := #[rv p1, .val .null, rv p2]) (by decide +kernel) rfl ?_
  show W Z EL _ "com/example/chainvouch/chainvouch/chain/TimeRange" "<init>" _ _ _ _ _ _ _ _ _ _
  refine W.aloadN (pc := 0) d4_0 rfl rfl ?_
  refine W.initO (pc := 1) 0 d4_1 (w29 hw) (w12 hw) (w13 hw) rfl rfl (by decide) ?_
  refine W.aloadN (pc := 4) d4_4 rfl rfl ?_
  refine W.ifnullY (pc := 5) 35 d4_5 (by decide) ?_
  refine W.aloadN (pc := 35) d4_35 rfl rfl ?_
  refine W.aloadN (pc := 36) d4_36 rfl rfl ?_
  refine W.putf (pc := 37) (D' := (p1, true, oTimeRange .null .null) :: F) 0 0 d4_37 (w56 hw) Via.refl rfl rfl (Or.inr ⟨(w57 hw), rfl, rfl⟩) (w24 hw) pfLjava_lang_String_ rfl rfl rfl ?_
  refine W.aloadN (pc := 40) d4_40 rfl rfl ?_
  refine W.aloadN (pc := 41) d4_41 rfl rfl ?_
  refine W.putf (pc := 42) (D' := (p1, true, oTimeRange .null (vr p2)) :: F) 0 1 d4_42 (w58 hw) Via.refl rfl rfl (Or.inr ⟨(w59 hw), rfl, rfl⟩) (w24 hw) pfLjava_lang_String_ rfl rfl rfl ?_
  exact W.return_ (pc := 45) d4_45 rfl (by decide) ⟨rfl, rfl⟩
theorem c31_coder {Z a0} (hw : HW a0 Z) (hs : SF Z) {p1 p2 : Addr} {x1 : Int32} (hx1 : -128 ≤ x1.toInt ∧ x1.toInt ≤ 127) {w_p1 : Bool} {F : List Ent} (mp1 : (p1, w_p1, oString (vr p2) (vi 0)) ∈ F) : Con Z EL (⟨"java/lang/String", "coder", "()B"⟩ : MethodName) jdk_42_method_152_code 1 (Option.some Jvm.ClassFile.FieldType.byte) (rmm 0 0 0 0) [(vr p1)] (F) (fun v D' => (v = some (vi 0) ∧ F = D')) := by
  refine Con.of (ls := #[rv p1]) (by decide +kernel) rfl ?_
  show W Z EL _ "java/lang/String" "coder" _ _ _ _ _ _ _ _ _ _
  refine W.gets (pc := 0) d6_0 (w40 hw) Via.refl hs.1 ?_
  refine W.ifN (pc := 3) d6_3 (n_eq (by have := hs.2.1; have := q0; omega)) ?_
  refine W.aloadN (pc := 6) d6_6 rfl rfl ?_
  refine W.getf (pc := 7) d6_7 (w21 hw) Via.refl mp1 m1 ?_
  refine W.goto (pc := 10) 14 d6_10 (by decide) ?_
  exact W.ireturn (pc := 14) d6_14 rfl (Or.inr (Or.inr (Or.inl rfl))) (nw_byte (by decide)) (by decide) ⟨rfl, rfl⟩
theorem c34_min {Z a0} (hw : HW a0 Z) (hs : SF Z) {F : List Ent} : Con Z EL (⟨"java/lang/Math", "min", "(II)I"⟩ : MethodName) jdk_29_method_69_code 2 (Option.some Jvm.ClassFile.FieldType.int) (rmm 0 0 0 0) [(vi 1), (vi 1)] (F) (fun v D' => (v = some (vi 1) ∧ F = D')) := by
  refine Con.of (ls := #[iv 1, iv 1]) (by decide +kernel) rfl ?_
  show W Z EL _ "java/lang/Math" "min" _ _ _ _ _ _ _ _ _ _
  refine W.iloadN (pc := 0) d9_0 rfl ?_
  refine W.iloadN (pc := 1) d9_1 rfl ?_
  refine W.icmpN (pc := 2) d9_2 (n_gt (by decide)) ?_
  refine W.iloadN (pc := 5) d9_5 rfl ?_
  refine W.goto (pc := 6) 10 d9_6 (by decide) ?_
  exact W.ireturn (pc := 10) d9_10 rfl (Or.inl rfl) rfl (by decide) ⟨rfl, rfl⟩
theorem d10_54 : decode jdk_48_method_13_code 54 = .ok (.aload_n 0, 1) := by decide +kernel
theorem d10_55 : decode jdk_48_method_13_code 55 = .ok (.iload_n 3, 1) := by decide +kernel
theorem d10_56 : decode jdk_48_method_13_code 56 = .ok (.baload, 1) := by decide +kernel
theorem d10_57 : decode jdk_48_method_13_code 57 = .ok (.aload_n 1, 1) := by decide +kernel
theorem d10_58 : decode jdk_48_method_13_code 58 = .ok (.iload_n 3, 1) := by decide +kernel
theorem d10_59 : decode jdk_48_method_13_code 59 = .ok (.baload, 1) := by decide +kernel
theorem d10_60 : decode jdk_48_method_13_code 60 = .ok (.if_icmp .eq 5, 3) := by decide +kernel
theorem d10_65 : decode jdk_48_method_13_code 65 = .ok (.iinc 3 1, 3) := by decide +kernel
theorem d10_68 : decode jdk_48_method_13_code 68 = .ok (.goto (-19), 3) := by decide +kernel
theorem c35_mismatch {Z a0} (hw : HW a0 Z) (hs : SF Z) {p1 : Addr} {x1 : Int32} (hx1 : -128 ≤ x1.toInt ∧ x1.toInt ≤ 127) {w_p1 : Bool} {ad_p1 : String} {F : List Ent} (mp1 : (p1, w_p1, ar ad_p1 .byte [(vi x1)]) ∈ F) : Con Z EL (⟨"jdk/internal/util/ArraysSupport", "mismatch", "([B[BI)I"⟩ : MethodName) jdk_48_method_13_code 4 (Option.some Jvm.ClassFile.FieldType.int) (rmm 0 0 0 0) [(vr p1), (vr p1), (vi 1)] (F) (fun v D' => (v = some (vi (-1)) ∧ F = D')) := by
  refine Con.of (ls := #[rv p1, rv p1, iv 1, uu]) (by decide +kernel) rfl ?_
  show W Z EL _ "jdk/internal/util/ArraysSupport" "mismatch" _ _ _ _ _ _ _ _ _ _
  refine W.iconst (pc := 0) (0) d10_0 (by decide) ?_
  refine W.istoreN (pc := 1) (ls' := #[rv p1, rv p1, iv 1, iv 0]) d10_1 rfl ?_
  refine W.iloadN (pc := 2) d10_2 rfl ?_
  refine W.bipush (pc := 3) (7) d10_3 (by decide) ?_
  refine W.icmpY (pc := 5) 49 d10_5 (y_le (by decide)) (by decide) ?_
  refine W.iloadN (pc := 49) d10_49 rfl ?_
  refine W.iloadN (pc := 50) d10_50 rfl ?_
  refine W.icmpN (pc := 51) d10_51 (n_ge (by decide)) ?_
  refine W.aloadN (pc := 54) d10_54 rfl rfl ?_
  refine W.iloadN (pc := 55) d10_55 rfl ?_
  refine W.baload (pc := 56) 0 d10_56 mp1 ix0 rfl ?_
  refine W.aloadN (pc := 57) d10_57 rfl rfl ?_
  refine W.iloadN (pc := 58) d10_58 rfl ?_
  refine W.baload (pc := 59) 0 d10_59 mp1 ix0 rfl ?_
  refine W.icmpY (pc := 60) 65 d10_60 (y_eq (by omega)) (by decide) ?_
  refine W.iincK (pc := 65) (ls' := #[rv p1, rv p1, iv 1, iv 1]) (1) (1 : Int32) d10_65 (by decide) rfl (by decide) rfl ?_
  refine W.goto (pc := 68) 49 d10_68 (by decide) ?_
  refine W.iloadN (pc := 49) d10_49 rfl ?_
  refine W.iloadN (pc := 50) d10_50 rfl ?_
  refine W.icmpY (pc := 51) 71 d10_51 (y_ge (by decide)) (by decide) ?_
  refine W.iconst (pc := 71) (-1) d10_71 (by decide) ?_
  exact W.ireturn (pc := 72) d10_72 rfl (Or.inl rfl) rfl (by decide) ⟨rfl, rfl⟩
theorem c33_compareTo {Z a0} (hw : HW a0 Z) (hs : SF Z) {p1 : Addr} {x1 : Int32} (hx1 : -128 ≤ x1.toInt ∧ x1.toInt ≤ 127) {w_p1 : Bool} {ad_p1 : String} {F : List Ent} (mp1 : (p1, w_p1, ar ad_p1 .byte [(vi x1)]) ∈ F) : Con Z EL (⟨"java/lang/StringLatin1", "compareTo", "([B[BII)I"⟩ : MethodName) jdk_43_method_15_code 6 (Option.some Jvm.ClassFile.FieldType.int) (rmm 1 0 0 15) [(vr p1), (vr p1), (vi 1), (vi 1)] (F) (fun v D' => (v = some (vi 0) ∧ F = D')) := by
  refine Con.of (ls := #[rv p1, rv p1, iv 1, iv 1, uu, uu]) (by decide +kernel) rfl ?_
  show W Z EL _ "java/lang/StringLatin1" "compareTo" _ _ _ _ _ _ _ _ _ _
  refine W.iloadN (pc := 0) d8_0 rfl ?_
  refine W.iloadN (pc := 1) d8_1 rfl ?_
  refine W.callS (pc := 2) (as := [(vi 1), (vi 1)]) 0 [] d8_2 (w48 hw) (w49 hw) (w50 hw) (w51 hw) (c34_min hw hs) (by decide) pd_II_I rfl rfl rfl rfl (by decide) (fun v D' h => ?_)
  obtain ⟨rfl, rfl⟩ := h
  show W _ _ _ _ _ _ _ _ _ _ _ _ 5 _ [(vi 1)]
  refine W.istore (pc := 5) (ls' := #[rv p1, rv p1, iv 1, iv 1, iv 1, uu]) d8_5 rfl ?_
  refine W.aloadN (pc := 7) d8_7 rfl rfl ?_
  refine W.aloadN (pc := 8) d8_8 rfl rfl ?_
  refine W.iload (pc := 9) d8_9 rfl ?_
  refine W.callS (pc := 11) (as := [(vr p1), (vr p1), (vi 1)]) 0 [] d8_11 (w52 hw) (w53 hw) (w54 hw) (w55 hw) (c35_mismatch hw hs (p1 := p1) (x1 := x1) (hx1 := hx1) (mp1 := mp1)) (by decide) pd__B_BI_I rfl rfl rfl rfl (by decide) (fun v D' h => ?_)
  obtain ⟨rfl, rfl⟩ := h
  show W _ _ _ _ _ _ _ _ _ _ _ _ 14 _ [(vi (-1))]
  refine W.istore (pc := 14) (ls' := #[rv p1, rv p1, iv 1, iv 1, iv 1, iv (-1)]) d8_14 rfl ?_
  refine W.iload (pc := 16) d8_16 rfl ?_
  refine W.ifN (pc := 18) d8_18 (n_ge (by decide)) ?_
  refine W.iloadN (pc := 21) d8_21 rfl ?_
  refine W.iloadN (pc := 22) d8_22 rfl ?_
  refine W.isubK (pc := 23) (0 : Int32) d8_23 (by decide) ?_
  refine W.goto (pc := 24) 40 d8_24 (by decide) ?_
  exact W.ireturn (pc := 40) d8_40 rfl (Or.inl rfl) rfl (by decide) ⟨rfl, rfl⟩
theorem c32_compareTo {Z a0} (hw : HW a0 Z) (hs : SF Z) {p1 : Addr} {x1 : Int32} (hx1 : -128 ≤ x1.toInt ∧ x1.toInt ≤ 127) {w_p1 : Bool} {ad_p1 : String} {F : List Ent} (mp1 : (p1, w_p1, ar ad_p1 .byte [(vi x1)]) ∈ F) : Con Z EL (⟨"java/lang/StringLatin1", "compareTo", "([B[B)I"⟩ : MethodName) jdk_43_method_14_code 4 (Option.some Jvm.ClassFile.FieldType.int) (rmm 2 0 0 32) [(vr p1), (vr p1)] (F) (fun v D' => (v = some (vi 0) ∧ F = D')) := by
  refine Con.of (ls := #[rv p1, rv p1, uu, uu]) (by decide +kernel) rfl ?_
  show W Z EL _ "java/lang/StringLatin1" "compareTo" _ _ _ _ _ _ _ _ _ _
  refine W.aloadN (pc := 0) d7_0 rfl rfl ?_
  refine W.alen (pc := 1) (1) d7_1 mp1 rfl ?_
  refine W.istoreN (pc := 2) (ls' := #[rv p1, rv p1, iv 1, uu]) d7_2 rfl ?_
  refine W.aloadN (pc := 3) d7_3 rfl rfl ?_
  refine W.alen (pc := 4) (1) d7_4 mp1 rfl ?_
  refine W.istoreN (pc := 5) (ls' := #[rv p1, rv p1, iv 1, iv 1]) d7_5 rfl ?_
  refine W.aloadN (pc := 6) d7_6 rfl rfl ?_
  refine W.aloadN (pc := 7) d7_7 rfl rfl ?_
  refine W.iloadN (pc := 8) d7_8 rfl ?_
  refine W.iloadN (pc := 9) d7_9 rfl ?_
  refine W.callS (pc := 10) (as := [(vr p1), (vr p1), (vi 1), (vi 1)]) 0 [] d7_10 (w45 hw) (w46 hw) (w43 hw) (w47 hw) (c33_compareTo hw hs (p1 := p1) (x1 := x1) (hx1 := hx1) (mp1 := mp1)) (by decide) pd__B_BII_I rfl rfl rfl rfl (by decide) (fun v D' h => ?_)
  obtain ⟨rfl, rfl⟩ := h
  show W _ _ _ _ _ _ _ _ _ _ _ _ 13 _ [(vi 0)]
  exact W.ireturn (pc := 13) d7_13 rfl (Or.inl rfl) rfl (by decide) ⟨rfl, rfl⟩
theorem c30_compareTo {Z a0} (hw : HW a0 Z) (hs : SF Z) {p1 p2 : Addr} {x1 : Int32} (hx1 : -128 ≤ x1.toInt ∧ x1.toInt ≤ 127) {w_p1 : Bool} {w_p2 : Bool} {ad_p2 : String} {F : List Ent} (mp1 : (p1, w_p1, oString (vr p2) (vi 0)) ∈ F) (mp2 : (p2, w_p2, ar ad_p2 .byte [(vi x1)]) ∈ F) : Con Z EL (⟨"java/lang/String", "compareTo", "(Ljava/lang/String;)I"⟩ : MethodName) jdk_42_method_71_code 5 (Option.some Jvm.ClassFile.FieldType.int) (rmm 3 0 0 47) [(vr p1), (vr p1)] (F) (fun v D' => (v = some (vi 0) ∧ F = D')) := by
  refine Con.of (ls := #[rv p1, rv p1, uu, uu, uu]) (by decide +kernel) rfl ?_
  show W Z EL _ "java/lang/String" "compareTo" _ _ _ _ _ _ _ _ _ _
  refine W.aloadN (pc := 0) d5_0 rfl rfl ?_
  refine W.getf (pc := 1) d5_1 (w20 hw) Via.refl mp1 m0 ?_
  refine W.astoreN (pc := 4) (ls' := #[rv p1, rv p1, rv p2, uu, uu]) d5_4 rfl rfl ?_
  refine W.aloadN (pc := 5) d5_5 rfl rfl ?_
  refine W.getf (pc := 6) d5_6 (w20 hw) Via.refl mp1 m0 ?_
  refine W.astoreN (pc := 9) (ls' := #[rv p1, rv p1, rv p2, rv p2, uu]) d5_9 rfl rfl ?_
  refine W.aloadN (pc := 10) d5_10 rfl rfl ?_
  refine W.callV (pc := 11) (as := []) 0 [] d5_11 (w35 hw) (w36 hw) (w38 hw) (w38 hw) (w37 hw) (w3 hw) (w39 hw) (Hp.exa mp1) (c31_coder hw hs (p1 := p1) (p2 := p2) (x1 := x1) (hx1 := hx1) (mp1 := mp1)) (by decide) pd__B rfl rfl rfl rfl (by decide) (fun v D' h => ?_)
  obtain ⟨rfl, rfl⟩ := h
  show W _ _ _ _ _ _ _ _ _ _ _ _ 14 _ [(vi 0)]
  refine W.istore (pc := 14) (ls' := #[rv p1, rv p1, rv p2, rv p2, iv 0]) d5_14 rfl ?_
  refine W.iload (pc := 16) d5_16 rfl ?_
  refine W.aloadN (pc := 18) d5_18 rfl rfl ?_
  refine W.callV (pc := 19) (as := []) 1 [(vi 0)] d5_19 (w35 hw) (w36 hw) (w38 hw) (w38 hw) (w37 hw) (w3 hw) (w39 hw) (Hp.exa mp1) (c31_coder hw hs (p1 := p1) (p2 := p2) (x1 := x1) (hx1 := hx1) (mp1 := mp1)) (by decide) pd__B rfl rfl rfl rfl (by decide) (fun v D' h => ?_)
  obtain ⟨rfl, rfl⟩ := h
  show W _ _ _ _ _ _ _ _ _ _ _ _ 22 _ [(vi 0), (vi 0)]
  refine W.icmpN (pc := 22) d5_22 (n_ne (by decide)) ?_
  refine W.iload (pc := 25) d5_25 rfl ?_
  refine W.ifN (pc := 27) d5_27 (n_ne (by decide)) ?_
  refine W.aloadN (pc := 30) d5_30 rfl rfl ?_
  refine W.aloadN (pc := 31) d5_31 rfl rfl ?_
  refine W.callS (pc := 32) (as := [(vr p2), (vr p2)]) 0 [] d5_32 (w41 hw) (w42 hw) (w43 hw) (w44 hw) (c32_compareTo hw hs (p1 := p2) (x1 := x1) (hx1 := hx1) (mp1 := mp2)) (by decide) pd__B_B_I rfl rfl rfl rfl (by decide) (fun v D' h => ?_)
  obtain ⟨rfl, rfl⟩ := h
  show W _ _ _ _ _ _ _ _ _ _ _ _ 35 _ [(vi 0)]
  refine W.goto (pc := 35) 43 d5_35 (by decide) ?_
  exact W.ireturn (pc := 43) d5_43 rfl (Or.inl rfl) rfl (by decide) ⟨rfl, rfl⟩
theorem c29_init {Z a0} (hw : HW a0 Z) (hs : SF Z) {p1 p2 p3 : Addr} {x1 : Int32} (hx1 : -128 ≤ x1.toInt ∧ x1.toInt ≤ 127) {w_p2 : Bool} {w_p3 : Bool} {ad_p3 : String} {F : List Ent} (mp2 : (p2, w_p2, oString (vr p3) (vi 0)) ∈ F) (mp3 : (p3, w_p3, ar ad_p3 .byte [(vi x1)]) ∈ F) : Con Z EL (⟨"com/example/chainvouch/chainvouch/chain/TimeRange", "<init>", "(Ljava/lang/String;Ljava/lang/String;)V"⟩ : MethodName) prog_15_method_1_code 3 (Option.none : Option Jvm.ClassFile.FieldType) (rmm 4 0 0 63) [(vr p1), (vr p2), (vr p2)] ((p1, true, oTimeRange .null .null) :: F) (fun v D' => (v = none ∧ (p1, true, oTimeRange (vr p2) (vr p2)) :: F = D')) := by
  refine Con.of (ls := #[rv p1, rv p2, rv p2]) (by decide +kernel) rfl ?_
  show W Z EL _ "com/example/chainvouch/chainvouch/chain/TimeRange" "<init>" _ _ _ _ _ _ _ _ _ _
  refine W.aloadN (pc := 0) d4_0 rfl rfl ?_
  refine W.initO (pc := 1) 0 d4_1 (w29 hw) (w12 hw) (w13 hw) rfl rfl (by decide) ?_
  refine W.aloadN (pc := 4) d4_4 rfl rfl ?_
  refine W.ifnullN (pc := 5) d4_5 ?_
  refine W.aloadN (pc := 8) d4_8 rfl rfl ?_
  refine W.ifnullN (pc := 9) d4_9 ?_
  refine W.aloadN (pc := 12) d4_12 rfl rfl ?_
  refine W.aloadN (pc := 13) d4_13 rfl rfl ?_
  refine W.callV (pc := 14) (as := [(vr p2)]) 0 [] d4_14 (w30 hw) (w31 hw) (w33 hw) (w33 hw) (w32 hw) (w3 hw) (w34 hw) (Hp.exa (mS mp2)) (c30_compareTo hw hs (p1 := p2) (p2 := p3) (x1 := x1) (hx1 := hx1) (mp1 := (mS mp2)) (mp2 := (mS mp3))) (by decide) pd_Ljava_lang_String__I rfl rfl rfl rfl (by decide) (fun v D' h => ?_)
  obtain ⟨rfl, rfl⟩ := h
  show W _ _ _ _ _ _ _ _ _ _ _ _ 17 _ [(vi 0)]
  refine W.ifY (pc := 17) 35 d4_17 (y_le (by decide)) (by decide) ?_
  refine W.aloadN (pc := 35) d4_35 rfl rfl ?_
  refine W.aloadN (pc := 36) d4_36 rfl rfl ?_
  refine W.putf (pc := 37) (D' := (p1, true, oTimeRange (vr p2) .null) :: F) 0 0 d4_37 (w56 hw) Via.refl rfl rfl (Or.inr ⟨(w57 hw), rfl, rfl⟩) (w24 hw) pfLjava_lang_String_ rfl rfl rfl ?_
  refine W.aloadN (pc := 40) d4_40 rfl rfl ?_
  refine W.aloadN (pc := 41) d4_41 rfl rfl ?_
  refine W.putf (pc := 42) (D' := (p1, true, oTimeRange (vr p2) (vr p2)) :: F) 0 1 d4_42 (w58 hw) Via.refl rfl rfl (Or.inr ⟨(w59 hw), rfl, rfl⟩) (w24 hw) pfLjava_lang_String_ rfl rfl rfl ?_
  exact W.return_ (pc := 45) d4_45 rfl (by decide) ⟨rfl, rfl⟩
theorem c40_min {Z a0} (hw : HW a0 Z) (hs : SF Z) {F : List Ent} : Con Z EL (⟨"java/lang/Math", "min", "(II)I"⟩ : MethodName) jdk_29_method_69_code 2 (Option.some Jvm.ClassFile.FieldType.int) (rmm 0 0 0 0) [(vi 0), (vi 1)] (F) (fun v D' => (v = some (vi 0) ∧ F = D')) := by
  refine Con.of (ls := #[iv 0, iv 1]) (by decide +kernel) rfl ?_
  show W Z EL _ "java/lang/Math" "min" _ _ _ _ _ _ _ _ _ _
  refine W.iloadN (pc := 0) d9_0 rfl ?_
  refine W.iloadN (pc := 1) d9_1 rfl ?_
  refine W.icmpN (pc := 2) d9_2 (n_gt (by decide)) ?_
  refine W.iloadN (pc := 5) d9_5 rfl ?_
  refine W.goto (pc := 6) 10 d9_6 (by decide) ?_
  exact W.ireturn (pc := 10) d9_10 rfl (Or.inl rfl) rfl (by decide) ⟨rfl, rfl⟩
theorem c41_mismatch {Z a0} (hw : HW a0 Z) (hs : SF Z) {p1 p2 : Addr} {x1 : Int32} (hx1 : -128 ≤ x1.toInt ∧ x1.toInt ≤ 127) {F : List Ent} : Con Z EL (⟨"jdk/internal/util/ArraysSupport", "mismatch", "([B[BI)I"⟩ : MethodName) jdk_48_method_13_code 4 (Option.some Jvm.ClassFile.FieldType.int) (rmm 0 0 0 0) [(vr p1), (vr p2), (vi 0)] (F) (fun v D' => (v = some (vi (-1)) ∧ F = D')) := by
  refine Con.of (ls := #[rv p1, rv p2, iv 0, uu]) (by decide +kernel) rfl ?_
  show W Z EL _ "jdk/internal/util/ArraysSupport" "mismatch" _ _ _ _ _ _ _ _ _ _
  refine W.iconst (pc := 0) (0) d10_0 (by decide) ?_
  refine W.istoreN (pc := 1) (ls' := #[rv p1, rv p2, iv 0, iv 0]) d10_1 rfl ?_
  refine W.iloadN (pc := 2) d10_2 rfl ?_
  refine W.bipush (pc := 3) (7) d10_3 (by decide) ?_
  refine W.icmpY (pc := 5) 49 d10_5 (y_le (by decide)) (by decide) ?_
  refine W.iloadN (pc := 49) d10_49 rfl ?_
  refine W.iloadN (pc := 50) d10_50 rfl ?_
  refine W.icmpY (pc := 51) 71 d10_51 (y_ge (by decide)) (by decide) ?_
  refine W.iconst (pc := 71) (-1) d10_71 (by decide) ?_
  exact W.ireturn (pc := 72) d10_72 rfl (Or.inl rfl) rfl (by decide) ⟨rfl, rfl⟩
theorem c39_compareTo {Z a0} (hw : HW a0 Z) (hs : SF Z) {p1 p2 : Addr} {x1 : Int32} (hx1 : -128 ≤ x1.toInt ∧ x1.toInt ≤ 127) {F : List Ent} : Con Z EL (⟨"java/lang/StringLatin1", "compareTo", "([B[BII)I"⟩ : MethodName) jdk_43_method_15_code 6 (Option.some Jvm.ClassFile.FieldType.int) (rmm 1 0 0 15) [(vr p1), (vr p2), (vi 0), (vi 1)] (F) (fun v D' => (v = some (vi (-1)) ∧ F = D')) := by
  refine Con.of (ls := #[rv p1, rv p2, iv 0, iv 1, uu, uu]) (by decide +kernel) rfl ?_
  show W Z EL _ "java/lang/StringLatin1" "compareTo" _ _ _ _ _ _ _ _ _ _
  refine W.iloadN (pc := 0) d8_0 rfl ?_
  refine W.iloadN (pc := 1) d8_1 rfl ?_
  refine W.callS (pc := 2) (as := [(vi 0), (vi 1)]) 0 [] d8_2 (w48 hw) (w49 hw) (w50 hw) (w51 hw) (c40_min hw hs) (by decide) pd_II_I rfl rfl rfl rfl (by decide) (fun v D' h => ?_)
  obtain ⟨rfl, rfl⟩ := h
  show W _ _ _ _ _ _ _ _ _ _ _ _ 5 _ [(vi 0)]
  refine W.istore (pc := 5) (ls' := #[rv p1, rv p2, iv 0, iv 1, iv 0, uu]) d8_5 rfl ?_
  refine W.aloadN (pc := 7) d8_7 rfl rfl ?_
  refine W.aloadN (pc := 8) d8_8 rfl rfl ?_
  refine W.iload (pc := 9) d8_9 rfl ?_
  refine W.callS (pc := 11) (as := [(vr p1), (vr p2), (vi 0)]) 0 [] d8_11 (w52 hw) (w53 hw) (w54 hw) (w55 hw) (c17_mismatch hw hs (p1 := p1) (p2 := p2)) (by decide) pd__B_BI_I rfl rfl rfl rfl (by decide) (fun v D' h => ?_)
  obtain ⟨rfl, rfl⟩ := h
  show W _ _ _ _ _ _ _ _ _ _ _ _ 14 _ [(vi (-1))]
  refine W.istore (pc := 14) (ls' := #[rv p1, rv p2, iv 0, iv 1, iv 0, iv (-1)]) d8_14 rfl ?_
  refine W.iload (pc := 16) d8_16 rfl ?_
  refine W.ifN (pc := 18) d8_18 (n_ge (by decide)) ?_
  refine W.iloadN (pc := 21) d8_21 rfl ?_
  refine W.iloadN (pc := 22) d8_22 rfl ?_
  refine W.isubK (pc := 23) (-1 : Int32) d8_23 (by decide) ?_
  refine W.goto (pc := 24) 40 d8_24 (by decide) ?_
  exact W.ireturn (pc := 40) d8_40 rfl (Or.inl rfl) rfl (by decide) ⟨rfl, rfl⟩
theorem c38_compareTo {Z a0} (hw : HW a0 Z) (hs : SF Z) {p1 p2 : Addr} {x1 : Int32} (hx1 : -128 ≤ x1.toInt ∧ x1.toInt ≤ 127) {w_p1 : Bool} {ad_p1 : String} {w_p2 : Bool} {ad_p2 : String} {F : List Ent} (mp1 : (p1, w_p1, ar ad_p1 .byte []) ∈ F) (mp2 : (p2, w_p2, ar ad_p2 .byte [(vi x1)]) ∈ F) : Con Z EL (⟨"java/lang/StringLatin1", "compareTo", "([B[B)I"⟩ : MethodName) jdk_43_method_14_code 4 (Option.some Jvm.ClassFile.FieldType.int) (rmm 2 0 0 32) [(vr p1), (vr p2)] (F) (fun v D' => (v = some (vi (-1)) ∧ F = D')) := by
  refine Con.of (ls := #[rv p1, rv p2, uu, uu]) (by decide +kernel) rfl ?_
  show W Z EL _ "java/lang/StringLatin1" "compareTo" _ _ _ _ _ _ _ _ _ _
  refine W.aloadN (pc := 0) d7_0 rfl rfl ?_
  refine W.alen (pc := 1) (0) d7_1 mp1 rfl ?_
  refine W.istoreN (pc := 2) (ls' := #[rv p1, rv p2, iv 0, uu]) d7_2 rfl ?_
  refine W.aloadN (pc := 3) d7_3 rfl rfl ?_
  refine W.alen (pc := 4) (1) d7_4 mp2 rfl ?_
  refine W.istoreN (pc := 5) (ls' := #[rv p1, rv p2, iv 0, iv 1]) d7_5 rfl ?_
  refine W.aloadN (pc := 6) d7_6 rfl rfl ?_
  refine W.aloadN (pc := 7) d7_7 rfl rfl ?_
  refine W.iloadN (pc := 8) d7_8 rfl ?_
  refine W.iloadN (pc := 9) d7_9 rfl ?_
  refine W.callS (pc := 10) (as := [(vr p1), (vr p2), (vi 0), (vi 1)]) 0 [] d7_10 (w45 hw) (w46 hw) (w43 hw) (w47 hw) (c39_compareTo hw hs (p1 := p1) (p2 := p2) (x1 := x1) (hx1 := hx1)) (by decide) pd__B_BII_I rfl rfl rfl rfl (by decide) (fun v D' h => ?_)
  obtain ⟨rfl, rfl⟩ := h
  show W _ _ _ _ _ _ _ _ _ _ _ _ 13 _ [(vi (-1))]
  exact W.ireturn (pc := 13) d7_13 rfl (Or.inl rfl) rfl (by decide) ⟨rfl, rfl⟩
theorem c37_compareTo {Z a0} (hw : HW a0 Z) (hs : SF Z) {p1 p2 p3 p4 : Addr} {x1 : Int32} (hx1 : -128 ≤ x1.toInt ∧ x1.toInt ≤ 127) {w_p1 : Bool} {w_p2 : Bool} {w_p3 : Bool} {ad_p3 : String} {w_p4 : Bool} {ad_p4 : String} {F : List Ent} (mp1 : (p1, w_p1, oString (vr p3) (vi 0)) ∈ F) (mp2 : (p2, w_p2, oString (vr p4) (vi 0)) ∈ F) (mp3 : (p3, w_p3, ar ad_p3 .byte []) ∈ F) (mp4 : (p4, w_p4, ar ad_p4 .byte [(vi x1)]) ∈ F) : Con Z EL (⟨"java/lang/String", "compareTo", "(Ljava/lang/String;)I"⟩ : MethodName) jdk_42_method_71_code 5 (Option.some Jvm.ClassFile.FieldType.int) (rmm 3 0 0 47) [(vr p1), (vr p2)] (F) (fun v D' => (v = some (vi (-1)) ∧ F = D')) := by
  refine Con.of (ls := #[rv p1, rv p2, uu, uu, uu]) (by decide +kernel) rfl ?_
  show W Z EL _ "java/lang/String" "compareTo" _ _ _ _ _ _ _ _ _ _
  refine W.aloadN (pc := 0) d5_0 rfl rfl ?_
  refine W.getf (pc := 1) d5_1 (w20 hw) Via.refl mp1 m0 ?_
  refine W.astoreN (pc := 4) (ls' := #[rv p1, rv p2, rv p3, uu, uu]) d5_4 rfl rfl ?_
  refine W.aloadN (pc := 5) d5_5 rfl rfl ?_
  refine W.getf (pc := 6) d5_6 (w20 hw) Via.refl mp2 m0 ?_
  refine W.astoreN (pc := 9) (ls' := #[rv p1, rv p2, rv p3, rv p4, uu]) d5_9 rfl rfl ?_
  refine W.aloadN (pc := 10) d5_10 rfl rfl ?_
  refine W.callV (pc := 11) (as := []) 0 [] d5_11 (w35 hw) (w36 hw) (w38 hw) (w38 hw) (w37 hw) (w3 hw) (w39 hw) (Hp.exa mp1) (c6_coder hw hs (p1 := p1) (p2 := p3) (mp1 := mp1)) (by decide) pd__B rfl rfl rfl rfl (by decide) (fun v D' h => ?_)
  obtain ⟨rfl, rfl⟩ := h
  show W _ _ _ _ _ _ _ _ _ _ _ _ 14 _ [(vi 0)]
  refine W.istore (pc := 14) (ls' := #[rv p1, rv p2, rv p3, rv p4, iv 0]) d5_14 rfl ?_
  refine W.iload (pc := 16) d5_16 rfl ?_
  refine W.aloadN (pc := 18) d5_18 rfl rfl ?_
  refine W.callV (pc := 19) (as := []) 1 [(vi 0)] d5_19 (w35 hw) (w36 hw) (w38 hw) (w38 hw) (w37 hw) (w3 hw) (w39 hw) (Hp.exa mp2) (c31_coder hw hs (p1 := p2) (p2 := p4) (x1 := x1) (hx1 := hx1) (mp1 := mp2)) (by decide) pd__B rfl rfl rfl rfl (by decide) (fun v D' h => ?_)
  obtain ⟨rfl, rfl⟩ := h
  show W _ _ _ _ _ _ _ _ _ _ _ _ 22 _ [(vi 0), (vi 0)]
  refine W.icmpN (pc := 22) d5_22 (n_ne (by decide)) ?_
  refine W.iload (pc := 25) d5_25 rfl ?_
  refine W.ifN (pc := 27) d5_27 (n_ne (by decide)) ?_
  refine W.aloadN (pc := 30) d5_30 rfl rfl ?_
  refine W.aloadN (pc := 31) d5_31 rfl rfl ?_
  refine W.callS (pc := 32) (as := [(vr p3), (vr p4)]) 0 [] d5_32 (w41 hw) (w42 hw) (w43 hw) (w44 hw) (c38_compareTo hw hs (p1 := p3) (p2 := p4) (x1 := x1) (hx1 := hx1) (mp1 := mp3) (mp2 := mp4)) (by decide) pd__B_B_I rfl rfl rfl rfl (by decide) (fun v D' h => ?_)
  obtain ⟨rfl, rfl⟩ := h
  show W _ _ _ _ _ _ _ _ _ _ _ _ 35 _ [(vi (-1))]
  refine W.goto (pc := 35) 43 d5_35 (by decide) ?_
  exact W.ireturn (pc := 43) d5_43 rfl (Or.inl rfl) rfl (by decide) ⟨rfl, rfl⟩
theorem c36_init {Z a0} (hw : HW a0 Z) (hs : SF Z) {p1 p2 p3 p4 p5 : Addr} {x1 : Int32} (hx1 : -128 ≤ x1.toInt ∧ x1.toInt ≤ 127) {w_p2 : Bool} {w_p3 : Bool} {w_p4 : Bool} {ad_p4 : String} {w_p5 : Bool} {ad_p5 : String} {F : List Ent} (mp2 : (p2, w_p2, oString (vr p4) (vi 0)) ∈ F) (mp3 : (p3, w_p3, oString (vr p5) (vi 0)) ∈ F) (mp4 : (p4, w_p4, ar ad_p4 .byte []) ∈ F) (mp5 : (p5, w_p5, ar ad_p5 .byte [(vi x1)]) ∈ F) : Con Z EL (⟨"com/example/chainvouch/chainvouch/chain/TimeRange", "<init>", "(Ljava/lang/String;Ljava/lang/String;)V"⟩ : MethodName) prog_15_method_1_code 3 (Option.none : Option Jvm.ClassFile.FieldType) (rmm 4 0 0 63) [(vr p1), (vr p2), (vr p3)] ((p1, true, oTimeRange .null .null) :: F) (fun v D' => (v = none ∧ (p1, true, oTimeRange (vr p2) (vr p3)) :: F = D')) := by
  refine Con.of (ls := #[rv p1, rv p2, rv p3]) (by decide +kernel) rfl ?_
  show W Z EL _ "com/example/chainvouch/chainvouch/chain/TimeRange" "<init>" _ _ _ _ _ _ _ _ _ _
  refine W.aloadN (pc := 0) d4_0 rfl rfl ?_
  refine W.initO (pc := 1) 0 d4_1 (w29 hw) (w12 hw) (w13 hw) rfl rfl (by decide) ?_
  refine W.aloadN (pc := 4) d4_4 rfl rfl ?_
  refine W.ifnullN (pc := 5) d4_5 ?_
  refine W.aloadN (pc := 8) d4_8 rfl rfl ?_
  refine W.ifnullN (pc := 9) d4_9 ?_
  refine W.aloadN (pc := 12) d4_12 rfl rfl ?_
  refine W.aloadN (pc := 13) d4_13 rfl rfl ?_
  refine W.callV (pc := 14) (as := [(vr p3)]) 0 [] d4_14 (w30 hw) (w31 hw) (w33 hw) (w33 hw) (w32 hw) (w3 hw) (w34 hw) (Hp.exa (mS mp2)) (c37_compareTo hw hs (p1 := p2) (p2 := p3) (p3 := p4) (p4 := p5) (x1 := x1) (hx1 := hx1) (mp1 := (mS mp2)) (mp2 := (mS mp3)) (mp3 := (mS mp4)) (mp4 := (mS mp5))) (by decide) pd_Ljava_lang_String__I rfl rfl rfl rfl (by decide) (fun v D' h => ?_)
  obtain ⟨rfl, rfl⟩ := h
  show W _ _ _ _ _ _ _ _ _ _ _ _ 17 _ [(vi (-1))]
  refine W.ifY (pc := 17) 35 d4_17 (y_le (by decide)) (by decide) ?_
  refine W.aloadN (pc := 35) d4_35 rfl rfl ?_
  refine W.aloadN (pc := 36) d4_36 rfl rfl ?_
  refine W.putf (pc := 37) (D' := (p1, true, oTimeRange (vr p2) .null) :: F) 0 0 d4_37 (w56 hw) Via.refl rfl rfl (Or.inr ⟨(w57 hw), rfl, rfl⟩) (w24 hw) pfLjava_lang_String_ rfl rfl rfl ?_
  refine W.aloadN (pc := 40) d4_40 rfl rfl ?_
  refine W.aloadN (pc := 41) d4_41 rfl rfl ?_
  refine W.putf (pc := 42) (D' := (p1, true, oTimeRange (vr p2) (vr p3)) :: F) 0 1 d4_42 (w58 hw) Via.refl rfl rfl (Or.inr ⟨(w59 hw), rfl, rfl⟩) (w24 hw) pfLjava_lang_String_ rfl rfl rfl ?_
  exact W.return_ (pc := 45) d4_45 rfl (by decide) ⟨rfl, rfl⟩
theorem c42_startsAfter {Z a0} (hw : HW a0 Z) (hs : SF Z) {p1 p2 p3 p4 p5 : Addr} {x1 : Int32} (hx1 : -128 ≤ x1.toInt ∧ x1.toInt ≤ 127) {u1 : Value} (hu1 : u1.isRef = true) {w_p1 : Bool} {w_p2 : Bool} {w_p3 : Bool} {w_p4 : Bool} {ad_p4 : String} {w_p5 : Bool} {ad_p5 : String} {F : List Ent} (mp1 : (p1, w_p1, oTimeRange u1 (vr p3)) ∈ F) (mp2 : (p2, w_p2, oString (vr p4) (vi 0)) ∈ F) (mp3 : (p3, w_p3, oString (vr p5) (vi 0)) ∈ F) (mp4 : (p4, w_p4, ar ad_p4 .byte []) ∈ F) (mp5 : (p5, w_p5, ar ad_p5 .byte [(vi x1)]) ∈ F) : Con Z EL (⟨"com/example/chainvouch/chainvouch/chain/TimeRange", "startsAfter", "(Ljava/lang/String;)Z"⟩ : MethodName) prog_15_method_3_code 2 (Option.some Jvm.ClassFile.FieldType.boolean) (rmm 4 0 0 63) [(vr p1), (vr p2)] (F) (fun v D' => (v = some (vi 0) ∧ F = D')) := by
  refine Con.of (ls := #[rv p1, rv p2]) (by decide +kernel) rfl ?_
  show W Z EL _ "com/example/chainvouch/chainvouch/chain/TimeRange" "startsAfter" _ _ _ _ _ _ _ _ _ _
  refine W.aloadN (pc := 0) d11_0 rfl rfl ?_
  refine W.getf (pc := 1) d11_1 (w58 hw) Via.refl mp1 m1 ?_
  refine W.ifnullN (pc := 4) d11_4 ?_
  refine W.aloadN (pc := 7) d11_7 rfl rfl ?_
  refine W.aloadN (pc := 8) d11_8 rfl rfl ?_
  refine W.getf (pc := 9) d11_9 (w58 hw) Via.refl mp1 m1 ?_
  refine W.callV (pc := 12) (as := [(vr p3)]) 0 [] d11_12 (w30 hw) (w31 hw) (w33 hw) (w33 hw) (w32 hw) (w3 hw) (w34 hw) (Hp.exa mp2) (c37_compareTo hw hs (p1 := p2) (p2 := p3) (p3 := p4) (p4 := p5) (x1 := x1) (hx1 := hx1) (mp1 := mp2) (mp2 := mp3) (mp3 := mp4) (mp4 := mp5)) (by decide) pd_Ljava_lang_String__I rfl rfl rfl rfl (by decide) (fun v D' h => ?_)
  obtain ⟨rfl, rfl⟩ := h
  show W _ _ _ _ _ _ _ _ _ _ _ _ 15 _ [(vi (-1))]
  refine W.ifY (pc := 15) 22 d11_15 (y_lt (by decide)) (by decide) ?_
  refine W.iconst (pc := 22) (0) d11_22 (by decide) ?_
  exact W.ireturn (pc := 23) d11_23 rfl (Or.inr (Or.inl rfl)) (nw_bool (by decide)) (by decide) ⟨rfl, rfl⟩
theorem d12_17 : decode method_3_code 17 = .ok (.iconst 0, 1) := by decide +kernel
theorem c43_geq {Z a0} (hw : HW a0 Z) (hs : SF Z) {x1 : Int32} (hx1 : 0 ≤ x1.toInt ∧ x1.toInt ≤ 255) {x2 : Int32} (hx2 : 0 ≤ x2.toInt ∧ x2.toInt ≤ 255) {x3 : Int32} (hx3 : 0 ≤ x3.toInt ∧ x3.toInt ≤ 255) {x4 : Int32} (hx4 : 0 ≤ x4.toInt ∧ x4.toInt ≤ 255) {F : List Ent} : Con Z EL (⟨"com/example/chainvouch/chainvouch/chain/TimeRangeStartsAfterPinLaw", "geq", "(IIIIII)Z"⟩ : MethodName) method_3_code 6 (Option.some Jvm.ClassFile.FieldType.boolean) (rmm 0 0 0 0) [(vi 0), (vi x1), (vi x2), (vi 1), (vi x3), (vi x4)] (F) (fun v D' => (v = some (vi 0) ∧ F = D')) := by
  refine Con.of (ls := #[iv 0, iv x1, iv x2, iv 1, iv x3, iv x4]) (by decide +kernel) rfl ?_
  show W Z EL _ "com/example/chainvouch/chainvouch/chain/TimeRangeStartsAfterPinLaw" "geq" _ _ _ _ _ _ _ _ _ _
  refine W.iloadN (pc := 0) d12_0 rfl ?_
  refine W.ifY (pc := 1) 8 d12_1 (y_eq (by decide)) (by decide) ?_
  refine W.iloadN (pc := 8) d12_8 rfl ?_
  refine W.iloadN (pc := 9) d12_9 rfl ?_
  refine W.icmpY (pc := 10) 17 d12_10 (y_lt (by decide)) (by decide) ?_
  refine W.iconst (pc := 17) (0) d12_17 (by decide) ?_
  exact W.ireturn (pc := 18) d12_18 rfl (Or.inr (Or.inl rfl)) (nw_bool (by decide)) (by decide) ⟨rfl, rfl⟩
theorem ix2 : Idx (2 : Int32) 2 := by unfold Idx; decide
theorem c47_compress {Z a0} (hw : HW a0 Z) (hs : SF Z) {p1 p2 : Addr} {x1 : Int32} (hx1 : 0 ≤ x1.toInt ∧ x1.toInt ≤ 255) {x2 : Int32} (hx2 : 0 ≤ x2.toInt ∧ x2.toInt ≤ 255) {ad_p2 : String} {w_p1 : Bool} {ad_p1 : String} {F : List Ent} (mp1 : (p1, w_p1, ar ad_p1 .char [(vi x1), (vi x2)]) ∈ F) : Con Z EL (⟨"java/lang/StringUTF16", "compress", "([CI[BII)I"⟩ : MethodName) jdk_52_method_21_code 7 (Option.some Jvm.ClassFile.FieldType.int) (rmm 0 0 0 0) [(vr p1), (vi 0), (vr p2), (vi 0), (vi 2)] ((p2, true, ar ad_p2 .byte [(vi 0), (vi 0)]) :: F) (fun v D' => (v = some (vi 2) ∧ (p2, true, ar ad_p2 .byte [(vi x1.toInt8.toInt32), (vi x2.toInt8.toInt32)]) :: F = D')) := by
  refine Con.of (ls := #[rv p1, iv 0, rv p2, iv 0, iv 2, uu, uu]) (by decide +kernel) rfl ?_
  show W Z EL _ "java/lang/StringUTF16" "compress" _ _ _ _ _ _ _ _ _ _
  refine W.iconst (pc := 0) (0) d14_0 (by decide) ?_
  refine W.istore (pc := 1) (ls' := #[rv p1, iv 0, rv p2, iv 0, iv 2, iv 0, uu]) d14_1 rfl ?_
  refine W.iload (pc := 3) d14_3 rfl ?_
  refine W.iload (pc := 5) d14_5 rfl ?_
  refine W.icmpN (pc := 7) d14_7 (n_ge (by decide)) ?_
  refine W.aloadN (pc := 10) d14_10 rfl rfl ?_
  refine W.iloadN (pc := 11) d14_11 rfl ?_
  refine W.caload (pc := 12) 0 d14_12 (mS mp1) ix0 rfl ?_
  refine W.istore (pc := 13) (ls' := #[rv p1, iv 0, rv p2, iv 0, iv 2, iv 0, iv x1]) d14_13 rfl ?_
  refine W.iload (pc := 15) d14_15 rfl ?_
  refine W.sipush (pc := 17) (255) d14_17 (by decide) ?_
  refine W.icmpY (pc := 20) 26 d14_20 (y_le (by have := q255; omega)) (by decide) ?_
  refine W.aloadN (pc := 26) d14_26 rfl rfl ?_
  refine W.iloadN (pc := 27) d14_27 rfl ?_
  refine W.iload (pc := 28) d14_28 rfl ?_
  refine W.i2b (pc := 30) d14_30 ?_
  refine W.bastore (pc := 31) (D' := (p2, true, ar ad_p2 .byte [(vi x1.toInt8.toInt32), (vi 0)]) :: F) 0 0 d14_31 rfl ix0 (Nat.le_of_ble_eq_true rfl) (z_narB (by have := a_i2b x1; omega)) rfl ?_
  refine W.iincK (pc := 32) (ls' := #[rv p1, iv 1, rv p2, iv 0, iv 2, iv 0, iv x1]) (1) (1 : Int32) d14_32 (by decide) rfl (by decide) rfl ?_
  refine W.iincK (pc := 35) (ls' := #[rv p1, iv 1, rv p2, iv 1, iv 2, iv 0, iv x1]) (1) (1 : Int32) d14_35 (by decide) rfl (by decide) rfl ?_
  refine W.iincK (pc := 38) (ls' := #[rv p1, iv 1, rv p2, iv 1, iv 2, iv 1, iv x1]) (1) (1 : Int32) d14_38 (by decide) rfl (by decide) rfl ?_
  refine W.goto (pc := 41) 3 d14_41 (by decide) ?_
  refine W.iload (pc := 3) d14_3 rfl ?_
  refine W.iload (pc := 5) d14_5 rfl ?_
  refine W.icmpN (pc := 7) d14_7 (n_ge (by decide)) ?_
  refine W.aloadN (pc := 10) d14_10 rfl rfl ?_
  refine W.iloadN (pc := 11) d14_11 rfl ?_
  refine W.caload (pc := 12) 1 d14_12 (mS mp1) ix1 rfl ?_
  refine W.istore (pc := 13) (ls' := #[rv p1, iv 1, rv p2, iv 1, iv 2, iv 1, iv x2]) d14_13 rfl ?_
  refine W.iload (pc := 15) d14_15 rfl ?_
  refine W.sipush (pc := 17) (255) d14_17 (by decide) ?_
  refine W.icmpY (pc := 20) 26 d14_20 (y_le (by have := q255; omega)) (by decide) ?_
  refine W.aloadN (pc := 26) d14_26 rfl rfl ?_
  refine W.iloadN (pc := 27) d14_27 rfl ?_
  refine W.iload (pc := 28) d14_28 rfl ?_
  refine W.i2b (pc := 30) d14_30 ?_
  refine W.bastore (pc := 31) (D' := (p2, true, ar ad_p2 .byte [(vi x1.toInt8.toInt32), (vi x2.toInt8.toInt32)]) :: F) 0 1 d14_31 rfl ix1 (Nat.le_of_ble_eq_true rfl) (z_narB (by have := a_i2b x2; omega)) rfl ?_
  refine W.iincK (pc := 32) (ls' := #[rv p1, iv 2, rv p2, iv 1, iv 2, iv 1, iv x2]) (1) (2 : Int32) d14_32 (by decide) rfl (by decide) rfl ?_
  refine W.iincK (pc := 35) (ls' := #[rv p1, iv 2, rv p2, iv 2, iv 2, iv 1, iv x2]) (1) (2 : Int32) d14_35 (by decide) rfl (by decide) rfl ?_
  refine W.iincK (pc := 38) (ls' := #[rv p1, iv 2, rv p2, iv 2, iv 2, iv 2, iv x2]) (1) (2 : Int32) d14_38 (by decide) rfl (by decide) rfl ?_
  refine W.goto (pc := 41) 3 d14_41 (by decide) ?_
  refine W.iload (pc := 3) d14_3 rfl ?_
  refine W.iload (pc := 5) d14_5 rfl ?_
  refine W.icmpY (pc := 7) 44 d14_7 (y_ge (by decide)) (by decide) ?_
  refine W.iload (pc := 44) d14_44 rfl ?_
  exact W.ireturn (pc := 46) d14_46 rfl (Or.inl rfl) rfl (by decide) ⟨rfl, rfl⟩
theorem c46_compress {Z a0} (hw : HW a0 Z) (hs : SF Z) {p1 : Addr} {x1 : Int32} (hx1 : 0 ≤ x1.toInt ∧ x1.toInt ≤ 255) {x2 : Int32} (hx2 : 0 ≤ x2.toInt ∧ x2.toInt ≤ 255) {w_p1 : Bool} {ad_p1 : String} {F : List Ent} (mp1 : (p1, w_p1, ar ad_p1 .char [(vi x1), (vi x2)]) ∈ F) : Con Z EL (⟨"java/lang/StringUTF16", "compress", "([CII)[B"⟩ : MethodName) jdk_52_method_16_code 6 (Option.some (Jvm.ClassFile.FieldType.array Jvm.ClassFile.FieldType.byte)) (rmm 1 1 2 18) [(vr p1), (vi 0), (vi 2)] (F) (fun v D' => (∃ a1 : Addr, v = some (vr a1) ∧ (a1, true, ar "[B" .byte [(vi x1.toInt8.toInt32), (vi x2.toInt8.toInt32)]) :: F = D')) := by
  refine Con.of (ls := #[rv p1, iv 0, iv 2, uu, uu, uu]) (by decide +kernel) rfl ?_
  show W Z EL _ "java/lang/StringUTF16" "compress" _ _ _ _ _ _ _ _ _ _
  refine W.iloadN (pc := 0) d13_0 rfl ?_
  refine W.newarr (pc := 1) 2 (ad := "[B") (ty := .byte) d13_1 rfl (w15 hw) ix2 rfl (by decide) (by decide) (fun a1 => ?_)
  show W _ _ _ _ _ _ _ _ _ _ _ _ 3 _ [(vr a1)]
  refine W.astoreN (pc := 3) (ls' := #[rv p1, iv 0, iv 2, rv a1, uu, uu]) d13_3 rfl rfl ?_
  refine W.aloadN (pc := 4) d13_4 rfl rfl ?_
  refine W.iloadN (pc := 5) d13_5 rfl ?_
  refine W.aloadN (pc := 6) d13_6 rfl rfl ?_
  refine W.iconst (pc := 7) (0) d13_7 (by decide) ?_
  refine W.iloadN (pc := 8) d13_8 rfl ?_
  refine W.callS (pc := 9) (as := [(vr p1), (vi 0), (vr a1), (vi 0), (vi 2)]) 0 [] d13_9 (w73 hw) (w74 hw) (w71 hw) (w75 hw) (c47_compress hw hs (p1 := p1) (p2 := a1) (x1 := x1) (hx1 := hx1) (x2 := x2) (hx2 := hx2) (mp1 := mp1)) (by decide) pd__CI_BII_I rfl rfl rfl rfl (by decide) (fun v D' h => ?_)
  obtain ⟨rfl, rfl⟩ := h
  show W _ _ _ _ _ _ _ _ _ _ _ _ 12 _ [(vi 2)]
  refine W.istore (pc := 12) (ls' := #[rv p1, iv 0, iv 2, rv a1, iv 2, uu]) d13_12 rfl ?_
  refine W.iload (pc := 14) d13_14 rfl ?_
  refine W.iloadN (pc := 16) d13_16 rfl ?_
  refine W.icmpY (pc := 17) 57 d13_17 (y_eq (by decide)) (by decide) ?_
  refine W.aloadN (pc := 57) d13_57 rfl rfl ?_
  exact W.areturn (pc := 58) d13_58 rfl rfl rfl (by decide) ⟨a1, rfl, rfl⟩
theorem c48_coderFromArrayLen {Z a0} (hw : HW a0 Z) (hs : SF Z) {p1 : Addr} {x1 : Int32} (hx1 : -128 ≤ x1.toInt ∧ x1.toInt ≤ 127) {x2 : Int32} (hx2 : -128 ≤ x2.toInt ∧ x2.toInt ≤ 127) {w_p1 : Bool} {ad_p1 : String} {F : List Ent} (mp1 : (p1, w_p1, ar ad_p1 .byte [(vi x1), (vi x2)]) ∈ F) : Con Z EL (⟨"java/lang/StringUTF16", "coderFromArrayLen", "([BI)B"⟩ : MethodName) jdk_52_method_15_code 2 (Option.some Jvm.ClassFile.FieldType.byte) (rmm 0 0 0 0) [(vr p1), (vi 2)] (F) (fun v D' => (v = some (vi 0) ∧ F = D')) := by
  refine Con.of (ls := #[rv p1, iv 2]) (by decide +kernel) rfl ?_
  show W Z EL _ "java/lang/StringUTF16" "coderFromArrayLen" _ _ _ _ _ _ _ _ _ _
  refine W.iloadN (pc := 0) d15_0 rfl ?_
  refine W.aloadN (pc := 1) d15_1 rfl rfl ?_
  refine W.alen (pc := 2) (2) d15_2 mp1 rfl ?_
  refine W.isubK (pc := 3) (0 : Int32) d15_3 (by decide) ?_
  refine W.bipush (pc := 4) (31) d15_4 (by decide) ?_
  refine W.iushrK (pc := 6) (0 : Int32) d15_6 (by decide) ?_
  refine W.i2bK (pc := 7) (0 : Int32) d15_7 (by decide) ?_
  exact W.ireturn (pc := 8) d15_8 rfl (Or.inr (Or.inr (Or.inl rfl))) (nw_byte (by decide)) (by decide) ⟨rfl, rfl⟩
theorem c45_init {Z a0} (hw : HW a0 Z) (hs : SF Z) {p1 p2 : Addr} {x1 : Int32} (hx1 : 0 ≤ x1.toInt ∧ x1.toInt ≤ 255) {x2 : Int32} (hx2 : 0 ≤ x2.toInt ∧ x2.toInt ≤ 255) {w_p2 : Bool} {ad_p2 : String} {F : List Ent} (mp2 : (p2, w_p2, ar ad_p2 .char [(vi x1), (vi x2)]) ∈ F) : Con Z EL (⟨"java/lang/String", "<init>", "([CIILjava/lang/Void;)V"⟩ : MethodName) jdk_42_method_149_code 6 (Option.none : Option Jvm.ClassFile.FieldType) (rmm 2 1 2 35) [(vr p1), (vr p2), (vi 0), (vi 2), .null] ((p1, true, oString .null (vi 0)) :: F) (fun v D' => (∃ a1 : Addr, v = none ∧ (a1, true, ar "[B" .byte [(vi x1.toInt8.toInt32), (vi x2.toInt8.toInt32)]) :: (p1, true, oString (vr a1) (vi 0)) :: F = D')) := by
  refine Con.of (ls := #[rv p1, rv p2, iv 0, iv 2, .val .null, uu]) (by decide +kernel) rfl ?_
  show W Z EL _ "java/lang/String" "<init>" _ _ _ _ _ _ _ _ _ _
  refine W.aloadN (pc := 0) d2_0 rfl rfl ?_
  refine W.initO (pc := 1) 0 d2_1 (w11 hw) (w12 hw) (w13 hw) rfl rfl (by decide) ?_
  refine W.iloadN (pc := 4) d2_4 rfl ?_
  refine W.ifY (pc := 5) 27 d2_5 (y_ne (by decide)) (by decide) ?_
  refine W.gets (pc := 27) d2_27 (w40 hw) Via.refl hs.1 ?_
  refine W.ifN (pc := 30) d2_30 (n_eq (by have := hs.2.1; have := q0; omega)) ?_
  refine W.aloadN (pc := 33) d2_33 rfl rfl ?_
  refine W.iloadN (pc := 34) d2_34 rfl ?_
  refine W.iloadN (pc := 35) d2_35 rfl ?_
  refine W.callS (pc := 36) (as := [(vr p2), (vi 0), (vi 2)]) 0 [] d2_36 (w69 hw) (w70 hw) (w71 hw) (w72 hw) (c46_compress hw hs (p1 := p2) (x1 := x1) (hx1 := hx1) (x2 := x2) (hx2 := hx2) (mp1 := (mS mp2))) (by decide) pd__CII__B rfl rfl rfl rfl (by decide) (fun v D' h => ?_)
  obtain ⟨a1, rfl, rfl⟩ := h
  show W _ _ _ _ _ _ _ _ _ _ _ _ 39 _ [(vr a1)]
  refine W.astore (pc := 39) (ls' := #[rv p1, rv p2, iv 0, iv 2, .val .null, rv a1]) d2_39 rfl rfl ?_
  refine W.aloadN (pc := 41) d2_41 rfl rfl ?_
  refine W.aload (pc := 42) 5 d2_42 rfl rfl ?_
  refine W.iloadN (pc := 44) d2_44 rfl ?_
  refine W.callS (pc := 45) (as := [(vr a1), (vi 2)]) 1 [(vr p1)] d2_45 (w76 hw) (w77 hw) (w71 hw) (w78 hw) (c48_coderFromArrayLen hw hs (p1 := a1) (x1 := x1.toInt8.toInt32) (hx1 := (by have := a_i2b x1; omega)) (x2 := x2.toInt8.toInt32) (hx2 := (by have := a_i2b x2; omega)) (mp1 := m0)) (by decide) pd__BI_B rfl rfl rfl rfl (by decide) (fun v D' h => ?_)
  obtain ⟨rfl, rfl⟩ := h
  show W _ _ _ _ _ _ _ _ _ _ _ _ 48 _ [(vi 0), (vr p1)]
  refine W.putf (pc := 48) (D' := (a1, true, ar "[B" .byte [(vi x1.toInt8.toInt32), (vi x2.toInt8.toInt32)]) :: (p1, true, oString .null (vi 0)) :: F) 1 1 d2_48 (w21 hw) Via.refl rfl rfl (Or.inr ⟨(w17 hw), rfl, rfl⟩) (w2 hw) pfB (nw_byte (by decide)) (ft_byte (by decide)) rfl ?_
  refine W.aloadN (pc := 51) d2_51 rfl rfl ?_
  refine W.aload (pc := 52) 5 d2_52 rfl rfl ?_
  refine W.putf (pc := 54) (D' := (a1, true, ar "[B" .byte [(vi x1.toInt8.toInt32), (vi x2.toInt8.toInt32)]) :: (p1, true, oString (vr a1) (vi 0)) :: F) 1 0 d2_54 (w20 hw) Via.refl rfl rfl (Or.inr ⟨(w16 hw), rfl, rfl⟩) (w2 hw) pf_B rfl rfl rfl ?_
  exact W.return_ (pc := 57) d2_57 rfl (by decide) ⟨a1, rfl, rfl⟩
theorem c44_init {Z a0} (hw : HW a0 Z) (hs : SF Z) {p1 p2 : Addr} {x1 : Int32} (hx1 : 0 ≤ x1.toInt ∧ x1.toInt ≤ 255) {x2 : Int32} (hx2 : 0 ≤ x2.toInt ∧ x2.toInt ≤ 255) {w_p2 : Bool} {ad_p2 : String} {F : List Ent} (mp2 : (p2, w_p2, ar ad_p2 .char [(vi x1), (vi x2)]) ∈ F) : Con Z EL (⟨"java/lang/String", "<init>", "([C)V"⟩ : MethodName) jdk_42_method_3_code 2 (Option.none : Option Jvm.ClassFile.FieldType) (rmm 3 1 2 52) [(vr p1), (vr p2)] ((p1, true, oString .null (vi 0)) :: F) (fun v D' => (∃ a1 : Addr, v = none ∧ (a1, true, ar "[B" .byte [(vi x1.toInt8.toInt32), (vi x2.toInt8.toInt32)]) :: (p1, true, oString (vr a1) (vi 0)) :: F = D')) := by
  refine Con.of (ls := #[rv p1, rv p2]) (by decide +kernel) rfl ?_
  show W Z EL _ "java/lang/String" "<init>" _ _ _ _ _ _ _ _ _ _
  refine W.aloadN (pc := 0) d1_0 rfl rfl ?_
  refine W.aloadN (pc := 1) d1_1 rfl rfl ?_
  refine W.iconst (pc := 2) (0) d1_2 (by decide) ?_
  refine W.aloadN (pc := 3) d1_3 rfl rfl ?_
  refine W.alen (pc := 4) (2) d1_4 (mS mp2) rfl ?_
  refine W.aconstNull (pc := 5) d1_5 ?_
  refine W.callI (pc := 6) (as := [(vr p2), (vi 0), (vi 2), .null]) 0 [] d1_6 rfl (w7 hw) (w8 hw) (w3 hw) (w10 hw) (c45_init hw hs (p1 := p1) (p2 := p2) (x1 := x1) (hx1 := hx1) (x2 := x2) (hx2 := hx2) (mp2 := mp2)) (by decide) pd__CIILjava_lang_Void__V rfl rfl rfl rfl (by decide) (fun v D' h => ?_)
  obtain ⟨a1, rfl, rfl⟩ := h
  show W _ _ _ _ _ _ _ _ _ _ _ _ 9 _ []
  exact W.return_ (pc := 9) d1_9 rfl (by decide) ⟨a1, rfl, rfl⟩
theorem c49_init {Z a0} (hw : HW a0 Z) (hs : SF Z) {p1 p2 p3 : Addr} {x1 : Int32} (hx1 : -128 ≤ x1.toInt ∧ x1.toInt ≤ 127) {x2 : Int32} (hx2 : -128 ≤ x2.toInt ∧ x2.toInt ≤ 127) {F : List Ent} : Con Z EL (⟨"com/example/chainvouch/chainvouch/chain/TimeRange", "<init>", "(Ljava/lang/String;Ljava/lang/String;)V"⟩ : MethodName) prog_15_method_1_code 3 (Option.none : Option Jvm.ClassFile.FieldType) (rmm 1 0 0 12) [(vr p1), .null, (vr p2)] ((p1, true, oTimeRange .null .null) :: F) (fun v D' => (v = none ∧ (p1, true, oTimeRange .null (vr p2)) :: F = D')) := by
  refine Con.of (ls := #[rv p1, .val .null, rv p2]) (by decide +kernel) rfl ?_
  show W Z EL _ "com/example/chainvouch/chainvouch/chain/TimeRange" "<init>" _ _ _ _ _ _ _ _ _ _
  refine W.aloadN (pc := 0) d4_0 rfl rfl ?_
  refine W.initO (pc := 1) 0 d4_1 (w29 hw) (w12 hw) (w13 hw) rfl rfl (by decide) ?_
  refine W.aloadN (pc := 4) d4_4 rfl rfl ?_
  refine W.ifnullY (pc := 5) 35 d4_5 (by decide) ?_
  refine W.aloadN (pc := 35) d4_35 rfl rfl ?_
  refine W.aloadN (pc := 36) d4_36 rfl rfl ?_
  refine W.putf (pc := 37) (D' := (p1, true, oTimeRange .null .null) :: F) 0 0 d4_37 (w56 hw) Via.refl rfl rfl (Or.inr ⟨(w57 hw), rfl, rfl⟩) (w24 hw) pfLjava_lang_String_ rfl rfl rfl ?_
  refine W.aloadN (pc := 40) d4_40 rfl rfl ?_
  refine W.aloadN (pc := 41) d4_41 rfl rfl ?_
  refine W.putf (pc := 42) (D' := (p1, true, oTimeRange .null (vr p2)) :: F) 0 1 d4_42 (w58 hw) Via.refl rfl rfl (Or.inr ⟨(w59 hw), rfl, rfl⟩) (w24 hw) pfLjava_lang_String_ rfl rfl rfl ?_
  exact W.return_ (pc := 45) d4_45 rfl (by decide) ⟨rfl, rfl⟩
theorem c52_coder {Z a0} (hw : HW a0 Z) (hs : SF Z) {p1 p2 : Addr} {x1 : Int32} (hx1 : -128 ≤ x1.toInt ∧ x1.toInt ≤ 127) {x2 : Int32} (hx2 : -128 ≤ x2.toInt ∧ x2.toInt ≤ 127) {w_p1 : Bool} {F : List Ent} (mp1 : (p1, w_p1, oString (vr p2) (vi 0)) ∈ F) : Con Z EL (⟨"java/lang/String", "coder", "()B"⟩ : MethodName) jdk_42_method_152_code 1 (Option.some Jvm.ClassFile.FieldType.byte) (rmm 0 0 0 0) [(vr p1)] (F) (fun v D' => (v = some (vi 0) ∧ F = D')) := by
  refine Con.of (ls := #[rv p1]) (by decide +kernel) rfl ?_
  show W Z EL _ "java/lang/String" "coder" _ _ _ _ _ _ _ _ _ _
  refine W.gets (pc := 0) d6_0 (w40 hw) Via.refl hs.1 ?_
  refine W.ifN (pc := 3) d6_3 (n_eq (by have := hs.2.1; have := q0; omega)) ?_
  refine W.aloadN (pc := 6) d6_6 rfl rfl ?_
  refine W.getf (pc := 7) d6_7 (w21 hw) Via.refl mp1 m1 ?_
  refine W.goto (pc := 10) 14 d6_10 (by decide) ?_
  exact W.ireturn (pc := 14) d6_14 rfl (Or.inr (Or.inr (Or.inl rfl))) (nw_byte (by decide)) (by decide) ⟨rfl, rfl⟩
theorem c55_min {Z a0} (hw : HW a0 Z) (hs : SF Z) {F : List Ent} : Con Z EL (⟨"java/lang/Math", "min", "(II)I"⟩ : MethodName) jdk_29_method_69_code 2 (Option.some Jvm.ClassFile.FieldType.int) (rmm 0 0 0 0) [(vi 2), (vi 2)] (F) (fun v D' => (v = some (vi 2) ∧ F = D')) := by
  refine Con.of (ls := #[iv 2, iv 2]) (by decide +kernel) rfl ?_
  show W Z EL _ "java/lang/Math" "min" _ _ _ _ _ _ _ _ _ _
  refine W.iloadN (pc := 0) d9_0 rfl ?_
  refine W.iloadN (pc := 1) d9_1 rfl ?_
  refine W.icmpN (pc := 2) d9_2 (n_gt (by decide)) ?_
  refine W.iloadN (pc := 5) d9_5 rfl ?_
  refine W.goto (pc := 6) 10 d9_6 (by decide) ?_
  exact W.ireturn (pc := 10) d9_10 rfl (Or.inl rfl) rfl (by decide) ⟨rfl, rfl⟩
theorem c56_mismatch {Z a0} (hw : HW a0 Z) (hs : SF Z) {p1 : Addr} {x1 : Int32} (hx1 : -128 ≤ x1.toInt ∧ x1.toInt ≤ 127) {x2 : Int32} (hx2 : -128 ≤ x2.toInt ∧ x2.toInt ≤ 127) {w_p1 : Bool} {ad_p1 : String} {F : List Ent} (mp1 : (p1, w_p1, ar ad_p1 .byte [(vi x1), (vi x2)]) ∈ F) : Con Z EL (⟨"jdk/internal/util/ArraysSupport", "mismatch", "([B[BI)I"⟩ : MethodName) jdk_48_method_13_code 4 (Option.some Jvm.ClassFile.FieldType.int) (rmm 0 0 0 0) [(vr p1), (vr p1), (vi 2)] (F) (fun v D' => (v = some (vi (-1)) ∧ F = D')) := by
  refine Con.of (ls := #[rv p1, rv p1, iv 2, uu]) (by decide +kernel) rfl ?_
  show W Z EL _ "jdk/internal/util/ArraysSupport" "mismatch" _ _ _ _ _ _ _ _ _ _
  refine W.iconst (pc := 0) (0) d10_0 (by decide) ?_
  refine W.istoreN (pc := 1) (ls' := #[rv p1, rv p1, iv 2, iv 0]) d10_1 rfl ?_
  refine W.iloadN (pc := 2) d10_2 rfl ?_
  refine W.bipush (pc := 3) (7) d10_3 (by decide) ?_
  refine W.icmpY (pc := 5) 49 d10_5 (y_le (by decide)) (by decide) ?_
  refine W.iloadN (pc := 49) d10_49 rfl ?_
  refine W.iloadN (pc := 50) d10_50 rfl ?_
  refine W.icmpN (pc := 51) d10_51 (n_ge (by decide)) ?_
  refine W.aloadN (pc := 54) d10_54 rfl rfl ?_
  refine W.iloadN (pc := 55) d10_55 rfl ?_
  refine W.baload (pc := 56) 0 d10_56 mp1 ix0 rfl ?_
  refine W.aloadN (pc := 57) d10_57 rfl rfl ?_
  refine W.iloadN (pc := 58) d10_58 rfl ?_
  refine W.baload (pc := 59) 0 d10_59 mp1 ix0 rfl ?_
  refine W.icmpY (pc := 60) 65 d10_60 (y_eq (by omega)) (by decide) ?_
  refine W.iincK (pc := 65) (ls' := #[rv p1, rv p1, iv 2, iv 1]) (1) (1 : Int32) d10_65 (by decide) rfl (by decide) rfl ?_
  refine W.goto (pc := 68) 49 d10_68 (by decide) ?_
  refine W.iloadN (pc := 49) d10_49 rfl ?_
  refine W.iloadN (pc := 50) d10_50 rfl ?_
  refine W.icmpN (pc := 51) d10_51 (n_ge (by decide)) ?_
  refine W.aloadN (pc := 54) d10_54 rfl rfl ?_
  refine W.iloadN (pc := 55) d10_55 rfl ?_
  refine W.baload (pc := 56) 1 d10_56 mp1 ix1 rfl ?_
  refine W.aloadN (pc := 57) d10_57 rfl rfl ?_
  refine W.iloadN (pc := 58) d10_58 rfl ?_
  refine W.baload (pc := 59) 1 d10_59 mp1 ix1 rfl ?_
  refine W.icmpY (pc := 60) 65 d10_60 (y_eq (by omega)) (by decide) ?_
  refine W.iincK (pc := 65) (ls' := #[rv p1, rv p1, iv 2, iv 2]) (1) (2 : Int32) d10_65 (by decide) rfl (by decide) rfl ?_
  refine W.goto (pc := 68) 49 d10_68 (by decide) ?_
  refine W.iloadN (pc := 49) d10_49 rfl ?_
  refine W.iloadN (pc := 50) d10_50 rfl ?_
  refine W.icmpY (pc := 51) 71 d10_51 (y_ge (by decide)) (by decide) ?_
  refine W.iconst (pc := 71) (-1) d10_71 (by decide) ?_
  exact W.ireturn (pc := 72) d10_72 rfl (Or.inl rfl) rfl (by decide) ⟨rfl, rfl⟩
theorem c54_compareTo {Z a0} (hw : HW a0 Z) (hs : SF Z) {p1 : Addr} {x1 : Int32} (hx1 : -128 ≤ x1.toInt ∧ x1.toInt ≤ 127) {x2 : Int32} (hx2 : -128 ≤ x2.toInt ∧ x2.toInt ≤ 127) {w_p1 : Bool} {ad_p1 : String} {F : List Ent} (mp1 : (p1, w_p1, ar ad_p1 .byte [(vi x1), (vi x2)]) ∈ F) : Con Z EL (⟨"java/lang/StringLatin1", "compareTo", "([B[BII)I"⟩ : MethodName) jdk_43_method_15_code 6 (Option.some Jvm.ClassFile.FieldType.int) (rmm 1 0 0 15) [(vr p1), (vr p1), (vi 2), (vi 2)] (F) (fun v D' => (v = some (vi 0) ∧ F = D')) := by
  refine Con.of (ls := #[rv p1, rv p1, iv 2, iv 2, uu, uu]) (by decide +kernel) rfl ?_
  show W Z EL _ "java/lang/StringLatin1" "compareTo" _ _ _ _ _ _ _ _ _ _
  refine W.iloadN (pc := 0) d8_0 rfl ?_
  refine W.iloadN (pc := 1) d8_1 rfl ?_
  refine W.callS (pc := 2) (as := [(vi 2), (vi 2)]) 0 [] d8_2 (w48 hw) (w49 hw) (w50 hw) (w51 hw) (c55_min hw hs) (by decide) pd_II_I rfl rfl rfl rfl (by decide) (fun v D' h => ?_)
  obtain ⟨rfl, rfl⟩ := h
  show W _ _ _ _ _ _ _ _ _ _ _ _ 5 _ [(vi 2)]
  refine W.istore (pc := 5) (ls' := #[rv p1, rv p1, iv 2, iv 2, iv 2, uu]) d8_5 rfl ?_
  refine W.aloadN (pc := 7) d8_7 rfl rfl ?_
  refine W.aloadN (pc := 8) d8_8 rfl rfl ?_
  refine W.iload (pc := 9) d8_9 rfl ?_
  refine W.callS (pc := 11) (as := [(vr p1), (vr p1), (vi 2)]) 0 [] d8_11 (w52 hw) (w53 hw) (w54 hw) (w55 hw) (c56_mismatch hw hs (p1 := p1) (x1 := x1) (hx1 := hx1) (x2 := x2) (hx2 := hx2) (mp1 := mp1)) (by decide) pd__B_BI_I rfl rfl rfl rfl (by decide) (fun v D' h => ?_)
  obtain ⟨rfl, rfl⟩ := h
  show W _ _ _ _ _ _ _ _ _ _ _ _ 14 _ [(vi (-1))]
  refine W.istore (pc := 14) (ls' := #[rv p1, rv p1, iv 2, iv 2, iv 2, iv (-1)]) d8_14 rfl ?_
  refine W.iload (pc := 16) d8_16 rfl ?_
  refine W.ifN (pc := 18) d8_18 (n_ge (by decide)) ?_
  refine W.iloadN (pc := 21) d8_21 rfl ?_
  refine W.iloadN (pc := 22) d8_22 rfl ?_
  refine W.isubK (pc := 23) (0 : Int32) d8_23 (by decide) ?_
  refine W.goto (pc := 24) 40 d8_24 (by decide) ?_
  exact W.ireturn (pc := 40) d8_40 rfl (Or.inl rfl) rfl (by decide) ⟨rfl, rfl⟩
theorem c53_compareTo {Z a0} (hw : HW a0 Z) (hs : SF Z) {p1 : Addr} {x1 : Int32} (hx1 : -128 ≤ x1.toInt ∧ x1.toInt ≤ 127) {x2 : Int32} (hx2 : -128 ≤ x2.toInt ∧ x2.toInt ≤ 127) {w_p1 : Bool} {ad_p1 : String} {F : List Ent} (mp1 : (p1, w_p1, ar ad_p1 .byte [(vi x1), (vi x2)]) ∈ F) : Con Z EL (⟨"java/lang/StringLatin1", "compareTo", "([B[B)I"⟩ : MethodName) jdk_43_method_14_code 4 (Option.some Jvm.ClassFile.FieldType.int) (rmm 2 0 0 32) [(vr p1), (vr p1)] (F) (fun v D' => (v = some (vi 0) ∧ F = D')) := by
  refine Con.of (ls := #[rv p1, rv p1, uu, uu]) (by decide +kernel) rfl ?_
  show W Z EL _ "java/lang/StringLatin1" "compareTo" _ _ _ _ _ _ _ _ _ _
  refine W.aloadN (pc := 0) d7_0 rfl rfl ?_
  refine W.alen (pc := 1) (2) d7_1 mp1 rfl ?_
  refine W.istoreN (pc := 2) (ls' := #[rv p1, rv p1, iv 2, uu]) d7_2 rfl ?_
  refine W.aloadN (pc := 3) d7_3 rfl rfl ?_
  refine W.alen (pc := 4) (2) d7_4 mp1 rfl ?_
  refine W.istoreN (pc := 5) (ls' := #[rv p1, rv p1, iv 2, iv 2]) d7_5 rfl ?_
  refine W.aloadN (pc := 6) d7_6 rfl rfl ?_
  refine W.aloadN (pc := 7) d7_7 rfl rfl ?_
  refine W.iloadN (pc := 8) d7_8 rfl ?_
  refine W.iloadN (pc := 9) d7_9 rfl ?_
  refine W.callS (pc := 10) (as := [(vr p1), (vr p1), (vi 2), (vi 2)]) 0 [] d7_10 (w45 hw) (w46 hw) (w43 hw) (w47 hw) (c54_compareTo hw hs (p1 := p1) (x1 := x1) (hx1 := hx1) (x2 := x2) (hx2 := hx2) (mp1 := mp1)) (by decide) pd__B_BII_I rfl rfl rfl rfl (by decide) (fun v D' h => ?_)
  obtain ⟨rfl, rfl⟩ := h
  show W _ _ _ _ _ _ _ _ _ _ _ _ 13 _ [(vi 0)]
  exact W.ireturn (pc := 13) d7_13 rfl (Or.inl rfl) rfl (by decide) ⟨rfl, rfl⟩
theorem c51_compareTo {Z a0} (hw : HW a0 Z) (hs : SF Z) {p1 p2 : Addr} {x1 : Int32} (hx1 : -128 ≤ x1.toInt ∧ x1.toInt ≤ 127) {x2 : Int32} (hx2 : -128 ≤ x2.toInt ∧ x2.toInt ≤ 127) {w_p1 : Bool} {w_p2 : Bool} {ad_p2 : String} {F : List Ent} (mp1 : (p1, w_p1, oString (vr p2) (vi 0)) ∈ F) (mp2 : (p2, w_p2, ar ad_p2 .byte [(vi x1), (vi x2)]) ∈ F) : Con Z EL (⟨"java/lang/String", "compareTo", "(Ljava/lang/String;)I"⟩ : MethodName) jdk_42_method_71_code 5 (Option.some Jvm.ClassFile.FieldType.int) (rmm 3 0 0 47) [(vr p1), (vr p1)] (F) (fun v D' => (v = some (vi 0) ∧ F = D')) := by
  refine Con.of (ls := #[rv p1, rv p1, uu, uu, uu]) (by decide +kernel) rfl ?_
  show W Z EL _ "java/lang/String" "compareTo" _ _ _ _ _ _ _ _ _ _
  refine W.aloadN (pc := 0) d5_0 rfl rfl ?_
  refine W.getf (pc := 1) d5_1 (w20 hw) Via.refl mp1 m0 ?_
  refine W.astoreN (pc := 4) (ls' := #[rv p1, rv p1, rv p2, uu, uu]) d5_4 rfl rfl ?_
  refine W.aloadN (pc := 5) d5_5 rfl rfl ?_
  refine W.getf (pc := 6) d5_6 (w20 hw) Via.refl mp1 m0 ?_
  refine W.astoreN (pc := 9) (ls' := #[rv p1, rv p1, rv p2, rv p2, uu]) d5_9 rfl rfl ?_
  refine W.aloadN (pc := 10) d5_10 rfl rfl ?_
  refine W.callV (pc := 11) (as := []) 0 [] d5_11 (w35 hw) (w36 hw) (w38 hw) (w38 hw) (w37 hw) (w3 hw) (w39 hw) (Hp.exa mp1) (c52_coder hw hs (p1 := p1) (p2 := p2) (x1 := x1) (hx1 := hx1) (x2 := x2) (hx2 := hx2) (mp1 := mp1)) (by decide) pd__B rfl rfl rfl rfl (by decide) (fun v D' h => ?_)
  obtain ⟨rfl, rfl⟩ := h
  show W _ _ _ _ _ _ _ _ _ _ _ _ 14 _ [(vi 0)]
  refine W.istore (pc := 14) (ls' := #[rv p1, rv p1, rv p2, rv p2, iv 0]) d5_14 rfl ?_
  refine W.iload (pc := 16) d5_16 rfl ?_
  refine W.aloadN (pc := 18) d5_18 rfl rfl ?_
  refine W.callV (pc := 19) (as := []) 1 [(vi 0)] d5_19 (w35 hw) (w36 hw) (w38 hw) (w38 hw) (w37 hw) (w3 hw) (w39 hw) (Hp.exa mp1) (c52_coder hw hs (p1 := p1) (p2 := p2) (x1 := x1) (hx1 := hx1) (x2 := x2) (hx2 := hx2) (mp1 := mp1)) (by decide) pd__B rfl rfl rfl rfl (by decide) (fun v D' h => ?_)
  obtain ⟨rfl, rfl⟩ := h
  show W _ _ _ _ _ _ _ _ _ _ _ _ 22 _ [(vi 0), (vi 0)]
  refine W.icmpN (pc := 22) d5_22 (n_ne (by decide)) ?_
  refine W.iload (pc := 25) d5_25 rfl ?_
  refine W.ifN (pc := 27) d5_27 (n_ne (by decide)) ?_
  refine W.aloadN (pc := 30) d5_30 rfl rfl ?_
  refine W.aloadN (pc := 31) d5_31 rfl rfl ?_
  refine W.callS (pc := 32) (as := [(vr p2), (vr p2)]) 0 [] d5_32 (w41 hw) (w42 hw) (w43 hw) (w44 hw) (c53_compareTo hw hs (p1 := p2) (x1 := x1) (hx1 := hx1) (x2 := x2) (hx2 := hx2) (mp1 := mp2)) (by decide) pd__B_B_I rfl rfl rfl rfl (by decide) (fun v D' h => ?_)
  obtain ⟨rfl, rfl⟩ := h
  show W _ _ _ _ _ _ _ _ _ _ _ _ 35 _ [(vi 0)]
  refine W.goto (pc := 35) 43 d5_35 (by decide) ?_
  exact W.ireturn (pc := 43) d5_43 rfl (Or.inl rfl) rfl (by decide) ⟨rfl, rfl⟩
theorem c50_init {Z a0} (hw : HW a0 Z) (hs : SF Z) {p1 p2 p3 : Addr} {x1 : Int32} (hx1 : -128 ≤ x1.toInt ∧ x1.toInt ≤ 127) {x2 : Int32} (hx2 : -128 ≤ x2.toInt ∧ x2.toInt ≤ 127) {w_p2 : Bool} {w_p3 : Bool} {ad_p3 : String} {F : List Ent} (mp2 : (p2, w_p2, oString (vr p3) (vi 0)) ∈ F) (mp3 : (p3, w_p3, ar ad_p3 .byte [(vi x1), (vi x2)]) ∈ F) : Con Z EL (⟨"com/example/chainvouch/chainvouch/chain/TimeRange", "<init>", "(Ljava/lang/String;Ljava/lang/String;)V"⟩ : MethodName) prog_15_method_1_code 3 (Option.none : Option Jvm.ClassFile.FieldType) (rmm 4 0 0 63) [(vr p1), (vr p2), (vr p2)] ((p1, true, oTimeRange .null .null) :: F) (fun v D' => (v = none ∧ (p1, true, oTimeRange (vr p2) (vr p2)) :: F = D')) := by
  refine Con.of (ls := #[rv p1, rv p2, rv p2]) (by decide +kernel) rfl ?_
  show W Z EL _ "com/example/chainvouch/chainvouch/chain/TimeRange" "<init>" _ _ _ _ _ _ _ _ _ _
  refine W.aloadN (pc := 0) d4_0 rfl rfl ?_
  refine W.initO (pc := 1) 0 d4_1 (w29 hw) (w12 hw) (w13 hw) rfl rfl (by decide) ?_
  refine W.aloadN (pc := 4) d4_4 rfl rfl ?_
  refine W.ifnullN (pc := 5) d4_5 ?_
  refine W.aloadN (pc := 8) d4_8 rfl rfl ?_
  refine W.ifnullN (pc := 9) d4_9 ?_
  refine W.aloadN (pc := 12) d4_12 rfl rfl ?_
  refine W.aloadN (pc := 13) d4_13 rfl rfl ?_
  refine W.callV (pc := 14) (as := [(vr p2)]) 0 [] d4_14 (w30 hw) (w31 hw) (w33 hw) (w33 hw) (w32 hw) (w3 hw) (w34 hw) (Hp.exa (mS mp2)) (c51_compareTo hw hs (p1 := p2) (p2 := p3) (x1 := x1) (hx1 := hx1) (x2 := x2) (hx2 := hx2) (mp1 := (mS mp2)) (mp2 := (mS mp3))) (by decide) pd_Ljava_lang_String__I rfl rfl rfl rfl (by decide) (fun v D' h => ?_)
  obtain ⟨rfl, rfl⟩ := h
  show W _ _ _ _ _ _ _ _ _ _ _ _ 17 _ [(vi 0)]
  refine W.ifY (pc := 17) 35 d4_17 (y_le (by decide)) (by decide) ?_
  refine W.aloadN (pc := 35) d4_35 rfl rfl ?_
  refine W.aloadN (pc := 36) d4_36 rfl rfl ?_
  refine W.putf (pc := 37) (D' := (p1, true, oTimeRange (vr p2) .null) :: F) 0 0 d4_37 (w56 hw) Via.refl rfl rfl (Or.inr ⟨(w57 hw), rfl, rfl⟩) (w24 hw) pfLjava_lang_String_ rfl rfl rfl ?_
  refine W.aloadN (pc := 40) d4_40 rfl rfl ?_
  refine W.aloadN (pc := 41) d4_41 rfl rfl ?_
  refine W.putf (pc := 42) (D' := (p1, true, oTimeRange (vr p2) (vr p2)) :: F) 0 1 d4_42 (w58 hw) Via.refl rfl rfl (Or.inr ⟨(w59 hw), rfl, rfl⟩) (w24 hw) pfLjava_lang_String_ rfl rfl rfl ?_
  exact W.return_ (pc := 45) d4_45 rfl (by decide) ⟨rfl, rfl⟩
theorem c61_min {Z a0} (hw : HW a0 Z) (hs : SF Z) {F : List Ent} : Con Z EL (⟨"java/lang/Math", "min", "(II)I"⟩ : MethodName) jdk_29_method_69_code 2 (Option.some Jvm.ClassFile.FieldType.int) (rmm 0 0 0 0) [(vi 0), (vi 2)] (F) (fun v D' => (v = some (vi 0) ∧ F = D')) := by
  refine Con.of (ls := #[iv 0, iv 2]) (by decide +kernel) rfl ?_
  show W Z EL _ "java/lang/Math" "min" _ _ _ _ _ _ _ _ _ _
  refine W.iloadN (pc := 0) d9_0 rfl ?_
  refine W.iloadN (pc := 1) d9_1 rfl ?_
  refine W.icmpN (pc := 2) d9_2 (n_gt (by decide)) ?_
  refine W.iloadN (pc := 5) d9_5 rfl ?_
  refine W.goto (pc := 6) 10 d9_6 (by decide) ?_
  exact W.ireturn (pc := 10) d9_10 rfl (Or.inl rfl) rfl (by decide) ⟨rfl, rfl⟩
theorem c62_mismatch {Z a0} (hw : HW a0 Z) (hs : SF Z) {p1 p2 : Addr} {x1 : Int32} (hx1 : -128 ≤ x1.toInt ∧ x1.toInt ≤ 127) {x2 : Int32} (hx2 : -128 ≤ x2.toInt ∧ x2.toInt ≤ 127) {F : List Ent} : Con Z EL (⟨"jdk/internal/util/ArraysSupport", "mismatch", "([B[BI)I"⟩ : MethodName) jdk_48_method_13_code 4 (Option.some Jvm.ClassFile.FieldType.int) (rmm 0 0 0 0) [(vr p1), (vr p2), (vi 0)] (F) (fun v D' => (v = some (vi (-1)) ∧ F = D')) := by
  refine Con.of (ls := #[rv p1, rv p2, iv 0, uu]) (by decide +kernel) rfl ?_
  show W Z EL _ "jdk/internal/util/ArraysSupport" "mismatch" _ _ _ _ _ _ _ _ _ _
  refine W.iconst (pc := 0) (0) d10_0 (by decide) ?_
  refine W.istoreN (pc := 1) (ls' := #[rv p1, rv p2, iv 0, iv 0]) d10_1 rfl ?_
  refine W.iloadN (pc := 2) d10_2 rfl ?_
  refine W.bipush (pc := 3) (7) d10_3 (by decide) ?_
  refine W.icmpY (pc := 5) 49 d10_5 (y_le (by decide)) (by decide) ?_
  refine W.iloadN (pc := 49) d10_49 rfl ?_
  refine W.iloadN (pc := 50) d10_50 rfl ?_
  refine W.icmpY (pc := 51) 71 d10_51 (y_ge (by decide)) (by decide) ?_
  refine W.iconst (pc := 71) (-1) d10_71 (by decide) ?_
  exact W.ireturn (pc := 72) d10_72 rfl (Or.inl rfl) rfl (by decide) ⟨rfl, rfl⟩
theorem c60_compareTo {Z a0} (hw : HW a0 Z) (hs : SF Z) {p1 p2 : Addr} {x1 : Int32} (hx1 : -128 ≤ x1.toInt ∧ x1.toInt ≤ 127) {x2 : Int32} (hx2 : -128 ≤ x2.toInt ∧ x2.toInt ≤ 127) {F : List Ent} : Con Z EL (⟨"java/lang/StringLatin1", "compareTo", "([B[BII)I"⟩ : MethodName) jdk_43_method_15_code 6 (Option.some Jvm.ClassFile.FieldType.int) (rmm 1 0 0 15) [(vr p1), (vr p2), (vi 0), (vi 2)] (F) (fun v D' => (v = some (vi (-2)) ∧ F = D')) := by
  refine Con.of (ls := #[rv p1, rv p2, iv 0, iv 2, uu, uu]) (by decide +kernel) rfl ?_
  show W Z EL _ "java/lang/StringLatin1" "compareTo" _ _ _ _ _ _ _ _ _ _
  refine W.iloadN (pc := 0) d8_0 rfl ?_
  refine W.iloadN (pc := 1) d8_1 rfl ?_
  refine W.callS (pc := 2) (as := [(vi 0), (vi 2)]) 0 [] d8_2 (w48 hw) (w49 hw) (w50 hw) (w51 hw) (c61_min hw hs) (by decide) pd_II_I rfl rfl rfl rfl (by decide) (fun v D' h => ?_)
  obtain ⟨rfl, rfl⟩ := h
  show W _ _ _ _ _ _ _ _ _ _ _ _ 5 _ [(vi 0)]
  refine W.istore (pc := 5) (ls' := #[rv p1, rv p2, iv 0, iv 2, iv 0, uu]) d8_5 rfl ?_
  refine W.aloadN (pc := 7) d8_7 rfl rfl ?_
  refine W.aloadN (pc := 8) d8_8 rfl rfl ?_
  refine W.iload (pc := 9) d8_9 rfl ?_
  refine W.callS (pc := 11) (as := [(vr p1), (vr p2), (vi 0)]) 0 [] d8_11 (w52 hw) (w53 hw) (w54 hw) (w55 hw) (c17_mismatch hw hs (p1 := p1) (p2 := p2)) (by decide) pd__B_BI_I rfl rfl rfl rfl (by decide) (fun v D' h => ?_)
  obtain ⟨rfl, rfl⟩ := h
  show W _ _ _ _ _ _ _ _ _ _ _ _ 14 _ [(vi (-1))]
  refine W.istore (pc := 14) (ls' := #[rv p1, rv p2, iv 0, iv 2, iv 0, iv (-1)]) d8_14 rfl ?_
  refine W.iload (pc := 16) d8_16 rfl ?_
  refine W.ifN (pc := 18) d8_18 (n_ge (by decide)) ?_
  refine W.iloadN (pc := 21) d8_21 rfl ?_
  refine W.iloadN (pc := 22) d8_22 rfl ?_
  refine W.isubK (pc := 23) (-2 : Int32) d8_23 (by decide) ?_
  refine W.goto (pc := 24) 40 d8_24 (by decide) ?_
  exact W.ireturn (pc := 40) d8_40 rfl (Or.inl rfl) rfl (by decide) ⟨rfl, rfl⟩
theorem c59_compareTo {Z a0} (hw : HW a0 Z) (hs : SF Z) {p1 p2 : Addr} {x1 : Int32} (hx1 : -128 ≤ x1.toInt ∧ x1.toInt ≤ 127) {x2 : Int32} (hx2 : -128 ≤ x2.toInt ∧ x2.toInt ≤ 127) {w_p1 : Bool} {ad_p1 : String} {w_p2 : Bool} {ad_p2 : String} {F : List Ent} (mp1 : (p1, w_p1, ar ad_p1 .byte []) ∈ F) (mp2 : (p2, w_p2, ar ad_p2 .byte [(vi x1), (vi x2)]) ∈ F) : Con Z EL (⟨"java/lang/StringLatin1", "compareTo", "([B[B)I"⟩ : MethodName) jdk_43_method_14_code 4 (Option.some Jvm.ClassFile.FieldType.int) (rmm 2 0 0 32) [(vr p1), (vr p2)] (F) (fun v D' => (v = some (vi (-2)) ∧ F = D')) := by
  refine Con.of (ls := #[rv p1, rv p2, uu, uu]) (by decide +kernel) rfl ?_
  show W Z EL _ "java/lang/StringLatin1" "compareTo" _ _ _ _ _ _ _ _ _ _
  refine W.aloadN (pc := 0) d7_0 rfl rfl ?_
  refine W.alen (pc := 1) (0) d7_1 mp1 rfl ?_
  refine W.istoreN (pc := 2) (ls' := #[rv p1, rv p2, iv 0, uu]) d7_2 rfl ?_
  refine W.aloadN (pc := 3) d7_3 rfl rfl ?_
  refine W.alen (pc := 4) (2) d7_4 mp2 rfl ?_
  refine W.istoreN (pc := 5) (ls' := #[rv p1, rv p2, iv 0, iv 2]) d7_5 rfl ?_
  refine W.aloadN (pc := 6) d7_6 rfl rfl ?_
  refine W.aloadN (pc := 7) d7_7 rfl rfl ?_
  refine W.iloadN (pc := 8) d7_8 rfl ?_
  refine W.iloadN (pc := 9) d7_9 rfl ?_
  refine W.callS (pc := 10) (as := [(vr p1), (vr p2), (vi 0), (vi 2)]) 0 [] d7_10 (w45 hw) (w46 hw) (w43 hw) (w47 hw) (c60_compareTo hw hs (p1 := p1) (p2 := p2) (x1 := x1) (hx1 := hx1) (x2 := x2) (hx2 := hx2)) (by decide) pd__B_BII_I rfl rfl rfl rfl (by decide) (fun v D' h => ?_)
  obtain ⟨rfl, rfl⟩ := h
  show W _ _ _ _ _ _ _ _ _ _ _ _ 13 _ [(vi (-2))]
  exact W.ireturn (pc := 13) d7_13 rfl (Or.inl rfl) rfl (by decide) ⟨rfl, rfl⟩
theorem c58_compareTo {Z a0} (hw : HW a0 Z) (hs : SF Z) {p1 p2 p3 p4 : Addr} {x1 : Int32} (hx1 : -128 ≤ x1.toInt ∧ x1.toInt ≤ 127) {x2 : Int32} (hx2 : -128 ≤ x2.toInt ∧ x2.toInt ≤ 127) {w_p1 : Bool} {w_p2 : Bool} {w_p3 : Bool} {ad_p3 : String} {w_p4 : Bool} {ad_p4 : String} {F : List Ent} (mp1 : (p1, w_p1, oString (vr p3) (vi 0)) ∈ F) (mp2 : (p2, w_p2, oString (vr p4) (vi 0)) ∈ F) (mp3 : (p3, w_p3, ar ad_p3 .byte []) ∈ F) (mp4 : (p4, w_p4, ar ad_p4 .byte [(vi x1), (vi x2)]) ∈ F) : Con Z EL (⟨"java/lang/String", "compareTo", "(Ljava/lang/String;)I"⟩ : MethodName) jdk_42_method_71_code 5 (Option.some Jvm.ClassFile.FieldType.int) (rmm 3 0 0 47) [(vr p1), (vr p2)] (F) (fun v D' => (v = some (vi (-2)) ∧ F = D')) := by
  refine Con.of (ls := #[rv p1, rv p2, uu, uu, uu]) (by decide +kernel) rfl ?_
  show W Z EL _ "java/lang/String" "compareTo" _ _ _ _ _ _ _ _ _ _
  refine W.aloadN (pc := 0) d5_0 rfl rfl ?_
  refine W.getf (pc := 1) d5_1 (w20 hw) Via.refl mp1 m0 ?_
  refine W.astoreN (pc := 4) (ls' := #[rv p1, rv p2, rv p3, uu, uu]) d5_4 rfl rfl ?_
  refine W.aloadN (pc := 5) d5_5 rfl rfl ?_
  refine W.getf (pc := 6) d5_6 (w20 hw) Via.refl mp2 m0 ?_
  refine W.astoreN (pc := 9) (ls' := #[rv p1, rv p2, rv p3, rv p4, uu]) d5_9 rfl rfl ?_
  refine W.aloadN (pc := 10) d5_10 rfl rfl ?_
  refine W.callV (pc := 11) (as := []) 0 [] d5_11 (w35 hw) (w36 hw) (w38 hw) (w38 hw) (w37 hw) (w3 hw) (w39 hw) (Hp.exa mp1) (c6_coder hw hs (p1 := p1) (p2 := p3) (mp1 := mp1)) (by decide) pd__B rfl rfl rfl rfl (by decide) (fun v D' h => ?_)
  obtain ⟨rfl, rfl⟩ := h
  show W _ _ _ _ _ _ _ _ _ _ _ _ 14 _ [(vi 0)]
  refine W.istore (pc := 14) (ls' := #[rv p1, rv p2, rv p3, rv p4, iv 0]) d5_14 rfl ?_
  refine W.iload (pc := 16) d5_16 rfl ?_
  refine W.aloadN (pc := 18) d5_18 rfl rfl ?_
  refine W.callV (pc := 19) (as := []) 1 [(vi 0)] d5_19 (w35 hw) (w36 hw) (w38 hw) (w38 hw) (w37 hw) (w3 hw) (w39 hw) (Hp.exa mp2) (c52_coder hw hs (p1 := p2) (p2 := p4) (x1 := x1) (hx1 := hx1) (x2 := x2) (hx2 := hx2) (mp1 := mp2)) (by decide) pd__B rfl rfl rfl rfl (by decide) (fun v D' h => ?_)
  obtain ⟨rfl, rfl⟩ := h
  show W _ _ _ _ _ _ _ _ _ _ _ _ 22 _ [(vi 0), (vi 0)]
  refine W.icmpN (pc := 22) d5_22 (n_ne (by decide)) ?_
  refine W.iload (pc := 25) d5_25 rfl ?_
  refine W.ifN (pc := 27) d5_27 (n_ne (by decide)) ?_
  refine W.aloadN (pc := 30) d5_30 rfl rfl ?_
  refine W.aloadN (pc := 31) d5_31 rfl rfl ?_
  refine W.callS (pc := 32) (as := [(vr p3), (vr p4)]) 0 [] d5_32 (w41 hw) (w42 hw) (w43 hw) (w44 hw) (c59_compareTo hw hs (p1 := p3) (p2 := p4) (x1 := x1) (hx1 := hx1) (x2 := x2) (hx2 := hx2) (mp1 := mp3) (mp2 := mp4)) (by decide) pd__B_B_I rfl rfl rfl rfl (by decide) (fun v D' h => ?_)
  obtain ⟨rfl, rfl⟩ := h
  show W _ _ _ _ _ _ _ _ _ _ _ _ 35 _ [(vi (-2))]
  refine W.goto (pc := 35) 43 d5_35 (by decide) ?_
  exact W.ireturn (pc := 43) d5_43 rfl (Or.inl rfl) rfl (by decide) ⟨rfl, rfl⟩
theorem c57_init {Z a0} (hw : HW a0 Z) (hs : SF Z) {p1 p2 p3 p4 p5 : Addr} {x1 : Int32} (hx1 : -128 ≤ x1.toInt ∧ x1.toInt ≤ 127) {x2 : Int32} (hx2 : -128 ≤ x2.toInt ∧ x2.toInt ≤ 127) {w_p2 : Bool} {w_p3 : Bool} {w_p4 : Bool} {ad_p4 : String} {w_p5 : Bool} {ad_p5 : String} {F : List Ent} (mp2 : (p2, w_p2, oString (vr p4) (vi 0)) ∈ F) (mp3 : (p3, w_p3, oString (vr p5) (vi 0)) ∈ F) (mp4 : (p4, w_p4, ar ad_p4 .byte []) ∈ F) (mp5 : (p5, w_p5, ar ad_p5 .byte [(vi x1), (vi x2)]) ∈ F) : Con Z EL (⟨"com/example/chainvouch/chainvouch/chain/TimeRange", "<init>", "(Ljava/lang/String;Ljava/lang/String;)V"⟩ : MethodName) prog_15_method_1_code 3 (Option.none : Option Jvm.ClassFile.FieldType) (rmm 4 0 0 63) [(vr p1), (vr p2), (vr p3)] ((p1, true, oTimeRange .null .null) :: F) (fun v D' => (v = none ∧ (p1, true, oTimeRange (vr p2) (vr p3)) :: F = D')) := by
  refine Con.of (ls := #[rv p1, rv p2, rv p3]) (by decide +kernel) rfl ?_
  show W Z EL _ "com/example/chainvouch/chainvouch/chain/TimeRange" "<init>" _ _ _ _ _ _ _ _ _ _
  refine W.aloadN (pc := 0) d4_0 rfl rfl ?_
  refine W.initO (pc := 1) 0 d4_1 (w29 hw) (w12 hw) (w13 hw) rfl rfl (by decide) ?_
  refine W.aloadN (pc := 4) d4_4 rfl rfl ?_
  refine W.ifnullN (pc := 5) d4_5 ?_
  refine W.aloadN (pc := 8) d4_8 rfl rfl ?_
  refine W.ifnullN (pc := 9) d4_9 ?_
  refine W.aloadN (pc := 12) d4_12 rfl rfl ?_
  refine W.aloadN (pc := 13) d4_13 rfl rfl ?_
  refine W.callV (pc := 14) (as := [(vr p3)]) 0 [] d4_14 (w30 hw) (w31 hw) (w33 hw) (w33 hw) (w32 hw) (w3 hw) (w34 hw) (Hp.exa (mS mp2)) (c58_compareTo hw hs (p1 := p2) (p2 := p3) (p3 := p4) (p4 := p5) (x1 := x1) (hx1 := hx1) (x2 := x2) (hx2 := hx2) (mp1 := (mS mp2)) (mp2 := (mS mp3)) (mp3 := (mS mp4)) (mp4 := (mS mp5))) (by decide) pd_Ljava_lang_String__I rfl rfl rfl rfl (by decide) (fun v D' h => ?_)
  obtain ⟨rfl, rfl⟩ := h
  show W _ _ _ _ _ _ _ _ _ _ _ _ 17 _ [(vi (-2))]
  refine W.ifY (pc := 17) 35 d4_17 (y_le (by decide)) (by decide) ?_
  refine W.aloadN (pc := 35) d4_35 rfl rfl ?_
  refine W.aloadN (pc := 36) d4_36 rfl rfl ?_
  refine W.putf (pc := 37) (D' := (p1, true, oTimeRange (vr p2) .null) :: F) 0 0 d4_37 (w56 hw) Via.refl rfl rfl (Or.inr ⟨(w57 hw), rfl, rfl⟩) (w24 hw) pfLjava_lang_String_ rfl rfl rfl ?_
  refine W.aloadN (pc := 40) d4_40 rfl rfl ?_
  refine W.aloadN (pc := 41) d4_41 rfl rfl ?_
  refine W.putf (pc := 42) (D' := (p1, true, oTimeRange (vr p2) (vr p3)) :: F) 0 1 d4_42 (w58 hw) Via.refl rfl rfl (Or.inr ⟨(w59 hw), rfl, rfl⟩) (w24 hw) pfLjava_lang_String_ rfl rfl rfl ?_
  exact W.return_ (pc := 45) d4_45 rfl (by decide) ⟨rfl, rfl⟩
theorem c63_startsAfter {Z a0} (hw : HW a0 Z) (hs : SF Z) {p1 p2 p3 p4 p5 : Addr} {x1 : Int32} (hx1 : -128 ≤ x1.toInt ∧ x1.toInt ≤ 127) {x2 : Int32} (hx2 : -128 ≤ x2.toInt ∧ x2.toInt ≤ 127) {u1 : Value} (hu1 : u1.isRef = true) {w_p1 : Bool} {w_p2 : Bool} {w_p3 : Bool} {w_p4 : Bool} {ad_p4 : String} {w_p5 : Bool} {ad_p5 : String} {F : List Ent} (mp1 : (p1, w_p1, oTimeRange u1 (vr p3)) ∈ F) (mp2 : (p2, w_p2, oString (vr p4) (vi 0)) ∈ F) (mp3 : (p3, w_p3, oString (vr p5) (vi 0)) ∈ F) (mp4 : (p4, w_p4, ar ad_p4 .byte []) ∈ F) (mp5 : (p5, w_p5, ar ad_p5 .byte [(vi x1), (vi x2)]) ∈ F) : Con Z EL (⟨"com/example/chainvouch/chainvouch/chain/TimeRange", "startsAfter", "(Ljava/lang/String;)Z"⟩ : MethodName) prog_15_method_3_code 2 (Option.some Jvm.ClassFile.FieldType.boolean) (rmm 4 0 0 63) [(vr p1), (vr p2)] (F) (fun v D' => (v = some (vi 0) ∧ F = D')) := by
  refine Con.of (ls := #[rv p1, rv p2]) (by decide +kernel) rfl ?_
  show W Z EL _ "com/example/chainvouch/chainvouch/chain/TimeRange" "startsAfter" _ _ _ _ _ _ _ _ _ _
  refine W.aloadN (pc := 0) d11_0 rfl rfl ?_
  refine W.getf (pc := 1) d11_1 (w58 hw) Via.refl mp1 m1 ?_
  refine W.ifnullN (pc := 4) d11_4 ?_
  refine W.aloadN (pc := 7) d11_7 rfl rfl ?_
  refine W.aloadN (pc := 8) d11_8 rfl rfl ?_
  refine W.getf (pc := 9) d11_9 (w58 hw) Via.refl mp1 m1 ?_
  refine W.callV (pc := 12) (as := [(vr p3)]) 0 [] d11_12 (w30 hw) (w31 hw) (w33 hw) (w33 hw) (w32 hw) (w3 hw) (w34 hw) (Hp.exa mp2) (c58_compareTo hw hs (p1 := p2) (p2 := p3) (p3 := p4) (p4 := p5) (x1 := x1) (hx1 := hx1) (x2 := x2) (hx2 := hx2) (mp1 := mp2) (mp2 := mp3) (mp3 := mp4) (mp4 := mp5)) (by decide) pd_Ljava_lang_String__I rfl rfl rfl rfl (by decide) (fun v D' h => ?_)
  obtain ⟨rfl, rfl⟩ := h
  show W _ _ _ _ _ _ _ _ _ _ _ _ 15 _ [(vi (-2))]
  refine W.ifY (pc := 15) 22 d11_15 (y_lt (by decide)) (by decide) ?_
  refine W.iconst (pc := 22) (0) d11_22 (by decide) ?_
  exact W.ireturn (pc := 23) d11_23 rfl (Or.inr (Or.inl rfl)) (nw_bool (by decide)) (by decide) ⟨rfl, rfl⟩
theorem c64_geq {Z a0} (hw : HW a0 Z) (hs : SF Z) {x1 : Int32} (hx1 : 0 ≤ x1.toInt ∧ x1.toInt ≤ 255) {x2 : Int32} (hx2 : 0 ≤ x2.toInt ∧ x2.toInt ≤ 255) {x3 : Int32} (hx3 : 0 ≤ x3.toInt ∧ x3.toInt ≤ 255) {x4 : Int32} (hx4 : 0 ≤ x4.toInt ∧ x4.toInt ≤ 255) {F : List Ent} : Con Z EL (⟨"com/example/chainvouch/chainvouch/chain/TimeRangeStartsAfterPinLaw", "geq", "(IIIIII)Z"⟩ : MethodName) method_3_code 6 (Option.some Jvm.ClassFile.FieldType.boolean) (rmm 0 0 0 0) [(vi 0), (vi x1), (vi x2), (vi 2), (vi x3), (vi x4)] (F) (fun v D' => (v = some (vi 0) ∧ F = D')) := by
  refine Con.of (ls := #[iv 0, iv x1, iv x2, iv 2, iv x3, iv x4]) (by decide +kernel) rfl ?_
  show W Z EL _ "com/example/chainvouch/chainvouch/chain/TimeRangeStartsAfterPinLaw" "geq" _ _ _ _ _ _ _ _ _ _
  refine W.iloadN (pc := 0) d12_0 rfl ?_
  refine W.ifY (pc := 1) 8 d12_1 (y_eq (by decide)) (by decide) ?_
  refine W.iloadN (pc := 8) d12_8 rfl ?_
  refine W.iloadN (pc := 9) d12_9 rfl ?_
  refine W.icmpY (pc := 10) 17 d12_10 (y_lt (by decide)) (by decide) ?_
  refine W.iconst (pc := 17) (0) d12_17 (by decide) ?_
  exact W.ireturn (pc := 18) d12_18 rfl (Or.inr (Or.inl rfl)) (nw_bool (by decide)) (by decide) ⟨rfl, rfl⟩
theorem d9_9 : decode jdk_29_method_69_code 9 = .ok (.iload_n 1, 1) := by decide +kernel
theorem c69_min {Z a0} (hw : HW a0 Z) (hs : SF Z) {F : List Ent} : Con Z EL (⟨"java/lang/Math", "min", "(II)I"⟩ : MethodName) jdk_29_method_69_code 2 (Option.some Jvm.ClassFile.FieldType.int) (rmm 0 0 0 0) [(vi 1), (vi 0)] (F) (fun v D' => (v = some (vi 0) ∧ F = D')) := by
  refine Con.of (ls := #[iv 1, iv 0]) (by decide +kernel) rfl ?_
  show W Z EL _ "java/lang/Math" "min" _ _ _ _ _ _ _ _ _ _
  refine W.iloadN (pc := 0) d9_0 rfl ?_
  refine W.iloadN (pc := 1) d9_1 rfl ?_
  refine W.icmpY (pc := 2) 9 d9_2 (y_gt (by decide)) (by decide) ?_
  refine W.iloadN (pc := 9) d9_9 rfl ?_
  exact W.ireturn (pc := 10) d9_10 rfl (Or.inl rfl) rfl (by decide) ⟨rfl, rfl⟩
theorem c70_mismatch {Z a0} (hw : HW a0 Z) (hs : SF Z) {p1 p2 : Addr} {x1 : Int32} (hx1 : -128 ≤ x1.toInt ∧ x1.toInt ≤ 127) {F : List Ent} : Con Z EL (⟨"jdk/internal/util/ArraysSupport", "mismatch", "([B[BI)I"⟩ : MethodName) jdk_48_method_13_code 4 (Option.some Jvm.ClassFile.FieldType.int) (rmm 0 0 0 0) [(vr p1), (vr p2), (vi 0)] (F) (fun v D' => (v = some (vi (-1)) ∧ F = D')) := by
  refine Con.of (ls := #[rv p1, rv p2, iv 0, uu]) (by decide +kernel) rfl ?_
  show W Z EL _ "jdk/internal/util/ArraysSupport" "mismatch" _ _ _ _ _ _ _ _ _ _
  refine W.iconst (pc := 0) (0) d10_0 (by decide) ?_
  refine W.istoreN (pc := 1) (ls' := #[rv p1, rv p2, iv 0, iv 0]) d10_1 rfl ?_
  refine W.iloadN (pc := 2) d10_2 rfl ?_
  refine W.bipush (pc := 3) (7) d10_3 (by decide) ?_
  refine W.icmpY (pc := 5) 49 d10_5 (y_le (by decide)) (by decide) ?_
  refine W.iloadN (pc := 49) d10_49 rfl ?_
  refine W.iloadN (pc := 50) d10_50 rfl ?_
  refine W.icmpY (pc := 51) 71 d10_51 (y_ge (by decide)) (by decide) ?_
  refine W.iconst (pc := 71) (-1) d10_71 (by decide) ?_
  exact W.ireturn (pc := 72) d10_72 rfl (Or.inl rfl) rfl (by decide) ⟨rfl, rfl⟩
theorem c68_compareTo {Z a0} (hw : HW a0 Z) (hs : SF Z) {p1 p2 : Addr} {x1 : Int32} (hx1 : -128 ≤ x1.toInt ∧ x1.toInt ≤ 127) {F : List Ent} : Con Z EL (⟨"java/lang/StringLatin1", "compareTo", "([B[BII)I"⟩ : MethodName) jdk_43_method_15_code 6 (Option.some Jvm.ClassFile.FieldType.int) (rmm 1 0 0 15) [(vr p1), (vr p2), (vi 1), (vi 0)] (F) (fun v D' => (v = some (vi 1) ∧ F = D')) := by
  refine Con.of (ls := #[rv p1, rv p2, iv 1, iv 0, uu, uu]) (by decide +kernel) rfl ?_
  show W Z EL _ "java/lang/StringLatin1" "compareTo" _ _ _ _ _ _ _ _ _ _
  refine W.iloadN (pc := 0) d8_0 rfl ?_
  refine W.iloadN (pc := 1) d8_1 rfl ?_
  refine W.callS (pc := 2) (as := [(vi 1), (vi 0)]) 0 [] d8_2 (w48 hw) (w49 hw) (w50 hw) (w51 hw) (c69_min hw hs) (by decide) pd_II_I rfl rfl rfl rfl (by decide) (fun v D' h => ?_)
  obtain ⟨rfl, rfl⟩ := h
  show W _ _ _ _ _ _ _ _ _ _ _ _ 5 _ [(vi 0)]
  refine W.istore (pc := 5) (ls' := #[rv p1, rv p2, iv 1, iv 0, iv 0, uu]) d8_5 rfl ?_
  refine W.aloadN (pc := 7) d8_7 rfl rfl ?_
  refine W.aloadN (pc := 8) d8_8 rfl rfl ?_
  refine W.iload (pc := 9) d8_9 rfl ?_
  refine W.callS (pc := 11) (as := [(vr p1), (vr p2), (vi 0)]) 0 [] d8_11 (w52 hw) (w53 hw) (w54 hw) (w55 hw) (c17_mismatch hw hs (p1 := p1) (p2 := p2)) (by decide) pd__B_BI_I rfl rfl rfl rfl (by decide) (fun v D' h => ?_)
  obtain ⟨rfl, rfl⟩ := h
  show W _ _ _ _ _ _ _ _ _ _ _ _ 14 _ [(vi (-1))]
  refine W.istore (pc := 14) (ls' := #[rv p1, rv p2, iv 1, iv 0, iv 0, iv (-1)]) d8_14 rfl ?_
  refine W.iload (pc := 16) d8_16 rfl ?_
  refine W.ifN (pc := 18) d8_18 (n_ge (by decide)) ?_
  refine W.iloadN (pc := 21) d8_21 rfl ?_
  refine W.iloadN (pc := 22) d8_22 rfl ?_
  refine W.isubK (pc := 23) (1 : Int32) d8_23 (by decide) ?_
  refine W.goto (pc := 24) 40 d8_24 (by decide) ?_
  exact W.ireturn (pc := 40) d8_40 rfl (Or.inl rfl) rfl (by decide) ⟨rfl, rfl⟩
theorem c67_compareTo {Z a0} (hw : HW a0 Z) (hs : SF Z) {p1 p2 : Addr} {x1 : Int32} (hx1 : -128 ≤ x1.toInt ∧ x1.toInt ≤ 127) {w_p1 : Bool} {ad_p1 : String} {w_p2 : Bool} {ad_p2 : String} {F : List Ent} (mp1 : (p1, w_p1, ar ad_p1 .byte [(vi x1)]) ∈ F) (mp2 : (p2, w_p2, ar ad_p2 .byte []) ∈ F) : Con Z EL (⟨"java/lang/StringLatin1", "compareTo", "([B[B)I"⟩ : MethodName) jdk_43_method_14_code 4 (Option.some Jvm.ClassFile.FieldType.int) (rmm 2 0 0 32) [(vr p1), (vr p2)] (F) (fun v D' => (v = some (vi 1) ∧ F = D')) := by
  refine Con.of (ls := #[rv p1, rv p2, uu, uu]) (by decide +kernel) rfl ?_
  show W Z EL _ "java/lang/StringLatin1" "compareTo" _ _ _ _ _ _ _ _ _ _
  refine W.aloadN (pc := 0) d7_0 rfl rfl ?_
  refine W.alen (pc := 1) (1) d7_1 mp1 rfl ?_
  refine W.istoreN (pc := 2) (ls' := #[rv p1, rv p2, iv 1, uu]) d7_2 rfl ?_
  refine W.aloadN (pc := 3) d7_3 rfl rfl ?_
  refine W.alen (pc := 4) (0) d7_4 mp2 rfl ?_
  refine W.istoreN (pc := 5) (ls' := #[rv p1, rv p2, iv 1, iv 0]) d7_5 rfl ?_
  refine W.aloadN (pc := 6) d7_6 rfl rfl ?_
  refine W.aloadN (pc := 7) d7_7 rfl rfl ?_
  refine W.iloadN (pc := 8) d7_8 rfl ?_
  refine W.iloadN (pc := 9) d7_9 rfl ?_
  refine W.callS (pc := 10) (as := [(vr p1), (vr p2), (vi 1), (vi 0)]) 0 [] d7_10 (w45 hw) (w46 hw) (w43 hw) (w47 hw) (c68_compareTo hw hs (p1 := p1) (p2 := p2) (x1 := x1) (hx1 := hx1)) (by decide) pd__B_BII_I rfl rfl rfl rfl (by decide) (fun v D' h => ?_)
  obtain ⟨rfl, rfl⟩ := h
  show W _ _ _ _ _ _ _ _ _ _ _ _ 13 _ [(vi 1)]
  exact W.ireturn (pc := 13) d7_13 rfl (Or.inl rfl) rfl (by decide) ⟨rfl, rfl⟩
theorem c66_compareTo {Z a0} (hw : HW a0 Z) (hs : SF Z) {p1 p2 p3 p4 : Addr} {x1 : Int32} (hx1 : -128 ≤ x1.toInt ∧ x1.toInt ≤ 127) {w_p1 : Bool} {w_p2 : Bool} {w_p3 : Bool} {ad_p3 : String} {w_p4 : Bool} {ad_p4 : String} {F : List Ent} (mp1 : (p1, w_p1, oString (vr p3) (vi 0)) ∈ F) (mp2 : (p2, w_p2, oString (vr p4) (vi 0)) ∈ F) (mp3 : (p3, w_p3, ar ad_p3 .byte [(vi x1)]) ∈ F) (mp4 : (p4, w_p4, ar ad_p4 .byte []) ∈ F) : Con Z EL (⟨"java/lang/String", "compareTo", "(Ljava/lang/String;)I"⟩ : MethodName) jdk_42_method_71_code 5 (Option.some Jvm.ClassFile.FieldType.int) (rmm 3 0 0 47) [(vr p1), (vr p2)] (F) (fun v D' => (v = some (vi 1) ∧ F = D')) := by
  refine Con.of (ls := #[rv p1, rv p2, uu, uu, uu]) (by decide +kernel) rfl ?_
  show W Z EL _ "java/lang/String" "compareTo" _ _ _ _ _ _ _ _ _ _
  refine W.aloadN (pc := 0) d5_0 rfl rfl ?_
  refine W.getf (pc := 1) d5_1 (w20 hw) Via.refl mp1 m0 ?_
  refine W.astoreN (pc := 4) (ls' := #[rv p1, rv p2, rv p3, uu, uu]) d5_4 rfl rfl ?_
  refine W.aloadN (pc := 5) d5_5 rfl rfl ?_
  refine W.getf (pc := 6) d5_6 (w20 hw) Via.refl mp2 m0 ?_
  refine W.astoreN (pc := 9) (ls' := #[rv p1, rv p2, rv p3, rv p4, uu]) d5_9 rfl rfl ?_
  refine W.aloadN (pc := 10) d5_10 rfl rfl ?_
  refine W.callV (pc := 11) (as := []) 0 [] d5_11 (w35 hw) (w36 hw) (w38 hw) (w38 hw) (w37 hw) (w3 hw) (w39 hw) (Hp.exa mp1) (c31_coder hw hs (p1 := p1) (p2 := p3) (x1 := x1) (hx1 := hx1) (mp1 := mp1)) (by decide) pd__B rfl rfl rfl rfl (by decide) (fun v D' h => ?_)
  obtain ⟨rfl, rfl⟩ := h
  show W _ _ _ _ _ _ _ _ _ _ _ _ 14 _ [(vi 0)]
  refine W.istore (pc := 14) (ls' := #[rv p1, rv p2, rv p3, rv p4, iv 0]) d5_14 rfl ?_
  refine W.iload (pc := 16) d5_16 rfl ?_
  refine W.aloadN (pc := 18) d5_18 rfl rfl ?_
  refine W.callV (pc := 19) (as := []) 1 [(vi 0)] d5_19 (w35 hw) (w36 hw) (w38 hw) (w38 hw) (w37 hw) (w3 hw) (w39 hw) (Hp.exa mp2) (c6_coder hw hs (p1 := p2) (p2 := p4) (mp1 := mp2)) (by decide) pd__B rfl rfl rfl rfl (by decide) (fun v D' h => ?_)
  obtain ⟨rfl, rfl⟩ := h
  show W _ _ _ _ _ _ _ _ _ _ _ _ 22 _ [(vi 0), (vi 0)]
  refine W.icmpN (pc := 22) d5_22 (n_ne (by decide)) ?_
  refine W.iload (pc := 25) d5_25 rfl ?_
  refine W.ifN (pc := 27) d5_27 (n_ne (by decide)) ?_
  refine W.aloadN (pc := 30) d5_30 rfl rfl ?_
  refine W.aloadN (pc := 31) d5_31 rfl rfl ?_
  refine W.callS (pc := 32) (as := [(vr p3), (vr p4)]) 0 [] d5_32 (w41 hw) (w42 hw) (w43 hw) (w44 hw) (c67_compareTo hw hs (p1 := p3) (p2 := p4) (x1 := x1) (hx1 := hx1) (mp1 := mp3) (mp2 := mp4)) (by decide) pd__B_B_I rfl rfl rfl rfl (by decide) (fun v D' h => ?_)
  obtain ⟨rfl, rfl⟩ := h
  show W _ _ _ _ _ _ _ _ _ _ _ _ 35 _ [(vi 1)]
  refine W.goto (pc := 35) 43 d5_35 (by decide) ?_
  exact W.ireturn (pc := 43) d5_43 rfl (Or.inl rfl) rfl (by decide) ⟨rfl, rfl⟩
theorem c65_startsAfter {Z a0} (hw : HW a0 Z) (hs : SF Z) {p1 p2 p3 p4 p5 : Addr} {x1 : Int32} (hx1 : -128 ≤ x1.toInt ∧ x1.toInt ≤ 127) {u1 : Value} (hu1 : u1.isRef = true) {w_p1 : Bool} {w_p2 : Bool} {w_p3 : Bool} {w_p4 : Bool} {ad_p4 : String} {w_p5 : Bool} {ad_p5 : String} {F : List Ent} (mp1 : (p1, w_p1, oTimeRange u1 (vr p3)) ∈ F) (mp2 : (p2, w_p2, oString (vr p4) (vi 0)) ∈ F) (mp3 : (p3, w_p3, oString (vr p5) (vi 0)) ∈ F) (mp4 : (p4, w_p4, ar ad_p4 .byte [(vi x1)]) ∈ F) (mp5 : (p5, w_p5, ar ad_p5 .byte []) ∈ F) : Con Z EL (⟨"com/example/chainvouch/chainvouch/chain/TimeRange", "startsAfter", "(Ljava/lang/String;)Z"⟩ : MethodName) prog_15_method_3_code 2 (Option.some Jvm.ClassFile.FieldType.boolean) (rmm 4 0 0 63) [(vr p1), (vr p2)] (F) (fun v D' => (v = some (vi 1) ∧ F = D')) := by
  refine Con.of (ls := #[rv p1, rv p2]) (by decide +kernel) rfl ?_
  show W Z EL _ "com/example/chainvouch/chainvouch/chain/TimeRange" "startsAfter" _ _ _ _ _ _ _ _ _ _
  refine W.aloadN (pc := 0) d11_0 rfl rfl ?_
  refine W.getf (pc := 1) d11_1 (w58 hw) Via.refl mp1 m1 ?_
  refine W.ifnullN (pc := 4) d11_4 ?_
  refine W.aloadN (pc := 7) d11_7 rfl rfl ?_
  refine W.aloadN (pc := 8) d11_8 rfl rfl ?_
  refine W.getf (pc := 9) d11_9 (w58 hw) Via.refl mp1 m1 ?_
  refine W.callV (pc := 12) (as := [(vr p3)]) 0 [] d11_12 (w30 hw) (w31 hw) (w33 hw) (w33 hw) (w32 hw) (w3 hw) (w34 hw) (Hp.exa mp2) (c66_compareTo hw hs (p1 := p2) (p2 := p3) (p3 := p4) (p4 := p5) (x1 := x1) (hx1 := hx1) (mp1 := mp2) (mp2 := mp3) (mp3 := mp4) (mp4 := mp5)) (by decide) pd_Ljava_lang_String__I rfl rfl rfl rfl (by decide) (fun v D' h => ?_)
  obtain ⟨rfl, rfl⟩ := h
  show W _ _ _ _ _ _ _ _ _ _ _ _ 15 _ [(vi 1)]
  refine W.ifN (pc := 15) d11_15 (n_lt (by decide)) ?_
  refine W.iconst (pc := 18) (1) d11_18 (by decide) ?_
  refine W.goto (pc := 19) 23 d11_19 (by decide) ?_
  exact W.ireturn (pc := 23) d11_23 rfl (Or.inr (Or.inl rfl)) (nw_bool (by decide)) (by decide) ⟨rfl, rfl⟩
theorem d12_4 : decode method_3_code 4 = .ok (.iload_n 3, 1) := by decide +kernel
theorem d12_5 : decode method_3_code 5 = .ok (.ifCond .ne 14, 3) := by decide +kernel
theorem c71_geq {Z a0} (hw : HW a0 Z) (hs : SF Z) {x1 : Int32} (hx1 : 0 ≤ x1.toInt ∧ x1.toInt ≤ 255) {x2 : Int32} (hx2 : 0 ≤ x2.toInt ∧ x2.toInt ≤ 255) {x3 : Int32} (hx3 : 0 ≤ x3.toInt ∧ x3.toInt ≤ 255) {x4 : Int32} (hx4 : 0 ≤ x4.toInt ∧ x4.toInt ≤ 255) {F : List Ent} : Con Z EL (⟨"com/example/chainvouch/chainvouch/chain/TimeRangeStartsAfterPinLaw", "geq", "(IIIIII)Z"⟩ : MethodName) method_3_code 6 (Option.some Jvm.ClassFile.FieldType.boolean) (rmm 0 0 0 0) [(vi 1), (vi x1), (vi x2), (vi 0), (vi x3), (vi x4)] (F) (fun v D' => (v = some (vi 1) ∧ F = D')) := by
  refine Con.of (ls := #[iv 1, iv x1, iv x2, iv 0, iv x3, iv x4]) (by decide +kernel) rfl ?_
  show W Z EL _ "com/example/chainvouch/chainvouch/chain/TimeRangeStartsAfterPinLaw" "geq" _ _ _ _ _ _ _ _ _ _
  refine W.iloadN (pc := 0) d12_0 rfl ?_
  refine W.ifN (pc := 1) d12_1 (n_eq (by decide)) ?_
  refine W.iloadN (pc := 4) d12_4 rfl ?_
  refine W.ifN (pc := 5) d12_5 (n_ne (by decide)) ?_
  refine W.iloadN (pc := 8) d12_8 rfl ?_
  refine W.iloadN (pc := 9) d12_9 rfl ?_
  refine W.icmpN (pc := 10) d12_10 (n_lt (by decide)) ?_
  refine W.iconst (pc := 13) (1) d12_13 (by decide) ?_
  refine W.goto (pc := 14) 18 d12_14 (by decide) ?_
  exact W.ireturn (pc := 18) d12_18 rfl (Or.inr (Or.inl rfl)) (nw_bool (by decide)) (by decide) ⟨rfl, rfl⟩
theorem c72_startsAfter {Z a0} (hw : HW a0 Z) (hs : SF Z) {p1 p2 p3 : Addr} {x1 : Int32} (hx1 : -128 ≤ x1.toInt ∧ x1.toInt ≤ 127) {u1 : Value} (hu1 : u1.isRef = true) {w_p1 : Bool} {F : List Ent} (mp1 : (p1, w_p1, oTimeRange u1 .null) ∈ F) : Con Z EL (⟨"com/example/chainvouch/chainvouch/chain/TimeRange", "startsAfter", "(Ljava/lang/String;)Z"⟩ : MethodName) prog_15_method_3_code 2 (Option.some Jvm.ClassFile.FieldType.boolean) (rmm 0 0 0 0) [(vr p1), (vr p2)] (F) (fun v D' => (v = some (vi 0) ∧ F = D')) := by
  refine Con.of (ls := #[rv p1, rv p2]) (by decide +kernel) rfl ?_
  show W Z EL _ "com/example/chainvouch/chainvouch/chain/TimeRange" "startsAfter" _ _ _ _ _ _ _ _ _ _
  refine W.aloadN (pc := 0) d11_0 rfl rfl ?_
  refine W.getf (pc := 1) d11_1 (w58 hw) Via.refl mp1 m1 ?_
  refine W.ifnullY (pc := 4) 22 d11_4 (by decide) ?_
  refine W.iconst (pc := 22) (0) d11_22 (by decide) ?_
  exact W.ireturn (pc := 23) d11_23 rfl (Or.inr (Or.inl rfl)) (nw_bool (by decide)) (by decide) ⟨rfl, rfl⟩
theorem d10_63 : decode jdk_48_method_13_code 63 = .ok (.iload_n 3, 1) := by decide +kernel
theorem d10_64 : decode jdk_48_method_13_code 64 = .ok (.ireturn, 1) := by decide +kernel
theorem c77_mismatch {Z a0} (hw : HW a0 Z) (hs : SF Z) {p1 p2 : Addr} {x1 : Int32} (hx1 : -128 ≤ x1.toInt ∧ x1.toInt ≤ 127) {x2 : Int32} (hx2 : -128 ≤ x2.toInt ∧ x2.toInt ≤ 127) {w_p1 : Bool} {ad_p1 : String} {w_p2 : Bool} {ad_p2 : String} {F : List Ent} (mp1 : (p1, w_p1, ar ad_p1 .byte [(vi x1)]) ∈ F) (mp2 : (p2, w_p2, ar ad_p2 .byte [(vi x2)]) ∈ F) : Con Z EL (⟨"jdk/internal/util/ArraysSupport", "mismatch", "([B[BI)I"⟩ : MethodName) jdk_48_method_13_code 4 (Option.some Jvm.ClassFile.FieldType.int) (rmm 0 0 0 0) [(vr p1), (vr p2), (vi 1)] (F) (fun v D' => (Cd .eq x1 x2 ∧ v = some (vi (-1)) ∧ F = D') ∨ (¬ Cd .eq x1 x2 ∧ v = some (vi 0) ∧ F = D')) := by
  refine Con.of (ls := #[rv p1, rv p2, iv 1, uu]) (by decide +kernel) rfl ?_
  show W Z EL _ "jdk/internal/util/ArraysSupport" "mismatch" _ _ _ _ _ _ _ _ _ _
  refine W.iconst (pc := 0) (0) d10_0 (by decide) ?_
  refine W.istoreN (pc := 1) (ls' := #[rv p1, rv p2, iv 1, iv 0]) d10_1 rfl ?_
  refine W.iloadN (pc := 2) d10_2 rfl ?_
  refine W.bipush (pc := 3) (7) d10_3 (by decide) ?_
  refine W.icmpY (pc := 5) 49 d10_5 (y_le (by decide)) (by decide) ?_
  refine W.iloadN (pc := 49) d10_49 rfl ?_
  refine W.iloadN (pc := 50) d10_50 rfl ?_
  refine W.icmpN (pc := 51) d10_51 (n_ge (by decide)) ?_
  refine W.aloadN (pc := 54) d10_54 rfl rfl ?_
  refine W.iloadN (pc := 55) d10_55 rfl ?_
  refine W.baload (pc := 56) 0 d10_56 mp1 ix0 rfl ?_
  refine W.aloadN (pc := 57) d10_57 rfl rfl ?_
  refine W.iloadN (pc := 58) d10_58 rfl ?_
  refine W.baload (pc := 59) 0 d10_59 mp2 ix0 rfl ?_
  refine W.icmp (pc := 60) 65 d10_60 (by decide) (fun h1 => ?_) (fun h1 => ?_)
  ·
   have ih1 := t_eq h1
   refine W.iincK (pc := 65) (ls' := #[rv p1, rv p2, iv 1, iv 1]) (1) (1 : Int32) d10_65 (by decide) rfl (by decide) rfl ?_
   refine W.goto (pc := 68) 49 d10_68 (by decide) ?_
   refine W.iloadN (pc := 49) d10_49 rfl ?_
   refine W.iloadN (pc := 50) d10_50 rfl ?_
   refine W.icmpY (pc := 51) 71 d10_51 (y_ge (by decide)) (by decide) ?_
   refine W.iconst (pc := 71) (-1) d10_71 (by decide) ?_
   exact W.ireturn (pc := 72) d10_72 rfl (Or.inl rfl) rfl (by decide) (Or.inl ⟨h1, rfl, rfl⟩)
  ·
   have ih1 := f_eq h1
   refine W.iloadN (pc := 63) d10_63 rfl ?_
   exact W.ireturn (pc := 64) d10_64 rfl (Or.inl rfl) rfl (by decide) (Or.inr ⟨h1, rfl, rfl⟩)
theorem d8_27 : decode jdk_43_method_15_code 27 = .ok (.aload_n 0, 1) := by decide +kernel
theorem d8_28 : decode jdk_43_method_15_code 28 = .ok (.iload 5, 2) := by decide +kernel
theorem d8_30 : decode jdk_43_method_15_code 30 = .ok (.invokestatic 50, 3) := by decide +kernel
theorem d16_0 : decode jdk_43_method_44_code 0 = .ok (.aload_n 0, 1) := by decide +kernel
theorem d16_1 : decode jdk_43_method_44_code 1 = .ok (.iload_n 1, 1) := by decide +kernel
theorem d16_2 : decode jdk_43_method_44_code 2 = .ok (.baload, 1) := by decide +kernel
theorem d16_3 : decode jdk_43_method_44_code 3 = .ok (.sipush 255, 3) := by decide +kernel
theorem d16_6 : decode jdk_43_method_44_code 6 = .ok (.iand, 1) := by decide +kernel
theorem d16_7 : decode jdk_43_method_44_code 7 = .ok (.i2c, 1) := by decide +kernel
theorem d16_8 : decode jdk_43_method_44_code 8 = .ok (.ireturn, 1) := by decide +kernel
theorem c78_getChar {Z a0} (hw : HW a0 Z) (hs : SF Z) {p1 : Addr} {x1 : Int32} (hx1 : -128 ≤ x1.toInt ∧ x1.toInt ≤ 127) {w_p1 : Bool} {ad_p1 : String} {F : List Ent} (mp1 : (p1, w_p1, ar ad_p1 .byte [(vi x1)]) ∈ F) : Con Z EL (⟨"java/lang/StringLatin1", "getChar", "([BI)C"⟩ : MethodName) jdk_43_method_44_code 2 (Option.some Jvm.ClassFile.FieldType.char) (rmm 0 0 0 0) [(vr p1), (vi 0)] (F) (fun v D' => (v = some (vi (x1 &&& (255 : Int32))) ∧ F = D')) := by
  refine Con.of (ls := #[rv p1, iv 0]) (by decide +kernel) rfl ?_
  show W Z EL _ "java/lang/StringLatin1" "getChar" _ _ _ _ _ _ _ _ _ _
  refine W.aloadN (pc := 0) d16_0 rfl rfl ?_
  refine W.iloadN (pc := 1) d16_1 rfl ?_
  refine W.baload (pc := 2) 0 d16_2 mp1 ix0 rfl ?_
  refine W.sipush (pc := 3) (255) d16_3 (by decide) ?_
  refine W.iand (pc := 6) d16_6 ?_
  refine W.i2cK (pc := 7) (x1 &&& (255 : Int32)) d16_7 (z_i2c (by have := q255; have := am_255 x1; omega)) ?_
  exact W.ireturn (pc := 8) d16_8 rfl (Or.inr (Or.inr (Or.inr (Or.inl rfl)))) (nw_char (by have := q255; have := am_255 x1; omega)) (by decide) ⟨rfl, rfl⟩
theorem pd__BI_C : parseMethodDescriptor "([BI)C" = some ⟨[(.array .byte), .int], some .char⟩ := by decide +kernel
theorem w79 {Z a0} (hw : HW a0 Z) : ((Jvm.Cond.methodLink "java/lang/StringLatin1" (50 : Nat) ({ cls := "java/lang/StringLatin1", name := "getChar", desc := "([BI)C" } : Jvm.MethodName)) : Jvm.Cond).before a0 Z = true := hw _ (List.mem_of_getElem? (i := 79) rfl)
theorem w80 {Z a0} (hw : HW a0 Z) : ((Jvm.Cond.static ({ cls := "java/lang/StringLatin1", name := "getChar", desc := "([BI)C" } : Jvm.MethodName)) : Jvm.Cond).before a0 Z = true := hw _ (List.mem_of_getElem? (i := 80) rfl)
theorem w81 {Z a0} (hw : HW a0 Z) : ((Jvm.Cond.code ({ cls := "java/lang/StringLatin1", name := "getChar", desc := "([BI)C" } : Jvm.MethodName) jdk_43_method_44_code (2 : Nat) (Option.some Jvm.ClassFile.FieldType.char)) : Jvm.Cond).before a0 Z = true := hw _ (List.mem_of_getElem? (i := 81) rfl)
theorem d8_33 : decode jdk_43_method_15_code 33 = .ok (.aload_n 1, 1) := by decide +kernel
theorem d8_34 : decode jdk_43_method_15_code 34 = .ok (.iload 5, 2) := by decide +kernel
theorem d8_36 : decode jdk_43_method_15_code 36 = .ok (.invokestatic 50, 3) := by decide +kernel
theorem d8_39 : decode jdk_43_method_15_code 39 = .ok (.isub, 1) := by decide +kernel
theorem c76_compareTo {Z a0} (hw : HW a0 Z) (hs : SF Z) {p1 p2 : Addr} {x1 : Int32} (hx1 : -128 ≤ x1.toInt ∧ x1.toInt ≤ 127) {x2 : Int32} (hx2 : -128 ≤ x2.toInt ∧ x2.toInt ≤ 127) {w_p1 : Bool} {ad_p1 : String} {w_p2 : Bool} {ad_p2 : String} {F : List Ent} (mp1 : (p1, w_p1, ar ad_p1 .byte [(vi x1)]) ∈ F) (mp2 : (p2, w_p2, ar ad_p2 .byte [(vi x2)]) ∈ F) : Con Z EL (⟨"java/lang/StringLatin1", "compareTo", "([B[BII)I"⟩ : MethodName) jdk_43_method_15_code 6 (Option.some Jvm.ClassFile.FieldType.int) (rmm 1 0 0 15) [(vr p1), (vr p2), (vi 1), (vi 1)] (F) (fun v D' => (Cd .eq x1 x2 ∧ v = some (vi 0) ∧ F = D') ∨ (¬ Cd .eq x1 x2 ∧ v = some (vi ((x1 &&& (255 : Int32)) - (x2 &&& (255 : Int32)))) ∧ F = D')) := by
  refine Con.of (ls := #[rv p1, rv p2, iv 1, iv 1, uu, uu]) (by decide +kernel) rfl ?_
  show W Z EL _ "java/lang/StringLatin1" "compareTo" _ _ _ _ _ _ _ _ _ _
  refine W.iloadN (pc := 0) d8_0 rfl ?_
  refine W.iloadN (pc := 1) d8_1 rfl ?_
  refine W.callS (pc := 2) (as := [(vi 1), (vi 1)]) 0 [] d8_2 (w48 hw) (w49 hw) (w50 hw) (w51 hw) (c34_min hw hs) (by decide) pd_II_I rfl rfl rfl rfl (by decide) (fun v D' h => ?_)
  obtain ⟨rfl, rfl⟩ := h
  show W _ _ _ _ _ _ _ _ _ _ _ _ 5 _ [(vi 1)]
  refine W.istore (pc := 5) (ls' := #[rv p1, rv p2, iv 1, iv 1, iv 1, uu]) d8_5 rfl ?_
  refine W.aloadN (pc := 7) d8_7 rfl rfl ?_
  refine W.aloadN (pc := 8) d8_8 rfl rfl ?_
  refine W.iload (pc := 9) d8_9 rfl ?_
  refine W.callS (pc := 11) (as := [(vr p1), (vr p2), (vi 1)]) 0 [] d8_11 (w52 hw) (w53 hw) (w54 hw) (w55 hw) (c77_mismatch hw hs (p1 := p1) (p2 := p2) (x1 := x1) (hx1 := hx1) (x2 := x2) (hx2 := hx2) (mp1 := mp1) (mp2 := mp2)) (by decide) pd__B_BI_I rfl rfl rfl rfl (by decide) (fun v D' h => ?_)
  rcases h with ⟨h1, rfl, rfl⟩ | ⟨h2, rfl, rfl⟩
  ·
   have ih1 := t_eq h1
   show W _ _ _ _ _ _ _ _ _ _ _ _ 14 _ [(vi (-1))]
   refine W.istore (pc := 14) (ls' := #[rv p1, rv p2, iv 1, iv 1, iv 1, iv (-1)]) d8_14 rfl ?_
   refine W.iload (pc := 16) d8_16 rfl ?_
   refine W.ifN (pc := 18) d8_18 (n_ge (by decide)) ?_
   refine W.iloadN (pc := 21) d8_21 rfl ?_
   refine W.iloadN (pc := 22) d8_22 rfl ?_
   refine W.isubK (pc := 23) (0 : Int32) d8_23 (by decide) ?_
   refine W.goto (pc := 24) 40 d8_24 (by decide) ?_
   exact W.ireturn (pc := 40) d8_40 rfl (Or.inl rfl) rfl (by decide) (Or.inl ⟨h1, rfl, rfl⟩)
  ·
   have ih2 := f_eq h2
   show W _ _ _ _ _ _ _ _ _ _ _ _ 14 _ [(vi 0)]
   refine W.istore (pc := 14) (ls' := #[rv p1, rv p2, iv 1, iv 1, iv 1, iv 0]) d8_14 rfl ?_
   refine W.iload (pc := 16) d8_16 rfl ?_
   refine W.ifY (pc := 18) 27 d8_18 (y_ge (by decide)) (by decide) ?_
   refine W.aloadN (pc := 27) d8_27 rfl rfl ?_
   refine W.iload (pc := 28) d8_28 rfl ?_
   refine W.callS (pc := 30) (as := [(vr p1), (vi 0)]) 0 [] d8_30 (w79 hw) (w80 hw) (w43 hw) (w81 hw) (c78_getChar hw hs (p1 := p1) (x1 := x1) (hx1 := hx1) (mp1 := mp1)) (by decide) pd__BI_C rfl rfl rfl rfl (by decide) (fun v D' h => ?_)
   obtain ⟨rfl, rfl⟩ := h
   show W _ _ _ _ _ _ _ _ _ _ _ _ 33 _ [(vi (x1 &&& (255 : Int32)))]
   refine W.aloadN (pc := 33) d8_33 rfl rfl ?_
   refine W.iload (pc := 34) d8_34 rfl ?_
   refine W.callS (pc := 36) (as := [(vr p2), (vi 0)]) 1 [(vi (x1 &&& (255 : Int32)))] d8_36 (w79 hw) (w80 hw) (w43 hw) (w81 hw) (c78_getChar hw hs (p1 := p2) (x1 := x2) (hx1 := hx2) (mp1 := mp2)) (by decide) pd__BI_C rfl rfl rfl rfl (by decide) (fun v D' h => ?_)
   obtain ⟨rfl, rfl⟩ := h
   show W _ _ _ _ _ _ _ _ _ _ _ _ 39 _ [(vi (x2 &&& (255 : Int32))), (vi (x1 &&& (255 : Int32)))]
   refine W.isub (pc := 39) d8_39 ?_
   exact W.ireturn (pc := 40) d8_40 rfl (Or.inl rfl) rfl (by decide) (Or.inr ⟨h2, rfl, rfl⟩)
theorem c75_compareTo {Z a0} (hw : HW a0 Z) (hs : SF Z) {p1 p2 : Addr} {x1 : Int32} (hx1 : -128 ≤ x1.toInt ∧ x1.toInt ≤ 127) {x2 : Int32} (hx2 : -128 ≤ x2.toInt ∧ x2.toInt ≤ 127) {w_p1 : Bool} {ad_p1 : String} {w_p2 : Bool} {ad_p2 : String} {F : List Ent} (mp1 : (p1, w_p1, ar ad_p1 .byte [(vi x1)]) ∈ F) (mp2 : (p2, w_p2, ar ad_p2 .byte [(vi x2)]) ∈ F) : Con Z EL (⟨"java/lang/StringLatin1", "compareTo", "([B[B)I"⟩ : MethodName) jdk_43_method_14_code 4 (Option.some Jvm.ClassFile.FieldType.int) (rmm 2 0 0 32) [(vr p1), (vr p2)] (F) (fun v D' => (Cd .eq x1 x2 ∧ v = some (vi 0) ∧ F = D') ∨ (¬ Cd .eq x1 x2 ∧ v = some (vi ((x1 &&& (255 : Int32)) - (x2 &&& (255 : Int32)))) ∧ F = D')) := by
  refine Con.of (ls := #[rv p1, rv p2, uu, uu]) (by decide +kernel) rfl ?_
  show W Z EL _ "java/lang/StringLatin1" "compareTo" _ _ _ _ _ _ _ _ _ _
  refine W.aloadN (pc := 0) d7_0 rfl rfl ?_
  refine W.alen (pc := 1) (1) d7_1 mp1 rfl ?_
  refine W.istoreN (pc := 2) (ls' := #[rv p1, rv p2, iv 1, uu]) d7_2 rfl ?_
  refine W.aloadN (pc := 3) d7_3 rfl rfl ?_
  refine W.alen (pc := 4) (1) d7_4 mp2 rfl ?_
  refine W.istoreN (pc := 5) (ls' := #[rv p1, rv p2, iv 1, iv 1]) d7_5 rfl ?_
  refine W.aloadN (pc := 6) d7_6 rfl rfl ?_
  refine W.aloadN (pc := 7) d7_7 rfl rfl ?_
  refine W.iloadN (pc := 8) d7_8 rfl ?_
  refine W.iloadN (pc := 9) d7_9 rfl ?_
  refine W.callS (pc := 10) (as := [(vr p1), (vr p2), (vi 1), (vi 1)]) 0 [] d7_10 (w45 hw) (w46 hw) (w43 hw) (w47 hw) (c76_compareTo hw hs (p1 := p1) (p2 := p2) (x1 := x1) (hx1 := hx1) (x2 := x2) (hx2 := hx2) (mp1 := mp1) (mp2 := mp2)) (by decide) pd__B_BII_I rfl rfl rfl rfl (by decide) (fun v D' h => ?_)
  rcases h with ⟨h1, rfl, rfl⟩ | ⟨h2, rfl, rfl⟩
  ·
   have ih1 := t_eq h1
   show W _ _ _ _ _ _ _ _ _ _ _ _ 13 _ [(vi 0)]
   exact W.ireturn (pc := 13) d7_13 rfl (Or.inl rfl) rfl (by decide) (Or.inl ⟨h1, rfl, rfl⟩)
  ·
   have ih2 := f_eq h2
   show W _ _ _ _ _ _ _ _ _ _ _ _ 13 _ [(vi ((x1 &&& (255 : Int32)) - (x2 &&& (255 : Int32))))]
   exact W.ireturn (pc := 13) d7_13 rfl (Or.inl rfl) rfl (by decide) (Or.inr ⟨h2, rfl, rfl⟩)
theorem c74_compareTo {Z a0} (hw : HW a0 Z) (hs : SF Z) {p1 p2 p3 p4 : Addr} {x1 : Int32} (hx1 : -128 ≤ x1.toInt ∧ x1.toInt ≤ 127) {x2 : Int32} (hx2 : -128 ≤ x2.toInt ∧ x2.toInt ≤ 127) {w_p1 : Bool} {w_p2 : Bool} {w_p3 : Bool} {ad_p3 : String} {w_p4 : Bool} {ad_p4 : String} {F : List Ent} (mp1 : (p1, w_p1, oString (vr p3) (vi 0)) ∈ F) (mp2 : (p2, w_p2, oString (vr p4) (vi 0)) ∈ F) (mp3 : (p3, w_p3, ar ad_p3 .byte [(vi x1)]) ∈ F) (mp4 : (p4, w_p4, ar ad_p4 .byte [(vi x2)]) ∈ F) : Con Z EL (⟨"java/lang/String", "compareTo", "(Ljava/lang/String;)I"⟩ : MethodName) jdk_42_method_71_code 5 (Option.some Jvm.ClassFile.FieldType.int) (rmm 3 0 0 47) [(vr p1), (vr p2)] (F) (fun v D' => (Cd .eq x1 x2 ∧ v = some (vi 0) ∧ F = D') ∨ (¬ Cd .eq x1 x2 ∧ v = some (vi ((x1 &&& (255 : Int32)) - (x2 &&& (255 : Int32)))) ∧ F = D')) := by
  refine Con.of (ls := #[rv p1, rv p2, uu, uu, uu]) (by decide +kernel) rfl ?_
  show W Z EL _ "java/lang/String" "compareTo" _ _ _ _ _ _ _ _ _ _
  refine W.aloadN (pc := 0) d5_0 rfl rfl ?_
  refine W.getf (pc := 1) d5_1 (w20 hw) Via.refl mp1 m0 ?_
  refine W.astoreN (pc := 4) (ls' := #[rv p1, rv p2, rv p3, uu, uu]) d5_4 rfl rfl ?_
  refine W.aloadN (pc := 5) d5_5 rfl rfl ?_
  refine W.getf (pc := 6) d5_6 (w20 hw) Via.refl mp2 m0 ?_
  refine W.astoreN (pc := 9) (ls' := #[rv p1, rv p2, rv p3, rv p4, uu]) d5_9 rfl rfl ?_
  refine W.aloadN (pc := 10) d5_10 rfl rfl ?_
  refine W.callV (pc := 11) (as := []) 0 [] d5_11 (w35 hw) (w36 hw) (w38 hw) (w38 hw) (w37 hw) (w3 hw) (w39 hw) (Hp.exa mp1) (c31_coder hw hs (p1 := p1) (p2 := p3) (x1 := x1) (hx1 := hx1) (mp1 := mp1)) (by decide) pd__B rfl rfl rfl rfl (by decide) (fun v D' h => ?_)
  obtain ⟨rfl, rfl⟩ := h
  show W _ _ _ _ _ _ _ _ _ _ _ _ 14 _ [(vi 0)]
  refine W.istore (pc := 14) (ls' := #[rv p1, rv p2, rv p3, rv p4, iv 0]) d5_14 rfl ?_
  refine W.iload (pc := 16) d5_16 rfl ?_
  refine W.aloadN (pc := 18) d5_18 rfl rfl ?_
  refine W.callV (pc := 19) (as := []) 1 [(vi 0)] d5_19 (w35 hw) (w36 hw) (w38 hw) (w38 hw) (w37 hw) (w3 hw) (w39 hw) (Hp.exa mp2) (c31_coder hw hs (p1 := p2) (p2 := p4) (x1 := x2) (hx1 := hx2) (mp1 := mp2)) (by decide) pd__B rfl rfl rfl rfl (by decide) (fun v D' h => ?_)
  obtain ⟨rfl, rfl⟩ := h
  show W _ _ _ _ _ _ _ _ _ _ _ _ 22 _ [(vi 0), (vi 0)]
  refine W.icmpN (pc := 22) d5_22 (n_ne (by decide)) ?_
  refine W.iload (pc := 25) d5_25 rfl ?_
  refine W.ifN (pc := 27) d5_27 (n_ne (by decide)) ?_
  refine W.aloadN (pc := 30) d5_30 rfl rfl ?_
  refine W.aloadN (pc := 31) d5_31 rfl rfl ?_
  refine W.callS (pc := 32) (as := [(vr p3), (vr p4)]) 0 [] d5_32 (w41 hw) (w42 hw) (w43 hw) (w44 hw) (c75_compareTo hw hs (p1 := p3) (p2 := p4) (x1 := x1) (hx1 := hx1) (x2 := x2) (hx2 := hx2) (mp1 := mp3) (mp2 := mp4)) (by decide) pd__B_B_I rfl rfl rfl rfl (by decide) (fun v D' h => ?_)
  rcases h with ⟨h1, rfl, rfl⟩ | ⟨h2, rfl, rfl⟩
  ·
   have ih1 := t_eq h1
   show W _ _ _ _ _ _ _ _ _ _ _ _ 35 _ [(vi 0)]
   refine W.goto (pc := 35) 43 d5_35 (by decide) ?_
   exact W.ireturn (pc := 43) d5_43 rfl (Or.inl rfl) rfl (by decide) (Or.inl ⟨h1, rfl, rfl⟩)
  ·
   have ih2 := f_eq h2
   show W _ _ _ _ _ _ _ _ _ _ _ _ 35 _ [(vi ((x1 &&& (255 : Int32)) - (x2 &&& (255 : Int32))))]
   refine W.goto (pc := 35) 43 d5_35 (by decide) ?_
   exact W.ireturn (pc := 43) d5_43 rfl (Or.inl rfl) rfl (by decide) (Or.inr ⟨h2, rfl, rfl⟩)
theorem c73_startsAfter {Z a0} (hw : HW a0 Z) (hs : SF Z) {p1 p2 p3 p4 p5 : Addr} {x1 : Int32} (hx1 : -128 ≤ x1.toInt ∧ x1.toInt ≤ 127) {x2 : Int32} (hx2 : -128 ≤ x2.toInt ∧ x2.toInt ≤ 127) {u1 : Value} (hu1 : u1.isRef = true) {w_p1 : Bool} {w_p2 : Bool} {w_p3 : Bool} {w_p4 : Bool} {ad_p4 : String} {w_p5 : Bool} {ad_p5 : String} {F : List Ent} (mp1 : (p1, w_p1, oTimeRange u1 (vr p3)) ∈ F) (mp2 : (p2, w_p2, oString (vr p4) (vi 0)) ∈ F) (mp3 : (p3, w_p3, oString (vr p5) (vi 0)) ∈ F) (mp4 : (p4, w_p4, ar ad_p4 .byte [(vi x1)]) ∈ F) (mp5 : (p5, w_p5, ar ad_p5 .byte [(vi x2)]) ∈ F) : Con Z EL (⟨"com/example/chainvouch/chainvouch/chain/TimeRange", "startsAfter", "(Ljava/lang/String;)Z"⟩ : MethodName) prog_15_method_3_code 2 (Option.some Jvm.ClassFile.FieldType.boolean) (rmm 4 0 0 63) [(vr p1), (vr p2)] (F) (fun v D' => (Cd .eq x1 x2 ∧ v = some (vi 1) ∧ F = D') ∨ (¬ Cd .eq x1 x2 ∧ Cd .lt ((x1 &&& (255 : Int32)) - (x2 &&& (255 : Int32))) (0 : Int32) ∧ v = some (vi 0) ∧ F = D') ∨ (¬ Cd .eq x1 x2 ∧ ¬ Cd .lt ((x1 &&& (255 : Int32)) - (x2 &&& (255 : Int32))) (0 : Int32) ∧ v = some (vi 1) ∧ F = D')) := by
  refine Con.of (ls := #[rv p1, rv p2]) (by decide +kernel) rfl ?_
  show W Z EL _ "com/example/chainvouch/chainvouch/chain/TimeRange" "startsAfter" _ _ _ _ _ _ _ _ _ _
  refine W.aloadN (pc := 0) d11_0 rfl rfl ?_
  refine W.getf (pc := 1) d11_1 (w58 hw) Via.refl mp1 m1 ?_
  refine W.ifnullN (pc := 4) d11_4 ?_
  refine W.aloadN (pc := 7) d11_7 rfl rfl ?_
  refine W.aloadN (pc := 8) d11_8 rfl rfl ?_
  refine W.getf (pc := 9) d11_9 (w58 hw) Via.refl mp1 m1 ?_
  refine W.callV (pc := 12) (as := [(vr p3)]) 0 [] d11_12 (w30 hw) (w31 hw) (w33 hw) (w33 hw) (w32 hw) (w3 hw) (w34 hw) (Hp.exa mp2) (c74_compareTo hw hs (p1 := p2) (p2 := p3) (p3 := p4) (p4 := p5) (x1 := x1) (hx1 := hx1) (x2 := x2) (hx2 := hx2) (mp1 := mp2) (mp2 := mp3) (mp3 := mp4) (mp4 := mp5)) (by decide) pd_Ljava_lang_String__I rfl rfl rfl rfl (by decide) (fun v D' h => ?_)
  rcases h with ⟨h1, rfl, rfl⟩ | ⟨h2, rfl, rfl⟩
  ·
   have ih1 := t_eq h1
   show W _ _ _ _ _ _ _ _ _ _ _ _ 15 _ [(vi 0)]
   refine W.ifN (pc := 15) d11_15 (n_lt (by decide)) ?_
   refine W.iconst (pc := 18) (1) d11_18 (by decide) ?_
   refine W.goto (pc := 19) 23 d11_19 (by decide) ?_
   exact W.ireturn (pc := 23) d11_23 rfl (Or.inr (Or.inl rfl)) (nw_bool (by decide)) (by decide) (Or.inl ⟨h1, rfl, rfl⟩)
  ·
   have ih2 := f_eq h2
   show W _ _ _ _ _ _ _ _ _ _ _ _ 15 _ [(vi ((x1 &&& (255 : Int32)) - (x2 &&& (255 : Int32))))]
   refine W.if (pc := 15) 22 d11_15 (by decide) (fun h3 => ?_) (fun h3 => ?_)
   ·
    have ih3 := t_lt h3
    refine W.iconst (pc := 22) (0) d11_22 (by decide) ?_
    exact W.ireturn (pc := 23) d11_23 rfl (Or.inr (Or.inl rfl)) (nw_bool (by decide)) (by decide) (Or.inr (Or.inl ⟨h2, h3, rfl, rfl⟩))
   ·
    have ih3 := f_lt h3
    refine W.iconst (pc := 18) (1) d11_18 (by decide) ?_
    refine W.goto (pc := 19) 23 d11_19 (by decide) ?_
    exact W.ireturn (pc := 23) d11_23 rfl (Or.inr (Or.inl rfl)) (nw_bool (by decide)) (by decide) (Or.inr (Or.inr ⟨h2, h3, rfl, rfl⟩))
theorem d12_19 : decode method_3_code 19 = .ok (.iload_n 1, 1) := by decide +kernel
theorem d12_20 : decode method_3_code 20 = .ok (.iload 4, 2) := by decide +kernel
theorem d12_22 : decode method_3_code 22 = .ok (.if_icmp .eq 15, 3) := by decide +kernel
theorem d12_37 : decode method_3_code 37 = .ok (.iload_n 0, 1) := by decide +kernel
theorem d12_38 : decode method_3_code 38 = .ok (.iconst 1, 1) := by decide +kernel
theorem d12_39 : decode method_3_code 39 = .ok (.if_icmp .eq 8, 3) := by decide +kernel
theorem d12_47 : decode method_3_code 47 = .ok (.iload_n 0, 1) := by decide +kernel
theorem d12_48 : decode method_3_code 48 = .ok (.iload_n 3, 1) := by decide +kernel
theorem d12_49 : decode method_3_code 49 = .ok (.if_icmp .lt 7, 3) := by decide +kernel
theorem d12_52 : decode method_3_code 52 = .ok (.iconst 1, 1) := by decide +kernel
theorem d12_53 : decode method_3_code 53 = .ok (.goto 4, 3) := by decide +kernel
theorem d12_57 : decode method_3_code 57 = .ok (.ireturn, 1) := by decide +kernel
theorem d12_25 : decode method_3_code 25 = .ok (.iload_n 1, 1) := by decide +kernel
theorem d12_26 : decode method_3_code 26 = .ok (.iload 4, 2) := by decide +kernel
theorem d12_28 : decode method_3_code 28 = .ok (.if_icmp .le 7, 3) := by decide +kernel
theorem d12_35 : decode method_3_code 35 = .ok (.iconst 0, 1) := by decide +kernel
theorem d12_36 : decode method_3_code 36 = .ok (.ireturn, 1) := by decide +kernel
theorem d12_31 : decode method_3_code 31 = .ok (.iconst 1, 1) := by decide +kernel
theorem d12_32 : decode method_3_code 32 = .ok (.goto 4, 3) := by decide +kernel
theorem c79_geq {Z a0} (hw : HW a0 Z) (hs : SF Z) {x1 : Int32} (hx1 : 0 ≤ x1.toInt ∧ x1.toInt ≤ 255) {x2 : Int32} (hx2 : 0 ≤ x2.toInt ∧ x2.toInt ≤ 255) {x3 : Int32} (hx3 : 0 ≤ x3.toInt ∧ x3.toInt ≤ 255) {x4 : Int32} (hx4 : 0 ≤ x4.toInt ∧ x4.toInt ≤ 255) {F : List Ent} : Con Z EL (⟨"com/example/chainvouch/chainvouch/chain/TimeRangeStartsAfterPinLaw", "geq", "(IIIIII)Z"⟩ : MethodName) method_3_code 6 (Option.some Jvm.ClassFile.FieldType.boolean) (rmm 0 0 0 0) [(vi 1), (vi x1), (vi x2), (vi 1), (vi x3), (vi x4)] (F) (fun v D' => (Cd .eq x1 x3 ∧ v = some (vi 1) ∧ F = D') ∨ (¬ Cd .eq x1 x3 ∧ Cd .le x1 x3 ∧ v = some (vi 0) ∧ F = D') ∨ (¬ Cd .eq x1 x3 ∧ ¬ Cd .le x1 x3 ∧ v = some (vi 1) ∧ F = D')) := by
  refine Con.of (ls := #[iv 1, iv x1, iv x2, iv 1, iv x3, iv x4]) (by decide +kernel) rfl ?_
  show W Z EL _ "com/example/chainvouch/chainvouch/chain/TimeRangeStartsAfterPinLaw" "geq" _ _ _ _ _ _ _ _ _ _
  refine W.iloadN (pc := 0) d12_0 rfl ?_
  refine W.ifN (pc := 1) d12_1 (n_eq (by decide)) ?_
  refine W.iloadN (pc := 4) d12_4 rfl ?_
  refine W.ifY (pc := 5) 19 d12_5 (y_ne (by decide)) (by decide) ?_
  refine W.iloadN (pc := 19) d12_19 rfl ?_
  refine W.iload (pc := 20) d12_20 rfl ?_
  refine W.icmp (pc := 22) 37 d12_22 (by decide) (fun h1 => ?_) (fun h1 => ?_)
  ·
   have ih1 := t_eq h1
   refine W.iloadN (pc := 37) d12_37 rfl ?_
   refine W.iconst (pc := 38) (1) d12_38 (by decide) ?_
   refine W.icmpY (pc := 39) 47 d12_39 (y_eq (by decide)) (by decide) ?_
   refine W.iloadN (pc := 47) d12_47 rfl ?_
   refine W.iloadN (pc := 48) d12_48 rfl ?_
   refine W.icmpN (pc := 49) d12_49 (n_lt (by decide)) ?_
   refine W.iconst (pc := 52) (1) d12_52 (by decide) ?_
   refine W.goto (pc := 53) 57 d12_53 (by decide) ?_
   exact W.ireturn (pc := 57) d12_57 rfl (Or.inr (Or.inl rfl)) (nw_bool (by decide)) (by decide) (Or.inl ⟨h1, rfl, rfl⟩)
  ·
   have ih1 := f_eq h1
   refine W.iloadN (pc := 25) d12_25 rfl ?_
   refine W.iload (pc := 26) d12_26 rfl ?_
   refine W.icmp (pc := 28) 35 d12_28 (by decide) (fun h2 => ?_) (fun h2 => ?_)
   ·
    have ih2 := t_le h2
    refine W.iconst (pc := 35) (0) d12_35 (by decide) ?_
    exact W.ireturn (pc := 36) d12_36 rfl (Or.inr (Or.inl rfl)) (nw_bool (by decide)) (by decide) (Or.inr (Or.inl ⟨h1, h2, rfl, rfl⟩))
   ·
    have ih2 := f_le h2
    refine W.iconst (pc := 31) (1) d12_31 (by decide) ?_
    refine W.goto (pc := 32) 36 d12_32 (by decide) ?_
    exact W.ireturn (pc := 36) d12_36 rfl (Or.inr (Or.inl rfl)) (nw_bool (by decide)) (by decide) (Or.inr (Or.inr ⟨h1, h2, rfl, rfl⟩))
theorem c84_min {Z a0} (hw : HW a0 Z) (hs : SF Z) {F : List Ent} : Con Z EL (⟨"java/lang/Math", "min", "(II)I"⟩ : MethodName) jdk_29_method_69_code 2 (Option.some Jvm.ClassFile.FieldType.int) (rmm 0 0 0 0) [(vi 1), (vi 2)] (F) (fun v D' => (v = some (vi 1) ∧ F = D')) := by
  refine Con.of (ls := #[iv 1, iv 2]) (by decide +kernel) rfl ?_
  show W Z EL _ "java/lang/Math" "min" _ _ _ _ _ _ _ _ _ _
  refine W.iloadN (pc := 0) d9_0 rfl ?_
  refine W.iloadN (pc := 1) d9_1 rfl ?_
  refine W.icmpN (pc := 2) d9_2 (n_gt (by decide)) ?_
  refine W.iloadN (pc := 5) d9_5 rfl ?_
  refine W.goto (pc := 6) 10 d9_6 (by decide) ?_
  exact W.ireturn (pc := 10) d9_10 rfl (Or.inl rfl) rfl (by decide) ⟨rfl, rfl⟩
theorem c85_mismatch {Z a0} (hw : HW a0 Z) (hs : SF Z) {p1 p2 : Addr} {x1 : Int32} (hx1 : -128 ≤ x1.toInt ∧ x1.toInt ≤ 127) {x2 : Int32} (hx2 : -128 ≤ x2.toInt ∧ x2.toInt ≤ 127) {x3 : Int32} (hx3 : -128 ≤ x3.toInt ∧ x3.toInt ≤ 127) {w_p1 : Bool} {ad_p1 : String} {w_p2 : Bool} {ad_p2 : String} {F : List Ent} (mp1 : (p1, w_p1, ar ad_p1 .byte [(vi x1)]) ∈ F) (mp2 : (p2, w_p2, ar ad_p2 .byte [(vi x2), (vi x3)]) ∈ F) : Con Z EL (⟨"jdk/internal/util/ArraysSupport", "mismatch", "([B[BI)I"⟩ : MethodName) jdk_48_method_13_code 4 (Option.some Jvm.ClassFile.FieldType.int) (rmm 0 0 0 0) [(vr p1), (vr p2), (vi 1)] (F) (fun v D' => (Cd .eq x1 x2 ∧ v = some (vi (-1)) ∧ F = D') ∨ (¬ Cd .eq x1 x2 ∧ v = some (vi 0) ∧ F = D')) := by
  refine Con.of (ls := #[rv p1, rv p2, iv 1, uu]) (by decide +kernel) rfl ?_
  show W Z EL _ "jdk/internal/util/ArraysSupport" "mismatch" _ _ _ _ _ _ _ _ _ _
  refine W.iconst (pc := 0) (0) d10_0 (by decide) ?_
  refine W.istoreN (pc := 1) (ls' := #[rv p1, rv p2, iv 1, iv 0]) d10_1 rfl ?_
  refine W.iloadN (pc := 2) d10_2 rfl ?_
  refine W.bipush (pc := 3) (7) d10_3 (by decide) ?_
  refine W.icmpY (pc := 5) 49 d10_5 (y_le (by decide)) (by decide) ?_
  refine W.iloadN (pc := 49) d10_49 rfl ?_
  refine W.iloadN (pc := 50) d10_50 rfl ?_
  refine W.icmpN (pc := 51) d10_51 (n_ge (by decide)) ?_
  refine W.aloadN (pc := 54) d10_54 rfl rfl ?_
  refine W.iloadN (pc := 55) d10_55 rfl ?_
  refine W.baload (pc := 56) 0 d10_56 mp1 ix0 rfl ?_
  refine W.aloadN (pc := 57) d10_57 rfl rfl ?_
  refine W.iloadN (pc := 58) d10_58 rfl ?_
  refine W.baload (pc := 59) 0 d10_59 mp2 ix0 rfl ?_
  refine W.icmp (pc := 60) 65 d10_60 (by decide) (fun h1 => ?_) (fun h1 => ?_)
  ·
   have ih1 := t_eq h1
   refine W.iincK (pc := 65) (ls' := #[rv p1, rv p2, iv 1, iv 1]) (1) (1 : Int32) d10_65 (by decide) rfl (by decide) rfl ?_
   refine W.goto (pc := 68) 49 d10_68 (by decide) ?_
   refine W.iloadN (pc := 49) d10_49 rfl ?_
   refine W.iloadN (pc := 50) d10_50 rfl ?_
   refine W.icmpY (pc := 51) 71 d10_51 (y_ge (by decide)) (by decide) ?_
   refine W.iconst (pc := 71) (-1) d10_71 (by decide) ?_
   exact W.ireturn (pc := 72) d10_72 rfl (Or.inl rfl) rfl (by decide) (Or.inl ⟨h1, rfl, rfl⟩)
  ·
   have ih1 := f_eq h1
   refine W.iloadN (pc := 63) d10_63 rfl ?_
   exact W.ireturn (pc := 64) d10_64 rfl (Or.inl rfl) rfl (by decide) (Or.inr ⟨h1, rfl, rfl⟩)
theorem c86_getChar {Z a0} (hw : HW a0 Z) (hs : SF Z) {p1 : Addr} {x1 : Int32} (hx1 : -128 ≤ x1.toInt ∧ x1.toInt ≤ 127) {x2 : Int32} (hx2 : -128 ≤ x2.toInt ∧ x2.toInt ≤ 127) {w_p1 : Bool} {ad_p1 : String} {F : List Ent} (mp1 : (p1, w_p1, ar ad_p1 .byte [(vi x1), (vi x2)]) ∈ F) : Con Z EL (⟨"java/lang/StringLatin1", "getChar", "([BI)C"⟩ : MethodName) jdk_43_method_44_code 2 (Option.some Jvm.ClassFile.FieldType.char) (rmm 0 0 0 0) [(vr p1), (vi 0)] (F) (fun v D' => (v = some (vi (x1 &&& (255 : Int32))) ∧ F = D')) := by
  refine Con.of (ls := #[rv p1, iv 0]) (by decide +kernel) rfl ?_
  show W Z EL _ "java/lang/StringLatin1" "getChar" _ _ _ _ _ _ _ _ _ _
  refine W.aloadN (pc := 0) d16_0 rfl rfl ?_
  refine W.iloadN (pc := 1) d16_1 rfl ?_
  refine W.baload (pc := 2) 0 d16_2 mp1 ix0 rfl ?_
  refine W.sipush (pc := 3) (255) d16_3 (by decide) ?_
  refine W.iand (pc := 6) d16_6 ?_
  refine W.i2cK (pc := 7) (x1 &&& (255 : Int32)) d16_7 (z_i2c (by have := q255; have := am_255 x1; omega)) ?_
  exact W.ireturn (pc := 8) d16_8 rfl (Or.inr (Or.inr (Or.inr (Or.inl rfl)))) (nw_char (by have := q255; have := am_255 x1; omega)) (by decide) ⟨rfl, rfl⟩
theorem c83_compareTo {Z a0} (hw : HW a0 Z) (hs : SF Z) {p1 p2 : Addr} {x1 : Int32} (hx1 : -128 ≤ x1.toInt ∧ x1.toInt ≤ 127) {x2 : Int32} (hx2 : -128 ≤ x2.toInt ∧ x2.toInt ≤ 127) {x3 : Int32} (hx3 : -128 ≤ x3.toInt ∧ x3.toInt ≤ 127) {w_p1 : Bool} {ad_p1 : String} {w_p2 : Bool} {ad_p2 : String} {F : List Ent} (mp1 : (p1, w_p1, ar ad_p1 .byte [(vi x1)]) ∈ F) (mp2 : (p2, w_p2, ar ad_p2 .byte [(vi x2), (vi x3)]) ∈ F) : Con Z EL (⟨"java/lang/StringLatin1", "compareTo", "([B[BII)I"⟩ : MethodName) jdk_43_method_15_code 6 (Option.some Jvm.ClassFile.FieldType.int) (rmm 1 0 0 15) [(vr p1), (vr p2), (vi 1), (vi 2)] (F) (fun v D' => (Cd .eq x1 x2 ∧ v = some (vi (-1)) ∧ F = D') ∨ (¬ Cd .eq x1 x2 ∧ v = some (vi ((x1 &&& (255 : Int32)) - (x2 &&& (255 : Int32)))) ∧ F = D')) := by
  refine Con.of (ls := #[rv p1, rv p2, iv 1, iv 2, uu, uu]) (by decide +kernel) rfl ?_
  show W Z EL _ "java/lang/StringLatin1" "compareTo" _ _ _ _ _ _ _ _ _ _
  refine W.iloadN (pc := 0) d8_0 rfl ?_
  refine W.iloadN (pc := 1) d8_1 rfl ?_
  refine W.callS (pc := 2) (as := [(vi 1), (vi 2)]) 0 [] d8_2 (w48 hw) (w49 hw) (w50 hw) (w51 hw) (c84_min hw hs) (by decide) pd_II_I rfl rfl rfl rfl (by decide) (fun v D' h => ?_)
  obtain ⟨rfl, rfl⟩ := h
  show W _ _ _ _ _ _ _ _ _ _ _ _ 5 _ [(vi 1)]
  refine W.istore (pc := 5) (ls' := #[rv p1, rv p2, iv 1, iv 2, iv 1, uu]) d8_5 rfl ?_
  refine W.aloadN (pc := 7) d8_7 rfl rfl ?_
  refine W.aloadN (pc := 8) d8_8 rfl rfl ?_
  refine W.iload (pc := 9) d8_9 rfl ?_
  refine W.callS (pc := 11) (as := [(vr p1), (vr p2), (vi 1)]) 0 [] d8_11 (w52 hw) (w53 hw) (w54 hw) (w55 hw) (c85_mismatch hw hs (p1 := p1) (p2 := p2) (x1 := x1) (hx1 := hx1) (x2 := x2) (hx2 := hx2) (x3 := x3) (hx3 := hx3) (mp1 := mp1) (mp2 := mp2)) (by decide) pd__B_BI_I rfl rfl rfl rfl (by decide) (fun v D' h => ?_)
  rcases h with ⟨h1, rfl, rfl⟩ | ⟨h2, rfl, rfl⟩
  ·
   have ih1 := t_eq h1
   show W _ _ _ _ _ _ _ _ _ _ _ _ 14 _ [(vi (-1))]
   refine W.istore (pc := 14) (ls' := #[rv p1, rv p2, iv 1, iv 2, iv 1, iv (-1)]) d8_14 rfl ?_
   refine W.iload (pc := 16) d8_16 rfl ?_
   refine W.ifN (pc := 18) d8_18 (n_ge (by decide)) ?_
   refine W.iloadN (pc := 21) d8_21 rfl ?_
   refine W.iloadN (pc := 22) d8_22 rfl ?_
   refine W.isubK (pc := 23) (-1 : Int32) d8_23 (by decide) ?_
   refine W.goto (pc := 24) 40 d8_24 (by decide) ?_
   exact W.ireturn (pc := 40) d8_40 rfl (Or.inl rfl) rfl (by decide) (Or.inl ⟨h1, rfl, rfl⟩)
  ·
   have ih2 := f_eq h2
   show W _ _ _ _ _ _ _ _ _ _ _ _ 14 _ [(vi 0)]
   refine W.istore (pc := 14) (ls' := #[rv p1, rv p2, iv 1, iv 2, iv 1, iv 0]) d8_14 rfl ?_
   refine W.iload (pc := 16) d8_16 rfl ?_
   refine W.ifY (pc := 18) 27 d8_18 (y_ge (by decide)) (by decide) ?_
   refine W.aloadN (pc := 27) d8_27 rfl rfl ?_
   refine W.iload (pc := 28) d8_28 rfl ?_
   refine W.callS (pc := 30) (as := [(vr p1), (vi 0)]) 0 [] d8_30 (w79 hw) (w80 hw) (w43 hw) (w81 hw) (c78_getChar hw hs (p1 := p1) (x1 := x1) (hx1 := hx1) (mp1 := mp1)) (by decide) pd__BI_C rfl rfl rfl rfl (by decide) (fun v D' h => ?_)
   obtain ⟨rfl, rfl⟩ := h
   show W _ _ _ _ _ _ _ _ _ _ _ _ 33 _ [(vi (x1 &&& (255 : Int32)))]
   refine W.aloadN (pc := 33) d8_33 rfl rfl ?_
   refine W.iload (pc := 34) d8_34 rfl ?_
   refine W.callS (pc := 36) (as := [(vr p2), (vi 0)]) 1 [(vi (x1 &&& (255 : Int32)))] d8_36 (w79 hw) (w80 hw) (w43 hw) (w81 hw) (c86_getChar hw hs (p1 := p2) (x1 := x2) (hx1 := hx2) (x2 := x3) (hx2 := hx3) (mp1 := mp2)) (by decide) pd__BI_C rfl rfl rfl rfl (by decide) (fun v D' h => ?_)
   obtain ⟨rfl, rfl⟩ := h
   show W _ _ _ _ _ _ _ _ _ _ _ _ 39 _ [(vi (x2 &&& (255 : Int32))), (vi (x1 &&& (255 : Int32)))]
   refine W.isub (pc := 39) d8_39 ?_
   exact W.ireturn (pc := 40) d8_40 rfl (Or.inl rfl) rfl (by decide) (Or.inr ⟨h2, rfl, rfl⟩)
theorem c82_compareTo {Z a0} (hw : HW a0 Z) (hs : SF Z) {p1 p2 : Addr} {x1 : Int32} (hx1 : -128 ≤ x1.toInt ∧ x1.toInt ≤ 127) {x2 : Int32} (hx2 : -128 ≤ x2.toInt ∧ x2.toInt ≤ 127) {x3 : Int32} (hx3 : -128 ≤ x3.toInt ∧ x3.toInt ≤ 127) {w_p1 : Bool} {ad_p1 : String} {w_p2 : Bool} {ad_p2 : String} {F : List Ent} (mp1 : (p1, w_p1, ar ad_p1 .byte [(vi x1)]) ∈ F) (mp2 : (p2, w_p2, ar ad_p2 .byte [(vi x2), (vi x3)]) ∈ F) : Con Z EL (⟨"java/lang/StringLatin1", "compareTo", "([B[B)I"⟩ : MethodName) jdk_43_method_14_code 4 (Option.some Jvm.ClassFile.FieldType.int) (rmm 2 0 0 32) [(vr p1), (vr p2)] (F) (fun v D' => (Cd .eq x1 x2 ∧ v = some (vi (-1)) ∧ F = D') ∨ (¬ Cd .eq x1 x2 ∧ v = some (vi ((x1 &&& (255 : Int32)) - (x2 &&& (255 : Int32)))) ∧ F = D')) := by
  refine Con.of (ls := #[rv p1, rv p2, uu, uu]) (by decide +kernel) rfl ?_
  show W Z EL _ "java/lang/StringLatin1" "compareTo" _ _ _ _ _ _ _ _ _ _
  refine W.aloadN (pc := 0) d7_0 rfl rfl ?_
  refine W.alen (pc := 1) (1) d7_1 mp1 rfl ?_
  refine W.istoreN (pc := 2) (ls' := #[rv p1, rv p2, iv 1, uu]) d7_2 rfl ?_
  refine W.aloadN (pc := 3) d7_3 rfl rfl ?_
  refine W.alen (pc := 4) (2) d7_4 mp2 rfl ?_
  refine W.istoreN (pc := 5) (ls' := #[rv p1, rv p2, iv 1, iv 2]) d7_5 rfl ?_
  refine W.aloadN (pc := 6) d7_6 rfl rfl ?_
  refine W.aloadN (pc := 7) d7_7 rfl rfl ?_
  refine W.iloadN (pc := 8) d7_8 rfl ?_
  refine W.iloadN (pc := 9) d7_9 rfl ?_
  refine W.callS (pc := 10) (as := [(vr p1), (vr p2), (vi 1), (vi 2)]) 0 [] d7_10 (w45 hw) (w46 hw) (w43 hw) (w47 hw) (c83_compareTo hw hs (p1 := p1) (p2 := p2) (x1 := x1) (hx1 := hx1) (x2 := x2) (hx2 := hx2) (x3 := x3) (hx3 := hx3) (mp1 := mp1) (mp2 := mp2)) (by decide) pd__B_BII_I rfl rfl rfl rfl (by decide) (fun v D' h => ?_)
  rcases h with ⟨h1, rfl, rfl⟩ | ⟨h2, rfl, rfl⟩
  ·
   have ih1 := t_eq h1
   show W _ _ _ _ _ _ _ _ _ _ _ _ 13 _ [(vi (-1))]
   exact W.ireturn (pc := 13) d7_13 rfl (Or.inl rfl) rfl (by decide) (Or.inl ⟨h1, rfl, rfl⟩)
  ·
   have ih2 := f_eq h2
   show W _ _ _ _ _ _ _ _ _ _ _ _ 13 _ [(vi ((x1 &&& (255 : Int32)) - (x2 &&& (255 : Int32))))]
   exact W.ireturn (pc := 13) d7_13 rfl (Or.inl rfl) rfl (by decide) (Or.inr ⟨h2, rfl, rfl⟩)
theorem c81_compareTo {Z a0} (hw : HW a0 Z) (hs : SF Z) {p1 p2 p3 p4 : Addr} {x1 : Int32} (hx1 : -128 ≤ x1.toInt ∧ x1.toInt ≤ 127) {x2 : Int32} (hx2 : -128 ≤ x2.toInt ∧ x2.toInt ≤ 127) {x3 : Int32} (hx3 : -128 ≤ x3.toInt ∧ x3.toInt ≤ 127) {w_p1 : Bool} {w_p2 : Bool} {w_p3 : Bool} {ad_p3 : String} {w_p4 : Bool} {ad_p4 : String} {F : List Ent} (mp1 : (p1, w_p1, oString (vr p3) (vi 0)) ∈ F) (mp2 : (p2, w_p2, oString (vr p4) (vi 0)) ∈ F) (mp3 : (p3, w_p3, ar ad_p3 .byte [(vi x1)]) ∈ F) (mp4 : (p4, w_p4, ar ad_p4 .byte [(vi x2), (vi x3)]) ∈ F) : Con Z EL (⟨"java/lang/String", "compareTo", "(Ljava/lang/String;)I"⟩ : MethodName) jdk_42_method_71_code 5 (Option.some Jvm.ClassFile.FieldType.int) (rmm 3 0 0 47) [(vr p1), (vr p2)] (F) (fun v D' => (Cd .eq x1 x2 ∧ v = some (vi (-1)) ∧ F = D') ∨ (¬ Cd .eq x1 x2 ∧ v = some (vi ((x1 &&& (255 : Int32)) - (x2 &&& (255 : Int32)))) ∧ F = D')) := by
  refine Con.of (ls := #[rv p1, rv p2, uu, uu, uu]) (by decide +kernel) rfl ?_
  show W Z EL _ "java/lang/String" "compareTo" _ _ _ _ _ _ _ _ _ _
  refine W.aloadN (pc := 0) d5_0 rfl rfl ?_
  refine W.getf (pc := 1) d5_1 (w20 hw) Via.refl mp1 m0 ?_
  refine W.astoreN (pc := 4) (ls' := #[rv p1, rv p2, rv p3, uu, uu]) d5_4 rfl rfl ?_
  refine W.aloadN (pc := 5) d5_5 rfl rfl ?_
  refine W.getf (pc := 6) d5_6 (w20 hw) Via.refl mp2 m0 ?_
  refine W.astoreN (pc := 9) (ls' := #[rv p1, rv p2, rv p3, rv p4, uu]) d5_9 rfl rfl ?_
  refine W.aloadN (pc := 10) d5_10 rfl rfl ?_
  refine W.callV (pc := 11) (as := []) 0 [] d5_11 (w35 hw) (w36 hw) (w38 hw) (w38 hw) (w37 hw) (w3 hw) (w39 hw) (Hp.exa mp1) (c31_coder hw hs (p1 := p1) (p2 := p3) (x1 := x1) (hx1 := hx1) (mp1 := mp1)) (by decide) pd__B rfl rfl rfl rfl (by decide) (fun v D' h => ?_)
  obtain ⟨rfl, rfl⟩ := h
  show W _ _ _ _ _ _ _ _ _ _ _ _ 14 _ [(vi 0)]
  refine W.istore (pc := 14) (ls' := #[rv p1, rv p2, rv p3, rv p4, iv 0]) d5_14 rfl ?_
  refine W.iload (pc := 16) d5_16 rfl ?_
  refine W.aloadN (pc := 18) d5_18 rfl rfl ?_
  refine W.callV (pc := 19) (as := []) 1 [(vi 0)] d5_19 (w35 hw) (w36 hw) (w38 hw) (w38 hw) (w37 hw) (w3 hw) (w39 hw) (Hp.exa mp2) (c52_coder hw hs (p1 := p2) (p2 := p4) (x1 := x2) (hx1 := hx2) (x2 := x3) (hx2 := hx3) (mp1 := mp2)) (by decide) pd__B rfl rfl rfl rfl (by decide) (fun v D' h => ?_)
  obtain ⟨rfl, rfl⟩ := h
  show W _ _ _ _ _ _ _ _ _ _ _ _ 22 _ [(vi 0), (vi 0)]
  refine W.icmpN (pc := 22) d5_22 (n_ne (by decide)) ?_
  refine W.iload (pc := 25) d5_25 rfl ?_
  refine W.ifN (pc := 27) d5_27 (n_ne (by decide)) ?_
  refine W.aloadN (pc := 30) d5_30 rfl rfl ?_
  refine W.aloadN (pc := 31) d5_31 rfl rfl ?_
  refine W.callS (pc := 32) (as := [(vr p3), (vr p4)]) 0 [] d5_32 (w41 hw) (w42 hw) (w43 hw) (w44 hw) (c82_compareTo hw hs (p1 := p3) (p2 := p4) (x1 := x1) (hx1 := hx1) (x2 := x2) (hx2 := hx2) (x3 := x3) (hx3 := hx3) (mp1 := mp3) (mp2 := mp4)) (by decide) pd__B_B_I rfl rfl rfl rfl (by decide) (fun v D' h => ?_)
  rcases h with ⟨h1, rfl, rfl⟩ | ⟨h2, rfl, rfl⟩
  ·
   have ih1 := t_eq h1
   show W _ _ _ _ _ _ _ _ _ _ _ _ 35 _ [(vi (-1))]
   refine W.goto (pc := 35) 43 d5_35 (by decide) ?_
   exact W.ireturn (pc := 43) d5_43 rfl (Or.inl rfl) rfl (by decide) (Or.inl ⟨h1, rfl, rfl⟩)
  ·
   have ih2 := f_eq h2
   show W _ _ _ _ _ _ _ _ _ _ _ _ 35 _ [(vi ((x1 &&& (255 : Int32)) - (x2 &&& (255 : Int32))))]
   refine W.goto (pc := 35) 43 d5_35 (by decide) ?_
   exact W.ireturn (pc := 43) d5_43 rfl (Or.inl rfl) rfl (by decide) (Or.inr ⟨h2, rfl, rfl⟩)
theorem c80_startsAfter {Z a0} (hw : HW a0 Z) (hs : SF Z) {p1 p2 p3 p4 p5 : Addr} {x1 : Int32} (hx1 : -128 ≤ x1.toInt ∧ x1.toInt ≤ 127) {x2 : Int32} (hx2 : -128 ≤ x2.toInt ∧ x2.toInt ≤ 127) {x3 : Int32} (hx3 : -128 ≤ x3.toInt ∧ x3.toInt ≤ 127) {u1 : Value} (hu1 : u1.isRef = true) {w_p1 : Bool} {w_p2 : Bool} {w_p3 : Bool} {w_p4 : Bool} {ad_p4 : String} {w_p5 : Bool} {ad_p5 : String} {F : List Ent} (mp1 : (p1, w_p1, oTimeRange u1 (vr p3)) ∈ F) (mp2 : (p2, w_p2, oString (vr p4) (vi 0)) ∈ F) (mp3 : (p3, w_p3, oString (vr p5) (vi 0)) ∈ F) (mp4 : (p4, w_p4, ar ad_p4 .byte [(vi x1)]) ∈ F) (mp5 : (p5, w_p5, ar ad_p5 .byte [(vi x2), (vi x3)]) ∈ F) : Con Z EL (⟨"com/example/chainvouch/chainvouch/chain/TimeRange", "startsAfter", "(Ljava/lang/String;)Z"⟩ : MethodName) prog_15_method_3_code 2 (Option.some Jvm.ClassFile.FieldType.boolean) (rmm 4 0 0 63) [(vr p1), (vr p2)] (F) (fun v D' => (Cd .eq x1 x2 ∧ v = some (vi 0) ∧ F = D') ∨ (¬ Cd .eq x1 x2 ∧ Cd .lt ((x1 &&& (255 : Int32)) - (x2 &&& (255 : Int32))) (0 : Int32) ∧ v = some (vi 0) ∧ F = D') ∨ (¬ Cd .eq x1 x2 ∧ ¬ Cd .lt ((x1 &&& (255 : Int32)) - (x2 &&& (255 : Int32))) (0 : Int32) ∧ v = some (vi 1) ∧ F = D')) := by
  refine Con.of (ls := #[rv p1, rv p2]) (by decide +kernel) rfl ?_
  show W Z EL _ "com/example/chainvouch/chainvouch/chain/TimeRange" "startsAfter" _ _ _ _ _ _ _ _ _ _
  refine W.aloadN (pc := 0) d11_0 rfl rfl ?_
  refine W.getf (pc := 1) d11_1 (w58 hw) Via.refl mp1 m1 ?_
  refine W.ifnullN (pc := 4) d11_4 ?_
  refine W.aloadN (pc := 7) d11_7 rfl rfl ?_
  refine W.aloadN (pc := 8) d11_8 rfl rfl ?_
  refine W.getf (pc := 9) d11_9 (w58 hw) Via.refl mp1 m1 ?_
  refine W.callV (pc := 12) (as := [(vr p3)]) 0 [] d11_12 (w30 hw) (w31 hw) (w33 hw) (w33 hw) (w32 hw) (w3 hw) (w34 hw) (Hp.exa mp2) (c81_compareTo hw hs (p1 := p2) (p2 := p3) (p3 := p4) (p4 := p5) (x1 := x1) (hx1 := hx1) (x2 := x2) (hx2 := hx2) (x3 := x3) (hx3 := hx3) (mp1 := mp2) (mp2 := mp3) (mp3 := mp4) (mp4 := mp5)) (by decide) pd_Ljava_lang_String__I rfl rfl rfl rfl (by decide) (fun v D' h => ?_)
  rcases h with ⟨h1, rfl, rfl⟩ | ⟨h2, rfl, rfl⟩
  ·
   have ih1 := t_eq h1
   show W _ _ _ _ _ _ _ _ _ _ _ _ 15 _ [(vi (-1))]
   refine W.ifY (pc := 15) 22 d11_15 (y_lt (by decide)) (by decide) ?_
   refine W.iconst (pc := 22) (0) d11_22 (by decide) ?_
   exact W.ireturn (pc := 23) d11_23 rfl (Or.inr (Or.inl rfl)) (nw_bool (by decide)) (by decide) (Or.inl ⟨h1, rfl, rfl⟩)
  ·
   have ih2 := f_eq h2
   show W _ _ _ _ _ _ _ _ _ _ _ _ 15 _ [(vi ((x1 &&& (255 : Int32)) - (x2 &&& (255 : Int32))))]
   refine W.if (pc := 15) 22 d11_15 (by decide) (fun h3 => ?_) (fun h3 => ?_)
   ·
    have ih3 := t_lt h3
    refine W.iconst (pc := 22) (0) d11_22 (by decide) ?_
    exact W.ireturn (pc := 23) d11_23 rfl (Or.inr (Or.inl rfl)) (nw_bool (by decide)) (by decide) (Or.inr (Or.inl ⟨h2, h3, rfl, rfl⟩))
   ·
    have ih3 := f_lt h3
    refine W.iconst (pc := 18) (1) d11_18 (by decide) ?_
    refine W.goto (pc := 19) 23 d11_19 (by decide) ?_
    exact W.ireturn (pc := 23) d11_23 rfl (Or.inr (Or.inl rfl)) (nw_bool (by decide)) (by decide) (Or.inr (Or.inr ⟨h2, h3, rfl, rfl⟩))
theorem d12_56 : decode method_3_code 56 = .ok (.iconst 0, 1) := by decide +kernel
theorem c87_geq {Z a0} (hw : HW a0 Z) (hs : SF Z) {x1 : Int32} (hx1 : 0 ≤ x1.toInt ∧ x1.toInt ≤ 255) {x2 : Int32} (hx2 : 0 ≤ x2.toInt ∧ x2.toInt ≤ 255) {x3 : Int32} (hx3 : 0 ≤ x3.toInt ∧ x3.toInt ≤ 255) {x4 : Int32} (hx4 : 0 ≤ x4.toInt ∧ x4.toInt ≤ 255) {F : List Ent} : Con Z EL (⟨"com/example/chainvouch/chainvouch/chain/TimeRangeStartsAfterPinLaw", "geq", "(IIIIII)Z"⟩ : MethodName) method_3_code 6 (Option.some Jvm.ClassFile.FieldType.boolean) (rmm 0 0 0 0) [(vi 1), (vi x1), (vi x2), (vi 2), (vi x3), (vi x4)] (F) (fun v D' => (Cd .eq x1 x3 ∧ v = some (vi 0) ∧ F = D') ∨ (¬ Cd .eq x1 x3 ∧ Cd .le x1 x3 ∧ v = some (vi 0) ∧ F = D') ∨ (¬ Cd .eq x1 x3 ∧ ¬ Cd .le x1 x3 ∧ v = some (vi 1) ∧ F = D')) := by
  refine Con.of (ls := #[iv 1, iv x1, iv x2, iv 2, iv x3, iv x4]) (by decide +kernel) rfl ?_
  show W Z EL _ "com/example/chainvouch/chainvouch/chain/TimeRangeStartsAfterPinLaw" "geq" _ _ _ _ _ _ _ _ _ _
  refine W.iloadN (pc := 0) d12_0 rfl ?_
  refine W.ifN (pc := 1) d12_1 (n_eq (by decide)) ?_
  refine W.iloadN (pc := 4) d12_4 rfl ?_
  refine W.ifY (pc := 5) 19 d12_5 (y_ne (by decide)) (by decide) ?_
  refine W.iloadN (pc := 19) d12_19 rfl ?_
  refine W.iload (pc := 20) d12_20 rfl ?_
  refine W.icmp (pc := 22) 37 d12_22 (by decide) (fun h1 => ?_) (fun h1 => ?_)
  ·
   have ih1 := t_eq h1
   refine W.iloadN (pc := 37) d12_37 rfl ?_
   refine W.iconst (pc := 38) (1) d12_38 (by decide) ?_
   refine W.icmpY (pc := 39) 47 d12_39 (y_eq (by decide)) (by decide) ?_
   refine W.iloadN (pc := 47) d12_47 rfl ?_
   refine W.iloadN (pc := 48) d12_48 rfl ?_
   refine W.icmpY (pc := 49) 56 d12_49 (y_lt (by decide)) (by decide) ?_
   refine W.iconst (pc := 56) (0) d12_56 (by decide) ?_
   exact W.ireturn (pc := 57) d12_57 rfl (Or.inr (Or.inl rfl)) (nw_bool (by decide)) (by decide) (Or.inl ⟨h1, rfl, rfl⟩)
  ·
   have ih1 := f_eq h1
   refine W.iloadN (pc := 25) d12_25 rfl ?_
   refine W.iload (pc := 26) d12_26 rfl ?_
   refine W.icmp (pc := 28) 35 d12_28 (by decide) (fun h2 => ?_) (fun h2 => ?_)
   ·
    have ih2 := t_le h2
    refine W.iconst (pc := 35) (0) d12_35 (by decide) ?_
    exact W.ireturn (pc := 36) d12_36 rfl (Or.inr (Or.inl rfl)) (nw_bool (by decide)) (by decide) (Or.inr (Or.inl ⟨h1, h2, rfl, rfl⟩))
   ·
    have ih2 := f_le h2
    refine W.iconst (pc := 31) (1) d12_31 (by decide) ?_
    refine W.goto (pc := 32) 36 d12_32 (by decide) ?_
    exact W.ireturn (pc := 36) d12_36 rfl (Or.inr (Or.inl rfl)) (nw_bool (by decide)) (by decide) (Or.inr (Or.inr ⟨h1, h2, rfl, rfl⟩))
theorem c92_min {Z a0} (hw : HW a0 Z) (hs : SF Z) {F : List Ent} : Con Z EL (⟨"java/lang/Math", "min", "(II)I"⟩ : MethodName) jdk_29_method_69_code 2 (Option.some Jvm.ClassFile.FieldType.int) (rmm 0 0 0 0) [(vi 2), (vi 0)] (F) (fun v D' => (v = some (vi 0) ∧ F = D')) := by
  refine Con.of (ls := #[iv 2, iv 0]) (by decide +kernel) rfl ?_
  show W Z EL _ "java/lang/Math" "min" _ _ _ _ _ _ _ _ _ _
  refine W.iloadN (pc := 0) d9_0 rfl ?_
  refine W.iloadN (pc := 1) d9_1 rfl ?_
  refine W.icmpY (pc := 2) 9 d9_2 (y_gt (by decide)) (by decide) ?_
  refine W.iloadN (pc := 9) d9_9 rfl ?_
  exact W.ireturn (pc := 10) d9_10 rfl (Or.inl rfl) rfl (by decide) ⟨rfl, rfl⟩
theorem c93_mismatch {Z a0} (hw : HW a0 Z) (hs : SF Z) {p1 p2 : Addr} {x1 : Int32} (hx1 : -128 ≤ x1.toInt ∧ x1.toInt ≤ 127) {x2 : Int32} (hx2 : -128 ≤ x2.toInt ∧ x2.toInt ≤ 127) {F : List Ent} : Con Z EL (⟨"jdk/internal/util/ArraysSupport", "mismatch", "([B[BI)I"⟩ : MethodName) jdk_48_method_13_code 4 (Option.some Jvm.ClassFile.FieldType.int) (rmm 0 0 0 0) [(vr p1), (vr p2), (vi 0)] (F) (fun v D' => (v = some (vi (-1)) ∧ F = D')) := by
  refine Con.of (ls := #[rv p1, rv p2, iv 0, uu]) (by decide +kernel) rfl ?_
  show W Z EL _ "jdk/internal/util/ArraysSupport" "mismatch" _ _ _ _ _ _ _ _ _ _
  refine W.iconst (pc := 0) (0) d10_0 (by decide) ?_
  refine W.istoreN (pc := 1) (ls' := #[rv p1, rv p2, iv 0, iv 0]) d10_1 rfl ?_
  refine W.iloadN (pc := 2) d10_2 rfl ?_
  refine W.bipush (pc := 3) (7) d10_3 (by decide) ?_
  refine W.icmpY (pc := 5) 49 d10_5 (y_le (by decide)) (by decide) ?_
  refine W.iloadN (pc := 49) d10_49 rfl ?_
  refine W.iloadN (pc := 50) d10_50 rfl ?_
  refine W.icmpY (pc := 51) 71 d10_51 (y_ge (by decide)) (by decide) ?_
  refine W.iconst (pc := 71) (-1) d10_71 (by decide) ?_
  exact W.ireturn (pc := 72) d10_72 rfl (Or.inl rfl) rfl (by decide) ⟨rfl, rfl⟩
theorem c91_compareTo {Z a0} (hw : HW a0 Z) (hs : SF Z) {p1 p2 : Addr} {x1 : Int32} (hx1 : -128 ≤ x1.toInt ∧ x1.toInt ≤ 127) {x2 : Int32} (hx2 : -128 ≤ x2.toInt ∧ x2.toInt ≤ 127) {F : List Ent} : Con Z EL (⟨"java/lang/StringLatin1", "compareTo", "([B[BII)I"⟩ : MethodName) jdk_43_method_15_code 6 (Option.some Jvm.ClassFile.FieldType.int) (rmm 1 0 0 15) [(vr p1), (vr p2), (vi 2), (vi 0)] (F) (fun v D' => (v = some (vi 2) ∧ F = D')) := by
  refine Con.of (ls := #[rv p1, rv p2, iv 2, iv 0, uu, uu]) (by decide +kernel) rfl ?_
  show W Z EL _ "java/lang/StringLatin1" "compareTo" _ _ _ _ _ _ _ _ _ _
  refine W.iloadN (pc := 0) d8_0 rfl ?_
  refine W.iloadN (pc := 1) d8_1 rfl ?_
  refine W.callS (pc := 2) (as := [(vi 2), (vi 0)]) 0 [] d8_2 (w48 hw) (w49 hw) (w50 hw) (w51 hw) (c92_min hw hs) (by decide) pd_II_I rfl rfl rfl rfl (by decide) (fun v D' h => ?_)
  obtain ⟨rfl, rfl⟩ := h
  show W _ _ _ _ _ _ _ _ _ _ _ _ 5 _ [(vi 0)]
  refine W.istore (pc := 5) (ls' := #[rv p1, rv p2, iv 2, iv 0, iv 0, uu]) d8_5 rfl ?_
  refine W.aloadN (pc := 7) d8_7 rfl rfl ?_
  refine W.aloadN (pc := 8) d8_8 rfl rfl ?_
  refine W.iload (pc := 9) d8_9 rfl ?_
  refine W.callS (pc := 11) (as := [(vr p1), (vr p2), (vi 0)]) 0 [] d8_11 (w52 hw) (w53 hw) (w54 hw) (w55 hw) (c17_mismatch hw hs (p1 := p1) (p2 := p2)) (by decide) pd__B_BI_I rfl rfl rfl rfl (by decide) (fun v D' h => ?_)
  obtain ⟨rfl, rfl⟩ := h
  show W _ _ _ _ _ _ _ _ _ _ _ _ 14 _ [(vi (-1))]
  refine W.istore (pc := 14) (ls' := #[rv p1, rv p2, iv 2, iv 0, iv 0, iv (-1)]) d8_14 rfl ?_
  refine W.iload (pc := 16) d8_16 rfl ?_
  refine W.ifN (pc := 18) d8_18 (n_ge (by decide)) ?_
  refine W.iloadN (pc := 21) d8_21 rfl ?_
  refine W.iloadN (pc := 22) d8_22 rfl ?_
  refine W.isubK (pc := 23) (2 : Int32) d8_23 (by decide) ?_
  refine W.goto (pc := 24) 40 d8_24 (by decide) ?_
  exact W.ireturn (pc := 40) d8_40 rfl (Or.inl rfl) rfl (by decide) ⟨rfl, rfl⟩
theorem c90_compareTo {Z a0} (hw : HW a0 Z) (hs : SF Z) {p1 p2 : Addr} {x1 : Int32} (hx1 : -128 ≤ x1.toInt ∧ x1.toInt ≤ 127) {x2 : Int32} (hx2 : -128 ≤ x2.toInt ∧ x2.toInt ≤ 127) {w_p1 : Bool} {ad_p1 : String} {w_p2 : Bool} {ad_p2 : String} {F : List Ent} (mp1 : (p1, w_p1, ar ad_p1 .byte [(vi x1), (vi x2)]) ∈ F) (mp2 : (p2, w_p2, ar ad_p2 .byte []) ∈ F) : Con Z EL (⟨"java/lang/StringLatin1", "compareTo", "([B[B)I"⟩ : MethodName) jdk_43_method_14_code 4 (Option.some Jvm.ClassFile.FieldType.int) (rmm 2 0 0 32) [(vr p1), (vr p2)] (F) (fun v D' => (v = some (vi 2) ∧ F = D')) := by
  refine Con.of (ls := #[rv p1, rv p2, uu, uu]) (by decide +kernel) rfl ?_
  show W Z EL _ "java/lang/StringLatin1" "compareTo" _ _ _ _ _ _ _ _ _ _
  refine W.aloadN (pc := 0) d7_0 rfl rfl ?_
  refine W.alen (pc := 1) (2) d7_1 mp1 rfl ?_
  refine W.istoreN (pc := 2) (ls' := #[rv p1, rv p2, iv 2, uu]) d7_2 rfl ?_
  refine W.aloadN (pc := 3) d7_3 rfl rfl ?_
  refine W.alen (pc := 4) (0) d7_4 mp2 rfl ?_
  refine W.istoreN (pc := 5) (ls' := #[rv p1, rv p2, iv 2, iv 0]) d7_5 rfl ?_
  refine W.aloadN (pc := 6) d7_6 rfl rfl ?_
  refine W.aloadN (pc := 7) d7_7 rfl rfl ?_
  refine W.iloadN (pc := 8) d7_8 rfl ?_
  refine W.iloadN (pc := 9) d7_9 rfl ?_
  refine W.callS (pc := 10) (as := [(vr p1), (vr p2), (vi 2), (vi 0)]) 0 [] d7_10 (w45 hw) (w46 hw) (w43 hw) (w47 hw) (c91_compareTo hw hs (p1 := p1) (p2 := p2) (x1 := x1) (hx1 := hx1) (x2 := x2) (hx2 := hx2)) (by decide) pd__B_BII_I rfl rfl rfl rfl (by decide) (fun v D' h => ?_)
  obtain ⟨rfl, rfl⟩ := h
  show W _ _ _ _ _ _ _ _ _ _ _ _ 13 _ [(vi 2)]
  exact W.ireturn (pc := 13) d7_13 rfl (Or.inl rfl) rfl (by decide) ⟨rfl, rfl⟩
theorem c89_compareTo {Z a0} (hw : HW a0 Z) (hs : SF Z) {p1 p2 p3 p4 : Addr} {x1 : Int32} (hx1 : -128 ≤ x1.toInt ∧ x1.toInt ≤ 127) {x2 : Int32} (hx2 : -128 ≤ x2.toInt ∧ x2.toInt ≤ 127) {w_p1 : Bool} {w_p2 : Bool} {w_p3 : Bool} {ad_p3 : String} {w_p4 : Bool} {ad_p4 : String} {F : List Ent} (mp1 : (p1, w_p1, oString (vr p3) (vi 0)) ∈ F) (mp2 : (p2, w_p2, oString (vr p4) (vi 0)) ∈ F) (mp3 : (p3, w_p3, ar ad_p3 .byte [(vi x1), (vi x2)]) ∈ F) (mp4 : (p4, w_p4, ar ad_p4 .byte []) ∈ F) : Con Z EL (⟨"java/lang/String", "compareTo", "(Ljava/lang/String;)I"⟩ : MethodName) jdk_42_method_71_code 5 (Option.some Jvm.ClassFile.FieldType.int) (rmm 3 0 0 47) [(vr p1), (vr p2)] (F) (fun v D' => (v = some (vi 2) ∧ F = D')) := by
  refine Con.of (ls := #[rv p1, rv p2, uu, uu, uu]) (by decide +kernel) rfl ?_
  show W Z EL _ "java/lang/String" "compareTo" _ _ _ _ _ _ _ _ _ _
  refine W.aloadN (pc := 0) d5_0 rfl rfl ?_
  refine W.getf (pc := 1) d5_1 (w20 hw) Via.refl mp1 m0 ?_
  refine W.astoreN (pc := 4) (ls' := #[rv p1, rv p2, rv p3, uu, uu]) d5_4 rfl rfl ?_
  refine W.aloadN (pc := 5) d5_5 rfl rfl ?_
  refine W.getf (pc := 6) d5_6 (w20 hw) Via.refl mp2 m0 ?_
  refine W.astoreN (pc := 9) (ls' := #[rv p1, rv p2, rv p3, rv p4, uu]) d5_9 rfl rfl ?_
  refine W.aloadN (pc := 10) d5_10 rfl rfl ?_
  refine W.callV (pc := 11) (as := []) 0 [] d5_11 (w35 hw) (w36 hw) (w38 hw) (w38 hw) (w37 hw) (w3 hw) (w39 hw) (Hp.exa mp1) (c52_coder hw hs (p1 := p1) (p2 := p3) (x1 := x1) (hx1 := hx1) (x2 := x2) (hx2 := hx2) (mp1 := mp1)) (by decide) pd__B rfl rfl rfl rfl (by decide) (fun v D' h => ?_)
  obtain ⟨rfl, rfl⟩ := h
  show W _ _ _ _ _ _ _ _ _ _ _ _ 14 _ [(vi 0)]
  refine W.istore (pc := 14) (ls' := #[rv p1, rv p2, rv p3, rv p4, iv 0]) d5_14 rfl ?_
  refine W.iload (pc := 16) d5_16 rfl ?_
  refine W.aloadN (pc := 18) d5_18 rfl rfl ?_
  refine W.callV (pc := 19) (as := []) 1 [(vi 0)] d5_19 (w35 hw) (w36 hw) (w38 hw) (w38 hw) (w37 hw) (w3 hw) (w39 hw) (Hp.exa mp2) (c6_coder hw hs (p1 := p2) (p2 := p4) (mp1 := mp2)) (by decide) pd__B rfl rfl rfl rfl (by decide) (fun v D' h => ?_)
  obtain ⟨rfl, rfl⟩ := h
  show W _ _ _ _ _ _ _ _ _ _ _ _ 22 _ [(vi 0), (vi 0)]
  refine W.icmpN (pc := 22) d5_22 (n_ne (by decide)) ?_
  refine W.iload (pc := 25) d5_25 rfl ?_
  refine W.ifN (pc := 27) d5_27 (n_ne (by decide)) ?_
  refine W.aloadN (pc := 30) d5_30 rfl rfl ?_
  refine W.aloadN (pc := 31) d5_31 rfl rfl ?_
  refine W.callS (pc := 32) (as := [(vr p3), (vr p4)]) 0 [] d5_32 (w41 hw) (w42 hw) (w43 hw) (w44 hw) (c90_compareTo hw hs (p1 := p3) (p2 := p4) (x1 := x1) (hx1 := hx1) (x2 := x2) (hx2 := hx2) (mp1 := mp3) (mp2 := mp4)) (by decide) pd__B_B_I rfl rfl rfl rfl (by decide) (fun v D' h => ?_)
  obtain ⟨rfl, rfl⟩ := h
  show W _ _ _ _ _ _ _ _ _ _ _ _ 35 _ [(vi 2)]
  refine W.goto (pc := 35) 43 d5_35 (by decide) ?_
  exact W.ireturn (pc := 43) d5_43 rfl (Or.inl rfl) rfl (by decide) ⟨rfl, rfl⟩
theorem c88_startsAfter {Z a0} (hw : HW a0 Z) (hs : SF Z) {p1 p2 p3 p4 p5 : Addr} {x1 : Int32} (hx1 : -128 ≤ x1.toInt ∧ x1.toInt ≤ 127) {x2 : Int32} (hx2 : -128 ≤ x2.toInt ∧ x2.toInt ≤ 127) {u1 : Value} (hu1 : u1.isRef = true) {w_p1 : Bool} {w_p2 : Bool} {w_p3 : Bool} {w_p4 : Bool} {ad_p4 : String} {w_p5 : Bool} {ad_p5 : String} {F : List Ent} (mp1 : (p1, w_p1, oTimeRange u1 (vr p3)) ∈ F) (mp2 : (p2, w_p2, oString (vr p4) (vi 0)) ∈ F) (mp3 : (p3, w_p3, oString (vr p5) (vi 0)) ∈ F) (mp4 : (p4, w_p4, ar ad_p4 .byte [(vi x1), (vi x2)]) ∈ F) (mp5 : (p5, w_p5, ar ad_p5 .byte []) ∈ F) : Con Z EL (⟨"com/example/chainvouch/chainvouch/chain/TimeRange", "startsAfter", "(Ljava/lang/String;)Z"⟩ : MethodName) prog_15_method_3_code 2 (Option.some Jvm.ClassFile.FieldType.boolean) (rmm 4 0 0 63) [(vr p1), (vr p2)] (F) (fun v D' => (v = some (vi 1) ∧ F = D')) := by
  refine Con.of (ls := #[rv p1, rv p2]) (by decide +kernel) rfl ?_
  show W Z EL _ "com/example/chainvouch/chainvouch/chain/TimeRange" "startsAfter" _ _ _ _ _ _ _ _ _ _
  refine W.aloadN (pc := 0) d11_0 rfl rfl ?_
  refine W.getf (pc := 1) d11_1 (w58 hw) Via.refl mp1 m1 ?_
  refine W.ifnullN (pc := 4) d11_4 ?_
  refine W.aloadN (pc := 7) d11_7 rfl rfl ?_
  refine W.aloadN (pc := 8) d11_8 rfl rfl ?_
  refine W.getf (pc := 9) d11_9 (w58 hw) Via.refl mp1 m1 ?_
  refine W.callV (pc := 12) (as := [(vr p3)]) 0 [] d11_12 (w30 hw) (w31 hw) (w33 hw) (w33 hw) (w32 hw) (w3 hw) (w34 hw) (Hp.exa mp2) (c89_compareTo hw hs (p1 := p2) (p2 := p3) (p3 := p4) (p4 := p5) (x1 := x1) (hx1 := hx1) (x2 := x2) (hx2 := hx2) (mp1 := mp2) (mp2 := mp3) (mp3 := mp4) (mp4 := mp5)) (by decide) pd_Ljava_lang_String__I rfl rfl rfl rfl (by decide) (fun v D' h => ?_)
  obtain ⟨rfl, rfl⟩ := h
  show W _ _ _ _ _ _ _ _ _ _ _ _ 15 _ [(vi 2)]
  refine W.ifN (pc := 15) d11_15 (n_lt (by decide)) ?_
  refine W.iconst (pc := 18) (1) d11_18 (by decide) ?_
  refine W.goto (pc := 19) 23 d11_19 (by decide) ?_
  exact W.ireturn (pc := 23) d11_23 rfl (Or.inr (Or.inl rfl)) (nw_bool (by decide)) (by decide) ⟨rfl, rfl⟩
theorem c94_geq {Z a0} (hw : HW a0 Z) (hs : SF Z) {x1 : Int32} (hx1 : 0 ≤ x1.toInt ∧ x1.toInt ≤ 255) {x2 : Int32} (hx2 : 0 ≤ x2.toInt ∧ x2.toInt ≤ 255) {x3 : Int32} (hx3 : 0 ≤ x3.toInt ∧ x3.toInt ≤ 255) {x4 : Int32} (hx4 : 0 ≤ x4.toInt ∧ x4.toInt ≤ 255) {F : List Ent} : Con Z EL (⟨"com/example/chainvouch/chainvouch/chain/TimeRangeStartsAfterPinLaw", "geq", "(IIIIII)Z"⟩ : MethodName) method_3_code 6 (Option.some Jvm.ClassFile.FieldType.boolean) (rmm 0 0 0 0) [(vi 2), (vi x1), (vi x2), (vi 0), (vi x3), (vi x4)] (F) (fun v D' => (v = some (vi 1) ∧ F = D')) := by
  refine Con.of (ls := #[iv 2, iv x1, iv x2, iv 0, iv x3, iv x4]) (by decide +kernel) rfl ?_
  show W Z EL _ "com/example/chainvouch/chainvouch/chain/TimeRangeStartsAfterPinLaw" "geq" _ _ _ _ _ _ _ _ _ _
  refine W.iloadN (pc := 0) d12_0 rfl ?_
  refine W.ifN (pc := 1) d12_1 (n_eq (by decide)) ?_
  refine W.iloadN (pc := 4) d12_4 rfl ?_
  refine W.ifN (pc := 5) d12_5 (n_ne (by decide)) ?_
  refine W.iloadN (pc := 8) d12_8 rfl ?_
  refine W.iloadN (pc := 9) d12_9 rfl ?_
  refine W.icmpN (pc := 10) d12_10 (n_lt (by decide)) ?_
  refine W.iconst (pc := 13) (1) d12_13 (by decide) ?_
  refine W.goto (pc := 14) 18 d12_14 (by decide) ?_
  exact W.ireturn (pc := 18) d12_18 rfl (Or.inr (Or.inl rfl)) (nw_bool (by decide)) (by decide) ⟨rfl, rfl⟩
theorem c95_startsAfter {Z a0} (hw : HW a0 Z) (hs : SF Z) {p1 p2 p3 : Addr} {x1 : Int32} (hx1 : -128 ≤ x1.toInt ∧ x1.toInt ≤ 127) {x2 : Int32} (hx2 : -128 ≤ x2.toInt ∧ x2.toInt ≤ 127) {u1 : Value} (hu1 : u1.isRef = true) {w_p1 : Bool} {F : List Ent} (mp1 : (p1, w_p1, oTimeRange u1 .null) ∈ F) : Con Z EL (⟨"com/example/chainvouch/chainvouch/chain/TimeRange", "startsAfter", "(Ljava/lang/String;)Z"⟩ : MethodName) prog_15_method_3_code 2 (Option.some Jvm.ClassFile.FieldType.boolean) (rmm 0 0 0 0) [(vr p1), (vr p2)] (F) (fun v D' => (v = some (vi 0) ∧ F = D')) := by
  refine Con.of (ls := #[rv p1, rv p2]) (by decide +kernel) rfl ?_
  show W Z EL _ "com/example/chainvouch/chainvouch/chain/TimeRange" "startsAfter" _ _ _ _ _ _ _ _ _ _
  refine W.aloadN (pc := 0) d11_0 rfl rfl ?_
  refine W.getf (pc := 1) d11_1 (w58 hw) Via.refl mp1 m1 ?_
  refine W.ifnullY (pc := 4) 22 d11_4 (by decide) ?_
  refine W.iconst (pc := 22) (0) d11_22 (by decide) ?_
  exact W.ireturn (pc := 23) d11_23 rfl (Or.inr (Or.inl rfl)) (nw_bool (by decide)) (by decide) ⟨rfl, rfl⟩
theorem c100_min {Z a0} (hw : HW a0 Z) (hs : SF Z) {F : List Ent} : Con Z EL (⟨"java/lang/Math", "min", "(II)I"⟩ : MethodName) jdk_29_method_69_code 2 (Option.some Jvm.ClassFile.FieldType.int) (rmm 0 0 0 0) [(vi 2), (vi 1)] (F) (fun v D' => (v = some (vi 1) ∧ F = D')) := by
  refine Con.of (ls := #[iv 2, iv 1]) (by decide +kernel) rfl ?_
  show W Z EL _ "java/lang/Math" "min" _ _ _ _ _ _ _ _ _ _
  refine W.iloadN (pc := 0) d9_0 rfl ?_
  refine W.iloadN (pc := 1) d9_1 rfl ?_
  refine W.icmpY (pc := 2) 9 d9_2 (y_gt (by decide)) (by decide) ?_
  refine W.iloadN (pc := 9) d9_9 rfl ?_
  exact W.ireturn (pc := 10) d9_10 rfl (Or.inl rfl) rfl (by decide) ⟨rfl, rfl⟩
theorem c101_mismatch {Z a0} (hw : HW a0 Z) (hs : SF Z) {p1 p2 : Addr} {x1 : Int32} (hx1 : -128 ≤ x1.toInt ∧ x1.toInt ≤ 127) {x2 : Int32} (hx2 : -128 ≤ x2.toInt ∧ x2.toInt ≤ 127) {x3 : Int32} (hx3 : -128 ≤ x3.toInt ∧ x3.toInt ≤ 127) {w_p1 : Bool} {ad_p1 : String} {w_p2 : Bool} {ad_p2 : String} {F : List Ent} (mp1 : (p1, w_p1, ar ad_p1 .byte [(vi x1), (vi x2)]) ∈ F) (mp2 : (p2, w_p2, ar ad_p2 .byte [(vi x3)]) ∈ F) : Con Z EL (⟨"jdk/internal/util/ArraysSupport", "mismatch", "([B[BI)I"⟩ : MethodName) jdk_48_method_13_code 4 (Option.some Jvm.ClassFile.FieldType.int) (rmm 0 0 0 0) [(vr p1), (vr p2), (vi 1)] (F) (fun v D' => (Cd .eq x1 x3 ∧ v = some (vi (-1)) ∧ F = D') ∨ (¬ Cd .eq x1 x3 ∧ v = some (vi 0) ∧ F = D')) := by
  refine Con.of (ls := #[rv p1, rv p2, iv 1, uu]) (by decide +kernel) rfl ?_
  show W Z EL _ "jdk/internal/util/ArraysSupport" "mismatch" _ _ _ _ _ _ _ _ _ _
  refine W.iconst (pc := 0) (0) d10_0 (by decide) ?_
  refine W.istoreN (pc := 1) (ls' := #[rv p1, rv p2, iv 1, iv 0]) d10_1 rfl ?_
  refine W.iloadN (pc := 2) d10_2 rfl ?_
  refine W.bipush (pc := 3) (7) d10_3 (by decide) ?_
  refine W.icmpY (pc := 5) 49 d10_5 (y_le (by decide)) (by decide) ?_
  refine W.iloadN (pc := 49) d10_49 rfl ?_
  refine W.iloadN (pc := 50) d10_50 rfl ?_
  refine W.icmpN (pc := 51) d10_51 (n_ge (by decide)) ?_
  refine W.aloadN (pc := 54) d10_54 rfl rfl ?_
  refine W.iloadN (pc := 55) d10_55 rfl ?_
  refine W.baload (pc := 56) 0 d10_56 mp1 ix0 rfl ?_
  refine W.aloadN (pc := 57) d10_57 rfl rfl ?_
  refine W.iloadN (pc := 58) d10_58 rfl ?_
  refine W.baload (pc := 59) 0 d10_59 mp2 ix0 rfl ?_
  refine W.icmp (pc := 60) 65 d10_60 (by decide) (fun h1 => ?_) (fun h1 => ?_)
  ·
   have ih1 := t_eq h1
   refine W.iincK (pc := 65) (ls' := #[rv p1, rv p2, iv 1, iv 1]) (1) (1 : Int32) d10_65 (by decide) rfl (by decide) rfl ?_
   refine W.goto (pc := 68) 49 d10_68 (by decide) ?_
   refine W.iloadN (pc := 49) d10_49 rfl ?_
   refine W.iloadN (pc := 50) d10_50 rfl ?_
   refine W.icmpY (pc := 51) 71 d10_51 (y_ge (by decide)) (by decide) ?_
   refine W.iconst (pc := 71) (-1) d10_71 (by decide) ?_
   exact W.ireturn (pc := 72) d10_72 rfl (Or.inl rfl) rfl (by decide) (Or.inl ⟨h1, rfl, rfl⟩)
  ·
   have ih1 := f_eq h1
   refine W.iloadN (pc := 63) d10_63 rfl ?_
   exact W.ireturn (pc := 64) d10_64 rfl (Or.inl rfl) rfl (by decide) (Or.inr ⟨h1, rfl, rfl⟩)
theorem c99_compareTo {Z a0} (hw : HW a0 Z) (hs : SF Z) {p1 p2 : Addr} {x1 : Int32} (hx1 : -128 ≤ x1.toInt ∧ x1.toInt ≤ 127) {x2 : Int32} (hx2 : -128 ≤ x2.toInt ∧ x2.toInt ≤ 127) {x3 : Int32} (hx3 : -128 ≤ x3.toInt ∧ x3.toInt ≤ 127) {w_p1 : Bool} {ad_p1 : String} {w_p2 : Bool} {ad_p2 : String} {F : List Ent} (mp1 : (p1, w_p1, ar ad_p1 .byte [(vi x1), (vi x2)]) ∈ F) (mp2 : (p2, w_p2, ar ad_p2 .byte [(vi x3)]) ∈ F) : Con Z EL (⟨"java/lang/StringLatin1", "compareTo", "([B[BII)I"⟩ : MethodName) jdk_43_method_15_code 6 (Option.some Jvm.ClassFile.FieldType.int) (rmm 1 0 0 15) [(vr p1), (vr p2), (vi 2), (vi 1)] (F) (fun v D' => (Cd .eq x1 x3 ∧ v = some (vi 1) ∧ F = D') ∨ (¬ Cd .eq x1 x3 ∧ v = some (vi ((x1 &&& (255 : Int32)) - (x3 &&& (255 : Int32)))) ∧ F = D')) := by
  refine Con.of (ls := #[rv p1, rv p2, iv 2, iv 1, uu, uu]) (by decide +kernel) rfl ?_
  show W Z EL _ "java/lang/StringLatin1" "compareTo" _ _ _ _ _ _ _ _ _ _
  refine W.iloadN (pc := 0) d8_0 rfl ?_
  refine W.iloadN (pc := 1) d8_1 rfl ?_
  refine W.callS (pc := 2) (as := [(vi 2), (vi 1)]) 0 [] d8_2 (w48 hw) (w49 hw) (w50 hw) (w51 hw) (c100_min hw hs) (by decide) pd_II_I rfl rfl rfl rfl (by decide) (fun v D' h => ?_)
  obtain ⟨rfl, rfl⟩ := h
  show W _ _ _ _ _ _ _ _ _ _ _ _ 5 _ [(vi 1)]
  refine W.istore (pc := 5) (ls' := #[rv p1, rv p2, iv 2, iv 1, iv 1, uu]) d8_5 rfl ?_
  refine W.aloadN (pc := 7) d8_7 rfl rfl ?_
  refine W.aloadN (pc := 8) d8_8 rfl rfl ?_
  refine W.iload (pc := 9) d8_9 rfl ?_
  refine W.callS (pc := 11) (as := [(vr p1), (vr p2), (vi 1)]) 0 [] d8_11 (w52 hw) (w53 hw) (w54 hw) (w55 hw) (c101_mismatch hw hs (p1 := p1) (p2 := p2) (x1 := x1) (hx1 := hx1) (x2 := x2) (hx2 := hx2) (x3 := x3) (hx3 := hx3) (mp1 := mp1) (mp2 := mp2)) (by decide) pd__B_BI_I rfl rfl rfl rfl (by decide) (fun v D' h => ?_)
  rcases h with ⟨h1, rfl, rfl⟩ | ⟨h2, rfl, rfl⟩
  ·
   have ih1 := t_eq h1
   show W _ _ _ _ _ _ _ _ _ _ _ _ 14 _ [(vi (-1))]
   refine W.istore (pc := 14) (ls' := #[rv p1, rv p2, iv 2, iv 1, iv 1, iv (-1)]) d8_14 rfl ?_
   refine W.iload (pc := 16) d8_16 rfl ?_
   refine W.ifN (pc := 18) d8_18 (n_ge (by decide)) ?_
   refine W.iloadN (pc := 21) d8_21 rfl ?_
   refine W.iloadN (pc := 22) d8_22 rfl ?_
   refine W.isubK (pc := 23) (1 : Int32) d8_23 (by decide) ?_
   refine W.goto (pc := 24) 40 d8_24 (by decide) ?_
   exact W.ireturn (pc := 40) d8_40 rfl (Or.inl rfl) rfl (by decide) (Or.inl ⟨h1, rfl, rfl⟩)
  ·
   have ih2 := f_eq h2
   show W _ _ _ _ _ _ _ _ _ _ _ _ 14 _ [(vi 0)]
   refine W.istore (pc := 14) (ls' := #[rv p1, rv p2, iv 2, iv 1, iv 1, iv 0]) d8_14 rfl ?_
   refine W.iload (pc := 16) d8_16 rfl ?_
   refine W.ifY (pc := 18) 27 d8_18 (y_ge (by decide)) (by decide) ?_
   refine W.aloadN (pc := 27) d8_27 rfl rfl ?_
   refine W.iload (pc := 28) d8_28 rfl ?_
   refine W.callS (pc := 30) (as := [(vr p1), (vi 0)]) 0 [] d8_30 (w79 hw) (w80 hw) (w43 hw) (w81 hw) (c86_getChar hw hs (p1 := p1) (x1 := x1) (hx1 := hx1) (x2 := x2) (hx2 := hx2) (mp1 := mp1)) (by decide) pd__BI_C rfl rfl rfl rfl (by decide) (fun v D' h => ?_)
   obtain ⟨rfl, rfl⟩ := h
   show W _ _ _ _ _ _ _ _ _ _ _ _ 33 _ [(vi (x1 &&& (255 : Int32)))]
   refine W.aloadN (pc := 33) d8_33 rfl rfl ?_
   refine W.iload (pc := 34) d8_34 rfl ?_
   refine W.callS (pc := 36) (as := [(vr p2), (vi 0)]) 1 [(vi (x1 &&& (255 : Int32)))] d8_36 (w79 hw) (w80 hw) (w43 hw) (w81 hw) (c78_getChar hw hs (p1 := p2) (x1 := x3) (hx1 := hx3) (mp1 := mp2)) (by decide) pd__BI_C rfl rfl rfl rfl (by decide) (fun v D' h => ?_)
   obtain ⟨rfl, rfl⟩ := h
   show W _ _ _ _ _ _ _ _ _ _ _ _ 39 _ [(vi (x3 &&& (255 : Int32))), (vi (x1 &&& (255 : Int32)))]
   refine W.isub (pc := 39) d8_39 ?_
   exact W.ireturn (pc := 40) d8_40 rfl (Or.inl rfl) rfl (by decide) (Or.inr ⟨h2, rfl, rfl⟩)
theorem c98_compareTo {Z a0} (hw : HW a0 Z) (hs : SF Z) {p1 p2 : Addr} {x1 : Int32} (hx1 : -128 ≤ x1.toInt ∧ x1.toInt ≤ 127) {x2 : Int32} (hx2 : -128 ≤ x2.toInt ∧ x2.toInt ≤ 127) {x3 : Int32} (hx3 : -128 ≤ x3.toInt ∧ x3.toInt ≤ 127) {w_p1 : Bool} {ad_p1 : String} {w_p2 : Bool} {ad_p2 : String} {F : List Ent} (mp1 : (p1, w_p1, ar ad_p1 .byte [(vi x1), (vi x2)]) ∈ F) (mp2 : (p2, w_p2, ar ad_p2 .byte [(vi x3)]) ∈ F) : Con Z EL (⟨"java/lang/StringLatin1", "compareTo", "([B[B)I"⟩ : MethodName) jdk_43_method_14_code 4 (Option.some Jvm.ClassFile.FieldType.int) (rmm 2 0 0 32) [(vr p1), (vr p2)] (F) (fun v D' => (Cd .eq x1 x3 ∧ v = some (vi 1) ∧ F = D') ∨ (¬ Cd .eq x1 x3 ∧ v = some (vi ((x1 &&& (255 : Int32)) - (x3 &&& (255 : Int32)))) ∧ F = D')) := by
  refine Con.of (ls := #[rv p1, rv p2, uu, uu]) (by decide +kernel) rfl ?_
  show W Z EL _ "java/lang/StringLatin1" "compareTo" _ _ _ _ _ _ _ _ _ _
  refine W.aloadN (pc := 0) d7_0 rfl rfl ?_
  refine W.alen (pc := 1) (2) d7_1 mp1 rfl ?_
  refine W.istoreN (pc := 2) (ls' := #[rv p1, rv p2, iv 2, uu]) d7_2 rfl ?_
  refine W.aloadN (pc := 3) d7_3 rfl rfl ?_
  refine W.alen (pc := 4) (1) d7_4 mp2 rfl ?_
  refine W.istoreN (pc := 5) (ls' := #[rv p1, rv p2, iv 2, iv 1]) d7_5 rfl ?_
  refine W.aloadN (pc := 6) d7_6 rfl rfl ?_
  refine W.aloadN (pc := 7) d7_7 rfl rfl ?_
  refine W.iloadN (pc := 8) d7_8 rfl ?_
  refine W.iloadN (pc := 9) d7_9 rfl ?_
  refine W.callS (pc := 10) (as := [(vr p1), (vr p2), (vi 2), (vi 1)]) 0 [] d7_10 (w45 hw) (w46 hw) (w43 hw) (w47 hw) (c99_compareTo hw hs (p1 := p1) (p2 := p2) (x1 := x1) (hx1 := hx1) (x2 := x2) (hx2 := hx2) (x3 := x3) (hx3 := hx3) (mp1 := mp1) (mp2 := mp2)) (by decide) pd__B_BII_I rfl rfl rfl rfl (by decide) (fun v D' h => ?_)
  rcases h with ⟨h1, rfl, rfl⟩ | ⟨h2, rfl, rfl⟩
  ·
   have ih1 := t_eq h1
   show W _ _ _ _ _ _ _ _ _ _ _ _ 13 _ [(vi 1)]
   exact W.ireturn (pc := 13) d7_13 rfl (Or.inl rfl) rfl (by decide) (Or.inl ⟨h1, rfl, rfl⟩)
  ·
   have ih2 := f_eq h2
   show W _ _ _ _ _ _ _ _ _ _ _ _ 13 _ [(vi ((x1 &&& (255 : Int32)) - (x3 &&& (255 : Int32))))]
   exact W.ireturn (pc := 13) d7_13 rfl (Or.inl rfl) rfl (by decide) (Or.inr ⟨h2, rfl, rfl⟩)
theorem c97_compareTo {Z a0} (hw : HW a0 Z) (hs : SF Z) {p1 p2 p3 p4 : Addr} {x1 : Int32} (hx1 : -128 ≤ x1.toInt ∧ x1.toInt ≤ 127) {x2 : Int32} (hx2 : -128 ≤ x2.toInt ∧ x2.toInt ≤ 127) {x3 : Int32} (hx3 : -128 ≤ x3.toInt ∧ x3.toInt ≤ 127) {w_p1 : Bool} {w_p2 : Bool} {w_p3 : Bool} {ad_p3 : String} {w_p4 : Bool} {ad_p4 : String} {F : List Ent} (mp1 : (p1, w_p1, oString (vr p3) (vi 0)) ∈ F) (mp2 : (p2, w_p2, oString (vr p4) (vi 0)) ∈ F) (mp3 : (p3, w_p3, ar ad_p3 .byte [(vi x1), (vi x2)]) ∈ F) (mp4 : (p4, w_p4, ar ad_p4 .byte [(vi x3)]) ∈ F) : Con Z EL (⟨"java/lang/String", "compareTo", "(Ljava/lang/String;)I"⟩ : MethodName) jdk_42_method_71_code 5 (Option.some Jvm.ClassFile.FieldType.int) (rmm 3 0 0 47) [(vr p1), (vr p2)] (F) (fun v D' => (Cd .eq x1 x3 ∧ v = some (vi 1) ∧ F = D') ∨ (¬ Cd .eq x1 x3 ∧ v = some (vi ((x1 &&& (255 : Int32)) - (x3 &&& (255 : Int32)))) ∧ F = D')) := by
  refine Con.of (ls := #[rv p1, rv p2, uu, uu, uu]) (by decide +kernel) rfl ?_
  show W Z EL _ "java/lang/String" "compareTo" _ _ _ _ _ _ _ _ _ _
  refine W.aloadN (pc := 0) d5_0 rfl rfl ?_
  refine W.getf (pc := 1) d5_1 (w20 hw) Via.refl mp1 m0 ?_
  refine W.astoreN (pc := 4) (ls' := #[rv p1, rv p2, rv p3, uu, uu]) d5_4 rfl rfl ?_
  refine W.aloadN (pc := 5) d5_5 rfl rfl ?_
  refine W.getf (pc := 6) d5_6 (w20 hw) Via.refl mp2 m0 ?_
  refine W.astoreN (pc := 9) (ls' := #[rv p1, rv p2, rv p3, rv p4, uu]) d5_9 rfl rfl ?_
  refine W.aloadN (pc := 10) d5_10 rfl rfl ?_
  refine W.callV (pc := 11) (as := []) 0 [] d5_11 (w35 hw) (w36 hw) (w38 hw) (w38 hw) (w37 hw) (w3 hw) (w39 hw) (Hp.exa mp1) (c52_coder hw hs (p1 := p1) (p2 := p3) (x1 := x1) (hx1 := hx1) (x2 := x2) (hx2 := hx2) (mp1 := mp1)) (by decide) pd__B rfl rfl rfl rfl (by decide) (fun v D' h => ?_)
  obtain ⟨rfl, rfl⟩ := h
  show W _ _ _ _ _ _ _ _ _ _ _ _ 14 _ [(vi 0)]
  refine W.istore (pc := 14) (ls' := #[rv p1, rv p2, rv p3, rv p4, iv 0]) d5_14 rfl ?_
  refine W.iload (pc := 16) d5_16 rfl ?_
  refine W.aloadN (pc := 18) d5_18 rfl rfl ?_
  refine W.callV (pc := 19) (as := []) 1 [(vi 0)] d5_19 (w35 hw) (w36 hw) (w38 hw) (w38 hw) (w37 hw) (w3 hw) (w39 hw) (Hp.exa mp2) (c31_coder hw hs (p1 := p2) (p2 := p4) (x1 := x3) (hx1 := hx3) (mp1 := mp2)) (by decide) pd__B rfl rfl rfl rfl (by decide) (fun v D' h => ?_)
  obtain ⟨rfl, rfl⟩ := h
  show W _ _ _ _ _ _ _ _ _ _ _ _ 22 _ [(vi 0), (vi 0)]
  refine W.icmpN (pc := 22) d5_22 (n_ne (by decide)) ?_
  refine W.iload (pc := 25) d5_25 rfl ?_
  refine W.ifN (pc := 27) d5_27 (n_ne (by decide)) ?_
  refine W.aloadN (pc := 30) d5_30 rfl rfl ?_
  refine W.aloadN (pc := 31) d5_31 rfl rfl ?_
  refine W.callS (pc := 32) (as := [(vr p3), (vr p4)]) 0 [] d5_32 (w41 hw) (w42 hw) (w43 hw) (w44 hw) (c98_compareTo hw hs (p1 := p3) (p2 := p4) (x1 := x1) (hx1 := hx1) (x2 := x2) (hx2 := hx2) (x3 := x3) (hx3 := hx3) (mp1 := mp3) (mp2 := mp4)) (by decide) pd__B_B_I rfl rfl rfl rfl (by decide) (fun v D' h => ?_)
  rcases h with ⟨h1, rfl, rfl⟩ | ⟨h2, rfl, rfl⟩
  ·
   have ih1 := t_eq h1
   show W _ _ _ _ _ _ _ _ _ _ _ _ 35 _ [(vi 1)]
   refine W.goto (pc := 35) 43 d5_35 (by decide) ?_
   exact W.ireturn (pc := 43) d5_43 rfl (Or.inl rfl) rfl (by decide) (Or.inl ⟨h1, rfl, rfl⟩)
  ·
   have ih2 := f_eq h2
   show W _ _ _ _ _ _ _ _ _ _ _ _ 35 _ [(vi ((x1 &&& (255 : Int32)) - (x3 &&& (255 : Int32))))]
   refine W.goto (pc := 35) 43 d5_35 (by decide) ?_
   exact W.ireturn (pc := 43) d5_43 rfl (Or.inl rfl) rfl (by decide) (Or.inr ⟨h2, rfl, rfl⟩)
theorem c96_startsAfter {Z a0} (hw : HW a0 Z) (hs : SF Z) {p1 p2 p3 p4 p5 : Addr} {x1 : Int32} (hx1 : -128 ≤ x1.toInt ∧ x1.toInt ≤ 127) {x2 : Int32} (hx2 : -128 ≤ x2.toInt ∧ x2.toInt ≤ 127) {x3 : Int32} (hx3 : -128 ≤ x3.toInt ∧ x3.toInt ≤ 127) {u1 : Value} (hu1 : u1.isRef = true) {w_p1 : Bool} {w_p2 : Bool} {w_p3 : Bool} {w_p4 : Bool} {ad_p4 : String} {w_p5 : Bool} {ad_p5 : String} {F : List Ent} (mp1 : (p1, w_p1, oTimeRange u1 (vr p3)) ∈ F) (mp2 : (p2, w_p2, oString (vr p4) (vi 0)) ∈ F) (mp3 : (p3, w_p3, oString (vr p5) (vi 0)) ∈ F) (mp4 : (p4, w_p4, ar ad_p4 .byte [(vi x1), (vi x2)]) ∈ F) (mp5 : (p5, w_p5, ar ad_p5 .byte [(vi x3)]) ∈ F) : Con Z EL (⟨"com/example/chainvouch/chainvouch/chain/TimeRange", "startsAfter", "(Ljava/lang/String;)Z"⟩ : MethodName) prog_15_method_3_code 2 (Option.some Jvm.ClassFile.FieldType.boolean) (rmm 4 0 0 63) [(vr p1), (vr p2)] (F) (fun v D' => (Cd .eq x1 x3 ∧ v = some (vi 1) ∧ F = D') ∨ (¬ Cd .eq x1 x3 ∧ Cd .lt ((x1 &&& (255 : Int32)) - (x3 &&& (255 : Int32))) (0 : Int32) ∧ v = some (vi 0) ∧ F = D') ∨ (¬ Cd .eq x1 x3 ∧ ¬ Cd .lt ((x1 &&& (255 : Int32)) - (x3 &&& (255 : Int32))) (0 : Int32) ∧ v = some (vi 1) ∧ F = D')) := by
  refine Con.of (ls := #[rv p1, rv p2]) (by decide +kernel) rfl ?_
  show W Z EL _ "com/example/chainvouch/chainvouch/chain/TimeRange" "startsAfter" _ _ _ _ _ _ _ _ _ _
  refine W.aloadN (pc := 0) d11_0 rfl rfl ?_
  refine W.getf (pc := 1) d11_1 (w58 hw) Via.refl mp1 m1 ?_
  refine W.ifnullN (pc := 4) d11_4 ?_
  refine W.aloadN (pc := 7) d11_7 rfl rfl ?_
  refine W.aloadN (pc := 8) d11_8 rfl rfl ?_
  refine W.getf (pc := 9) d11_9 (w58 hw) Via.refl mp1 m1 ?_
  refine W.callV (pc := 12) (as := [(vr p3)]) 0 [] d11_12 (w30 hw) (w31 hw) (w33 hw) (w33 hw) (w32 hw) (w3 hw) (w34 hw) (Hp.exa mp2) (c97_compareTo hw hs (p1 := p2) (p2 := p3) (p3 := p4) (p4 := p5) (x1 := x1) (hx1 := hx1) (x2 := x2) (hx2 := hx2) (x3 := x3) (hx3 := hx3) (mp1 := mp2) (mp2 := mp3) (mp3 := mp4) (mp4 := mp5)) (by decide) pd_Ljava_lang_String__I rfl rfl rfl rfl (by decide) (fun v D' h => ?_)
  rcases h with ⟨h1, rfl, rfl⟩ | ⟨h2, rfl, rfl⟩
  ·
   have ih1 := t_eq h1
   show W _ _ _ _ _ _ _ _ _ _ _ _ 15 _ [(vi 1)]
   refine W.ifN (pc := 15) d11_15 (n_lt (by decide)) ?_
   refine W.iconst (pc := 18) (1) d11_18 (by decide) ?_
   refine W.goto (pc := 19) 23 d11_19 (by decide) ?_
   exact W.ireturn (pc := 23) d11_23 rfl (Or.inr (Or.inl rfl)) (nw_bool (by decide)) (by decide) (Or.inl ⟨h1, rfl, rfl⟩)
  ·
   have ih2 := f_eq h2
   show W _ _ _ _ _ _ _ _ _ _ _ _ 15 _ [(vi ((x1 &&& (255 : Int32)) - (x3 &&& (255 : Int32))))]
   refine W.if (pc := 15) 22 d11_15 (by decide) (fun h3 => ?_) (fun h3 => ?_)
   ·
    have ih3 := t_lt h3
    refine W.iconst (pc := 22) (0) d11_22 (by decide) ?_
    exact W.ireturn (pc := 23) d11_23 rfl (Or.inr (Or.inl rfl)) (nw_bool (by decide)) (by decide) (Or.inr (Or.inl ⟨h2, h3, rfl, rfl⟩))
   ·
    have ih3 := f_lt h3
    refine W.iconst (pc := 18) (1) d11_18 (by decide) ?_
    refine W.goto (pc := 19) 23 d11_19 (by decide) ?_
    exact W.ireturn (pc := 23) d11_23 rfl (Or.inr (Or.inl rfl)) (nw_bool (by decide)) (by decide) (Or.inr (Or.inr ⟨h2, h3, rfl, rfl⟩))
theorem d12_42 : decode method_3_code 42 = .ok (.iload_n 3, 1) := by decide +kernel
theorem d12_43 : decode method_3_code 43 = .ok (.iconst 1, 1) := by decide +kernel
theorem d12_44 : decode method_3_code 44 = .ok (.if_icmp .ne 14, 3) := by decide +kernel
theorem c102_geq {Z a0} (hw : HW a0 Z) (hs : SF Z) {x1 : Int32} (hx1 : 0 ≤ x1.toInt ∧ x1.toInt ≤ 255) {x2 : Int32} (hx2 : 0 ≤ x2.toInt ∧ x2.toInt ≤ 255) {x3 : Int32} (hx3 : 0 ≤ x3.toInt ∧ x3.toInt ≤ 255) {x4 : Int32} (hx4 : 0 ≤ x4.toInt ∧ x4.toInt ≤ 255) {F : List Ent} : Con Z EL (⟨"com/example/chainvouch/chainvouch/chain/TimeRangeStartsAfterPinLaw", "geq", "(IIIIII)Z"⟩ : MethodName) method_3_code 6 (Option.some Jvm.ClassFile.FieldType.boolean) (rmm 0 0 0 0) [(vi 2), (vi x1), (vi x2), (vi 1), (vi x3), (vi x4)] (F) (fun v D' => (Cd .eq x1 x3 ∧ v = some (vi 1) ∧ F = D') ∨ (¬ Cd .eq x1 x3 ∧ Cd .le x1 x3 ∧ v = some (vi 0) ∧ F = D') ∨ (¬ Cd .eq x1 x3 ∧ ¬ Cd .le x1 x3 ∧ v = some (vi 1) ∧ F = D')) := by
  refine Con.of (ls := #[iv 2, iv x1, iv x2, iv 1, iv x3, iv x4]) (by decide +kernel) rfl ?_
  show W Z EL _ "com/example/chainvouch/chainvouch/chain/TimeRangeStartsAfterPinLaw" "geq" _ _ _ _ _ _ _ _ _ _
  refine W.iloadN (pc := 0) d12_0 rfl ?_
  refine W.ifN (pc := 1) d12_1 (n_eq (by decide)) ?_
  refine W.iloadN (pc := 4) d12_4 rfl ?_
  refine W.ifY (pc := 5) 19 d12_5 (y_ne (by decide)) (by decide) ?_
  refine W.iloadN (pc := 19) d12_19 rfl ?_
  refine W.iload (pc := 20) d12_20 rfl ?_
  refine W.icmp (pc := 22) 37 d12_22 (by decide) (fun h1 => ?_) (fun h1 => ?_)
  ·
   have ih1 := t_eq h1
   refine W.iloadN (pc := 37) d12_37 rfl ?_
   refine W.iconst (pc := 38) (1) d12_38 (by decide) ?_
   refine W.icmpN (pc := 39) d12_39 (n_eq (by decide)) ?_
   refine W.iloadN (pc := 42) d12_42 rfl ?_
   refine W.iconst (pc := 43) (1) d12_43 (by decide) ?_
   refine W.icmpN (pc := 44) d12_44 (n_ne (by decide)) ?_
   refine W.iloadN (pc := 47) d12_47 rfl ?_
   refine W.iloadN (pc := 48) d12_48 rfl ?_
   refine W.icmpN (pc := 49) d12_49 (n_lt (by decide)) ?_
   refine W.iconst (pc := 52) (1) d12_52 (by decide) ?_
   refine W.goto (pc := 53) 57 d12_53 (by decide) ?_
   exact W.ireturn (pc := 57) d12_57 rfl (Or.inr (Or.inl rfl)) (nw_bool (by decide)) (by decide) (Or.inl ⟨h1, rfl, rfl⟩)
  ·
   have ih1 := f_eq h1
   refine W.iloadN (pc := 25) d12_25 rfl ?_
   refine W.iload (pc := 26) d12_26 rfl ?_
   refine W.icmp (pc := 28) 35 d12_28 (by decide) (fun h2 => ?_) (fun h2 => ?_)
   ·
    have ih2 := t_le h2
    refine W.iconst (pc := 35) (0) d12_35 (by decide) ?_
    exact W.ireturn (pc := 36) d12_36 rfl (Or.inr (Or.inl rfl)) (nw_bool (by decide)) (by decide) (Or.inr (Or.inl ⟨h1, h2, rfl, rfl⟩))
   ·
    have ih2 := f_le h2
    refine W.iconst (pc := 31) (1) d12_31 (by decide) ?_
    refine W.goto (pc := 32) 36 d12_32 (by decide) ?_
    exact W.ireturn (pc := 36) d12_36 rfl (Or.inr (Or.inl rfl)) (nw_bool (by decide)) (by decide) (Or.inr (Or.inr ⟨h1, h2, rfl, rfl⟩))
theorem c107_mismatch {Z a0} (hw : HW a0 Z) (hs : SF Z) {p1 p2 : Addr} {x1 : Int32} (hx1 : -128 ≤ x1.toInt ∧ x1.toInt ≤ 127) {x2 : Int32} (hx2 : -128 ≤ x2.toInt ∧ x2.toInt ≤ 127) {x3 : Int32} (hx3 : -128 ≤ x3.toInt ∧ x3.toInt ≤ 127) {x4 : Int32} (hx4 : -128 ≤ x4.toInt ∧ x4.toInt ≤ 127) {w_p1 : Bool} {ad_p1 : String} {w_p2 : Bool} {ad_p2 : String} {F : List Ent} (mp1 : (p1, w_p1, ar ad_p1 .byte [(vi x1), (vi x2)]) ∈ F) (mp2 : (p2, w_p2, ar ad_p2 .byte [(vi x3), (vi x4)]) ∈ F) : Con Z EL (⟨"jdk/internal/util/ArraysSupport", "mismatch", "([B[BI)I"⟩ : MethodName) jdk_48_method_13_code 4 (Option.some Jvm.ClassFile.FieldType.int) (rmm 0 0 0 0) [(vr p1), (vr p2), (vi 2)] (F) (fun v D' => (Cd .eq x1 x3 ∧ Cd .eq x2 x4 ∧ v = some (vi (-1)) ∧ F = D') ∨ (Cd .eq x1 x3 ∧ ¬ Cd .eq x2 x4 ∧ v = some (vi 1) ∧ F = D') ∨ (¬ Cd .eq x1 x3 ∧ v = some (vi 0) ∧ F = D')) := by
  refine Con.of (ls := #[rv p1, rv p2, iv 2, uu]) (by decide +kernel) rfl ?_
  show W Z EL _ "jdk/internal/util/ArraysSupport" "mismatch" _ _ _ _ _ _ _ _ _ _
  refine W.iconst (pc := 0) (0) d10_0 (by decide) ?_
  refine W.istoreN (pc := 1) (ls' := #[rv p1, rv p2, iv 2, iv 0]) d10_1 rfl ?_
  refine W.iloadN (pc := 2) d10_2 rfl ?_
  refine W.bipush (pc := 3) (7) d10_3 (by decide) ?_
  refine W.icmpY (pc := 5) 49 d10_5 (y_le (by decide)) (by decide) ?_
  refine W.iloadN (pc := 49) d10_49 rfl ?_
  refine W.iloadN (pc := 50) d10_50 rfl ?_
  refine W.icmpN (pc := 51) d10_51 (n_ge (by decide)) ?_
  refine W.aloadN (pc := 54) d10_54 rfl rfl ?_
  refine W.iloadN (pc := 55) d10_55 rfl ?_
  refine W.baload (pc := 56) 0 d10_56 mp1 ix0 rfl ?_
  refine W.aloadN (pc := 57) d10_57 rfl rfl ?_
  refine W.iloadN (pc := 58) d10_58 rfl ?_
  refine W.baload (pc := 59) 0 d10_59 mp2 ix0 rfl ?_
  refine W.icmp (pc := 60) 65 d10_60 (by decide) (fun h1 => ?_) (fun h1 => ?_)
  ·
   have ih1 := t_eq h1
   refine W.iincK (pc := 65) (ls' := #[rv p1, rv p2, iv 2, iv 1]) (1) (1 : Int32) d10_65 (by decide) rfl (by decide) rfl ?_
   refine W.goto (pc := 68) 49 d10_68 (by decide) ?_
   refine W.iloadN (pc := 49) d10_49 rfl ?_
   refine W.iloadN (pc := 50) d10_50 rfl ?_
   refine W.icmpN (pc := 51) d10_51 (n_ge (by decide)) ?_
   refine W.aloadN (pc := 54) d10_54 rfl rfl ?_
   refine W.iloadN (pc := 55) d10_55 rfl ?_
   refine W.baload (pc := 56) 1 d10_56 mp1 ix1 rfl ?_
   refine W.aloadN (pc := 57) d10_57 rfl rfl ?_
   refine W.iloadN (pc := 58) d10_58 rfl ?_
   refine W.baload (pc := 59) 1 d10_59 mp2 ix1 rfl ?_
   refine W.icmp (pc := 60) 65 d10_60 (by decide) (fun h2 => ?_) (fun h2 => ?_)
   ·
    have ih2 := t_eq h2
    refine W.iincK (pc := 65) (ls' := #[rv p1, rv p2, iv 2, iv 2]) (1) (2 : Int32) d10_65 (by decide) rfl (by decide) rfl ?_
    refine W.goto (pc := 68) 49 d10_68 (by decide) ?_
    refine W.iloadN (pc := 49) d10_49 rfl ?_
    refine W.iloadN (pc := 50) d10_50 rfl ?_
    refine W.icmpY (pc := 51) 71 d10_51 (y_ge (by decide)) (by decide) ?_
    refine W.iconst (pc := 71) (-1) d10_71 (by decide) ?_
    exact W.ireturn (pc := 72) d10_72 rfl (Or.inl rfl) rfl (by decide) (Or.inl ⟨h1, h2, rfl, rfl⟩)
   ·
    have ih2 := f_eq h2
    refine W.iloadN (pc := 63) d10_63 rfl ?_
    exact W.ireturn (pc := 64) d10_64 rfl (Or.inl rfl) rfl (by decide) (Or.inr (Or.inl ⟨h1, h2, rfl, rfl⟩))
  ·
   have ih1 := f_eq h1
   refine W.iloadN (pc := 63) d10_63 rfl ?_
   exact W.ireturn (pc := 64) d10_64 rfl (Or.inl rfl) rfl (by decide) (Or.inr (Or.inr ⟨h1, rfl, rfl⟩))
theorem c108_getChar {Z a0} (hw : HW a0 Z) (hs : SF Z) {p1 : Addr} {x1 : Int32} (hx1 : -128 ≤ x1.toInt ∧ x1.toInt ≤ 127) {x2 : Int32} (hx2 : -128 ≤ x2.toInt ∧ x2.toInt ≤ 127) {w_p1 : Bool} {ad_p1 : String} {F : List Ent} (mp1 : (p1, w_p1, ar ad_p1 .byte [(vi x1), (vi x2)]) ∈ F) : Con Z EL (⟨"java/lang/StringLatin1", "getChar", "([BI)C"⟩ : MethodName) jdk_43_method_44_code 2 (Option.some Jvm.ClassFile.FieldType.char) (rmm 0 0 0 0) [(vr p1), (vi 1)] (F) (fun v D' => (v = some (vi (x2 &&& (255 : Int32))) ∧ F = D')) := by
  refine Con.of (ls := #[rv p1, iv 1]) (by decide +kernel) rfl ?_
  show W Z EL _ "java/lang/StringLatin1" "getChar" _ _ _ _ _ _ _ _ _ _
  refine W.aloadN (pc := 0) d16_0 rfl rfl ?_
  refine W.iloadN (pc := 1) d16_1 rfl ?_
  refine W.baload (pc := 2) 1 d16_2 mp1 ix1 rfl ?_
  refine W.sipush (pc := 3) (255) d16_3 (by decide) ?_
  refine W.iand (pc := 6) d16_6 ?_
  refine W.i2cK (pc := 7) (x2 &&& (255 : Int32)) d16_7 (z_i2c (by have := q255; have := am_255 x2; omega)) ?_
  exact W.ireturn (pc := 8) d16_8 rfl (Or.inr (Or.inr (Or.inr (Or.inl rfl)))) (nw_char (by have := q255; have := am_255 x2; omega)) (by decide) ⟨rfl, rfl⟩
theorem c106_compareTo {Z a0} (hw : HW a0 Z) (hs : SF Z) {p1 p2 : Addr} {x1 : Int32} (hx1 : -128 ≤ x1.toInt ∧ x1.toInt ≤ 127) {x2 : Int32} (hx2 : -128 ≤ x2.toInt ∧ x2.toInt ≤ 127) {x3 : Int32} (hx3 : -128 ≤ x3.toInt ∧ x3.toInt ≤ 127) {x4 : Int32} (hx4 : -128 ≤ x4.toInt ∧ x4.toInt ≤ 127) {w_p1 : Bool} {ad_p1 : String} {w_p2 : Bool} {ad_p2 : String} {F : List Ent} (mp1 : (p1, w_p1, ar ad_p1 .byte [(vi x1), (vi x2)]) ∈ F) (mp2 : (p2, w_p2, ar ad_p2 .byte [(vi x3), (vi x4)]) ∈ F) : Con Z EL (⟨"java/lang/StringLatin1", "compareTo", "([B[BII)I"⟩ : MethodName) jdk_43_method_15_code 6 (Option.some Jvm.ClassFile.FieldType.int) (rmm 1 0 0 15) [(vr p1), (vr p2), (vi 2), (vi 2)] (F) (fun v D' => (Cd .eq x1 x3 ∧ Cd .eq x2 x4 ∧ v = some (vi 0) ∧ F = D') ∨ (Cd .eq x1 x3 ∧ ¬ Cd .eq x2 x4 ∧ v = some (vi ((x2 &&& (255 : Int32)) - (x4 &&& (255 : Int32)))) ∧ F = D') ∨ (¬ Cd .eq x1 x3 ∧ v = some (vi ((x1 &&& (255 : Int32)) - (x3 &&& (255 : Int32)))) ∧ F = D')) := by
  refine Con.of (ls := #[rv p1, rv p2, iv 2, iv 2, uu, uu]) (by decide +kernel) rfl ?_
  show W Z EL _ "java/lang/StringLatin1" "compareTo" _ _ _ _ _ _ _ _ _ _
  refine W.iloadN (pc := 0) d8_0 rfl ?_
  refine W.iloadN (pc := 1) d8_1 rfl ?_
  refine W.callS (pc := 2) (as := [(vi 2), (vi 2)]) 0 [] d8_2 (w48 hw) (w49 hw) (w50 hw) (w51 hw) (c55_min hw hs) (by decide) pd_II_I rfl rfl rfl rfl (by decide) (fun v D' h => ?_)
  obtain ⟨rfl, rfl⟩ := h
  show W _ _ _ _ _ _ _ _ _ _ _ _ 5 _ [(vi 2)]
  refine W.istore (pc := 5) (ls' := #[rv p1, rv p2, iv 2, iv 2, iv 2, uu]) d8_5 rfl ?_
  refine W.aloadN (pc := 7) d8_7 rfl rfl ?_
  refine W.aloadN (pc := 8) d8_8 rfl rfl ?_
  refine W.iload (pc := 9) d8_9 rfl ?_
  refine W.callS (pc := 11) (as := [(vr p1), (vr p2), (vi 2)]) 0 [] d8_11 (w52 hw) (w53 hw) (w54 hw) (w55 hw) (c107_mismatch hw hs (p1 := p1) (p2 := p2) (x1 := x1) (hx1 := hx1) (x2 := x2) (hx2 := hx2) (x3 := x3) (hx3 := hx3) (x4 := x4) (hx4 := hx4) (mp1 := mp1) (mp2 := mp2)) (by decide) pd__B_BI_I rfl rfl rfl rfl (by decide) (fun v D' h => ?_)
  rcases h with ⟨h1, h2, rfl, rfl⟩ | ⟨h3, h4, rfl, rfl⟩ | ⟨h5, rfl, rfl⟩
  ·
   have ih1 := t_eq h1
   have ih2 := t_eq h2
   show W _ _ _ _ _ _ _ _ _ _ _ _ 14 _ [(vi (-1))]
   refine W.istore (pc := 14) (ls' := #[rv p1, rv p2, iv 2, iv 2, iv 2, iv (-1)]) d8_14 rfl ?_
   refine W.iload (pc := 16) d8_16 rfl ?_
   refine W.ifN (pc := 18) d8_18 (n_ge (by decide)) ?_
   refine W.iloadN (pc := 21) d8_21 rfl ?_
   refine W.iloadN (pc := 22) d8_22 rfl ?_
   refine W.isubK (pc := 23) (0 : Int32) d8_23 (by decide) ?_
   refine W.goto (pc := 24) 40 d8_24 (by decide) ?_
   exact W.ireturn (pc := 40) d8_40 rfl (Or.inl rfl) rfl (by decide) (Or.inl ⟨h1, h2, rfl, rfl⟩)
  ·
   have ih3 := t_eq h3
   have ih4 := f_eq h4
   show W _ _ _ _ _ _ _ _ _ _ _ _ 14 _ [(vi 1)]
   refine W.istore (pc := 14) (ls' := #[rv p1, rv p2, iv 2, iv 2, iv 2, iv 1]) d8_14 rfl ?_
   refine W.iload (pc := 16) d8_16 rfl ?_
   refine W.ifY (pc := 18) 27 d8_18 (y_ge (by decide)) (by decide) ?_
   refine W.aloadN (pc := 27) d8_27 rfl rfl ?_
   refine W.iload (pc := 28) d8_28 rfl ?_
   refine W.callS (pc := 30) (as := [(vr p1), (vi 1)]) 0 [] d8_30 (w79 hw) (w80 hw) (w43 hw) (w81 hw) (c108_getChar hw hs (p1 := p1) (x1 := x1) (hx1 := hx1) (x2 := x2) (hx2 := hx2) (mp1 := mp1)) (by decide) pd__BI_C rfl rfl rfl rfl (by decide) (fun v D' h => ?_)
   obtain ⟨rfl, rfl⟩ := h
   show W _ _ _ _ _ _ _ _ _ _ _ _ 33 _ [(vi (x2 &&& (255 : Int32)))]
   refine W.aloadN (pc := 33) d8_33 rfl rfl ?_
   refine W.iload (pc := 34) d8_34 rfl ?_
   refine W.callS (pc := 36) (as := [(vr p2), (vi 1)]) 1 [(vi (x2 &&& (255 : Int32)))] d8_36 (w79 hw) (w80 hw) (w43 hw) (w81 hw) (c108_getChar hw hs (p1 := p2) (x1 := x3) (hx1 := hx3) (x2 := x4) (hx2 := hx4) (mp1 := mp2)) (by decide) pd__BI_C rfl rfl rfl rfl (by decide) (fun v D' h => ?_)
   obtain ⟨rfl, rfl⟩ := h
   show W _ _ _ _ _ _ _ _ _ _ _ _ 39 _ [(vi (x4 &&& (255 : Int32))), (vi (x2 &&& (255 : Int32)))]
   refine W.isub (pc := 39) d8_39 ?_
   exact W.ireturn (pc := 40) d8_40 rfl (Or.inl rfl) rfl (by decide) (Or.inr (Or.inl ⟨h3, h4, rfl, rfl⟩))
  ·
   have ih5 := f_eq h5
   show W _ _ _ _ _ _ _ _ _ _ _ _ 14 _ [(vi 0)]
   refine W.istore (pc := 14) (ls' := #[rv p1, rv p2, iv 2, iv 2, iv 2, iv 0]) d8_14 rfl ?_
   refine W.iload (pc := 16) d8_16 rfl ?_
   refine W.ifY (pc := 18) 27 d8_18 (y_ge (by decide)) (by decide) ?_
   refine W.aloadN (pc := 27) d8_27 rfl rfl ?_
   refine W.iload (pc := 28) d8_28 rfl ?_
   refine W.callS (pc := 30) (as := [(vr p1), (vi 0)]) 0 [] d8_30 (w79 hw) (w80 hw) (w43 hw) (w81 hw) (c86_getChar hw hs (p1 := p1) (x1 := x1) (hx1 := hx1) (x2 := x2) (hx2 := hx2) (mp1 := mp1)) (by decide) pd__BI_C rfl rfl rfl rfl (by decide) (fun v D' h => ?_)
   obtain ⟨rfl, rfl⟩ := h
   show W _ _ _ _ _ _ _ _ _ _ _ _ 33 _ [(vi (x1 &&& (255 : Int32)))]
   refine W.aloadN (pc := 33) d8_33 rfl rfl ?_
   refine W.iload (pc := 34) d8_34 rfl ?_
   refine W.callS (pc := 36) (as := [(vr p2), (vi 0)]) 1 [(vi (x1 &&& (255 : Int32)))] d8_36 (w79 hw) (w80 hw) (w43 hw) (w81 hw) (c86_getChar hw hs (p1 := p2) (x1 := x3) (hx1 := hx3) (x2 := x4) (hx2 := hx4) (mp1 := mp2)) (by decide) pd__BI_C rfl rfl rfl rfl (by decide) (fun v D' h => ?_)
   obtain ⟨rfl, rfl⟩ := h
   show W _ _ _ _ _ _ _ _ _ _ _ _ 39 _ [(vi (x3 &&& (255 : Int32))), (vi (x1 &&& (255 : Int32)))]
   refine W.isub (pc := 39) d8_39 ?_
   exact W.ireturn (pc := 40) d8_40 rfl (Or.inl rfl) rfl (by decide) (Or.inr (Or.inr ⟨h5, rfl, rfl⟩))
theorem c105_compareTo {Z a0} (hw : HW a0 Z) (hs : SF Z) {p1 p2 : Addr} {x1 : Int32} (hx1 : -128 ≤ x1.toInt ∧ x1.toInt ≤ 127) {x2 : Int32} (hx2 : -128 ≤ x2.toInt ∧ x2.toInt ≤ 127) {x3 : Int32} (hx3 : -128 ≤ x3.toInt ∧ x3.toInt ≤ 127) {x4 : Int32} (hx4 : -128 ≤ x4.toInt ∧ x4.toInt ≤ 127) {w_p1 : Bool} {ad_p1 : String} {w_p2 : Bool} {ad_p2 : String} {F : List Ent} (mp1 : (p1, w_p1, ar ad_p1 .byte [(vi x1), (vi x2)]) ∈ F) (mp2 : (p2, w_p2, ar ad_p2 .byte [(vi x3), (vi x4)]) ∈ F) : Con Z EL (⟨"java/lang/StringLatin1", "compareTo", "([B[B)I"⟩ : MethodName) jdk_43_method_14_code 4 (Option.some Jvm.ClassFile.FieldType.int) (rmm 2 0 0 32) [(vr p1), (vr p2)] (F) (fun v D' => (Cd .eq x1 x3 ∧ Cd .eq x2 x4 ∧ v = some (vi 0) ∧ F = D') ∨ (Cd .eq x1 x3 ∧ ¬ Cd .eq x2 x4 ∧ v = some (vi ((x2 &&& (255 : Int32)) - (x4 &&& (255 : Int32)))) ∧ F = D') ∨ (¬ Cd .eq x1 x3 ∧ v = some (vi ((x1 &&& (255 : Int32)) - (x3 &&& (255 : Int32)))) ∧ F = D')) := by
  refine Con.of (ls := #[rv p1, rv p2, uu, uu]) (by decide +kernel) rfl ?_
  show W Z EL _ "java/lang/StringLatin1" "compareTo" _ _ _ _ _ _ _ _ _ _
  refine W.aloadN (pc := 0) d7_0 rfl rfl ?_
  refine W.alen (pc := 1) (2) d7_1 mp1 rfl ?_
  refine W.istoreN (pc := 2) (ls' := #[rv p1, rv p2, iv 2, uu]) d7_2 rfl ?_
  refine W.aloadN (pc := 3) d7_3 rfl rfl ?_
  refine W.alen (pc := 4) (2) d7_4 mp2 rfl ?_
  refine W.istoreN (pc := 5) (ls' := #[rv p1, rv p2, iv 2, iv 2]) d7_5 rfl ?_
  refine W.aloadN (pc := 6) d7_6 rfl rfl ?_
  refine W.aloadN (pc := 7) d7_7 rfl rfl ?_
  refine W.iloadN (pc := 8) d7_8 rfl ?_
  refine W.iloadN (pc := 9) d7_9 rfl ?_
  refine W.callS (pc := 10) (as := [(vr p1), (vr p2), (vi 2), (vi 2)]) 0 [] d7_10 (w45 hw) (w46 hw) (w43 hw) (w47 hw) (c106_compareTo hw hs (p1 := p1) (p2 := p2) (x1 := x1) (hx1 := hx1) (x2 := x2) (hx2 := hx2) (x3 := x3) (hx3 := hx3) (x4 := x4) (hx4 := hx4) (mp1 := mp1) (mp2 := mp2)) (by decide) pd__B_BII_I rfl rfl rfl rfl (by decide) (fun v D' h => ?_)
  rcases h with ⟨h1, h2, rfl, rfl⟩ | ⟨h3, h4, rfl, rfl⟩ | ⟨h5, rfl, rfl⟩
  ·
   have ih1 := t_eq h1
   have ih2 := t_eq h2
   show W _ _ _ _ _ _ _ _ _ _ _ _ 13 _ [(vi 0)]
   exact W.ireturn (pc := 13) d7_13 rfl (Or.inl rfl) rfl (by decide) (Or.inl ⟨h1, h2, rfl, rfl⟩)
  ·
   have ih3 := t_eq h3
   have ih4 := f_eq h4
   show W _ _ _ _ _ _ _ _ _ _ _ _ 13 _ [(vi ((x2 &&& (255 : Int32)) - (x4 &&& (255 : Int32))))]
   exact W.ireturn (pc := 13) d7_13 rfl (Or.inl rfl) rfl (by decide) (Or.inr (Or.inl ⟨h3, h4, rfl, rfl⟩))
  ·
   have ih5 := f_eq h5
   show W _ _ _ _ _ _ _ _ _ _ _ _ 13 _ [(vi ((x1 &&& (255 : Int32)) - (x3 &&& (255 : Int32))))]
   exact W.ireturn (pc := 13) d7_13 rfl (Or.inl rfl) rfl (by decide) (Or.inr (Or.inr ⟨h5, rfl, rfl⟩))
theorem c104_compareTo {Z a0} (hw : HW a0 Z) (hs : SF Z) {p1 p2 p3 p4 : Addr} {x1 : Int32} (hx1 : -128 ≤ x1.toInt ∧ x1.toInt ≤ 127) {x2 : Int32} (hx2 : -128 ≤ x2.toInt ∧ x2.toInt ≤ 127) {x3 : Int32} (hx3 : -128 ≤ x3.toInt ∧ x3.toInt ≤ 127) {x4 : Int32} (hx4 : -128 ≤ x4.toInt ∧ x4.toInt ≤ 127) {w_p1 : Bool} {w_p2 : Bool} {w_p3 : Bool} {ad_p3 : String} {w_p4 : Bool} {ad_p4 : String} {F : List Ent} (mp1 : (p1, w_p1, oString (vr p3) (vi 0)) ∈ F) (mp2 : (p2, w_p2, oString (vr p4) (vi 0)) ∈ F) (mp3 : (p3, w_p3, ar ad_p3 .byte [(vi x1), (vi x2)]) ∈ F) (mp4 : (p4, w_p4, ar ad_p4 .byte [(vi x3), (vi x4)]) ∈ F) : Con Z EL (⟨"java/lang/String", "compareTo", "(Ljava/lang/String;)I"⟩ : MethodName) jdk_42_method_71_code 5 (Option.some Jvm.ClassFile.FieldType.int) (rmm 3 0 0 47) [(vr p1), (vr p2)] (F) (fun v D' => (Cd .eq x1 x3 ∧ Cd .eq x2 x4 ∧ v = some (vi 0) ∧ F = D') ∨ (Cd .eq x1 x3 ∧ ¬ Cd .eq x2 x4 ∧ v = some (vi ((x2 &&& (255 : Int32)) - (x4 &&& (255 : Int32)))) ∧ F = D') ∨ (¬ Cd .eq x1 x3 ∧ v = some (vi ((x1 &&& (255 : Int32)) - (x3 &&& (255 : Int32)))) ∧ F = D')) := by
  refine Con.of (ls := #[rv p1, rv p2, uu, uu, uu]) (by decide +kernel) rfl ?_
  show W Z EL _ "java/lang/String" "compareTo" _ _ _ _ _ _ _ _ _ _
  refine W.aloadN (pc := 0) d5_0 rfl rfl ?_
  refine W.getf (pc := 1) d5_1 (w20 hw) Via.refl mp1 m0 ?_
  refine W.astoreN (pc := 4) (ls' := #[rv p1, rv p2, rv p3, uu, uu]) d5_4 rfl rfl ?_
  refine W.aloadN (pc := 5) d5_5 rfl rfl ?_
  refine W.getf (pc := 6) d5_6 (w20 hw) Via.refl mp2 m0 ?_
  refine W.astoreN (pc := 9) (ls' := #[rv p1, rv p2, rv p3, rv p4, uu]) d5_9 rfl rfl ?_
  refine W.aloadN (pc := 10) d5_10 rfl rfl ?_
  refine W.callV (pc := 11) (as := []) 0 [] d5_11 (w35 hw) (w36 hw) (w38 hw) (w38 hw) (w37 hw) (w3 hw) (w39 hw) (Hp.exa mp1) (c52_coder hw hs (p1 := p1) (p2 := p3) (x1 := x1) (hx1 := hx1) (x2 := x2) (hx2 := hx2) (mp1 := mp1)) (by decide) pd__B rfl rfl rfl rfl (by decide) (fun v D' h => ?_)
  obtain ⟨rfl, rfl⟩ := h
  show W _ _ _ _ _ _ _ _ _ _ _ _ 14 _ [(vi 0)]
  refine W.istore (pc := 14) (ls' := #[rv p1, rv p2, rv p3, rv p4, iv 0]) d5_14 rfl ?_
  refine W.iload (pc := 16) d5_16 rfl ?_
  refine W.aloadN (pc := 18) d5_18 rfl rfl ?_
  refine W.callV (pc := 19) (as := []) 1 [(vi 0)] d5_19 (w35 hw) (w36 hw) (w38 hw) (w38 hw) (w37 hw) (w3 hw) (w39 hw) (Hp.exa mp2) (c52_coder hw hs (p1 := p2) (p2 := p4) (x1 := x3) (hx1 := hx3) (x2 := x4) (hx2 := hx4) (mp1 := mp2)) (by decide) pd__B rfl rfl rfl rfl (by decide) (fun v D' h => ?_)
  obtain ⟨rfl, rfl⟩ := h
  show W _ _ _ _ _ _ _ _ _ _ _ _ 22 _ [(vi 0), (vi 0)]
  refine W.icmpN (pc := 22) d5_22 (n_ne (by decide)) ?_
  refine W.iload (pc := 25) d5_25 rfl ?_
  refine W.ifN (pc := 27) d5_27 (n_ne (by decide)) ?_
  refine W.aloadN (pc := 30) d5_30 rfl rfl ?_
  refine W.aloadN (pc := 31) d5_31 rfl rfl ?_
  refine W.callS (pc := 32) (as := [(vr p3), (vr p4)]) 0 [] d5_32 (w41 hw) (w42 hw) (w43 hw) (w44 hw) (c105_compareTo hw hs (p1 := p3) (p2 := p4) (x1 := x1) (hx1 := hx1) (x2 := x2) (hx2 := hx2) (x3 := x3) (hx3 := hx3) (x4 := x4) (hx4 := hx4) (mp1 := mp3) (mp2 := mp4)) (by decide) pd__B_B_I rfl rfl rfl rfl (by decide) (fun v D' h => ?_)
  rcases h with ⟨h1, h2, rfl, rfl⟩ | ⟨h3, h4, rfl, rfl⟩ | ⟨h5, rfl, rfl⟩
  ·
   have ih1 := t_eq h1
   have ih2 := t_eq h2
   show W _ _ _ _ _ _ _ _ _ _ _ _ 35 _ [(vi 0)]
   refine W.goto (pc := 35) 43 d5_35 (by decide) ?_
   exact W.ireturn (pc := 43) d5_43 rfl (Or.inl rfl) rfl (by decide) (Or.inl ⟨h1, h2, rfl, rfl⟩)
  ·
   have ih3 := t_eq h3
   have ih4 := f_eq h4
   show W _ _ _ _ _ _ _ _ _ _ _ _ 35 _ [(vi ((x2 &&& (255 : Int32)) - (x4 &&& (255 : Int32))))]
   refine W.goto (pc := 35) 43 d5_35 (by decide) ?_
   exact W.ireturn (pc := 43) d5_43 rfl (Or.inl rfl) rfl (by decide) (Or.inr (Or.inl ⟨h3, h4, rfl, rfl⟩))
  ·
   have ih5 := f_eq h5
   show W _ _ _ _ _ _ _ _ _ _ _ _ 35 _ [(vi ((x1 &&& (255 : Int32)) - (x3 &&& (255 : Int32))))]
   refine W.goto (pc := 35) 43 d5_35 (by decide) ?_
   exact W.ireturn (pc := 43) d5_43 rfl (Or.inl rfl) rfl (by decide) (Or.inr (Or.inr ⟨h5, rfl, rfl⟩))
theorem c103_startsAfter {Z a0} (hw : HW a0 Z) (hs : SF Z) {p1 p2 p3 p4 p5 : Addr} {x1 : Int32} (hx1 : -128 ≤ x1.toInt ∧ x1.toInt ≤ 127) {x2 : Int32} (hx2 : -128 ≤ x2.toInt ∧ x2.toInt ≤ 127) {x3 : Int32} (hx3 : -128 ≤ x3.toInt ∧ x3.toInt ≤ 127) {x4 : Int32} (hx4 : -128 ≤ x4.toInt ∧ x4.toInt ≤ 127) {u1 : Value} (hu1 : u1.isRef = true) {w_p1 : Bool} {w_p2 : Bool} {w_p3 : Bool} {w_p4 : Bool} {ad_p4 : String} {w_p5 : Bool} {ad_p5 : String} {F : List Ent} (mp1 : (p1, w_p1, oTimeRange u1 (vr p3)) ∈ F) (mp2 : (p2, w_p2, oString (vr p4) (vi 0)) ∈ F) (mp3 : (p3, w_p3, oString (vr p5) (vi 0)) ∈ F) (mp4 : (p4, w_p4, ar ad_p4 .byte [(vi x1), (vi x2)]) ∈ F) (mp5 : (p5, w_p5, ar ad_p5 .byte [(vi x3), (vi x4)]) ∈ F) : Con Z EL (⟨"com/example/chainvouch/chainvouch/chain/TimeRange", "startsAfter", "(Ljava/lang/String;)Z"⟩ : MethodName) prog_15_method_3_code 2 (Option.some Jvm.ClassFile.FieldType.boolean) (rmm 4 0 0 63) [(vr p1), (vr p2)] (F) (fun v D' => (Cd .eq x1 x3 ∧ Cd .eq x2 x4 ∧ v = some (vi 1) ∧ F = D') ∨ (Cd .eq x1 x3 ∧ ¬ Cd .eq x2 x4 ∧ Cd .lt ((x2 &&& (255 : Int32)) - (x4 &&& (255 : Int32))) (0 : Int32) ∧ v = some (vi 0) ∧ F = D') ∨ (Cd .eq x1 x3 ∧ ¬ Cd .eq x2 x4 ∧ ¬ Cd .lt ((x2 &&& (255 : Int32)) - (x4 &&& (255 : Int32))) (0 : Int32) ∧ v = some (vi 1) ∧ F = D') ∨ (¬ Cd .eq x1 x3 ∧ Cd .lt ((x1 &&& (255 : Int32)) - (x3 &&& (255 : Int32))) (0 : Int32) ∧ v = some (vi 0) ∧ F = D') ∨ (¬ Cd .eq x1 x3 ∧ ¬ Cd .lt ((x1 &&& (255 : Int32)) - (x3 &&& (255 : Int32))) (0 : Int32) ∧ v = some (vi 1) ∧ F = D')) := by
  refine Con.of (ls := #[rv p1, rv p2]) (by decide +kernel) rfl ?_
  show W Z EL _ "com/example/chainvouch/chainvouch/chain/TimeRange" "startsAfter" _ _ _ _ _ _ _ _ _ _
  refine W.aloadN (pc := 0) d11_0 rfl rfl ?_
  refine W.getf (pc := 1) d11_1 (w58 hw) Via.refl mp1 m1 ?_
  refine W.ifnullN (pc := 4) d11_4 ?_
  refine W.aloadN (pc := 7) d11_7 rfl rfl ?_
  refine W.aloadN (pc := 8) d11_8 rfl rfl ?_
  refine W.getf (pc := 9) d11_9 (w58 hw) Via.refl mp1 m1 ?_
  refine W.callV (pc := 12) (as := [(vr p3)]) 0 [] d11_12 (w30 hw) (w31 hw) (w33 hw) (w33 hw) (w32 hw) (w3 hw) (w34 hw) (Hp.exa mp2) (c104_compareTo hw hs (p1 := p2) (p2 := p3) (p3 := p4) (p4 := p5) (x1 := x1) (hx1 := hx1) (x2 := x2) (hx2 := hx2) (x3 := x3) (hx3 := hx3) (x4 := x4) (hx4 := hx4) (mp1 := mp2) (mp2 := mp3) (mp3 := mp4) (mp4 := mp5)) (by decide) pd_Ljava_lang_String__I rfl rfl rfl rfl (by decide) (fun v D' h => ?_)
  rcases h with ⟨h1, h2, rfl, rfl⟩ | ⟨h3, h4, rfl, rfl⟩ | ⟨h5, rfl, rfl⟩
  ·
   have ih1 := t_eq h1
   have ih2 := t_eq h2
   show W _ _ _ _ _ _ _ _ _ _ _ _ 15 _ [(vi 0)]
   refine W.ifN (pc := 15) d11_15 (n_lt (by decide)) ?_
   refine W.iconst (pc := 18) (1) d11_18 (by decide) ?_
   refine W.goto (pc := 19) 23 d11_19 (by decide) ?_
   exact W.ireturn (pc := 23) d11_23 rfl (Or.inr (Or.inl rfl)) (nw_bool (by decide)) (by decide) (Or.inl ⟨h1, h2, rfl, rfl⟩)
  ·
   have ih3 := t_eq h3
   have ih4 := f_eq h4
   show W _ _ _ _ _ _ _ _ _ _ _ _ 15 _ [(vi ((x2 &&& (255 : Int32)) - (x4 &&& (255 : Int32))))]
   refine W.if (pc := 15) 22 d11_15 (by decide) (fun h6 => ?_) (fun h6 => ?_)
   ·
    have ih6 := t_lt h6
    refine W.iconst (pc := 22) (0) d11_22 (by decide) ?_
    exact W.ireturn (pc := 23) d11_23 rfl (Or.inr (Or.inl rfl)) (nw_bool (by decide)) (by decide) (Or.inr (Or.inl ⟨h3, h4, h6, rfl, rfl⟩))
   ·
    have ih6 := f_lt h6
    refine W.iconst (pc := 18) (1) d11_18 (by decide) ?_
    refine W.goto (pc := 19) 23 d11_19 (by decide) ?_
    exact W.ireturn (pc := 23) d11_23 rfl (Or.inr (Or.inl rfl)) (nw_bool (by decide)) (by decide) (Or.inr (Or.inr (Or.inl ⟨h3, h4, h6, rfl, rfl⟩)))
  ·
   have ih5 := f_eq h5
   show W _ _ _ _ _ _ _ _ _ _ _ _ 15 _ [(vi ((x1 &&& (255 : Int32)) - (x3 &&& (255 : Int32))))]
   refine W.if (pc := 15) 22 d11_15 (by decide) (fun h7 => ?_) (fun h7 => ?_)
   ·
    have ih7 := t_lt h7
    refine W.iconst (pc := 22) (0) d11_22 (by decide) ?_
    exact W.ireturn (pc := 23) d11_23 rfl (Or.inr (Or.inl rfl)) (nw_bool (by decide)) (by decide) (Or.inr (Or.inr (Or.inr (Or.inl ⟨h5, h7, rfl, rfl⟩))))
   ·
    have ih7 := f_lt h7
    refine W.iconst (pc := 18) (1) d11_18 (by decide) ?_
    refine W.goto (pc := 19) 23 d11_19 (by decide) ?_
    exact W.ireturn (pc := 23) d11_23 rfl (Or.inr (Or.inl rfl)) (nw_bool (by decide)) (by decide) (Or.inr (Or.inr (Or.inr (Or.inr ⟨h5, h7, rfl, rfl⟩))))
theorem d12_58 : decode method_3_code 58 = .ok (.iload_n 2, 1) := by decide +kernel
theorem d12_59 : decode method_3_code 59 = .ok (.iload 5, 2) := by decide +kernel
theorem d12_61 : decode method_3_code 61 = .ok (.if_icmp .lt 7, 3) := by decide +kernel
theorem d12_68 : decode method_3_code 68 = .ok (.iconst 0, 1) := by decide +kernel
theorem d12_69 : decode method_3_code 69 = .ok (.ireturn, 1) := by decide +kernel
theorem d12_64 : decode method_3_code 64 = .ok (.iconst 1, 1) := by decide +kernel
theorem d12_65 : decode method_3_code 65 = .ok (.goto 4, 3) := by decide +kernel
theorem c109_geq {Z a0} (hw : HW a0 Z) (hs : SF Z) {x1 : Int32} (hx1 : 0 ≤ x1.toInt ∧ x1.toInt ≤ 255) {x2 : Int32} (hx2 : 0 ≤ x2.toInt ∧ x2.toInt ≤ 255) {x3 : Int32} (hx3 : 0 ≤ x3.toInt ∧ x3.toInt ≤ 255) {x4 : Int32} (hx4 : 0 ≤ x4.toInt ∧ x4.toInt ≤ 255) {F : List Ent} : Con Z EL (⟨"com/example/chainvouch/chainvouch/chain/TimeRangeStartsAfterPinLaw", "geq", "(IIIIII)Z"⟩ : MethodName) method_3_code 6 (Option.some Jvm.ClassFile.FieldType.boolean) (rmm 0 0 0 0) [(vi 2), (vi x1), (vi x2), (vi 2), (vi x3), (vi x4)] (F) (fun v D' => (Cd .eq x1 x3 ∧ Cd .lt x2 x4 ∧ v = some (vi 0) ∧ F = D') ∨ (Cd .eq x1 x3 ∧ ¬ Cd .lt x2 x4 ∧ v = some (vi 1) ∧ F = D') ∨ (¬ Cd .eq x1 x3 ∧ Cd .le x1 x3 ∧ v = some (vi 0) ∧ F = D') ∨ (¬ Cd .eq x1 x3 ∧ ¬ Cd .le x1 x3 ∧ v = some (vi 1) ∧ F = D')) := by
  refine Con.of (ls := #[iv 2, iv x1, iv x2, iv 2, iv x3, iv x4]) (by decide +kernel) rfl ?_
  show W Z EL _ "com/example/chainvouch/chainvouch/chain/TimeRangeStartsAfterPinLaw" "geq" _ _ _ _ _ _ _ _ _ _
  refine W.iloadN (pc := 0) d12_0 rfl ?_
  refine W.ifN (pc := 1) d12_1 (n_eq (by decide)) ?_
  refine W.iloadN (pc := 4) d12_4 rfl ?_
  refine W.ifY (pc := 5) 19 d12_5 (y_ne (by decide)) (by decide) ?_
  refine W.iloadN (pc := 19) d12_19 rfl ?_
  refine W.iload (pc := 20) d12_20 rfl ?_
  refine W.icmp (pc := 22) 37 d12_22 (by decide) (fun h1 => ?_) (fun h1 => ?_)
  ·
   have ih1 := t_eq h1
   refine W.iloadN (pc := 37) d12_37 rfl ?_
   refine W.iconst (pc := 38) (1) d12_38 (by decide) ?_
   refine W.icmpN (pc := 39) d12_39 (n_eq (by decide)) ?_
   refine W.iloadN (pc := 42) d12_42 rfl ?_
   refine W.iconst (pc := 43) (1) d12_43 (by decide) ?_
   refine W.icmpY (pc := 44) 58 d12_44 (y_ne (by decide)) (by decide) ?_
   refine W.iloadN (pc := 58) d12_58 rfl ?_
   refine W.iload (pc := 59) d12_59 rfl ?_
   refine W.icmp (pc := 61) 68 d12_61 (by decide) (fun h2 => ?_) (fun h2 => ?_)
   ·
    have ih2 := t_lt h2
    refine W.iconst (pc := 68) (0) d12_68 (by decide) ?_
    exact W.ireturn (pc := 69) d12_69 rfl (Or.inr (Or.inl rfl)) (nw_bool (by decide)) (by decide) (Or.inl ⟨h1, h2, rfl, rfl⟩)
   ·
    have ih2 := f_lt h2
    refine W.iconst (pc := 64) (1) d12_64 (by decide) ?_
    refine W.goto (pc := 65) 69 d12_65 (by decide) ?_
    exact W.ireturn (pc := 69) d12_69 rfl (Or.inr (Or.inl rfl)) (nw_bool (by decide)) (by decide) (Or.inr (Or.inl ⟨h1, h2, rfl, rfl⟩))
  ·
   have ih1 := f_eq h1
   refine W.iloadN (pc := 25) d12_25 rfl ?_
   refine W.iload (pc := 26) d12_26 rfl ?_
   refine W.icmp (pc := 28) 35 d12_28 (by decide) (fun h3 => ?_) (fun h3 => ?_)
   ·
    have ih3 := t_le h3
    refine W.iconst (pc := 35) (0) d12_35 (by decide) ?_
    exact W.ireturn (pc := 36) d12_36 rfl (Or.inr (Or.inl rfl)) (nw_bool (by decide)) (by decide) (Or.inr (Or.inr (Or.inl ⟨h1, h3, rfl, rfl⟩)))
   ·
    have ih3 := f_le h3
    refine W.iconst (pc := 31) (1) d12_31 (by decide) ?_
    refine W.goto (pc := 32) 36 d12_32 (by decide) ?_
    exact W.ireturn (pc := 36) d12_36 rfl (Or.inr (Or.inl rfl)) (nw_bool (by decide)) (by decide) (Or.inr (Or.inr (Or.inr ⟨h1, h3, rfl, rfl⟩)))
set_option maxHeartbeats 4000000 in
theorem lawW {Z a0} (hw : HW a0 Z) (hs : SF Z) (z0 : Int32) (z1 : Int32) (z2 : Int32) : Con Z EL x code maxLocals ret room_1 [(vi z0), (vi z1), (vi z2)] ([]) (fun v _ => v = some (.int 1)) := by
  refine Con.of (ls := #[iv z0, iv z1, iv z2, uu, uu, uu, uu, uu, uu, uu, uu, uu, uu, uu, uu, uu, uu, uu, uu]) (by decide +kernel) rfl ?_
  show W Z EL _ "com/example/chainvouch/chainvouch/chain/TimeRangeStartsAfterPinLaw" "law" _ _ _ _ _ _ _ _ _ _
  refine W.iloadN (pc := 0) at_0 rfl ?_
  refine W.bipush (pc := 1) (16) at_1 (by decide) ?_
  refine W.iushr (pc := 3) at_3 ?_
  refine W.iconst (pc := 4) (3) at_4 (by decide) ?_
  refine W.irem (pc := 5) at_5 (by decide) ?_
  refine W.istoreN (pc := 6) (ls' := #[iv z0, iv z1, iv z2, iv ((XT.ushr z0 (16 : Int32)) % (3 : Int32)), uu, uu, uu, uu, uu, uu, uu, uu, uu, uu, uu, uu, uu, uu, uu]) at_6 rfl ?_
  refine W.iloadN (pc := 7) at_7 rfl ?_
  refine W.sipush (pc := 8) (255) at_8 (by decide) ?_
  refine W.iand (pc := 11) at_11 ?_
  refine W.istore (pc := 12) (ls' := #[iv z0, iv z1, iv z2, iv ((XT.ushr z0 (16 : Int32)) % (3 : Int32)), iv (z0 &&& (255 : Int32)), uu, uu, uu, uu, uu, uu, uu, uu, uu, uu, uu, uu, uu, uu]) at_12 rfl ?_
  refine W.iloadN (pc := 14) at_14 rfl ?_
  refine W.bipush (pc := 15) (8) at_15 (by decide) ?_
  refine W.iushr (pc := 17) at_17 ?_
  refine W.sipush (pc := 18) (255) at_18 (by decide) ?_
  refine W.iand (pc := 21) at_21 ?_
  refine W.istore (pc := 22) (ls' := #[iv z0, iv z1, iv z2, iv ((XT.ushr z0 (16 : Int32)) % (3 : Int32)), iv (z0 &&& (255 : Int32)), iv ((XT.ushr z0 (8 : Int32)) &&& (255 : Int32)), uu, uu, uu, uu, uu, uu, uu, uu, uu, uu, uu, uu, uu]) at_22 rfl ?_
  refine W.iloadN (pc := 24) at_24 rfl ?_
  refine W.bipush (pc := 25) (16) at_25 (by decide) ?_
  refine W.iushr (pc := 27) at_27 ?_
  refine W.iconst (pc := 28) (3) at_28 (by decide) ?_
  refine W.irem (pc := 29) at_29 (by decide) ?_
  refine W.istore (pc := 30) (ls' := #[iv z0, iv z1, iv z2, iv ((XT.ushr z0 (16 : Int32)) % (3 : Int32)), iv (z0 &&& (255 : Int32)), iv ((XT.ushr z0 (8 : Int32)) &&& (255 : Int32)), iv ((XT.ushr z1 (16 : Int32)) % (3 : Int32)), uu, uu, uu, uu, uu, uu, uu, uu, uu, uu, uu, uu]) at_30 rfl ?_
  refine W.iloadN (pc := 32) at_32 rfl ?_
  refine W.sipush (pc := 33) (255) at_33 (by decide) ?_
  refine W.iand (pc := 36) at_36 ?_
  refine W.istore (pc := 37) (ls' := #[iv z0, iv z1, iv z2, iv ((XT.ushr z0 (16 : Int32)) % (3 : Int32)), iv (z0 &&& (255 : Int32)), iv ((XT.ushr z0 (8 : Int32)) &&& (255 : Int32)), iv ((XT.ushr z1 (16 : Int32)) % (3 : Int32)), iv (z1 &&& (255 : Int32)), uu, uu, uu, uu, uu, uu, uu, uu, uu, uu, uu]) at_37 rfl ?_
  refine W.iloadN (pc := 39) at_39 rfl ?_
  refine W.bipush (pc := 40) (8) at_40 (by decide) ?_
  refine W.iushr (pc := 42) at_42 ?_
  refine W.sipush (pc := 43) (255) at_43 (by decide) ?_
  refine W.iand (pc := 46) at_46 ?_
  refine W.istore (pc := 47) (ls' := #[iv z0, iv z1, iv z2, iv ((XT.ushr z0 (16 : Int32)) % (3 : Int32)), iv (z0 &&& (255 : Int32)), iv ((XT.ushr z0 (8 : Int32)) &&& (255 : Int32)), iv ((XT.ushr z1 (16 : Int32)) % (3 : Int32)), iv (z1 &&& (255 : Int32)), iv ((XT.ushr z1 (8 : Int32)) &&& (255 : Int32)), uu, uu, uu, uu, uu, uu, uu, uu, uu, uu]) at_47 rfl ?_
  refine W.iloadN (pc := 49) at_49 rfl ?_
  have e1 : ((XT.ushr z0 (16 : Int32)) % (3 : Int32)) = (0 : Int32) ∨ ((XT.ushr z0 (16 : Int32)) % (3 : Int32)) = (1 : Int32) ∨ ((XT.ushr z0 (16 : Int32)) % (3 : Int32)) = (2 : Int32) := by
   rcases (by have := rng32 z0; have := q16; have := aushr_16 z0; have := q3; have := arem_3 (XT.ushr z0 (16 : Int32)); have := q0; have := q1; have := q2; omega : ((XT.ushr z0 (16 : Int32)) % (3 : Int32)).toInt = 0 ∨ ((XT.ushr z0 (16 : Int32)) % (3 : Int32)).toInt = 1 ∨ ((XT.ushr z0 (16 : Int32)) % (3 : Int32)).toInt = 2) with z | z | z
   · exact (Or.inl (eqI z))
   · exact (Or.inr (Or.inl (eqI z)))
   · exact (Or.inr (Or.inr (eqI z)))
  rcases e1 with e1 | e1 | e1
  ·
   have ie1 := i_eq e1
   rw [e1]
   show W _ _ _ _ _ _ _ _ _ ([]) _ _ 50 #[iv z0, iv z1, iv z2, iv 0, iv (z0 &&& (255 : Int32)), iv ((XT.ushr z0 (8 : Int32)) &&& (255 : Int32)), iv ((XT.ushr z1 (16 : Int32)) % (3 : Int32)), iv (z1 &&& (255 : Int32)), iv ((XT.ushr z1 (8 : Int32)) &&& (255 : Int32)), uu, uu, uu, uu, uu, uu, uu, uu, uu, uu] [(vi 0)]
   refine W.newarr (pc := 50) 0 (ad := "[C") (ty := .char) at_50 rfl (w0 hw) ix0 rfl (by decide) (by decide) (fun a1 => ?_)
   show W _ _ _ _ _ _ _ _ _ _ _ _ 52 _ [(vr a1)]
   refine W.astore (pc := 52) (ls' := #[iv z0, iv z1, iv z2, iv 0, iv (z0 &&& (255 : Int32)), iv ((XT.ushr z0 (8 : Int32)) &&& (255 : Int32)), iv ((XT.ushr z1 (16 : Int32)) % (3 : Int32)), iv (z1 &&& (255 : Int32)), iv ((XT.ushr z1 (8 : Int32)) &&& (255 : Int32)), rv a1, uu, uu, uu, uu, uu, uu, uu, uu, uu]) at_52 rfl rfl ?_
   refine W.iloadN (pc := 54) at_54 rfl ?_
   refine W.iconst (pc := 55) (1) at_55 (by decide) ?_
   refine W.icmpY (pc := 56) 66 at_56 (y_lt (by decide)) (by decide) ?_
   refine W.iloadN (pc := 66) at_66 rfl ?_
   refine W.iconst (pc := 67) (2) at_67 (by decide) ?_
   refine W.icmpY (pc := 68) 78 at_68 (y_lt (by decide)) (by decide) ?_
   refine W.iload (pc := 78) at_78 rfl ?_
   have e2 : ((XT.ushr z1 (16 : Int32)) % (3 : Int32)) = (0 : Int32) ∨ ((XT.ushr z1 (16 : Int32)) % (3 : Int32)) = (1 : Int32) ∨ ((XT.ushr z1 (16 : Int32)) % (3 : Int32)) = (2 : Int32) := by
    rcases (by have := rng32 z1; have := q16; have := aushr_16 z1; have := q3; have := arem_3 (XT.ushr z1 (16 : Int32)); have := q0; have := q1; have := q2; omega : ((XT.ushr z1 (16 : Int32)) % (3 : Int32)).toInt = 0 ∨ ((XT.ushr z1 (16 : Int32)) % (3 : Int32)).toInt = 1 ∨ ((XT.ushr z1 (16 : Int32)) % (3 : Int32)).toInt = 2) with z | z | z
    · exact (Or.inl (eqI z))
    · exact (Or.inr (Or.inl (eqI z)))
    · exact (Or.inr (Or.inr (eqI z)))
   rcases e2 with e2 | e2 | e2
   ·
    have ie2 := i_eq e2
    rw [e2]
    show W _ _ _ _ _ _ _ _ _ ((a1, true, ar "[C" .char []) :: []) _ _ 80 #[iv z0, iv z1, iv z2, iv 0, iv (z0 &&& (255 : Int32)), iv ((XT.ushr z0 (8 : Int32)) &&& (255 : Int32)), iv 0, iv (z1 &&& (255 : Int32)), iv ((XT.ushr z1 (8 : Int32)) &&& (255 : Int32)), rv a1, uu, uu, uu, uu, uu, uu, uu, uu, uu] [(vi 0)]
    refine W.newarr (pc := 80) 0 (ad := "[C") (ty := .char) at_80 rfl (w0 hw) ix0 rfl (by decide) (by decide) (fun a2 => ?_)
    show W _ _ _ _ _ _ _ _ _ _ _ _ 82 _ [(vr a2)]
    refine W.astore (pc := 82) (ls' := #[iv z0, iv z1, iv z2, iv 0, iv (z0 &&& (255 : Int32)), iv ((XT.ushr z0 (8 : Int32)) &&& (255 : Int32)), iv 0, iv (z1 &&& (255 : Int32)), iv ((XT.ushr z1 (8 : Int32)) &&& (255 : Int32)), rv a1, rv a2, uu, uu, uu, uu, uu, uu, uu, uu]) at_82 rfl rfl ?_
    refine W.iload (pc := 84) at_84 rfl ?_
    refine W.iconst (pc := 86) (1) at_86 (by decide) ?_
    refine W.icmpY (pc := 87) 97 at_87 (y_lt (by decide)) (by decide) ?_
    refine W.iload (pc := 97) at_97 rfl ?_
    refine W.iconst (pc := 99) (2) at_99 (by decide) ?_
    refine W.icmpY (pc := 100) 110 at_100 (y_lt (by decide)) (by decide) ?_
    refine W.new (pc := 110) at_110 (w1 hw) (w2 hw) (w3 hw) (laString hw) (by decide) (by decide) (fun a3 => ?_)
    show W _ _ _ _ _ _ _ _ _ _ _ _ 113 _ [(vr a3)]
    refine W.dup (pc := 113) at_113 rfl ?_
    refine W.aload (pc := 114) 9 at_114 rfl rfl ?_
    refine W.callI (pc := 116) (as := [(vr a1)]) 1 [(vr a3)] at_116 rfl (w4 hw) (w5 hw) (w3 hw) (w6 hw) (c1_init hw hs (p1 := a3) (p2 := a1) (mp2 := m1)) (by decide) pd__C_V rfl rfl rfl rfl (by decide) (fun v D' h => ?_)
    obtain ⟨a4, rfl, rfl⟩ := h
    show W _ _ _ _ _ _ _ _ _ _ _ _ 119 _ [(vr a3)]
    refine W.astore (pc := 119) (ls' := #[iv z0, iv z1, iv z2, iv 0, iv (z0 &&& (255 : Int32)), iv ((XT.ushr z0 (8 : Int32)) &&& (255 : Int32)), iv 0, iv (z1 &&& (255 : Int32)), iv ((XT.ushr z1 (8 : Int32)) &&& (255 : Int32)), rv a1, rv a2, rv a3, uu, uu, uu, uu, uu, uu, uu]) at_119 rfl rfl ?_
    refine W.iloadN (pc := 121) at_121 rfl ?_
    refine W.iconst (pc := 122) (1) at_122 (by decide) ?_
    refine W.iand (pc := 123) at_123 ?_
    refine W.if (pc := 124) 131 at_124 (by decide) (fun h3 => ?_) (fun h3 => ?_)
    ·
     have ih3 := t_eq h3
     refine W.iconst (pc := 131) (0) at_131 (by decide) ?_
     refine W.istore (pc := 132) (ls' := #[iv z0, iv z1, iv z2, iv 0, iv (z0 &&& (255 : Int32)), iv ((XT.ushr z0 (8 : Int32)) &&& (255 : Int32)), iv 0, iv (z1 &&& (255 : Int32)), iv ((XT.ushr z1 (8 : Int32)) &&& (255 : Int32)), rv a1, rv a2, rv a3, iv 0, uu, uu, uu, uu, uu, uu]) at_132 rfl ?_
     refine W.iloadN (pc := 134) at_134 rfl ?_
     refine W.iconst (pc := 135) (1) at_135 (by decide) ?_
     refine W.iushr (pc := 136) at_136 ?_
     refine W.iconst (pc := 137) (3) at_137 (by decide) ?_
     refine W.iand (pc := 138) at_138 ?_
     refine W.istore (pc := 139) (ls' := #[iv z0, iv z1, iv z2, iv 0, iv (z0 &&& (255 : Int32)), iv ((XT.ushr z0 (8 : Int32)) &&& (255 : Int32)), iv 0, iv (z1 &&& (255 : Int32)), iv ((XT.ushr z1 (8 : Int32)) &&& (255 : Int32)), rv a1, rv a2, rv a3, iv 0, iv ((XT.ushr z2 (1 : Int32)) &&& (3 : Int32)), uu, uu, uu, uu, uu]) at_139 rfl ?_
     refine W.iload (pc := 141) at_141 rfl ?_
     refine W.ifY (pc := 143) 150 at_143 (y_eq (by decide)) (by decide) ?_
     refine W.new (pc := 150) at_150 (w1 hw) (w2 hw) (w3 hw) (laString hw) (by decide) (by decide) (fun a5 => ?_)
     show W _ _ _ _ _ _ _ _ _ _ _ _ 153 _ [(vr a5)]
     refine W.dup (pc := 153) at_153 rfl ?_
     refine W.aload (pc := 154) 10 at_154 rfl rfl ?_
     refine W.callI (pc := 156) (as := [(vr a2)]) 1 [(vr a5)] at_156 rfl (w4 hw) (w5 hw) (w3 hw) (w6 hw) (c1_init hw hs (p1 := a5) (p2 := a2) (mp2 := m2)) (by decide) pd__C_V rfl rfl rfl rfl (by decide) (fun v D' h => ?_)
     obtain ⟨a6, rfl, rfl⟩ := h
     show W _ _ _ _ _ _ _ _ _ _ _ _ 159 _ [(vr a5)]
     refine W.astore (pc := 159) (ls' := #[iv z0, iv z1, iv z2, iv 0, iv (z0 &&& (255 : Int32)), iv ((XT.ushr z0 (8 : Int32)) &&& (255 : Int32)), iv 0, iv (z1 &&& (255 : Int32)), iv ((XT.ushr z1 (8 : Int32)) &&& (255 : Int32)), rv a1, rv a2, rv a3, iv 0, iv ((XT.ushr z2 (1 : Int32)) &&& (3 : Int32)), rv a5, uu, uu, uu, uu]) at_159 rfl rfl ?_
     have K11 : ∀ (t8 : Slot) (a9 : Addr) (u10 : Value), SlOk t8 → u10.isRef = true → W Z EL room_1 "com/example/chainvouch/chainvouch/chain/TimeRangeStartsAfterPinLaw" "law" code maxLocals ret (fun v _ => v = some (.int 1)) ((a6, false, ar "" .byte []) :: (a5, true, oString (vr a6) (vi 0)) :: (a4, false, ar "" .byte []) :: (a3, true, oString (vr a4) (vi 0)) :: (a2, true, ar "[C" .char []) :: (a1, true, ar "[C" .char []) :: (a9, true, oTimeRange u10 (vr a5)) :: []) 15 30 197 #[iv z0, iv z1, iv z2, iv 0, iv (z0 &&& (255 : Int32)), iv ((XT.ushr z0 (8 : Int32)) &&& (255 : Int32)), iv 0, iv (z1 &&& (255 : Int32)), iv ((XT.ushr z1 (8 : Int32)) &&& (255 : Int32)), rv a1, rv a2, rv a3, iv 0, iv ((XT.ushr z2 (1 : Int32)) &&& (3 : Int32)), rv a5, t8, rv a9, uu, uu] [] := by
      intro t8 a9 u10 ht8 hu10
      refine W.aload (pc := 197) 16 at_197 rfl rfl ?_
      refine W.aload (pc := 199) 11 at_199 rfl rfl ?_
      refine W.callV (pc := 201) (as := [(vr a3)]) 0 [] at_201 (w60 hw) (w61 hw) (w63 hw) (w63 hw) (w62 hw) (w25 hw) (w64 hw) (Hp.exa m6) (c18_startsAfter hw hs (p1 := a9) (p2 := a3) (p3 := a5) (p4 := a4) (p5 := a6) (u1 := u10) (hu1 := hu10) (mp1 := m6) (mp2 := m3) (mp3 := m1) (mp4 := m2) (mp5 := m0)) (by decide) pd_Ljava_lang_String__Z rfl rfl rfl rfl (by decide) (fun v D' h => ?_)
      obtain ⟨rfl, rfl⟩ := h
      show W _ _ _ _ _ _ _ _ _ _ _ _ 204 _ [(vi 1)]
      refine W.istore (pc := 204) (ls' := #[iv z0, iv z1, iv z2, iv 0, iv (z0 &&& (255 : Int32)), iv ((XT.ushr z0 (8 : Int32)) &&& (255 : Int32)), iv 0, iv (z1 &&& (255 : Int32)), iv ((XT.ushr z1 (8 : Int32)) &&& (255 : Int32)), rv a1, rv a2, rv a3, iv 0, iv ((XT.ushr z2 (1 : Int32)) &&& (3 : Int32)), rv a5, t8, rv a9, iv 1, uu]) at_204 rfl ?_
      refine W.iload (pc := 206) at_206 rfl ?_
      refine W.ifN (pc := 208) at_208 (n_ne (by decide)) ?_
      refine W.iloadN (pc := 211) at_211 rfl ?_
      refine W.iload (pc := 212) at_212 rfl ?_
      refine W.iload (pc := 214) at_214 rfl ?_
      refine W.iload (pc := 216) at_216 rfl ?_
      refine W.iload (pc := 218) at_218 rfl ?_
      refine W.iload (pc := 220) at_220 rfl ?_
      refine W.callS (pc := 222) (as := [(vi 0), (vi (z0 &&& (255 : Int32))), (vi ((XT.ushr z0 (8 : Int32)) &&& (255 : Int32))), (vi 0), (vi (z1 &&& (255 : Int32))), (vi ((XT.ushr z1 (8 : Int32)) &&& (255 : Int32)))]) 0 [] at_222 (w65 hw) (w66 hw) (w67 hw) (w68 hw) (c19_geq hw hs (x1 := (z0 &&& (255 : Int32))) (hx1 := (by have := rng32 z0; have := q255; have := am_255 z0; omega)) (x2 := ((XT.ushr z0 (8 : Int32)) &&& (255 : Int32))) (hx2 := (by have := rng32 z0; have := q8; have := aushr_8 z0; have := q255; have := am_255 (XT.ushr z0 (8 : Int32)); omega)) (x3 := (z1 &&& (255 : Int32))) (hx3 := (by have := rng32 z1; have := q255; have := am_255 z1; omega)) (x4 := ((XT.ushr z1 (8 : Int32)) &&& (255 : Int32))) (hx4 := (by have := rng32 z1; have := q8; have := aushr_8 z1; have := q255; have := am_255 (XT.ushr z1 (8 : Int32)); omega))) (by decide) pd_IIIIII_Z rfl rfl rfl rfl (by decide) (fun v D' h => ?_)
      obtain ⟨rfl, rfl⟩ := h
      show W _ _ _ _ _ _ _ _ _ _ _ _ 225 _ [(vi 1)]
      refine W.ifN (pc := 225) at_225 (n_eq (by decide)) ?_
      refine W.iconst (pc := 228) (1) at_228 (by decide) ?_
      refine W.goto (pc := 229) 233 at_229 (by decide) ?_
      refine W.istore (pc := 233) (ls' := #[iv z0, iv z1, iv z2, iv 0, iv (z0 &&& (255 : Int32)), iv ((XT.ushr z0 (8 : Int32)) &&& (255 : Int32)), iv 0, iv (z1 &&& (255 : Int32)), iv ((XT.ushr z1 (8 : Int32)) &&& (255 : Int32)), rv a1, rv a2, rv a3, iv 0, iv ((XT.ushr z2 (1 : Int32)) &&& (3 : Int32)), rv a5, t8, rv a9, iv 1, iv 1]) at_233 rfl ?_
      refine W.iload (pc := 235) at_235 rfl ?_
      refine W.iload (pc := 237) at_237 rfl ?_
      refine W.icmpN (pc := 239) at_239 (n_ne (by decide)) ?_
      refine W.iconst (pc := 242) (1) at_242 (by decide) ?_
      refine W.goto (pc := 243) 247 at_243 (by decide) ?_
      exact W.ireturn (pc := 247) at_247 rfl (Or.inr (Or.inl rfl)) (nw_bool (by decide)) (by decide) rfl
     refine W.aconstNull (pc := 161) at_161 ?_
     refine W.astore (pc := 162) (ls' := #[iv z0, iv z1, iv z2, iv 0, iv (z0 &&& (255 : Int32)), iv ((XT.ushr z0 (8 : Int32)) &&& (255 : Int32)), iv 0, iv (z1 &&& (255 : Int32)), iv ((XT.ushr z1 (8 : Int32)) &&& (255 : Int32)), rv a1, rv a2, rv a3, iv 0, iv ((XT.ushr z2 (1 : Int32)) &&& (3 : Int32)), rv a5, .val .null, uu, uu, uu]) at_162 rfl rfl ?_
     refine W.iload (pc := 164) at_164 rfl ?_
     refine W.iconst (pc := 166) (1) at_166 (by decide) ?_
     refine W.icmp (pc := 167) 174 at_167 (by decide) (fun h4 => ?_) (fun h4 => ?_)
     ·
      have ih4 := t_ne h4
      refine W.iload (pc := 174) at_174 rfl ?_
      refine W.iconst (pc := 176) (2) at_176 (by decide) ?_
      refine W.icmp (pc := 177) 184 at_177 (by decide) (fun h5 => ?_) (fun h5 => ?_)
      ·
       have ih5 := t_ne h5
       refine W.new (pc := 184) at_184 (w23 hw) (w24 hw) (w25 hw) (laTimeRange hw) (by decide) (by decide) (fun a12 => ?_)
       show W _ _ _ _ _ _ _ _ _ _ _ _ 187 _ [(vr a12)]
       refine W.dup (pc := 187) at_187 rfl ?_
       refine W.aload (pc := 188) 15 at_188 rfl rfl ?_
       refine W.aload (pc := 190) 14 at_190 rfl rfl ?_
       refine W.callI (pc := 192) (as := [.null, (vr a5)]) 1 [(vr a12)] at_192 rfl (w26 hw) (w27 hw) (w25 hw) (w28 hw) (c3_init hw hs (p1 := a12) (p2 := a5) (p3 := a6)) (by decide) pd_Ljava_lang_String_Ljava_lang_String__V rfl rfl rfl rfl (by decide) (fun v D' h => ?_)
       obtain ⟨rfl, rfl⟩ := h
       show W _ _ _ _ _ _ _ _ _ _ _ _ 195 _ [(vr a12)]
       refine W.astore (pc := 195) (ls' := #[iv z0, iv z1, iv z2, iv 0, iv (z0 &&& (255 : Int32)), iv ((XT.ushr z0 (8 : Int32)) &&& (255 : Int32)), iv 0, iv (z1 &&& (255 : Int32)), iv ((XT.ushr z1 (8 : Int32)) &&& (255 : Int32)), rv a1, rv a2, rv a3, iv 0, iv ((XT.ushr z2 (1 : Int32)) &&& (3 : Int32)), rv a5, .val .null, rv a12, uu, uu]) at_195 rfl rfl ?_
       refine W.front 6 (D' := (a1, true, ar "[C" .char []) :: (a12, true, oTimeRange .null (vr a5)) :: (a6, false, ar "" .byte []) :: (a5, true, oString (vr a6) (vi 0)) :: (a4, false, ar "" .byte []) :: (a3, true, oString (vr a4) (vi 0)) :: (a2, true, ar "[C" .char []) :: []) rfl rfl ?_
       refine W.front 6 (D' := (a2, true, ar "[C" .char []) :: (a1, true, ar "[C" .char []) :: (a12, true, oTimeRange .null (vr a5)) :: (a6, false, ar "" .byte []) :: (a5, true, oString (vr a6) (vi 0)) :: (a4, false, ar "" .byte []) :: (a3, true, oString (vr a4) (vi 0)) :: []) rfl rfl ?_
       refine W.front 6 (D' := (a3, true, oString (vr a4) (vi 0)) :: (a2, true, ar "[C" .char []) :: (a1, true, ar "[C" .char []) :: (a12, true, oTimeRange .null (vr a5)) :: (a6, false, ar "" .byte []) :: (a5, true, oString (vr a6) (vi 0)) :: (a4, false, ar "" .byte []) :: []) rfl rfl ?_
       refine W.front 6 (D' := (a4, false, ar "" .byte []) :: (a3, true, oString (vr a4) (vi 0)) :: (a2, true, ar "[C" .char []) :: (a1, true, ar "[C" .char []) :: (a12, true, oTimeRange .null (vr a5)) :: (a6, false, ar "" .byte []) :: (a5, true, oString (vr a6) (vi 0)) :: []) rfl rfl ?_
       refine W.front 6 (D' := (a5, true, oString (vr a6) (vi 0)) :: (a4, false, ar "" .byte []) :: (a3, true, oString (vr a4) (vi 0)) :: (a2, true, ar "[C" .char []) :: (a1, true, ar "[C" .char []) :: (a12, true, oTimeRange .null (vr a5)) :: (a6, false, ar "" .byte []) :: []) rfl rfl ?_
       refine W.front 6 (D' := (a6, false, ar "" .byte []) :: (a5, true, oString (vr a6) (vi 0)) :: (a4, false, ar "" .byte []) :: (a3, true, oString (vr a4) (vi 0)) :: (a2, true, ar "[C" .char []) :: (a1, true, ar "[C" .char []) :: (a12, true, oTimeRange .null (vr a5)) :: []) rfl rfl ?_
       exact W.mono (by decide) (by decide) (K11 (.val .null) a12 .null (Or.inr ⟨_, rfl, rfl⟩) rfl)
      ·
       have ih5 := f_ne h5
       refine W.aload (pc := 180) 14 at_180 rfl rfl ?_
       refine W.astore (pc := 182) (ls' := #[iv z0, iv z1, iv z2, iv 0, iv (z0 &&& (255 : Int32)), iv ((XT.ushr z0 (8 : Int32)) &&& (255 : Int32)), iv 0, iv (z1 &&& (255 : Int32)), iv ((XT.ushr z1 (8 : Int32)) &&& (255 : Int32)), rv a1, rv a2, rv a3, iv 0, iv ((XT.ushr z2 (1 : Int32)) &&& (3 : Int32)), rv a5, rv a5, uu, uu, uu]) at_182 rfl rfl ?_
       refine W.new (pc := 184) at_184 (w23 hw) (w24 hw) (w25 hw) (laTimeRange hw) (by decide) (by decide) (fun a13 => ?_)
       show W _ _ _ _ _ _ _ _ _ _ _ _ 187 _ [(vr a13)]
       refine W.dup (pc := 187) at_187 rfl ?_
       refine W.aload (pc := 188) 15 at_188 rfl rfl ?_
       refine W.aload (pc := 190) 14 at_190 rfl rfl ?_
       refine W.callI (pc := 192) (as := [(vr a5), (vr a5)]) 1 [(vr a13)] at_192 rfl (w26 hw) (w27 hw) (w25 hw) (w28 hw) (c4_init hw hs (p1 := a13) (p2 := a5) (p3 := a6) (mp2 := m1) (mp3 := m0)) (by decide) pd_Ljava_lang_String_Ljava_lang_String__V rfl rfl rfl rfl (by decide) (fun v D' h => ?_)
       obtain ⟨rfl, rfl⟩ := h
       show W _ _ _ _ _ _ _ _ _ _ _ _ 195 _ [(vr a13)]
       refine W.astore (pc := 195) (ls' := #[iv z0, iv z1, iv z2, iv 0, iv (z0 &&& (255 : Int32)), iv ((XT.ushr z0 (8 : Int32)) &&& (255 : Int32)), iv 0, iv (z1 &&& (255 : Int32)), iv ((XT.ushr z1 (8 : Int32)) &&& (255 : Int32)), rv a1, rv a2, rv a3, iv 0, iv ((XT.ushr z2 (1 : Int32)) &&& (3 : Int32)), rv a5, rv a5, rv a13, uu, uu]) at_195 rfl rfl ?_
       refine W.front 6 (D' := (a1, true, ar "[C" .char []) :: (a13, true, oTimeRange (vr a5) (vr a5)) :: (a6, false, ar "" .byte []) :: (a5, true, oString (vr a6) (vi 0)) :: (a4, false, ar "" .byte []) :: (a3, true, oString (vr a4) (vi 0)) :: (a2, true, ar "[C" .char []) :: []) rfl rfl ?_
       refine W.front 6 (D' := (a2, true, ar "[C" .char []) :: (a1, true, ar "[C" .char []) :: (a13, true, oTimeRange (vr a5) (vr a5)) :: (a6, false, ar "" .byte []) :: (a5, true, oString (vr a6) (vi 0)) :: (a4, false, ar "" .byte []) :: (a3, true, oString (vr a4) (vi 0)) :: []) rfl rfl ?_
       refine W.front 6 (D' := (a3, true, oString (vr a4) (vi 0)) :: (a2, true, ar "[C" .char []) :: (a1, true, ar "[C" .char []) :: (a13, true, oTimeRange (vr a5) (vr a5)) :: (a6, false, ar "" .byte []) :: (a5, true, oString (vr a6) (vi 0)) :: (a4, false, ar "" .byte []) :: []) rfl rfl ?_
       refine W.front 6 (D' := (a4, false, ar "" .byte []) :: (a3, true, oString (vr a4) (vi 0)) :: (a2, true, ar "[C" .char []) :: (a1, true, ar "[C" .char []) :: (a13, true, oTimeRange (vr a5) (vr a5)) :: (a6, false, ar "" .byte []) :: (a5, true, oString (vr a6) (vi 0)) :: []) rfl rfl ?_
       refine W.front 6 (D' := (a5, true, oString (vr a6) (vi 0)) :: (a4, false, ar "" .byte []) :: (a3, true, oString (vr a4) (vi 0)) :: (a2, true, ar "[C" .char []) :: (a1, true, ar "[C" .char []) :: (a13, true, oTimeRange (vr a5) (vr a5)) :: (a6, false, ar "" .byte []) :: []) rfl rfl ?_
       refine W.front 6 (D' := (a6, false, ar "" .byte []) :: (a5, true, oString (vr a6) (vi 0)) :: (a4, false, ar "" .byte []) :: (a3, true, oString (vr a4) (vi 0)) :: (a2, true, ar "[C" .char []) :: (a1, true, ar "[C" .char []) :: (a13, true, oTimeRange (vr a5) (vr a5)) :: []) rfl rfl ?_
       exact W.mono (by decide) (by decide) (K11 (rv a5) a13 (vr a5) (Or.inr ⟨_, rfl, rfl⟩) rfl)
     ·
      have ih4 := f_ne h4
      refine W.ldcT (pc := 170) 0 (vs := []) rfl at_170 (w22 hw) (wS hw) m0 tx_ (by decide) (by decide) (by decide) (fun a14 a15 => ?_)
      show W _ _ _ _ _ _ _ _ _ _ _ _ 172 _ [(vr a14)]
      refine W.astore (pc := 172) (ls' := #[iv z0, iv z1, iv z2, iv 0, iv (z0 &&& (255 : Int32)), iv ((XT.ushr z0 (8 : Int32)) &&& (255 : Int32)), iv 0, iv (z1 &&& (255 : Int32)), iv ((XT.ushr z1 (8 : Int32)) &&& (255 : Int32)), rv a1, rv a2, rv a3, iv 0, iv ((XT.ushr z2 (1 : Int32)) &&& (3 : Int32)), rv a5, rv a14, uu, uu, uu]) at_172 rfl rfl ?_
      refine W.iload (pc := 174) at_174 rfl ?_
      refine W.iconst (pc := 176) (2) at_176 (by decide) ?_
      refine W.icmpY (pc := 177) 184 at_177 (y_ne (by have := rng32 z2; have := q1; have := aushr_1 z2; have := q3; have := am_3 (XT.ushr z2 (1 : Int32)); have := q2; omega)) (by decide) ?_
      refine W.new (pc := 184) at_184 (w23 hw) (w24 hw) (w25 hw) (laTimeRange hw) (by decide) (by decide) (fun a16 => ?_)
      show W _ _ _ _ _ _ _ _ _ _ _ _ 187 _ [(vr a16)]
      refine W.dup (pc := 187) at_187 rfl ?_
      refine W.aload (pc := 188) 15 at_188 rfl rfl ?_
      refine W.aload (pc := 190) 14 at_190 rfl rfl ?_
      refine W.callI (pc := 192) (as := [(vr a14), (vr a5)]) 1 [(vr a16)] at_192 rfl (w26 hw) (w27 hw) (w25 hw) (w28 hw) (c12_init hw hs (p1 := a16) (p2 := a14) (p3 := a5) (p4 := a15) (p5 := a6) (mp2 := m0) (mp3 := m3) (mp4 := m1) (mp5 := m2)) (by decide) pd_Ljava_lang_String_Ljava_lang_String__V rfl rfl rfl rfl (by decide) (fun v D' h => ?_)
      obtain ⟨rfl, rfl⟩ := h
      show W _ _ _ _ _ _ _ _ _ _ _ _ 195 _ [(vr a16)]
      refine W.astore (pc := 195) (ls' := #[iv z0, iv z1, iv z2, iv 0, iv (z0 &&& (255 : Int32)), iv ((XT.ushr z0 (8 : Int32)) &&& (255 : Int32)), iv 0, iv (z1 &&& (255 : Int32)), iv ((XT.ushr z1 (8 : Int32)) &&& (255 : Int32)), rv a1, rv a2, rv a3, iv 0, iv ((XT.ushr z2 (1 : Int32)) &&& (3 : Int32)), rv a5, rv a14, rv a16, uu, uu]) at_195 rfl rfl ?_
      refine W.front 8 (D' := (a1, true, ar "[C" .char []) :: (a16, true, oTimeRange (vr a14) (vr a5)) :: (a14, false, oString (vr a15) (vi 0)) :: (a15, false, ar "" .byte []) :: (a6, false, ar "" .byte []) :: (a5, true, oString (vr a6) (vi 0)) :: (a4, false, ar "" .byte []) :: (a3, true, oString (vr a4) (vi 0)) :: (a2, true, ar "[C" .char []) :: []) rfl rfl ?_
      refine W.front 8 (D' := (a2, true, ar "[C" .char []) :: (a1, true, ar "[C" .char []) :: (a16, true, oTimeRange (vr a14) (vr a5)) :: (a14, false, oString (vr a15) (vi 0)) :: (a15, false, ar "" .byte []) :: (a6, false, ar "" .byte []) :: (a5, true, oString (vr a6) (vi 0)) :: (a4, false, ar "" .byte []) :: (a3, true, oString (vr a4) (vi 0)) :: []) rfl rfl ?_
      refine W.front 8 (D' := (a3, true, oString (vr a4) (vi 0)) :: (a2, true, ar "[C" .char []) :: (a1, true, ar "[C" .char []) :: (a16, true, oTimeRange (vr a14) (vr a5)) :: (a14, false, oString (vr a15) (vi 0)) :: (a15, false, ar "" .byte []) :: (a6, false, ar "" .byte []) :: (a5, true, oString (vr a6) (vi 0)) :: (a4, false, ar "" .byte []) :: []) rfl rfl ?_
      refine W.front 8 (D' := (a4, false, ar "" .byte []) :: (a3, true, oString (vr a4) (vi 0)) :: (a2, true, ar "[C" .char []) :: (a1, true, ar "[C" .char []) :: (a16, true, oTimeRange (vr a14) (vr a5)) :: (a14, false, oString (vr a15) (vi 0)) :: (a15, false, ar "" .byte []) :: (a6, false, ar "" .byte []) :: (a5, true, oString (vr a6) (vi 0)) :: []) rfl rfl ?_
      refine W.front 8 (D' := (a5, true, oString (vr a6) (vi 0)) :: (a4, false, ar "" .byte []) :: (a3, true, oString (vr a4) (vi 0)) :: (a2, true, ar "[C" .char []) :: (a1, true, ar "[C" .char []) :: (a16, true, oTimeRange (vr a14) (vr a5)) :: (a14, false, oString (vr a15) (vi 0)) :: (a15, false, ar "" .byte []) :: (a6, false, ar "" .byte []) :: []) rfl rfl ?_
      refine W.front 8 (D' := (a6, false, ar "" .byte []) :: (a5, true, oString (vr a6) (vi 0)) :: (a4, false, ar "" .byte []) :: (a3, true, oString (vr a4) (vi 0)) :: (a2, true, ar "[C" .char []) :: (a1, true, ar "[C" .char []) :: (a16, true, oTimeRange (vr a14) (vr a5)) :: (a14, false, oString (vr a15) (vi 0)) :: (a15, false, ar "" .byte []) :: []) rfl rfl ?_
      refine W.heap (fun _ _ H => H.sub ((((((((((List.Sublist.refl _).cons _).cons _).cons_cons _).cons_cons _).cons_cons _).cons_cons _).cons_cons _).cons_cons _).cons_cons _)) ?_
      exact W.mono (by decide) (by decide) (K11 (rv a14) a16 (vr a14) (Or.inr ⟨_, rfl, rfl⟩) rfl)
    ·
     have ih3 := f_eq h3
     refine W.iconst (pc := 127) (1) at_127 (by decide) ?_
     refine W.goto (pc := 128) 132 at_128 (by decide) ?_
     refine W.istore (pc := 132) (ls' := #[iv z0, iv z1, iv z2, iv 0, iv (z0 &&& (255 : Int32)), iv ((XT.ushr z0 (8 : Int32)) &&& (255 : Int32)), iv 0, iv (z1 &&& (255 : Int32)), iv ((XT.ushr z1 (8 : Int32)) &&& (255 : Int32)), rv a1, rv a2, rv a3, iv 1, uu, uu, uu, uu, uu, uu]) at_132 rfl ?_
     refine W.iloadN (pc := 134) at_134 rfl ?_
     refine W.iconst (pc := 135) (1) at_135 (by decide) ?_
     refine W.iushr (pc := 136) at_136 ?_
     refine W.iconst (pc := 137) (3) at_137 (by decide) ?_
     refine W.iand (pc := 138) at_138 ?_
     refine W.istore (pc := 139) (ls' := #[iv z0, iv z1, iv z2, iv 0, iv (z0 &&& (255 : Int32)), iv ((XT.ushr z0 (8 : Int32)) &&& (255 : Int32)), iv 0, iv (z1 &&& (255 : Int32)), iv ((XT.ushr z1 (8 : Int32)) &&& (255 : Int32)), rv a1, rv a2, rv a3, iv 1, iv ((XT.ushr z2 (1 : Int32)) &&& (3 : Int32)), uu, uu, uu, uu, uu]) at_139 rfl ?_
     refine W.iload (pc := 141) at_141 rfl ?_
     refine W.ifN (pc := 143) at_143 (n_eq (by decide)) ?_
     refine W.aconstNull (pc := 146) at_146 ?_
     refine W.goto (pc := 147) 159 at_147 (by decide) ?_
     refine W.astore (pc := 159) (ls' := #[iv z0, iv z1, iv z2, iv 0, iv (z0 &&& (255 : Int32)), iv ((XT.ushr z0 (8 : Int32)) &&& (255 : Int32)), iv 0, iv (z1 &&& (255 : Int32)), iv ((XT.ushr z1 (8 : Int32)) &&& (255 : Int32)), rv a1, rv a2, rv a3, iv 1, iv ((XT.ushr z2 (1 : Int32)) &&& (3 : Int32)), .val .null, uu, uu, uu, uu]) at_159 rfl rfl ?_
     have K21 : ∀ (t18 : Slot) (a19 : Addr) (u20 : Value), SlOk t18 → u20.isRef = true → W Z EL room_1 "com/example/chainvouch/chainvouch/chain/TimeRangeStartsAfterPinLaw" "law" code maxLocals ret (fun v _ => v = some (.int 1)) ((a4, false, ar "" .byte []) :: (a3, true, oString (vr a4) (vi 0)) :: (a2, true, ar "[C" .char []) :: (a1, true, ar "[C" .char []) :: (a19, true, oTimeRange u20 .null) :: []) 10 18 197 #[iv z0, iv z1, iv z2, iv 0, iv (z0 &&& (255 : Int32)), iv ((XT.ushr z0 (8 : Int32)) &&& (255 : Int32)), iv 0, iv (z1 &&& (255 : Int32)), iv ((XT.ushr z1 (8 : Int32)) &&& (255 : Int32)), rv a1, rv a2, rv a3, iv 1, iv ((XT.ushr z2 (1 : Int32)) &&& (3 : Int32)), .val .null, t18, rv a19, uu, uu] [] := by
      intro t18 a19 u20 ht18 hu20
      refine W.aload (pc := 197) 16 at_197 rfl rfl ?_
      refine W.aload (pc := 199) 11 at_199 rfl rfl ?_
      refine W.callV (pc := 201) (as := [(vr a3)]) 0 [] at_201 (w60 hw) (w61 hw) (w63 hw) (w63 hw) (w62 hw) (w25 hw) (w64 hw) (Hp.exa m4) (c22_startsAfter hw hs (p1 := a19) (p2 := a3) (p3 := a4) (u1 := u20) (hu1 := hu20) (mp1 := m4)) (by decide) pd_Ljava_lang_String__Z rfl rfl rfl rfl (by decide) (fun v D' h => ?_)
      obtain ⟨rfl, rfl⟩ := h
      show W _ _ _ _ _ _ _ _ _ _ _ _ 204 _ [(vi 0)]
      refine W.istore (pc := 204) (ls' := #[iv z0, iv z1, iv z2, iv 0, iv (z0 &&& (255 : Int32)), iv ((XT.ushr z0 (8 : Int32)) &&& (255 : Int32)), iv 0, iv (z1 &&& (255 : Int32)), iv ((XT.ushr z1 (8 : Int32)) &&& (255 : Int32)), rv a1, rv a2, rv a3, iv 1, iv ((XT.ushr z2 (1 : Int32)) &&& (3 : Int32)), .val .null, t18, rv a19, iv 0, uu]) at_204 rfl ?_
      refine W.iload (pc := 206) at_206 rfl ?_
      refine W.ifY (pc := 208) 232 at_208 (y_ne (by decide)) (by decide) ?_
      refine W.iconst (pc := 232) (0) at_232 (by decide) ?_
      refine W.istore (pc := 233) (ls' := #[iv z0, iv z1, iv z2, iv 0, iv (z0 &&& (255 : Int32)), iv ((XT.ushr z0 (8 : Int32)) &&& (255 : Int32)), iv 0, iv (z1 &&& (255 : Int32)), iv ((XT.ushr z1 (8 : Int32)) &&& (255 : Int32)), rv a1, rv a2, rv a3, iv 1, iv ((XT.ushr z2 (1 : Int32)) &&& (3 : Int32)), .val .null, t18, rv a19, iv 0, iv 0]) at_233 rfl ?_
      refine W.iload (pc := 235) at_235 rfl ?_
      refine W.iload (pc := 237) at_237 rfl ?_
      refine W.icmpN (pc := 239) at_239 (n_ne (by decide)) ?_
      refine W.iconst (pc := 242) (1) at_242 (by decide) ?_
      refine W.goto (pc := 243) 247 at_243 (by decide) ?_
      exact W.ireturn (pc := 247) at_247 rfl (Or.inr (Or.inl rfl)) (nw_bool (by decide)) (by decide) rfl
     refine W.aconstNull (pc := 161) at_161 ?_
     refine W.astore (pc := 162) (ls' := #[iv z0, iv z1, iv z2, iv 0, iv (z0 &&& (255 : Int32)), iv ((XT.ushr z0 (8 : Int32)) &&& (255 : Int32)), iv 0, iv (z1 &&& (255 : Int32)), iv ((XT.ushr z1 (8 : Int32)) &&& (255 : Int32)), rv a1, rv a2, rv a3, iv 1, iv ((XT.ushr z2 (1 : Int32)) &&& (3 : Int32)), .val .null, .val .null, uu, uu, uu]) at_162 rfl rfl ?_
     refine W.iload (pc := 164) at_164 rfl ?_
     refine W.iconst (pc := 166) (1) at_166 (by decide) ?_
     refine W.icmp (pc := 167) 174 at_167 (by decide) (fun h6 => ?_) (fun h6 => ?_)
     ·
      have ih6 := t_ne h6
      refine W.iload (pc := 174) at_174 rfl ?_
      refine W.iconst (pc := 176) (2) at_176 (by decide) ?_
      refine W.icmp (pc := 177) 184 at_177 (by decide) (fun h7 => ?_) (fun h7 => ?_)
      ·
       have ih7 := t_ne h7
       refine W.new (pc := 184) at_184 (w23 hw) (w24 hw) (w25 hw) (laTimeRange hw) (by decide) (by decide) (fun a22 => ?_)
       show W _ _ _ _ _ _ _ _ _ _ _ _ 187 _ [(vr a22)]
       refine W.dup (pc := 187) at_187 rfl ?_
       refine W.aload (pc := 188) 15 at_188 rfl rfl ?_
       refine W.aload (pc := 190) 14 at_190 rfl rfl ?_
       refine W.callI (pc := 192) (as := [.null, .null]) 1 [(vr a22)] at_192 rfl (w26 hw) (w27 hw) (w25 hw) (w28 hw) (c20_init hw hs (p1 := a22)) (by decide) pd_Ljava_lang_String_Ljava_lang_String__V rfl rfl rfl rfl (by decide) (fun v D' h => ?_)
       obtain ⟨rfl, rfl⟩ := h
       show W _ _ _ _ _ _ _ _ _ _ _ _ 195 _ [(vr a22)]
       refine W.astore (pc := 195) (ls' := #[iv z0, iv z1, iv z2, iv 0, iv (z0 &&& (255 : Int32)), iv ((XT.ushr z0 (8 : Int32)) &&& (255 : Int32)), iv 0, iv (z1 &&& (255 : Int32)), iv ((XT.ushr z1 (8 : Int32)) &&& (255 : Int32)), rv a1, rv a2, rv a3, iv 1, iv ((XT.ushr z2 (1 : Int32)) &&& (3 : Int32)), .val .null, .val .null, rv a22, uu, uu]) at_195 rfl rfl ?_
       refine W.front 4 (D' := (a1, true, ar "[C" .char []) :: (a22, true, oTimeRange .null .null) :: (a4, false, ar "" .byte []) :: (a3, true, oString (vr a4) (vi 0)) :: (a2, true, ar "[C" .char []) :: []) rfl rfl ?_
       refine W.front 4 (D' := (a2, true, ar "[C" .char []) :: (a1, true, ar "[C" .char []) :: (a22, true, oTimeRange .null .null) :: (a4, false, ar "" .byte []) :: (a3, true, oString (vr a4) (vi 0)) :: []) rfl rfl ?_
       refine W.front 4 (D' := (a3, true, oString (vr a4) (vi 0)) :: (a2, true, ar "[C" .char []) :: (a1, true, ar "[C" .char []) :: (a22, true, oTimeRange .null .null) :: (a4, false, ar "" .byte []) :: []) rfl rfl ?_
       refine W.front 4 (D' := (a4, false, ar "" .byte []) :: (a3, true, oString (vr a4) (vi 0)) :: (a2, true, ar "[C" .char []) :: (a1, true, ar "[C" .char []) :: (a22, true, oTimeRange .null .null) :: []) rfl rfl ?_
       exact W.mono (by decide) (by decide) (K21 (.val .null) a22 .null (Or.inr ⟨_, rfl, rfl⟩) rfl)
      ·
       have ih7 := f_ne h7
       refine W.aload (pc := 180) 14 at_180 rfl rfl ?_
       refine W.astore (pc := 182) (ls' := #[iv z0, iv z1, iv z2, iv 0, iv (z0 &&& (255 : Int32)), iv ((XT.ushr z0 (8 : Int32)) &&& (255 : Int32)), iv 0, iv (z1 &&& (255 : Int32)), iv ((XT.ushr z1 (8 : Int32)) &&& (255 : Int32)), rv a1, rv a2, rv a3, iv 1, iv ((XT.ushr z2 (1 : Int32)) &&& (3 : Int32)), .val .null, .val .null, uu, uu, uu]) at_182 rfl rfl ?_
       refine W.new (pc := 184) at_184 (w23 hw) (w24 hw) (w25 hw) (laTimeRange hw) (by decide) (by decide) (fun a23 => ?_)
       show W _ _ _ _ _ _ _ _ _ _ _ _ 187 _ [(vr a23)]
       refine W.dup (pc := 187) at_187 rfl ?_
       refine W.aload (pc := 188) 15 at_188 rfl rfl ?_
       refine W.aload (pc := 190) 14 at_190 rfl rfl ?_
       refine W.callI (pc := 192) (as := [.null, .null]) 1 [(vr a23)] at_192 rfl (w26 hw) (w27 hw) (w25 hw) (w28 hw) (c20_init hw hs (p1 := a23)) (by decide) pd_Ljava_lang_String_Ljava_lang_String__V rfl rfl rfl rfl (by decide) (fun v D' h => ?_)
       obtain ⟨rfl, rfl⟩ := h
       show W _ _ _ _ _ _ _ _ _ _ _ _ 195 _ [(vr a23)]
       refine W.astore (pc := 195) (ls' := #[iv z0, iv z1, iv z2, iv 0, iv (z0 &&& (255 : Int32)), iv ((XT.ushr z0 (8 : Int32)) &&& (255 : Int32)), iv 0, iv (z1 &&& (255 : Int32)), iv ((XT.ushr z1 (8 : Int32)) &&& (255 : Int32)), rv a1, rv a2, rv a3, iv 1, iv ((XT.ushr z2 (1 : Int32)) &&& (3 : Int32)), .val .null, .val .null, rv a23, uu, uu]) at_195 rfl rfl ?_
       refine W.front 4 (D' := (a1, true, ar "[C" .char []) :: (a23, true, oTimeRange .null .null) :: (a4, false, ar "" .byte []) :: (a3, true, oString (vr a4) (vi 0)) :: (a2, true, ar "[C" .char []) :: []) rfl rfl ?_
       refine W.front 4 (D' := (a2, true, ar "[C" .char []) :: (a1, true, ar "[C" .char []) :: (a23, true, oTimeRange .null .null) :: (a4, false, ar "" .byte []) :: (a3, true, oString (vr a4) (vi 0)) :: []) rfl rfl ?_
       refine W.front 4 (D' := (a3, true, oString (vr a4) (vi 0)) :: (a2, true, ar "[C" .char []) :: (a1, true, ar "[C" .char []) :: (a23, true, oTimeRange .null .null) :: (a4, false, ar "" .byte []) :: []) rfl rfl ?_
       refine W.front 4 (D' := (a4, false, ar "" .byte []) :: (a3, true, oString (vr a4) (vi 0)) :: (a2, true, ar "[C" .char []) :: (a1, true, ar "[C" .char []) :: (a23, true, oTimeRange .null .null) :: []) rfl rfl ?_
       exact W.mono (by decide) (by decide) (K21 (.val .null) a23 .null (Or.inr ⟨_, rfl, rfl⟩) rfl)
     ·
      have ih6 := f_ne h6
      refine W.ldcT (pc := 170) 0 (vs := []) rfl at_170 (w22 hw) (wS hw) m0 tx_ (by decide) (by decide) (by decide) (fun a24 a25 => ?_)
      show W _ _ _ _ _ _ _ _ _ _ _ _ 172 _ [(vr a24)]
      refine W.astore (pc := 172) (ls' := #[iv z0, iv z1, iv z2, iv 0, iv (z0 &&& (255 : Int32)), iv ((XT.ushr z0 (8 : Int32)) &&& (255 : Int32)), iv 0, iv (z1 &&& (255 : Int32)), iv ((XT.ushr z1 (8 : Int32)) &&& (255 : Int32)), rv a1, rv a2, rv a3, iv 1, iv ((XT.ushr z2 (1 : Int32)) &&& (3 : Int32)), .val .null, rv a24, uu, uu, uu]) at_172 rfl rfl ?_
      refine W.iload (pc := 174) at_174 rfl ?_
      refine W.iconst (pc := 176) (2) at_176 (by decide) ?_
      refine W.icmpY (pc := 177) 184 at_177 (y_ne (by have := rng32 z2; have := q1; have := aushr_1 z2; have := q3; have := am_3 (XT.ushr z2 (1 : Int32)); have := q2; omega)) (by decide) ?_
      refine W.new (pc := 184) at_184 (w23 hw) (w24 hw) (w25 hw) (laTimeRange hw) (by decide) (by decide) (fun a26 => ?_)
      show W _ _ _ _ _ _ _ _ _ _ _ _ 187 _ [(vr a26)]
      refine W.dup (pc := 187) at_187 rfl ?_
      refine W.aload (pc := 188) 15 at_188 rfl rfl ?_
      refine W.aload (pc := 190) 14 at_190 rfl rfl ?_
      refine W.callI (pc := 192) (as := [(vr a24), .null]) 1 [(vr a26)] at_192 rfl (w26 hw) (w27 hw) (w25 hw) (w28 hw) (c21_init hw hs (p1 := a26) (p2 := a24) (p3 := a25)) (by decide) pd_Ljava_lang_String_Ljava_lang_String__V rfl rfl rfl rfl (by decide) (fun v D' h => ?_)
      obtain ⟨rfl, rfl⟩ := h
      show W _ _ _ _ _ _ _ _ _ _ _ _ 195 _ [(vr a26)]
      refine W.astore (pc := 195) (ls' := #[iv z0, iv z1, iv z2, iv 0, iv (z0 &&& (255 : Int32)), iv ((XT.ushr z0 (8 : Int32)) &&& (255 : Int32)), iv 0, iv (z1 &&& (255 : Int32)), iv ((XT.ushr z1 (8 : Int32)) &&& (255 : Int32)), rv a1, rv a2, rv a3, iv 1, iv ((XT.ushr z2 (1 : Int32)) &&& (3 : Int32)), .val .null, rv a24, rv a26, uu, uu]) at_195 rfl rfl ?_
      refine W.front 6 (D' := (a1, true, ar "[C" .char []) :: (a26, true, oTimeRange (vr a24) .null) :: (a24, false, oString (vr a25) (vi 0)) :: (a25, false, ar "" .byte []) :: (a4, false, ar "" .byte []) :: (a3, true, oString (vr a4) (vi 0)) :: (a2, true, ar "[C" .char []) :: []) rfl rfl ?_
      refine W.front 6 (D' := (a2, true, ar "[C" .char []) :: (a1, true, ar "[C" .char []) :: (a26, true, oTimeRange (vr a24) .null) :: (a24, false, oString (vr a25) (vi 0)) :: (a25, false, ar "" .byte []) :: (a4, false, ar "" .byte []) :: (a3, true, oString (vr a4) (vi 0)) :: []) rfl rfl ?_
      refine W.front 6 (D' := (a3, true, oString (vr a4) (vi 0)) :: (a2, true, ar "[C" .char []) :: (a1, true, ar "[C" .char []) :: (a26, true, oTimeRange (vr a24) .null) :: (a24, false, oString (vr a25) (vi 0)) :: (a25, false, ar "" .byte []) :: (a4, false, ar "" .byte []) :: []) rfl rfl ?_
      refine W.front 6 (D' := (a4, false, ar "" .byte []) :: (a3, true, oString (vr a4) (vi 0)) :: (a2, true, ar "[C" .char []) :: (a1, true, ar "[C" .char []) :: (a26, true, oTimeRange (vr a24) .null) :: (a24, false, oString (vr a25) (vi 0)) :: (a25, false, ar "" .byte []) :: []) rfl rfl ?_
      refine W.heap (fun _ _ H => H.sub ((((((((List.Sublist.refl _).cons _).cons _).cons_cons _).cons_cons _).cons_cons _).cons_cons _).cons_cons _)) ?_
      exact W.mono (by decide) (by decide) (K21 (rv a24) a26 (vr a24) (Or.inr ⟨_, rfl, rfl⟩) rfl)
   ·
    have ie2 := i_eq e2
    rw [e2]
    show W _ _ _ _ _ _ _ _ _ ((a1, true, ar "[C" .char []) :: []) _ _ 80 #[iv z0, iv z1, iv z2, iv 0, iv (z0 &&& (255 : Int32)), iv ((XT.ushr z0 (8 : Int32)) &&& (255 : Int32)), iv 1, iv (z1 &&& (255 : Int32)), iv ((XT.ushr z1 (8 : Int32)) &&& (255 : Int32)), rv a1, uu, uu, uu, uu, uu, uu, uu, uu, uu] [(vi 1)]
    refine W.newarr (pc := 80) 1 (ad := "[C") (ty := .char) at_80 rfl (w0 hw) ix1 rfl (by decide) (by decide) (fun a27 => ?_)
    show W _ _ _ _ _ _ _ _ _ _ _ _ 82 _ [(vr a27)]
    refine W.astore (pc := 82) (ls' := #[iv z0, iv z1, iv z2, iv 0, iv (z0 &&& (255 : Int32)), iv ((XT.ushr z0 (8 : Int32)) &&& (255 : Int32)), iv 1, iv (z1 &&& (255 : Int32)), iv ((XT.ushr z1 (8 : Int32)) &&& (255 : Int32)), rv a1, rv a27, uu, uu, uu, uu, uu, uu, uu, uu]) at_82 rfl rfl ?_
    refine W.iload (pc := 84) at_84 rfl ?_
    refine W.iconst (pc := 86) (1) at_86 (by decide) ?_
    refine W.icmpN (pc := 87) at_87 (n_lt (by decide)) ?_
    refine W.aload (pc := 90) 10 at_90 rfl rfl ?_
    refine W.iconst (pc := 92) (0) at_92 (by decide) ?_
    refine W.iload (pc := 93) at_93 rfl ?_
    refine W.i2cK (pc := 95) (z1 &&& (255 : Int32)) at_95 (z_i2c (by have := rng32 z1; have := q255; have := am_255 z1; omega)) ?_
    refine W.castore (pc := 96) (D' := (a27, true, ar "[C" .char [(vi (z1 &&& (255 : Int32)))]) :: (a1, true, ar "[C" .char []) :: []) 0 0 at_96 rfl ix0 (Nat.le_of_ble_eq_true rfl) (z_narC (by have := rng32 z1; have := q255; have := am_255 z1; omega)) rfl ?_
    refine W.iload (pc := 97) at_97 rfl ?_
    refine W.iconst (pc := 99) (2) at_99 (by decide) ?_
    refine W.icmpY (pc := 100) 110 at_100 (y_lt (by decide)) (by decide) ?_
    refine W.new (pc := 110) at_110 (w1 hw) (w2 hw) (w3 hw) (laString hw) (by decide) (by decide) (fun a28 => ?_)
    show W _ _ _ _ _ _ _ _ _ _ _ _ 113 _ [(vr a28)]
    refine W.dup (pc := 113) at_113 rfl ?_
    refine W.aload (pc := 114) 9 at_114 rfl rfl ?_
    refine W.callI (pc := 116) (as := [(vr a1)]) 1 [(vr a28)] at_116 rfl (w4 hw) (w5 hw) (w3 hw) (w6 hw) (c1_init hw hs (p1 := a28) (p2 := a1) (mp2 := m1)) (by decide) pd__C_V rfl rfl rfl rfl (by decide) (fun v D' h => ?_)
    obtain ⟨a29, rfl, rfl⟩ := h
    show W _ _ _ _ _ _ _ _ _ _ _ _ 119 _ [(vr a28)]
    refine W.astore (pc := 119) (ls' := #[iv z0, iv z1, iv z2, iv 0, iv (z0 &&& (255 : Int32)), iv ((XT.ushr z0 (8 : Int32)) &&& (255 : Int32)), iv 1, iv (z1 &&& (255 : Int32)), iv ((XT.ushr z1 (8 : Int32)) &&& (255 : Int32)), rv a1, rv a27, rv a28, uu, uu, uu, uu, uu, uu, uu]) at_119 rfl rfl ?_
    refine W.iloadN (pc := 121) at_121 rfl ?_
    refine W.iconst (pc := 122) (1) at_122 (by decide) ?_
    refine W.iand (pc := 123) at_123 ?_
    refine W.if (pc := 124) 131 at_124 (by decide) (fun h8 => ?_) (fun h8 => ?_)
    ·
     have ih8 := t_eq h8
     refine W.iconst (pc := 131) (0) at_131 (by decide) ?_
     refine W.istore (pc := 132) (ls' := #[iv z0, iv z1, iv z2, iv 0, iv (z0 &&& (255 : Int32)), iv ((XT.ushr z0 (8 : Int32)) &&& (255 : Int32)), iv 1, iv (z1 &&& (255 : Int32)), iv ((XT.ushr z1 (8 : Int32)) &&& (255 : Int32)), rv a1, rv a27, rv a28, iv 0, uu, uu, uu, uu, uu, uu]) at_132 rfl ?_
     refine W.iloadN (pc := 134) at_134 rfl ?_
     refine W.iconst (pc := 135) (1) at_135 (by decide) ?_
     refine W.iushr (pc := 136) at_136 ?_
     refine W.iconst (pc := 137) (3) at_137 (by decide) ?_
     refine W.iand (pc := 138) at_138 ?_
     refine W.istore (pc := 139) (ls' := #[iv z0, iv z1, iv z2, iv 0, iv (z0 &&& (255 : Int32)), iv ((XT.ushr z0 (8 : Int32)) &&& (255 : Int32)), iv 1, iv (z1 &&& (255 : Int32)), iv ((XT.ushr z1 (8 : Int32)) &&& (255 : Int32)), rv a1, rv a27, rv a28, iv 0, iv ((XT.ushr z2 (1 : Int32)) &&& (3 : Int32)), uu, uu, uu, uu, uu]) at_139 rfl ?_
     refine W.iload (pc := 141) at_141 rfl ?_
     refine W.ifY (pc := 143) 150 at_143 (y_eq (by decide)) (by decide) ?_
     refine W.new (pc := 150) at_150 (w1 hw) (w2 hw) (w3 hw) (laString hw) (by decide) (by decide) (fun a30 => ?_)
     show W _ _ _ _ _ _ _ _ _ _ _ _ 153 _ [(vr a30)]
     refine W.dup (pc := 153) at_153 rfl ?_
     refine W.aload (pc := 154) 10 at_154 rfl rfl ?_
     refine W.callI (pc := 156) (as := [(vr a27)]) 1 [(vr a30)] at_156 rfl (w4 hw) (w5 hw) (w3 hw) (w6 hw) (c23_init hw hs (p1 := a30) (p2 := a27) (x1 := (z1 &&& (255 : Int32))) (hx1 := (by have := rng32 z1; have := q255; have := am_255 z1; omega)) (mp2 := m2)) (by decide) pd__C_V rfl rfl rfl rfl (by decide) (fun v D' h => ?_)
     obtain ⟨a31, rfl, rfl⟩ := h
     show W _ _ _ _ _ _ _ _ _ _ _ _ 159 _ [(vr a30)]
     refine W.astore (pc := 159) (ls' := #[iv z0, iv z1, iv z2, iv 0, iv (z0 &&& (255 : Int32)), iv ((XT.ushr z0 (8 : Int32)) &&& (255 : Int32)), iv 1, iv (z1 &&& (255 : Int32)), iv ((XT.ushr z1 (8 : Int32)) &&& (255 : Int32)), rv a1, rv a27, rv a28, iv 0, iv ((XT.ushr z2 (1 : Int32)) &&& (3 : Int32)), rv a30, uu, uu, uu, uu]) at_159 rfl rfl ?_
     have K36 : ∀ (t33 : Slot) (a34 : Addr) (u35 : Value), SlOk t33 → u35.isRef = true → W Z EL room_1 "com/example/chainvouch/chainvouch/chain/TimeRangeStartsAfterPinLaw" "law" code maxLocals ret (fun v _ => v = some (.int 1)) ((a31, true, ar "[B" .byte [(vi (z1 &&& (255 : Int32)).toInt8.toInt32)]) :: (a30, true, oString (vr a31) (vi 0)) :: (a29, false, ar "" .byte []) :: (a28, true, oString (vr a29) (vi 0)) :: (a27, true, ar "[C" .char [(vi (z1 &&& (255 : Int32)))]) :: (a1, true, ar "[C" .char []) :: (a34, true, oTimeRange u35 (vr a30)) :: []) 12 24 197 #[iv z0, iv z1, iv z2, iv 0, iv (z0 &&& (255 : Int32)), iv ((XT.ushr z0 (8 : Int32)) &&& (255 : Int32)), iv 1, iv (z1 &&& (255 : Int32)), iv ((XT.ushr z1 (8 : Int32)) &&& (255 : Int32)), rv a1, rv a27, rv a28, iv 0, iv ((XT.ushr z2 (1 : Int32)) &&& (3 : Int32)), rv a30, t33, rv a34, uu, uu] [] := by
      intro t33 a34 u35 ht33 hu35
      refine W.aload (pc := 197) 16 at_197 rfl rfl ?_
      refine W.aload (pc := 199) 11 at_199 rfl rfl ?_
      refine W.callV (pc := 201) (as := [(vr a28)]) 0 [] at_201 (w60 hw) (w61 hw) (w63 hw) (w63 hw) (w62 hw) (w25 hw) (w64 hw) (Hp.exa m6) (c42_startsAfter hw hs (p1 := a34) (p2 := a28) (p3 := a30) (p4 := a29) (p5 := a31) (x1 := (z1 &&& (255 : Int32)).toInt8.toInt32) (hx1 := (by have := rng32 z1; have := q255; have := am_255 z1; have := a_i2b (z1 &&& (255 : Int32)); omega)) (u1 := u35) (hu1 := hu35) (mp1 := m6) (mp2 := m3) (mp3 := m1) (mp4 := m2) (mp5 := m0)) (by decide) pd_Ljava_lang_String__Z rfl rfl rfl rfl (by decide) (fun v D' h => ?_)
      obtain ⟨rfl, rfl⟩ := h
      show W _ _ _ _ _ _ _ _ _ _ _ _ 204 _ [(vi 0)]
      refine W.istore (pc := 204) (ls' := #[iv z0, iv z1, iv z2, iv 0, iv (z0 &&& (255 : Int32)), iv ((XT.ushr z0 (8 : Int32)) &&& (255 : Int32)), iv 1, iv (z1 &&& (255 : Int32)), iv ((XT.ushr z1 (8 : Int32)) &&& (255 : Int32)), rv a1, rv a27, rv a28, iv 0, iv ((XT.ushr z2 (1 : Int32)) &&& (3 : Int32)), rv a30, t33, rv a34, iv 0, uu]) at_204 rfl ?_
      refine W.iload (pc := 206) at_206 rfl ?_
      refine W.ifN (pc := 208) at_208 (n_ne (by decide)) ?_
      refine W.iloadN (pc := 211) at_211 rfl ?_
      refine W.iload (pc := 212) at_212 rfl ?_
      refine W.iload (pc := 214) at_214 rfl ?_
      refine W.iload (pc := 216) at_216 rfl ?_
      refine W.iload (pc := 218) at_218 rfl ?_
      refine W.iload (pc := 220) at_220 rfl ?_
      refine W.callS (pc := 222) (as := [(vi 0), (vi (z0 &&& (255 : Int32))), (vi ((XT.ushr z0 (8 : Int32)) &&& (255 : Int32))), (vi 1), (vi (z1 &&& (255 : Int32))), (vi ((XT.ushr z1 (8 : Int32)) &&& (255 : Int32)))]) 0 [] at_222 (w65 hw) (w66 hw) (w67 hw) (w68 hw) (c43_geq hw hs (x1 := (z0 &&& (255 : Int32))) (hx1 := (by have := rng32 z0; have := q255; have := am_255 z0; omega)) (x2 := ((XT.ushr z0 (8 : Int32)) &&& (255 : Int32))) (hx2 := (by have := rng32 z0; have := q8; have := aushr_8 z0; have := q255; have := am_255 (XT.ushr z0 (8 : Int32)); omega)) (x3 := (z1 &&& (255 : Int32))) (hx3 := (by have := rng32 z1; have := q255; have := am_255 z1; omega)) (x4 := ((XT.ushr z1 (8 : Int32)) &&& (255 : Int32))) (hx4 := (by have := rng32 z1; have := q8; have := aushr_8 z1; have := q255; have := am_255 (XT.ushr z1 (8 : Int32)); omega))) (by decide) pd_IIIIII_Z rfl rfl rfl rfl (by decide) (fun v D' h => ?_)
      obtain ⟨rfl, rfl⟩ := h
      show W _ _ _ _ _ _ _ _ _ _ _ _ 225 _ [(vi 0)]
      refine W.ifY (pc := 225) 232 at_225 (y_eq (by decide)) (by decide) ?_
      refine W.iconst (pc := 232) (0) at_232 (by decide) ?_
      refine W.istore (pc := 233) (ls' := #[iv z0, iv z1, iv z2, iv 0, iv (z0 &&& (255 : Int32)), iv ((XT.ushr z0 (8 : Int32)) &&& (255 : Int32)), iv 1, iv (z1 &&& (255 : Int32)), iv ((XT.ushr z1 (8 : Int32)) &&& (255 : Int32)), rv a1, rv a27, rv a28, iv 0, iv ((XT.ushr z2 (1 : Int32)) &&& (3 : Int32)), rv a30, t33, rv a34, iv 0, iv 0]) at_233 rfl ?_
      refine W.iload (pc := 235) at_235 rfl ?_
      refine W.iload (pc := 237) at_237 rfl ?_
      refine W.icmpN (pc := 239) at_239 (n_ne (by decide)) ?_
      refine W.iconst (pc := 242) (1) at_242 (by decide) ?_
      refine W.goto (pc := 243) 247 at_243 (by decide) ?_
      exact W.ireturn (pc := 247) at_247 rfl (Or.inr (Or.inl rfl)) (nw_bool (by decide)) (by decide) rfl
     refine W.aconstNull (pc := 161) at_161 ?_
     refine W.astore (pc := 162) (ls' := #[iv z0, iv z1, iv z2, iv 0, iv (z0 &&& (255 : Int32)), iv ((XT.ushr z0 (8 : Int32)) &&& (255 : Int32)), iv 1, iv (z1 &&& (255 : Int32)), iv ((XT.ushr z1 (8 : Int32)) &&& (255 : Int32)), rv a1, rv a27, rv a28, iv 0, iv ((XT.ushr z2 (1 : Int32)) &&& (3 : Int32)), rv a30, .val .null, uu, uu, uu]) at_162 rfl rfl ?_
     refine W.iload (pc := 164) at_164 rfl ?_
     refine W.iconst (pc := 166) (1) at_166 (by decide) ?_
     refine W.icmp (pc := 167) 174 at_167 (by decide) (fun h9 => ?_) (fun h9 => ?_)
     ·
      have ih9 := t_ne h9
      refine W.iload (pc := 174) at_174 rfl ?_
      refine W.iconst (pc := 176) (2) at_176 (by decide) ?_
      refine W.icmp (pc := 177) 184 at_177 (by decide) (fun h10 => ?_) (fun h10 => ?_)
      ·
       have ih10 := t_ne h10
       refine W.new (pc := 184) at_184 (w23 hw) (w24 hw) (w25 hw) (laTimeRange hw) (by decide) (by decide) (fun a37 => ?_)
       show W _ _ _ _ _ _ _ _ _ _ _ _ 187 _ [(vr a37)]
       refine W.dup (pc := 187) at_187 rfl ?_
       refine W.aload (pc := 188) 15 at_188 rfl rfl ?_
       refine W.aload (pc := 190) 14 at_190 rfl rfl ?_
       refine W.callI (pc := 192) (as := [.null, (vr a30)]) 1 [(vr a37)] at_192 rfl (w26 hw) (w27 hw) (w25 hw) (w28 hw) (c28_init hw hs (p1 := a37) (p2 := a30) (p3 := a31) (x1 := (z1 &&& (255 : Int32)).toInt8.toInt32) (hx1 := (by have := rng32 z1; have := q255; have := am_255 z1; have := a_i2b (z1 &&& (255 : Int32)); omega))) (by decide) pd_Ljava_lang_String_Ljava_lang_String__V rfl rfl rfl rfl (by decide) (fun v D' h => ?_)
       obtain ⟨rfl, rfl⟩ := h
       show W _ _ _ _ _ _ _ _ _ _ _ _ 195 _ [(vr a37)]
       refine W.astore (pc := 195) (ls' := #[iv z0, iv z1, iv z2, iv 0, iv (z0 &&& (255 : Int32)), iv ((XT.ushr z0 (8 : Int32)) &&& (255 : Int32)), iv 1, iv (z1 &&& (255 : Int32)), iv ((XT.ushr z1 (8 : Int32)) &&& (255 : Int32)), rv a1, rv a27, rv a28, iv 0, iv ((XT.ushr z2 (1 : Int32)) &&& (3 : Int32)), rv a30, .val .null, rv a37, uu, uu]) at_195 rfl rfl ?_
       refine W.front 6 (D' := (a1, true, ar "[C" .char []) :: (a37, true, oTimeRange .null (vr a30)) :: (a31, true, ar "[B" .byte [(vi (z1 &&& (255 : Int32)).toInt8.toInt32)]) :: (a30, true, oString (vr a31) (vi 0)) :: (a29, false, ar "" .byte []) :: (a28, true, oString (vr a29) (vi 0)) :: (a27, true, ar "[C" .char [(vi (z1 &&& (255 : Int32)))]) :: []) rfl rfl ?_
       refine W.front 6 (D' := (a27, true, ar "[C" .char [(vi (z1 &&& (255 : Int32)))]) :: (a1, true, ar "[C" .char []) :: (a37, true, oTimeRange .null (vr a30)) :: (a31, true, ar "[B" .byte [(vi (z1 &&& (255 : Int32)).toInt8.toInt32)]) :: (a30, true, oString (vr a31) (vi 0)) :: (a29, false, ar "" .byte []) :: (a28, true, oString (vr a29) (vi 0)) :: []) rfl rfl ?_
       refine W.front 6 (D' := (a28, true, oString (vr a29) (vi 0)) :: (a27, true, ar "[C" .char [(vi (z1 &&& (255 : Int32)))]) :: (a1, true, ar "[C" .char []) :: (a37, true, oTimeRange .null (vr a30)) :: (a31, true, ar "[B" .byte [(vi (z1 &&& (255 : Int32)).toInt8.toInt32)]) :: (a30, true, oString (vr a31) (vi 0)) :: (a29, false, ar "" .byte []) :: []) rfl rfl ?_
       refine W.front 6 (D' := (a29, false, ar "" .byte []) :: (a28, true, oString (vr a29) (vi 0)) :: (a27, true, ar "[C" .char [(vi (z1 &&& (255 : Int32)))]) :: (a1, true, ar "[C" .char []) :: (a37, true, oTimeRange .null (vr a30)) :: (a31, true, ar "[B" .byte [(vi (z1 &&& (255 : Int32)).toInt8.toInt32)]) :: (a30, true, oString (vr a31) (vi 0)) :: []) rfl rfl ?_
       refine W.front 6 (D' := (a30, true, oString (vr a31) (vi 0)) :: (a29, false, ar "" .byte []) :: (a28, true, oString (vr a29) (vi 0)) :: (a27, true, ar "[C" .char [(vi (z1 &&& (255 : Int32)))]) :: (a1, true, ar "[C" .char []) :: (a37, true, oTimeRange .null (vr a30)) :: (a31, true, ar "[B" .byte [(vi (z1 &&& (255 : Int32)).toInt8.toInt32)]) :: []) rfl rfl ?_
       refine W.front 6 (D' := (a31, true, ar "[B" .byte [(vi (z1 &&& (255 : Int32)).toInt8.toInt32)]) :: (a30, true, oString (vr a31) (vi 0)) :: (a29, false, ar "" .byte []) :: (a28, true, oString (vr a29) (vi 0)) :: (a27, true, ar "[C" .char [(vi (z1 &&& (255 : Int32)))]) :: (a1, true, ar "[C" .char []) :: (a37, true, oTimeRange .null (vr a30)) :: []) rfl rfl ?_
       exact W.mono (by decide) (by decide) (K36 (.val .null) a37 .null (Or.inr ⟨_, rfl, rfl⟩) rfl)
      ·
       have ih10 := f_ne h10
       refine W.aload (pc := 180) 14 at_180 rfl rfl ?_
       refine W.astore (pc := 182) (ls' := #[iv z0, iv z1, iv z2, iv 0, iv (z0 &&& (255 : Int32)), iv ((XT.ushr z0 (8 : Int32)) &&& (255 : Int32)), iv 1, iv (z1 &&& (255 : Int32)), iv ((XT.ushr z1 (8 : Int32)) &&& (255 : Int32)), rv a1, rv a27, rv a28, iv 0, iv ((XT.ushr z2 (1 : Int32)) &&& (3 : Int32)), rv a30, rv a30, uu, uu, uu]) at_182 rfl rfl ?_
       refine W.new (pc := 184) at_184 (w23 hw) (w24 hw) (w25 hw) (laTimeRange hw) (by decide) (by decide) (fun a38 => ?_)
       show W _ _ _ _ _ _ _ _ _ _ _ _ 187 _ [(vr a38)]
       refine W.dup (pc := 187) at_187 rfl ?_
       refine W.aload (pc := 188) 15 at_188 rfl rfl ?_
       refine W.aload (pc := 190) 14 at_190 rfl rfl ?_
       refine W.callI (pc := 192) (as := [(vr a30), (vr a30)]) 1 [(vr a38)] at_192 rfl (w26 hw) (w27 hw) (w25 hw) (w28 hw) (c29_init hw hs (p1 := a38) (p2 := a30) (p3 := a31) (x1 := (z1 &&& (255 : Int32)).toInt8.toInt32) (hx1 := (by have := rng32 z1; have := q255; have := am_255 z1; have := a_i2b (z1 &&& (255 : Int32)); omega)) (mp2 := m1) (mp3 := m0)) (by decide) pd_Ljava_lang_String_Ljava_lang_String__V rfl rfl rfl rfl (by decide) (fun v D' h => ?_)
       obtain ⟨rfl, rfl⟩ := h
       show W _ _ _ _ _ _ _ _ _ _ _ _ 195 _ [(vr a38)]
       refine W.astore (pc := 195) (ls' := #[iv z0, iv z1, iv z2, iv 0, iv (z0 &&& (255 : Int32)), iv ((XT.ushr z0 (8 : Int32)) &&& (255 : Int32)), iv 1, iv (z1 &&& (255 : Int32)), iv ((XT.ushr z1 (8 : Int32)) &&& (255 : Int32)), rv a1, rv a27, rv a28, iv 0, iv ((XT.ushr z2 (1 : Int32)) &&& (3 : Int32)), rv a30, rv a30, rv a38, uu, uu]) at_195 rfl rfl ?_
       refine W.front 6 (D' := (a1, true, ar "[C" .char []) :: (a38, true, oTimeRange (vr a30) (vr a30)) :: (a31, true, ar "[B" .byte [(vi (z1 &&& (255 : Int32)).toInt8.toInt32)]) :: (a30, true, oString (vr a31) (vi 0)) :: (a29, false, ar "" .byte []) :: (a28, true, oString (vr a29) (vi 0)) :: (a27, true, ar "[C" .char [(vi (z1 &&& (255 : Int32)))]) :: []) rfl rfl ?_
       refine W.front 6 (D' := (a27, true, ar "[C" .char [(vi (z1 &&& (255 : Int32)))]) :: (a1, true, ar "[C" .char []) :: (a38, true, oTimeRange (vr a30) (vr a30)) :: (a31, true, ar "[B" .byte [(vi (z1 &&& (255 : Int32)).toInt8.toInt32)]) :: (a30, true, oString (vr a31) (vi 0)) :: (a29, false, ar "" .byte []) :: (a28, true, oString (vr a29) (vi 0)) :: []) rfl rfl ?_
       refine W.front 6 (D' := (a28, true, oString (vr a29) (vi 0)) :: (a27, true, ar "[C" .char [(vi (z1 &&& (255 : Int32)))]) :: (a1, true, ar "[C" .char []) :: (a38, true, oTimeRange (vr a30) (vr a30)) :: (a31, true, ar "[B" .byte [(vi (z1 &&& (255 : Int32)).toInt8.toInt32)]) :: (a30, true, oString (vr a31) (vi 0)) :: (a29, false, ar "" .byte []) :: []) rfl rfl ?_
       refine W.front 6 (D' := (a29, false, ar "" .byte []) :: (a28, true, oString (vr a29) (vi 0)) :: (a27, true, ar "[C" .char [(vi (z1 &&& (255 : Int32)))]) :: (a1, true, ar "[C" .char []) :: (a38, true, oTimeRange (vr a30) (vr a30)) :: (a31, true, ar "[B" .byte [(vi (z1 &&& (255 : Int32)).toInt8.toInt32)]) :: (a30, true, oString (vr a31) (vi 0)) :: []) rfl rfl ?_
       refine W.front 6 (D' := (a30, true, oString (vr a31) (vi 0)) :: (a29, false, ar "" .byte []) :: (a28, true, oString (vr a29) (vi 0)) :: (a27, true, ar "[C" .char [(vi (z1 &&& (255 : Int32)))]) :: (a1, true, ar "[C" .char []) :: (a38, true, oTimeRange (vr a30) (vr a30)) :: (a31, true, ar "[B" .byte [(vi (z1 &&& (255 : Int32)).toInt8.toInt32)]) :: []) rfl rfl ?_
       refine W.front 6 (D' := (a31, true, ar "[B" .byte [(vi (z1 &&& (255 : Int32)).toInt8.toInt32)]) :: (a30, true, oString (vr a31) (vi 0)) :: (a29, false, ar "" .byte []) :: (a28, true, oString (vr a29) (vi 0)) :: (a27, true, ar "[C" .char [(vi (z1 &&& (255 : Int32)))]) :: (a1, true, ar "[C" .char []) :: (a38, true, oTimeRange (vr a30) (vr a30)) :: []) rfl rfl ?_
       exact W.mono (by decide) (by decide) (K36 (rv a30) a38 (vr a30) (Or.inr ⟨_, rfl, rfl⟩) rfl)
     ·
      have ih9 := f_ne h9
      refine W.ldcT (pc := 170) 0 (vs := []) rfl at_170 (w22 hw) (wS hw) m0 tx_ (by decide) (by decide) (by decide) (fun a39 a40 => ?_)
      show W _ _ _ _ _ _ _ _ _ _ _ _ 172 _ [(vr a39)]
      refine W.astore (pc := 172) (ls' := #[iv z0, iv z1, iv z2, iv 0, iv (z0 &&& (255 : Int32)), iv ((XT.ushr z0 (8 : Int32)) &&& (255 : Int32)), iv 1, iv (z1 &&& (255 : Int32)), iv ((XT.ushr z1 (8 : Int32)) &&& (255 : Int32)), rv a1, rv a27, rv a28, iv 0, iv ((XT.ushr z2 (1 : Int32)) &&& (3 : Int32)), rv a30, rv a39, uu, uu, uu]) at_172 rfl rfl ?_
      refine W.iload (pc := 174) at_174 rfl ?_
      refine W.iconst (pc := 176) (2) at_176 (by decide) ?_
      refine W.icmpY (pc := 177) 184 at_177 (y_ne (by have := rng32 z2; have := q1; have := aushr_1 z2; have := q3; have := am_3 (XT.ushr z2 (1 : Int32)); have := q2; omega)) (by decide) ?_
      refine W.new (pc := 184) at_184 (w23 hw) (w24 hw) (w25 hw) (laTimeRange hw) (by decide) (by decide) (fun a41 => ?_)
      show W _ _ _ _ _ _ _ _ _ _ _ _ 187 _ [(vr a41)]
      refine W.dup (pc := 187) at_187 rfl ?_
      refine W.aload (pc := 188) 15 at_188 rfl rfl ?_
      refine W.aload (pc := 190) 14 at_190 rfl rfl ?_
      refine W.callI (pc := 192) (as := [(vr a39), (vr a30)]) 1 [(vr a41)] at_192 rfl (w26 hw) (w27 hw) (w25 hw) (w28 hw) (c36_init hw hs (p1 := a41) (p2 := a39) (p3 := a30) (p4 := a40) (p5 := a31) (x1 := (z1 &&& (255 : Int32)).toInt8.toInt32) (hx1 := (by have := rng32 z1; have := q255; have := am_255 z1; have := a_i2b (z1 &&& (255 : Int32)); omega)) (mp2 := m0) (mp3 := m3) (mp4 := m1) (mp5 := m2)) (by decide) pd_Ljava_lang_String_Ljava_lang_String__V rfl rfl rfl rfl (by decide) (fun v D' h => ?_)
      obtain ⟨rfl, rfl⟩ := h
      show W _ _ _ _ _ _ _ _ _ _ _ _ 195 _ [(vr a41)]
      refine W.astore (pc := 195) (ls' := #[iv z0, iv z1, iv z2, iv 0, iv (z0 &&& (255 : Int32)), iv ((XT.ushr z0 (8 : Int32)) &&& (255 : Int32)), iv 1, iv (z1 &&& (255 : Int32)), iv ((XT.ushr z1 (8 : Int32)) &&& (255 : Int32)), rv a1, rv a27, rv a28, iv 0, iv ((XT.ushr z2 (1 : Int32)) &&& (3 : Int32)), rv a30, rv a39, rv a41, uu, uu]) at_195 rfl rfl ?_
      refine W.front 8 (D' := (a1, true, ar "[C" .char []) :: (a41, true, oTimeRange (vr a39) (vr a30)) :: (a39, false, oString (vr a40) (vi 0)) :: (a40, false, ar "" .byte []) :: (a31, true, ar "[B" .byte [(vi (z1 &&& (255 : Int32)).toInt8.toInt32)]) :: (a30, true, oString (vr a31) (vi 0)) :: (a29, false, ar "" .byte []) :: (a28, true, oString (vr a29) (vi 0)) :: (a27, true, ar "[C" .char [(vi (z1 &&& (255 : Int32)))]) :: []) rfl rfl ?_
      refine W.front 8 (D' := (a27, true, ar "[C" .char [(vi (z1 &&& (255 : Int32)))]) :: (a1, true, ar "[C" .char []) :: (a41, true, oTimeRange (vr a39) (vr a30)) :: (a39, false, oString (vr a40) (vi 0)) :: (a40, false, ar "" .byte []) :: (a31, true, ar "[B" .byte [(vi (z1 &&& (255 : Int32)).toInt8.toInt32)]) :: (a30, true, oString (vr a31) (vi 0)) :: (a29, false, ar "" .byte []) :: (a28, true, oString (vr a29) (vi 0)) :: []) rfl rfl ?_
      refine W.front 8 (D' := (a28, true, oString (vr a29) (vi 0)) :: (a27, true, ar "[C" .char [(vi (z1 &&& (255 : Int32)))]) :: (a1, true, ar "[C" .char []) :: (a41, true, oTimeRange (vr a39) (vr a30)) :: (a39, false, oString (vr a40) (vi 0)) :: (a40, false, ar "" .byte []) :: (a31, true, ar "[B" .byte [(vi (z1 &&& (255 : Int32)).toInt8.toInt32)]) :: (a30, true, oString (vr a31) (vi 0)) :: (a29, false, ar "" .byte []) :: []) rfl rfl ?_
      refine W.front 8 (D' := (a29, false, ar "" .byte []) :: (a28, true, oString (vr a29) (vi 0)) :: (a27, true, ar "[C" .char [(vi (z1 &&& (255 : Int32)))]) :: (a1, true, ar "[C" .char []) :: (a41, true, oTimeRange (vr a39) (vr a30)) :: (a39, false, oString (vr a40) (vi 0)) :: (a40, false, ar "" .byte []) :: (a31, true, ar "[B" .byte [(vi (z1 &&& (255 : Int32)).toInt8.toInt32)]) :: (a30, true, oString (vr a31) (vi 0)) :: []) rfl rfl ?_
      refine W.front 8 (D' := (a30, true, oString (vr a31) (vi 0)) :: (a29, false, ar "" .byte []) :: (a28, true, oString (vr a29) (vi 0)) :: (a27, true, ar "[C" .char [(vi (z1 &&& (255 : Int32)))]) :: (a1, true, ar "[C" .char []) :: (a41, true, oTimeRange (vr a39) (vr a30)) :: (a39, false, oString (vr a40) (vi 0)) :: (a40, false, ar "" .byte []) :: (a31, true, ar "[B" .byte [(vi (z1 &&& (255 : Int32)).toInt8.toInt32)]) :: []) rfl rfl ?_
      refine W.front 8 (D' := (a31, true, ar "[B" .byte [(vi (z1 &&& (255 : Int32)).toInt8.toInt32)]) :: (a30, true, oString (vr a31) (vi 0)) :: (a29, false, ar "" .byte []) :: (a28, true, oString (vr a29) (vi 0)) :: (a27, true, ar "[C" .char [(vi (z1 &&& (255 : Int32)))]) :: (a1, true, ar "[C" .char []) :: (a41, true, oTimeRange (vr a39) (vr a30)) :: (a39, false, oString (vr a40) (vi 0)) :: (a40, false, ar "" .byte []) :: []) rfl rfl ?_
      refine W.heap (fun _ _ H => H.sub ((((((((((List.Sublist.refl _).cons _).cons _).cons_cons _).cons_cons _).cons_cons _).cons_cons _).cons_cons _).cons_cons _).cons_cons _)) ?_
      exact W.mono (by decide) (by decide) (K36 (rv a39) a41 (vr a39) (Or.inr ⟨_, rfl, rfl⟩) rfl)
    ·
     have ih8 := f_eq h8
     refine W.iconst (pc := 127) (1) at_127 (by decide) ?_
     refine W.goto (pc := 128) 132 at_128 (by decide) ?_
     refine W.istore (pc := 132) (ls' := #[iv z0, iv z1, iv z2, iv 0, iv (z0 &&& (255 : Int32)), iv ((XT.ushr z0 (8 : Int32)) &&& (255 : Int32)), iv 1, iv (z1 &&& (255 : Int32)), iv ((XT.ushr z1 (8 : Int32)) &&& (255 : Int32)), rv a1, rv a27, rv a28, iv 1, uu, uu, uu, uu, uu, uu]) at_132 rfl ?_
     refine W.iloadN (pc := 134) at_134 rfl ?_
     refine W.iconst (pc := 135) (1) at_135 (by decide) ?_
     refine W.iushr (pc := 136) at_136 ?_
     refine W.iconst (pc := 137) (3) at_137 (by decide) ?_
     refine W.iand (pc := 138) at_138 ?_
     refine W.istore (pc := 139) (ls' := #[iv z0, iv z1, iv z2, iv 0, iv (z0 &&& (255 : Int32)), iv ((XT.ushr z0 (8 : Int32)) &&& (255 : Int32)), iv 1, iv (z1 &&& (255 : Int32)), iv ((XT.ushr z1 (8 : Int32)) &&& (255 : Int32)), rv a1, rv a27, rv a28, iv 1, iv ((XT.ushr z2 (1 : Int32)) &&& (3 : Int32)), uu, uu, uu, uu, uu]) at_139 rfl ?_
     refine W.iload (pc := 141) at_141 rfl ?_
     refine W.ifN (pc := 143) at_143 (n_eq (by decide)) ?_
     refine W.aconstNull (pc := 146) at_146 ?_
     refine W.goto (pc := 147) 159 at_147 (by decide) ?_
     refine W.astore (pc := 159) (ls' := #[iv z0, iv z1, iv z2, iv 0, iv (z0 &&& (255 : Int32)), iv ((XT.ushr z0 (8 : Int32)) &&& (255 : Int32)), iv 1, iv (z1 &&& (255 : Int32)), iv ((XT.ushr z1 (8 : Int32)) &&& (255 : Int32)), rv a1, rv a27, rv a28, iv 1, iv ((XT.ushr z2 (1 : Int32)) &&& (3 : Int32)), .val .null, uu, uu, uu, uu]) at_159 rfl rfl ?_
     have K46 : ∀ (t43 : Slot) (a44 : Addr) (u45 : Value), SlOk t43 → u45.isRef = true → W Z EL room_1 "com/example/chainvouch/chainvouch/chain/TimeRangeStartsAfterPinLaw" "law" code maxLocals ret (fun v _ => v = some (.int 1)) ((a29, false, ar "" .byte []) :: (a28, true, oString (vr a29) (vi 0)) :: (a27, true, ar "[C" .char [(vi (z1 &&& (255 : Int32)))]) :: (a1, true, ar "[C" .char []) :: (a44, true, oTimeRange u45 .null) :: []) 10 19 197 #[iv z0, iv z1, iv z2, iv 0, iv (z0 &&& (255 : Int32)), iv ((XT.ushr z0 (8 : Int32)) &&& (255 : Int32)), iv 1, iv (z1 &&& (255 : Int32)), iv ((XT.ushr z1 (8 : Int32)) &&& (255 : Int32)), rv a1, rv a27, rv a28, iv 1, iv ((XT.ushr z2 (1 : Int32)) &&& (3 : Int32)), .val .null, t43, rv a44, uu, uu] [] := by
      intro t43 a44 u45 ht43 hu45
      refine W.aload (pc := 197) 16 at_197 rfl rfl ?_
      refine W.aload (pc := 199) 11 at_199 rfl rfl ?_
      refine W.callV (pc := 201) (as := [(vr a28)]) 0 [] at_201 (w60 hw) (w61 hw) (w63 hw) (w63 hw) (w62 hw) (w25 hw) (w64 hw) (Hp.exa m4) (c22_startsAfter hw hs (p1 := a44) (p2 := a28) (p3 := a29) (u1 := u45) (hu1 := hu45) (mp1 := m4)) (by decide) pd_Ljava_lang_String__Z rfl rfl rfl rfl (by decide) (fun v D' h => ?_)
      obtain ⟨rfl, rfl⟩ := h
      show W _ _ _ _ _ _ _ _ _ _ _ _ 204 _ [(vi 0)]
      refine W.istore (pc := 204) (ls' := #[iv z0, iv z1, iv z2, iv 0, iv (z0 &&& (255 : Int32)), iv ((XT.ushr z0 (8 : Int32)) &&& (255 : Int32)), iv 1, iv (z1 &&& (255 : Int32)), iv ((XT.ushr z1 (8 : Int32)) &&& (255 : Int32)), rv a1, rv a27, rv a28, iv 1, iv ((XT.ushr z2 (1 : Int32)) &&& (3 : Int32)), .val .null, t43, rv a44, iv 0, uu]) at_204 rfl ?_
      refine W.iload (pc := 206) at_206 rfl ?_
      refine W.ifY (pc := 208) 232 at_208 (y_ne (by decide)) (by decide) ?_
      refine W.iconst (pc := 232) (0) at_232 (by decide) ?_
      refine W.istore (pc := 233) (ls' := #[iv z0, iv z1, iv z2, iv 0, iv (z0 &&& (255 : Int32)), iv ((XT.ushr z0 (8 : Int32)) &&& (255 : Int32)), iv 1, iv (z1 &&& (255 : Int32)), iv ((XT.ushr z1 (8 : Int32)) &&& (255 : Int32)), rv a1, rv a27, rv a28, iv 1, iv ((XT.ushr z2 (1 : Int32)) &&& (3 : Int32)), .val .null, t43, rv a44, iv 0, iv 0]) at_233 rfl ?_
      refine W.iload (pc := 235) at_235 rfl ?_
      refine W.iload (pc := 237) at_237 rfl ?_
      refine W.icmpN (pc := 239) at_239 (n_ne (by decide)) ?_
      refine W.iconst (pc := 242) (1) at_242 (by decide) ?_
      refine W.goto (pc := 243) 247 at_243 (by decide) ?_
      exact W.ireturn (pc := 247) at_247 rfl (Or.inr (Or.inl rfl)) (nw_bool (by decide)) (by decide) rfl
     refine W.aconstNull (pc := 161) at_161 ?_
     refine W.astore (pc := 162) (ls' := #[iv z0, iv z1, iv z2, iv 0, iv (z0 &&& (255 : Int32)), iv ((XT.ushr z0 (8 : Int32)) &&& (255 : Int32)), iv 1, iv (z1 &&& (255 : Int32)), iv ((XT.ushr z1 (8 : Int32)) &&& (255 : Int32)), rv a1, rv a27, rv a28, iv 1, iv ((XT.ushr z2 (1 : Int32)) &&& (3 : Int32)), .val .null, .val .null, uu, uu, uu]) at_162 rfl rfl ?_
     refine W.iload (pc := 164) at_164 rfl ?_
     refine W.iconst (pc := 166) (1) at_166 (by decide) ?_
     refine W.icmp (pc := 167) 174 at_167 (by decide) (fun h11 => ?_) (fun h11 => ?_)
     ·
      have ih11 := t_ne h11
      refine W.iload (pc := 174) at_174 rfl ?_
      refine W.iconst (pc := 176) (2) at_176 (by decide) ?_
      refine W.icmp (pc := 177) 184 at_177 (by decide) (fun h12 => ?_) (fun h12 => ?_)
      ·
       have ih12 := t_ne h12
       refine W.new (pc := 184) at_184 (w23 hw) (w24 hw) (w25 hw) (laTimeRange hw) (by decide) (by decide) (fun a47 => ?_)
       show W _ _ _ _ _ _ _ _ _ _ _ _ 187 _ [(vr a47)]
       refine W.dup (pc := 187) at_187 rfl ?_
       refine W.aload (pc := 188) 15 at_188 rfl rfl ?_
       refine W.aload (pc := 190) 14 at_190 rfl rfl ?_
       refine W.callI (pc := 192) (as := [.null, .null]) 1 [(vr a47)] at_192 rfl (w26 hw) (w27 hw) (w25 hw) (w28 hw) (c20_init hw hs (p1 := a47)) (by decide) pd_Ljava_lang_String_Ljava_lang_String__V rfl rfl rfl rfl (by decide) (fun v D' h => ?_)
       obtain ⟨rfl, rfl⟩ := h
       show W _ _ _ _ _ _ _ _ _ _ _ _ 195 _ [(vr a47)]
       refine W.astore (pc := 195) (ls' := #[iv z0, iv z1, iv z2, iv 0, iv (z0 &&& (255 : Int32)), iv ((XT.ushr z0 (8 : Int32)) &&& (255 : Int32)), iv 1, iv (z1 &&& (255 : Int32)), iv ((XT.ushr z1 (8 : Int32)) &&& (255 : Int32)), rv a1, rv a27, rv a28, iv 1, iv ((XT.ushr z2 (1 : Int32)) &&& (3 : Int32)), .val .null, .val .null, rv a47, uu, uu]) at_195 rfl rfl ?_
       refine W.front 4 (D' := (a1, true, ar "[C" .char []) :: (a47, true, oTimeRange .null .null) :: (a29, false, ar "" .byte []) :: (a28, true, oString (vr a29) (vi 0)) :: (a27, true, ar "[C" .char [(vi (z1 &&& (255 : Int32)))]) :: []) rfl rfl ?_
       refine W.front 4 (D' := (a27, true, ar "[C" .char [(vi (z1 &&& (255 : Int32)))]) :: (a1, true, ar "[C" .char []) :: (a47, true, oTimeRange .null .null) :: (a29, false, ar "" .byte []) :: (a28, true, oString (vr a29) (vi 0)) :: []) rfl rfl ?_
       refine W.front 4 (D' := (a28, true, oString (vr a29) (vi 0)) :: (a27, true, ar "[C" .char [(vi (z1 &&& (255 : Int32)))]) :: (a1, true, ar "[C" .char []) :: (a47, true, oTimeRange .null .null) :: (a29, false, ar "" .byte []) :: []) rfl rfl ?_
       refine W.front 4 (D' := (a29, false, ar "" .byte []) :: (a28, true, oString (vr a29) (vi 0)) :: (a27, true, ar "[C" .char [(vi (z1 &&& (255 : Int32)))]) :: (a1, true, ar "[C" .char []) :: (a47, true, oTimeRange .null .null) :: []) rfl rfl ?_
       exact W.mono (by decide) (by decide) (K46 (.val .null) a47 .null (Or.inr ⟨_, rfl, rfl⟩) rfl)
      ·
       have ih12 := f_ne h12
       refine W.aload (pc := 180) 14 at_180 rfl rfl ?_
       refine W.astore (pc := 182) (ls' := #[iv z0, iv z1, iv z2, iv 0, iv (z0 &&& (255 : Int32)), iv ((XT.ushr z0 (8 : Int32)) &&& (255 : Int32)), iv 1, iv (z1 &&& (255 : Int32)), iv ((XT.ushr z1 (8 : Int32)) &&& (255 : Int32)), rv a1, rv a27, rv a28, iv 1, iv ((XT.ushr z2 (1 : Int32)) &&& (3 : Int32)), .val .null, .val .null, uu, uu, uu]) at_182 rfl rfl ?_
       refine W.new (pc := 184) at_184 (w23 hw) (w24 hw) (w25 hw) (laTimeRange hw) (by decide) (by decide) (fun a48 => ?_)
       show W _ _ _ _ _ _ _ _ _ _ _ _ 187 _ [(vr a48)]
       refine W.dup (pc := 187) at_187 rfl ?_
       refine W.aload (pc := 188) 15 at_188 rfl rfl ?_
       refine W.aload (pc := 190) 14 at_190 rfl rfl ?_
       refine W.callI (pc := 192) (as := [.null, .null]) 1 [(vr a48)] at_192 rfl (w26 hw) (w27 hw) (w25 hw) (w28 hw) (c20_init hw hs (p1 := a48)) (by decide) pd_Ljava_lang_String_Ljava_lang_String__V rfl rfl rfl rfl (by decide) (fun v D' h => ?_)
       obtain ⟨rfl, rfl⟩ := h
       show W _ _ _ _ _ _ _ _ _ _ _ _ 195 _ [(vr a48)]
       refine W.astore (pc := 195) (ls' := #[iv z0, iv z1, iv z2, iv 0, iv (z0 &&& (255 : Int32)), iv ((XT.ushr z0 (8 : Int32)) &&& (255 : Int32)), iv 1, iv (z1 &&& (255 : Int32)), iv ((XT.ushr z1 (8 : Int32)) &&& (255 : Int32)), rv a1, rv a27, rv a28, iv 1, iv ((XT.ushr z2 (1 : Int32)) &&& (3 : Int32)), .val .null, .val .null, rv a48, uu, uu]) at_195 rfl rfl ?_
       refine W.front 4 (D' := (a1, true, ar "[C" .char []) :: (a48, true, oTimeRange .null .null) :: (a29, false, ar "" .byte []) :: (a28, true, oString (vr a29) (vi 0)) :: (a27, true, ar "[C" .char [(vi (z1 &&& (255 : Int32)))]) :: []) rfl rfl ?_
       refine W.front 4 (D' := (a27, true, ar "[C" .char [(vi (z1 &&& (255 : Int32)))]) :: (a1, true, ar "[C" .char []) :: (a48, true, oTimeRange .null .null) :: (a29, false, ar "" .byte []) :: (a28, true, oString (vr a29) (vi 0)) :: []) rfl rfl ?_
       refine W.front 4 (D' := (a28, true, oString (vr a29) (vi 0)) :: (a27, true, ar "[C" .char [(vi (z1 &&& (255 : Int32)))]) :: (a1, true, ar "[C" .char []) :: (a48, true, oTimeRange .null .null) :: (a29, false, ar "" .byte []) :: []) rfl rfl ?_
       refine W.front 4 (D' := (a29, false, ar "" .byte []) :: (a28, true, oString (vr a29) (vi 0)) :: (a27, true, ar "[C" .char [(vi (z1 &&& (255 : Int32)))]) :: (a1, true, ar "[C" .char []) :: (a48, true, oTimeRange .null .null) :: []) rfl rfl ?_
       exact W.mono (by decide) (by decide) (K46 (.val .null) a48 .null (Or.inr ⟨_, rfl, rfl⟩) rfl)
     ·
      have ih11 := f_ne h11
      refine W.ldcT (pc := 170) 0 (vs := []) rfl at_170 (w22 hw) (wS hw) m0 tx_ (by decide) (by decide) (by decide) (fun a49 a50 => ?_)
      show W _ _ _ _ _ _ _ _ _ _ _ _ 172 _ [(vr a49)]
      refine W.astore (pc := 172) (ls' := #[iv z0, iv z1, iv z2, iv 0, iv (z0 &&& (255 : Int32)), iv ((XT.ushr z0 (8 : Int32)) &&& (255 : Int32)), iv 1, iv (z1 &&& (255 : Int32)), iv ((XT.ushr z1 (8 : Int32)) &&& (255 : Int32)), rv a1, rv a27, rv a28, iv 1, iv ((XT.ushr z2 (1 : Int32)) &&& (3 : Int32)), .val .null, rv a49, uu, uu, uu]) at_172 rfl rfl ?_
      refine W.iload (pc := 174) at_174 rfl ?_
      refine W.iconst (pc := 176) (2) at_176 (by decide) ?_
      refine W.icmpY (pc := 177) 184 at_177 (y_ne (by have := rng32 z2; have := q1; have := aushr_1 z2; have := q3; have := am_3 (XT.ushr z2 (1 : Int32)); have := q2; omega)) (by decide) ?_
      refine W.new (pc := 184) at_184 (w23 hw) (w24 hw) (w25 hw) (laTimeRange hw) (by decide) (by decide) (fun a51 => ?_)
      show W _ _ _ _ _ _ _ _ _ _ _ _ 187 _ [(vr a51)]
      refine W.dup (pc := 187) at_187 rfl ?_
      refine W.aload (pc := 188) 15 at_188 rfl rfl ?_
      refine W.aload (pc := 190) 14 at_190 rfl rfl ?_
      refine W.callI (pc := 192) (as := [(vr a49), .null]) 1 [(vr a51)] at_192 rfl (w26 hw) (w27 hw) (w25 hw) (w28 hw) (c21_init hw hs (p1 := a51) (p2 := a49) (p3 := a50)) (by decide) pd_Ljava_lang_String_Ljava_lang_String__V rfl rfl rfl rfl (by decide) (fun v D' h => ?_)
      obtain ⟨rfl, rfl⟩ := h
      show W _ _ _ _ _ _ _ _ _ _ _ _ 195 _ [(vr a51)]
      refine W.astore (pc := 195) (ls' := #[iv z0, iv z1, iv z2, iv 0, iv (z0 &&& (255 : Int32)), iv ((XT.ushr z0 (8 : Int32)) &&& (255 : Int32)), iv 1, iv (z1 &&& (255 : Int32)), iv ((XT.ushr z1 (8 : Int32)) &&& (255 : Int32)), rv a1, rv a27, rv a28, iv 1, iv ((XT.ushr z2 (1 : Int32)) &&& (3 : Int32)), .val .null, rv a49, rv a51, uu, uu]) at_195 rfl rfl ?_
      refine W.front 6 (D' := (a1, true, ar "[C" .char []) :: (a51, true, oTimeRange (vr a49) .null) :: (a49, false, oString (vr a50) (vi 0)) :: (a50, false, ar "" .byte []) :: (a29, false, ar "" .byte []) :: (a28, true, oString (vr a29) (vi 0)) :: (a27, true, ar "[C" .char [(vi (z1 &&& (255 : Int32)))]) :: []) rfl rfl ?_
      refine W.front 6 (D' := (a27, true, ar "[C" .char [(vi (z1 &&& (255 : Int32)))]) :: (a1, true, ar "[C" .char []) :: (a51, true, oTimeRange (vr a49) .null) :: (a49, false, oString (vr a50) (vi 0)) :: (a50, false, ar "" .byte []) :: (a29, false, ar "" .byte []) :: (a28, true, oString (vr a29) (vi 0)) :: []) rfl rfl ?_
      refine W.front 6 (D' := (a28, true, oString (vr a29) (vi 0)) :: (a27, true, ar "[C" .char [(vi (z1 &&& (255 : Int32)))]) :: (a1, true, ar "[C" .char []) :: (a51, true, oTimeRange (vr a49) .null) :: (a49, false, oString (vr a50) (vi 0)) :: (a50, false, ar "" .byte []) :: (a29, false, ar "" .byte []) :: []) rfl rfl ?_
      refine W.front 6 (D' := (a29, false, ar "" .byte []) :: (a28, true, oString (vr a29) (vi 0)) :: (a27, true, ar "[C" .char [(vi (z1 &&& (255 : Int32)))]) :: (a1, true, ar "[C" .char []) :: (a51, true, oTimeRange (vr a49) .null) :: (a49, false, oString (vr a50) (vi 0)) :: (a50, false, ar "" .byte []) :: []) rfl rfl ?_
      refine W.heap (fun _ _ H => H.sub ((((((((List.Sublist.refl _).cons _).cons _).cons_cons _).cons_cons _).cons_cons _).cons_cons _).cons_cons _)) ?_
      exact W.mono (by decide) (by decide) (K46 (rv a49) a51 (vr a49) (Or.inr ⟨_, rfl, rfl⟩) rfl)
   ·
    have ie2 := i_eq e2
    rw [e2]
    show W _ _ _ _ _ _ _ _ _ ((a1, true, ar "[C" .char []) :: []) _ _ 80 #[iv z0, iv z1, iv z2, iv 0, iv (z0 &&& (255 : Int32)), iv ((XT.ushr z0 (8 : Int32)) &&& (255 : Int32)), iv 2, iv (z1 &&& (255 : Int32)), iv ((XT.ushr z1 (8 : Int32)) &&& (255 : Int32)), rv a1, uu, uu, uu, uu, uu, uu, uu, uu, uu] [(vi 2)]
    refine W.newarr (pc := 80) 2 (ad := "[C") (ty := .char) at_80 rfl (w0 hw) ix2 rfl (by decide) (by decide) (fun a52 => ?_)
    show W _ _ _ _ _ _ _ _ _ _ _ _ 82 _ [(vr a52)]
    refine W.astore (pc := 82) (ls' := #[iv z0, iv z1, iv z2, iv 0, iv (z0 &&& (255 : Int32)), iv ((XT.ushr z0 (8 : Int32)) &&& (255 : Int32)), iv 2, iv (z1 &&& (255 : Int32)), iv ((XT.ushr z1 (8 : Int32)) &&& (255 : Int32)), rv a1, rv a52, uu, uu, uu, uu, uu, uu, uu, uu]) at_82 rfl rfl ?_
    refine W.iload (pc := 84) at_84 rfl ?_
    refine W.iconst (pc := 86) (1) at_86 (by decide) ?_
    refine W.icmpN (pc := 87) at_87 (n_lt (by decide)) ?_
    refine W.aload (pc := 90) 10 at_90 rfl rfl ?_
    refine W.iconst (pc := 92) (0) at_92 (by decide) ?_
    refine W.iload (pc := 93) at_93 rfl ?_
    refine W.i2cK (pc := 95) (z1 &&& (255 : Int32)) at_95 (z_i2c (by have := rng32 z1; have := q255; have := am_255 z1; omega)) ?_
    refine W.castore (pc := 96) (D' := (a52, true, ar "[C" .char [(vi (z1 &&& (255 : Int32))), (vi 0)]) :: (a1, true, ar "[C" .char []) :: []) 0 0 at_96 rfl ix0 (Nat.le_of_ble_eq_true rfl) (z_narC (by have := rng32 z1; have := q255; have := am_255 z1; omega)) rfl ?_
    refine W.iload (pc := 97) at_97 rfl ?_
    refine W.iconst (pc := 99) (2) at_99 (by decide) ?_
    refine W.icmpN (pc := 100) at_100 (n_lt (by decide)) ?_
    refine W.aload (pc := 103) 10 at_103 rfl rfl ?_
    refine W.iconst (pc := 105) (1) at_105 (by decide) ?_
    refine W.iload (pc := 106) at_106 rfl ?_
    refine W.i2cK (pc := 108) ((XT.ushr z1 (8 : Int32)) &&& (255 : Int32)) at_108 (z_i2c (by have := rng32 z1; have := q8; have := aushr_8 z1; have := q255; have := am_255 (XT.ushr z1 (8 : Int32)); omega)) ?_
    refine W.castore (pc := 109) (D' := (a52, true, ar "[C" .char [(vi (z1 &&& (255 : Int32))), (vi ((XT.ushr z1 (8 : Int32)) &&& (255 : Int32)))]) :: (a1, true, ar "[C" .char []) :: []) 0 1 at_109 rfl ix1 (Nat.le_of_ble_eq_true rfl) (z_narC (by have := rng32 z1; have := q8; have := aushr_8 z1; have := q255; have := am_255 (XT.ushr z1 (8 : Int32)); omega)) rfl ?_
    refine W.new (pc := 110) at_110 (w1 hw) (w2 hw) (w3 hw) (laString hw) (by decide) (by decide) (fun a53 => ?_)
    show W _ _ _ _ _ _ _ _ _ _ _ _ 113 _ [(vr a53)]
    refine W.dup (pc := 113) at_113 rfl ?_
    refine W.aload (pc := 114) 9 at_114 rfl rfl ?_
    refine W.callI (pc := 116) (as := [(vr a1)]) 1 [(vr a53)] at_116 rfl (w4 hw) (w5 hw) (w3 hw) (w6 hw) (c1_init hw hs (p1 := a53) (p2 := a1) (mp2 := m1)) (by decide) pd__C_V rfl rfl rfl rfl (by decide) (fun v D' h => ?_)
    obtain ⟨a54, rfl, rfl⟩ := h
    show W _ _ _ _ _ _ _ _ _ _ _ _ 119 _ [(vr a53)]
    refine W.astore (pc := 119) (ls' := #[iv z0, iv z1, iv z2, iv 0, iv (z0 &&& (255 : Int32)), iv ((XT.ushr z0 (8 : Int32)) &&& (255 : Int32)), iv 2, iv (z1 &&& (255 : Int32)), iv ((XT.ushr z1 (8 : Int32)) &&& (255 : Int32)), rv a1, rv a52, rv a53, uu, uu, uu, uu, uu, uu, uu]) at_119 rfl rfl ?_
    refine W.iloadN (pc := 121) at_121 rfl ?_
    refine W.iconst (pc := 122) (1) at_122 (by decide) ?_
    refine W.iand (pc := 123) at_123 ?_
    refine W.if (pc := 124) 131 at_124 (by decide) (fun h13 => ?_) (fun h13 => ?_)
    ·
     have ih13 := t_eq h13
     refine W.iconst (pc := 131) (0) at_131 (by decide) ?_
     refine W.istore (pc := 132) (ls' := #[iv z0, iv z1, iv z2, iv 0, iv (z0 &&& (255 : Int32)), iv ((XT.ushr z0 (8 : Int32)) &&& (255 : Int32)), iv 2, iv (z1 &&& (255 : Int32)), iv ((XT.ushr z1 (8 : Int32)) &&& (255 : Int32)), rv a1, rv a52, rv a53, iv 0, uu, uu, uu, uu, uu, uu]) at_132 rfl ?_
     refine W.iloadN (pc := 134) at_134 rfl ?_
     refine W.iconst (pc := 135) (1) at_135 (by decide) ?_
     refine W.iushr (pc := 136) at_136 ?_
     refine W.iconst (pc := 137) (3) at_137 (by decide) ?_
     refine W.iand (pc := 138) at_138 ?_
     refine W.istore (pc := 139) (ls' := #[iv z0, iv z1, iv z2, iv 0, iv (z0 &&& (255 : Int32)), iv ((XT.ushr z0 (8 : Int32)) &&& (255 : Int32)), iv 2, iv (z1 &&& (255 : Int32)), iv ((XT.ushr z1 (8 : Int32)) &&& (255 : Int32)), rv a1, rv a52, rv a53, iv 0, iv ((XT.ushr z2 (1 : Int32)) &&& (3 : Int32)), uu, uu, uu, uu, uu]) at_139 rfl ?_
     refine W.iload (pc := 141) at_141 rfl ?_
     refine W.ifY (pc := 143) 150 at_143 (y_eq (by decide)) (by decide) ?_
     refine W.new (pc := 150) at_150 (w1 hw) (w2 hw) (w3 hw) (laString hw) (by decide) (by decide) (fun a55 => ?_)
     show W _ _ _ _ _ _ _ _ _ _ _ _ 153 _ [(vr a55)]
     refine W.dup (pc := 153) at_153 rfl ?_
     refine W.aload (pc := 154) 10 at_154 rfl rfl ?_
     refine W.callI (pc := 156) (as := [(vr a52)]) 1 [(vr a55)] at_156 rfl (w4 hw) (w5 hw) (w3 hw) (w6 hw) (c44_init hw hs (p1 := a55) (p2 := a52) (x1 := (z1 &&& (255 : Int32))) (hx1 := (by have := rng32 z1; have := q255; have := am_255 z1; omega)) (x2 := ((XT.ushr z1 (8 : Int32)) &&& (255 : Int32))) (hx2 := (by have := rng32 z1; have := q8; have := aushr_8 z1; have := q255; have := am_255 (XT.ushr z1 (8 : Int32)); omega)) (mp2 := m2)) (by decide) pd__C_V rfl rfl rfl rfl (by decide) (fun v D' h => ?_)
     obtain ⟨a56, rfl, rfl⟩ := h
     show W _ _ _ _ _ _ _ _ _ _ _ _ 159 _ [(vr a55)]
     refine W.astore (pc := 159) (ls' := #[iv z0, iv z1, iv z2, iv 0, iv (z0 &&& (255 : Int32)), iv ((XT.ushr z0 (8 : Int32)) &&& (255 : Int32)), iv 2, iv (z1 &&& (255 : Int32)), iv ((XT.ushr z1 (8 : Int32)) &&& (255 : Int32)), rv a1, rv a52, rv a53, iv 0, iv ((XT.ushr z2 (1 : Int32)) &&& (3 : Int32)), rv a55, uu, uu, uu, uu]) at_159 rfl rfl ?_
     have K61 : ∀ (t58 : Slot) (a59 : Addr) (u60 : Value), SlOk t58 → u60.isRef = true → W Z EL room_1 "com/example/chainvouch/chainvouch/chain/TimeRangeStartsAfterPinLaw" "law" code maxLocals ret (fun v _ => v = some (.int 1)) ((a56, true, ar "[B" .byte [(vi (z1 &&& (255 : Int32)).toInt8.toInt32), (vi ((XT.ushr z1 (8 : Int32)) &&& (255 : Int32)).toInt8.toInt32)]) :: (a55, true, oString (vr a56) (vi 0)) :: (a54, false, ar "" .byte []) :: (a53, true, oString (vr a54) (vi 0)) :: (a52, true, ar "[C" .char [(vi (z1 &&& (255 : Int32))), (vi ((XT.ushr z1 (8 : Int32)) &&& (255 : Int32)))]) :: (a1, true, ar "[C" .char []) :: (a59, true, oTimeRange u60 (vr a55)) :: []) 12 26 197 #[iv z0, iv z1, iv z2, iv 0, iv (z0 &&& (255 : Int32)), iv ((XT.ushr z0 (8 : Int32)) &&& (255 : Int32)), iv 2, iv (z1 &&& (255 : Int32)), iv ((XT.ushr z1 (8 : Int32)) &&& (255 : Int32)), rv a1, rv a52, rv a53, iv 0, iv ((XT.ushr z2 (1 : Int32)) &&& (3 : Int32)), rv a55, t58, rv a59, uu, uu] [] := by
      intro t58 a59 u60 ht58 hu60
      refine W.aload (pc := 197) 16 at_197 rfl rfl ?_
      refine W.aload (pc := 199) 11 at_199 rfl rfl ?_
      refine W.callV (pc := 201) (as := [(vr a53)]) 0 [] at_201 (w60 hw) (w61 hw) (w63 hw) (w63 hw) (w62 hw) (w25 hw) (w64 hw) (Hp.exa m6) (c63_startsAfter hw hs (p1 := a59) (p2 := a53) (p3 := a55) (p4 := a54) (p5 := a56) (x1 := (z1 &&& (255 : Int32)).toInt8.toInt32) (hx1 := (by have := rng32 z1; have := q255; have := am_255 z1; have := a_i2b (z1 &&& (255 : Int32)); omega)) (x2 := ((XT.ushr z1 (8 : Int32)) &&& (255 : Int32)).toInt8.toInt32) (hx2 := (by have := rng32 z1; have := q8; have := aushr_8 z1; have := q255; have := am_255 (XT.ushr z1 (8 : Int32)); have := a_i2b ((XT.ushr z1 (8 : Int32)) &&& (255 : Int32)); omega)) (u1 := u60) (hu1 := hu60) (mp1 := m6) (mp2 := m3) (mp3 := m1) (mp4 := m2) (mp5 := m0)) (by decide) pd_Ljava_lang_String__Z rfl rfl rfl rfl (by decide) (fun v D' h => ?_)
      obtain ⟨rfl, rfl⟩ := h
      show W _ _ _ _ _ _ _ _ _ _ _ _ 204 _ [(vi 0)]
      refine W.istore (pc := 204) (ls' := #[iv z0, iv z1, iv z2, iv 0, iv (z0 &&& (255 : Int32)), iv ((XT.ushr z0 (8 : Int32)) &&& (255 : Int32)), iv 2, iv (z1 &&& (255 : Int32)), iv ((XT.ushr z1 (8 : Int32)) &&& (255 : Int32)), rv a1, rv a52, rv a53, iv 0, iv ((XT.ushr z2 (1 : Int32)) &&& (3 : Int32)), rv a55, t58, rv a59, iv 0, uu]) at_204 rfl ?_
      refine W.iload (pc := 206) at_206 rfl ?_
      refine W.ifN (pc := 208) at_208 (n_ne (by decide)) ?_
      refine W.iloadN (pc := 211) at_211 rfl ?_
      refine W.iload (pc := 212) at_212 rfl ?_
      refine W.iload (pc := 214) at_214 rfl ?_
      refine W.iload (pc := 216) at_216 rfl ?_
      refine W.iload (pc := 218) at_218 rfl ?_
      refine W.iload (pc := 220) at_220 rfl ?_
      refine W.callS (pc := 222) (as := [(vi 0), (vi (z0 &&& (255 : Int32))), (vi ((XT.ushr z0 (8 : Int32)) &&& (255 : Int32))), (vi 2), (vi (z1 &&& (255 : Int32))), (vi ((XT.ushr z1 (8 : Int32)) &&& (255 : Int32)))]) 0 [] at_222 (w65 hw) (w66 hw) (w67 hw) (w68 hw) (c64_geq hw hs (x1 := (z0 &&& (255 : Int32))) (hx1 := (by have := rng32 z0; have := q255; have := am_255 z0; omega)) (x2 := ((XT.ushr z0 (8 : Int32)) &&& (255 : Int32))) (hx2 := (by have := rng32 z0; have := q8; have := aushr_8 z0; have := q255; have := am_255 (XT.ushr z0 (8 : Int32)); omega)) (x3 := (z1 &&& (255 : Int32))) (hx3 := (by have := rng32 z1; have := q255; have := am_255 z1; omega)) (x4 := ((XT.ushr z1 (8 : Int32)) &&& (255 : Int32))) (hx4 := (by have := rng32 z1; have := q8; have := aushr_8 z1; have := q255; have := am_255 (XT.ushr z1 (8 : Int32)); omega))) (by decide) pd_IIIIII_Z rfl rfl rfl rfl (by decide) (fun v D' h => ?_)
      obtain ⟨rfl, rfl⟩ := h
      show W _ _ _ _ _ _ _ _ _ _ _ _ 225 _ [(vi 0)]
      refine W.ifY (pc := 225) 232 at_225 (y_eq (by decide)) (by decide) ?_
      refine W.iconst (pc := 232) (0) at_232 (by decide) ?_
      refine W.istore (pc := 233) (ls' := #[iv z0, iv z1, iv z2, iv 0, iv (z0 &&& (255 : Int32)), iv ((XT.ushr z0 (8 : Int32)) &&& (255 : Int32)), iv 2, iv (z1 &&& (255 : Int32)), iv ((XT.ushr z1 (8 : Int32)) &&& (255 : Int32)), rv a1, rv a52, rv a53, iv 0, iv ((XT.ushr z2 (1 : Int32)) &&& (3 : Int32)), rv a55, t58, rv a59, iv 0, iv 0]) at_233 rfl ?_
      refine W.iload (pc := 235) at_235 rfl ?_
      refine W.iload (pc := 237) at_237 rfl ?_
      refine W.icmpN (pc := 239) at_239 (n_ne (by decide)) ?_
      refine W.iconst (pc := 242) (1) at_242 (by decide) ?_
      refine W.goto (pc := 243) 247 at_243 (by decide) ?_
      exact W.ireturn (pc := 247) at_247 rfl (Or.inr (Or.inl rfl)) (nw_bool (by decide)) (by decide) rfl
     refine W.aconstNull (pc := 161) at_161 ?_
     refine W.astore (pc := 162) (ls' := #[iv z0, iv z1, iv z2, iv 0, iv (z0 &&& (255 : Int32)), iv ((XT.ushr z0 (8 : Int32)) &&& (255 : Int32)), iv 2, iv (z1 &&& (255 : Int32)), iv ((XT.ushr z1 (8 : Int32)) &&& (255 : Int32)), rv a1, rv a52, rv a53, iv 0, iv ((XT.ushr z2 (1 : Int32)) &&& (3 : Int32)), rv a55, .val .null, uu, uu, uu]) at_162 rfl rfl ?_
     refine W.iload (pc := 164) at_164 rfl ?_
     refine W.iconst (pc := 166) (1) at_166 (by decide) ?_
     refine W.icmp (pc := 167) 174 at_167 (by decide) (fun h14 => ?_) (fun h14 => ?_)
     ·
      have ih14 := t_ne h14
      refine W.iload (pc := 174) at_174 rfl ?_
      refine W.iconst (pc := 176) (2) at_176 (by decide) ?_
      refine W.icmp (pc := 177) 184 at_177 (by decide) (fun h15 => ?_) (fun h15 => ?_)
      ·
       have ih15 := t_ne h15
       refine W.new (pc := 184) at_184 (w23 hw) (w24 hw) (w25 hw) (laTimeRange hw) (by decide) (by decide) (fun a62 => ?_)
       show W _ _ _ _ _ _ _ _ _ _ _ _ 187 _ [(vr a62)]
       refine W.dup (pc := 187) at_187 rfl ?_
       refine W.aload (pc := 188) 15 at_188 rfl rfl ?_
       refine W.aload (pc := 190) 14 at_190 rfl rfl ?_
       refine W.callI (pc := 192) (as := [.null, (vr a55)]) 1 [(vr a62)] at_192 rfl (w26 hw) (w27 hw) (w25 hw) (w28 hw) (c49_init hw hs (p1 := a62) (p2 := a55) (p3 := a56) (x1 := (z1 &&& (255 : Int32)).toInt8.toInt32) (hx1 := (by have := rng32 z1; have := q255; have := am_255 z1; have := a_i2b (z1 &&& (255 : Int32)); omega)) (x2 := ((XT.ushr z1 (8 : Int32)) &&& (255 : Int32)).toInt8.toInt32) (hx2 := (by have := rng32 z1; have := q8; have := aushr_8 z1; have := q255; have := am_255 (XT.ushr z1 (8 : Int32)); have := a_i2b ((XT.ushr z1 (8 : Int32)) &&& (255 : Int32)); omega))) (by decide) pd_Ljava_lang_String_Ljava_lang_String__V rfl rfl rfl rfl (by decide) (fun v D' h => ?_)
       obtain ⟨rfl, rfl⟩ := h
       show W _ _ _ _ _ _ _ _ _ _ _ _ 195 _ [(vr a62)]
       refine W.astore (pc := 195) (ls' := #[iv z0, iv z1, iv z2, iv 0, iv (z0 &&& (255 : Int32)), iv ((XT.ushr z0 (8 : Int32)) &&& (255 : Int32)), iv 2, iv (z1 &&& (255 : Int32)), iv ((XT.ushr z1 (8 : Int32)) &&& (255 : Int32)), rv a1, rv a52, rv a53, iv 0, iv ((XT.ushr z2 (1 : Int32)) &&& (3 : Int32)), rv a55, .val .null, rv a62, uu, uu]) at_195 rfl rfl ?_
       refine W.front 6 (D' := (a1, true, ar "[C" .char []) :: (a62, true, oTimeRange .null (vr a55)) :: (a56, true, ar "[B" .byte [(vi (z1 &&& (255 : Int32)).toInt8.toInt32), (vi ((XT.ushr z1 (8 : Int32)) &&& (255 : Int32)).toInt8.toInt32)]) :: (a55, true, oString (vr a56) (vi 0)) :: (a54, false, ar "" .byte []) :: (a53, true, oString (vr a54) (vi 0)) :: (a52, true, ar "[C" .char [(vi (z1 &&& (255 : Int32))), (vi ((XT.ushr z1 (8 : Int32)) &&& (255 : Int32)))]) :: []) rfl rfl ?_
       refine W.front 6 (D' := (a52, true, ar "[C" .char [(vi (z1 &&& (255 : Int32))), (vi ((XT.ushr z1 (8 : Int32)) &&& (255 : Int32)))]) :: (a1, true, ar "[C" .char []) :: (a62, true, oTimeRange .null (vr a55)) :: (a56, true, ar "[B" .byte [(vi (z1 &&& (255 : Int32)).toInt8.toInt32), (vi ((XT.ushr z1 (8 : Int32)) &&& (255 : Int32)).toInt8.toInt32)]) :: (a55, true, oString (vr a56) (vi 0)) :: (a54, false, ar "" .byte []) :: (a53, true, oString (vr a54) (vi 0)) :: []) rfl rfl ?_
       refine W.front 6 (D' := (a53, true, oString (vr a54) (vi 0)) :: (a52, true, ar "[C" .char [(vi (z1 &&& (255 : Int32))), (vi ((XT.ushr z1 (8 : Int32)) &&& (255 : Int32)))]) :: (a1, true, ar "[C" .char []) :: (a62, true, oTimeRange .null (vr a55)) :: (a56, true, ar "[B" .byte [(vi (z1 &&& (255 : Int32)).toInt8.toInt32), (vi ((XT.ushr z1 (8 : Int32)) &&& (255 : Int32)).toInt8.toInt32)]) :: (a55, true, oString (vr a56) (vi 0)) :: (a54, false, ar "" .byte []) :: []) rfl rfl ?_
       refine W.front 6 (D' := (a54, false, ar "" .byte []) :: (a53, true, oString (vr a54) (vi 0)) :: (a52, true, ar "[C" .char [(vi (z1 &&& (255 : Int32))), (vi ((XT.ushr z1 (8 : Int32)) &&& (255 : Int32)))]) :: (a1, true, ar "[C" .char []) :: (a62, true, oTimeRange .null (vr a55)) :: (a56, true, ar "[B" .byte [(vi (z1 &&& (255 : Int32)).toInt8.toInt32), (vi ((XT.ushr z1 (8 : Int32)) &&& (255 : Int32)).toInt8.toInt32)]) :: (a55, true, oString (vr a56) (vi 0)) :: []) rfl rfl ?_
       refine W.front 6 (D' := (a55, true, oString (vr a56) (vi 0)) :: (a54, false, ar "" .byte []) :: (a53, true, oString (vr a54) (vi 0)) :: (a52, true, ar "[C" .char [(vi (z1 &&& (255 : Int32))), (vi ((XT.ushr z1 (8 : Int32)) &&& (255 : Int32)))]) :: (a1, true, ar "[C" .char []) :: (a62, true, oTimeRange .null (vr a55)) :: (a56, true, ar "[B" .byte [(vi (z1 &&& (255 : Int32)).toInt8.toInt32), (vi ((XT.ushr z1 (8 : Int32)) &&& (255 : Int32)).toInt8.toInt32)]) :: []) rfl rfl ?_
       refine W.front 6 (D' := (a56, true, ar "[B" .byte [(vi (z1 &&& (255 : Int32)).toInt8.toInt32), (vi ((XT.ushr z1 (8 : Int32)) &&& (255 : Int32)).toInt8.toInt32)]) :: (a55, true, oString (vr a56) (vi 0)) :: (a54, false, ar "" .byte []) :: (a53, true, oString (vr a54) (vi 0)) :: (a52, true, ar "[C" .char [(vi (z1 &&& (255 : Int32))), (vi ((XT.ushr z1 (8 : Int32)) &&& (255 : Int32)))]) :: (a1, true, ar "[C" .char []) :: (a62, true, oTimeRange .null (vr a55)) :: []) rfl rfl ?_
       exact W.mono (by decide) (by decide) (K61 (.val .null) a62 .null (Or.inr ⟨_, rfl, rfl⟩) rfl)
      ·
       have ih15 := f_ne h15
       refine W.aload (pc := 180) 14 at_180 rfl rfl ?_
       refine W.astore (pc := 182) (ls' := #[iv z0, iv z1, iv z2, iv 0, iv (z0 &&& (255 : Int32)), iv ((XT.ushr z0 (8 : Int32)) &&& (255 : Int32)), iv 2, iv (z1 &&& (255 : Int32)), iv ((XT.ushr z1 (8 : Int32)) &&& (255 : Int32)), rv a1, rv a52, rv a53, iv 0, iv ((XT.ushr z2 (1 : Int32)) &&& (3 : Int32)), rv a55, rv a55, uu, uu, uu]) at_182 rfl rfl ?_
       refine W.new (pc := 184) at_184 (w23 hw) (w24 hw) (w25 hw) (laTimeRange hw) (by decide) (by decide) (fun a63 => ?_)
       show W _ _ _ _ _ _ _ _ _ _ _ _ 187 _ [(vr a63)]
       refine W.dup (pc := 187) at_187 rfl ?_
       refine W.aload (pc := 188) 15 at_188 rfl rfl ?_
       refine W.aload (pc := 190) 14 at_190 rfl rfl ?_
       refine W.callI (pc := 192) (as := [(vr a55), (vr a55)]) 1 [(vr a63)] at_192 rfl (w26 hw) (w27 hw) (w25 hw) (w28 hw) (c50_init hw hs (p1 := a63) (p2 := a55) (p3 := a56) (x1 := (z1 &&& (255 : Int32)).toInt8.toInt32) (hx1 := (by have := rng32 z1; have := q255; have := am_255 z1; have := a_i2b (z1 &&& (255 : Int32)); omega)) (x2 := ((XT.ushr z1 (8 : Int32)) &&& (255 : Int32)).toInt8.toInt32) (hx2 := (by have := rng32 z1; have := q8; have := aushr_8 z1; have := q255; have := am_255 (XT.ushr z1 (8 : Int32)); have := a_i2b ((XT.ushr z1 (8 : Int32)) &&& (255 : Int32)); omega)) (mp2 := m1) (mp3 := m0)) (by decide) pd_Ljava_lang_String_Ljava_lang_String__V rfl rfl rfl rfl (by decide) (fun v D' h => ?_)
       obtain ⟨rfl, rfl⟩ := h
       show W _ _ _ _ _ _ _ _ _ _ _ _ 195 _ [(vr a63)]
       refine W.astore (pc := 195) (ls' := #[iv z0, iv z1, iv z2, iv 0, iv (z0 &&& (255 : Int32)), iv ((XT.ushr z0 (8 : Int32)) &&& (255 : Int32)), iv 2, iv (z1 &&& (255 : Int32)), iv ((XT.ushr z1 (8 : Int32)) &&& (255 : Int32)), rv a1, rv a52, rv a53, iv 0, iv ((XT.ushr z2 (1 : Int32)) &&& (3 : Int32)), rv a55, rv a55, rv a63, uu, uu]) at_195 rfl rfl ?_
       refine W.front 6 (D' := (a1, true, ar "[C" .char []) :: (a63, true, oTimeRange (vr a55) (vr a55)) :: (a56, true, ar "[B" .byte [(vi (z1 &&& (255 : Int32)).toInt8.toInt32), (vi ((XT.ushr z1 (8 : Int32)) &&& (255 : Int32)).toInt8.toInt32)]) :: (a55, true, oString (vr a56) (vi 0)) :: (a54, false, ar "" .byte []) :: (a53, true, oString (vr a54) (vi 0)) :: (a52, true, ar "[C" .char [(vi (z1 &&& (255 : Int32))), (vi ((XT.ushr z1 (8 : Int32)) &&& (255 : Int32)))]) :: []) rfl rfl ?_
       refine W.front 6 (D' := (a52, true, ar "[C" .char [(vi (z1 &&& (255 : Int32))), (vi ((XT.ushr z1 (8 : Int32)) &&& (255 : Int32)))]) :: (a1, true, ar "[C" .char []) :: (a63, true, oTimeRange (vr a55) (vr a55)) :: (a56, true, ar "[B" .byte [(vi (z1 &&& (255 : Int32)).toInt8.toInt32), (vi ((XT.ushr z1 (8 : Int32)) &&& (255 : Int32)).toInt8.toInt32)]) :: (a55, true, oString (vr a56) (vi 0)) :: (a54, false, ar "" .byte []) :: (a53, true, oString (vr a54) (vi 0)) :: []) rfl rfl ?_
       refine W.front 6 (D' := (a53, true, oString (vr a54) (vi 0)) :: (a52, true, ar "[C" .char [(vi (z1 &&& (255 : Int32))), (vi ((XT.ushr z1 (8 : Int32)) &&& (255 : Int32)))]) :: (a1, true, ar "[C" .char []) :: (a63, true, oTimeRange (vr a55) (vr a55)) :: (a56, true, ar "[B" .byte [(vi (z1 &&& (255 : Int32)).toInt8.toInt32), (vi ((XT.ushr z1 (8 : Int32)) &&& (255 : Int32)).toInt8.toInt32)]) :: (a55, true, oString (vr a56) (vi 0)) :: (a54, false, ar "" .byte []) :: []) rfl rfl ?_
       refine W.front 6 (D' := (a54, false, ar "" .byte []) :: (a53, true, oString (vr a54) (vi 0)) :: (a52, true, ar "[C" .char [(vi (z1 &&& (255 : Int32))), (vi ((XT.ushr z1 (8 : Int32)) &&& (255 : Int32)))]) :: (a1, true, ar "[C" .char []) :: (a63, true, oTimeRange (vr a55) (vr a55)) :: (a56, true, ar "[B" .byte [(vi (z1 &&& (255 : Int32)).toInt8.toInt32), (vi ((XT.ushr z1 (8 : Int32)) &&& (255 : Int32)).toInt8.toInt32)]) :: (a55, true, oString (vr a56) (vi 0)) :: []) rfl rfl ?_
       refine W.front 6 (D' := (a55, true, oString (vr a56) (vi 0)) :: (a54, false, ar "" .byte []) :: (a53, true, oString (vr a54) (vi 0)) :: (a52, true, ar "[C" .char [(vi (z1 &&& (255 : Int32))), (vi ((XT.ushr z1 (8 : Int32)) &&& (255 : Int32)))]) :: (a1, true, ar "[C" .char []) :: (a63, true, oTimeRange (vr a55) (vr a55)) :: (a56, true, ar "[B" .byte [(vi (z1 &&& (255 : Int32)).toInt8.toInt32), (vi ((XT.ushr z1 (8 : Int32)) &&& (255 : Int32)).toInt8.toInt32)]) :: []) rfl rfl ?_
       refine W.front 6 (D' := (a56, true, ar "[B" .byte [(vi (z1 &&& (255 : Int32)).toInt8.toInt32), (vi ((XT.ushr z1 (8 : Int32)) &&& (255 : Int32)).toInt8.toInt32)]) :: (a55, true, oString (vr a56) (vi 0)) :: (a54, false, ar "" .byte []) :: (a53, true, oString (vr a54) (vi 0)) :: (a52, true, ar "[C" .char [(vi (z1 &&& (255 : Int32))), (vi ((XT.ushr z1 (8 : Int32)) &&& (255 : Int32)))]) :: (a1, true, ar "[C" .char []) :: (a63, true, oTimeRange (vr a55) (vr a55)) :: []) rfl rfl ?_
       exact W.mono (by decide) (by decide) (K61 (rv a55) a63 (vr a55) (Or.inr ⟨_, rfl, rfl⟩) rfl)
     ·
      have ih14 := f_ne h14
      refine W.ldcT (pc := 170) 0 (vs := []) rfl at_170 (w22 hw) (wS hw) m0 tx_ (by decide) (by decide) (by decide) (fun a64 a65 => ?_)
      show W _ _ _ _ _ _ _ _ _ _ _ _ 172 _ [(vr a64)]
      refine W.astore (pc := 172) (ls' := #[iv z0, iv z1, iv z2, iv 0, iv (z0 &&& (255 : Int32)), iv ((XT.ushr z0 (8 : Int32)) &&& (255 : Int32)), iv 2, iv (z1 &&& (255 : Int32)), iv ((XT.ushr z1 (8 : Int32)) &&& (255 : Int32)), rv a1, rv a52, rv a53, iv 0, iv ((XT.ushr z2 (1 : Int32)) &&& (3 : Int32)), rv a55, rv a64, uu, uu, uu]) at_172 rfl rfl ?_
      refine W.iload (pc := 174) at_174 rfl ?_
      refine W.iconst (pc := 176) (2) at_176 (by decide) ?_
      refine W.icmpY (pc := 177) 184 at_177 (y_ne (by have := rng32 z2; have := q1; have := aushr_1 z2; have := q3; have := am_3 (XT.ushr z2 (1 : Int32)); have := q2; omega)) (by decide) ?_
      refine W.new (pc := 184) at_184 (w23 hw) (w24 hw) (w25 hw) (laTimeRange hw) (by decide) (by decide) (fun a66 => ?_)
      show W _ _ _ _ _ _ _ _ _ _ _ _ 187 _ [(vr a66)]
      refine W.dup (pc := 187) at_187 rfl ?_
      refine W.aload (pc := 188) 15 at_188 rfl rfl ?_
      refine W.aload (pc := 190) 14 at_190 rfl rfl ?_
      refine W.callI (pc := 192) (as := [(vr a64), (vr a55)]) 1 [(vr a66)] at_192 rfl (w26 hw) (w27 hw) (w25 hw) (w28 hw) (c57_init hw hs (p1 := a66) (p2 := a64) (p3 := a55) (p4 := a65) (p5 := a56) (x1 := (z1 &&& (255 : Int32)).toInt8.toInt32) (hx1 := (by have := rng32 z1; have := q255; have := am_255 z1; have := a_i2b (z1 &&& (255 : Int32)); omega)) (x2 := ((XT.ushr z1 (8 : Int32)) &&& (255 : Int32)).toInt8.toInt32) (hx2 := (by have := rng32 z1; have := q8; have := aushr_8 z1; have := q255; have := am_255 (XT.ushr z1 (8 : Int32)); have := a_i2b ((XT.ushr z1 (8 : Int32)) &&& (255 : Int32)); omega)) (mp2 := m0) (mp3 := m3) (mp4 := m1) (mp5 := m2)) (by decide) pd_Ljava_lang_String_Ljava_lang_String__V rfl rfl rfl rfl (by decide) (fun v D' h => ?_)
      obtain ⟨rfl, rfl⟩ := h
      show W _ _ _ _ _ _ _ _ _ _ _ _ 195 _ [(vr a66)]
      refine W.astore (pc := 195) (ls' := #[iv z0, iv z1, iv z2, iv 0, iv (z0 &&& (255 : Int32)), iv ((XT.ushr z0 (8 : Int32)) &&& (255 : Int32)), iv 2, iv (z1 &&& (255 : Int32)), iv ((XT.ushr z1 (8 : Int32)) &&& (255 : Int32)), rv a1, rv a52, rv a53, iv 0, iv ((XT.ushr z2 (1 : Int32)) &&& (3 : Int32)), rv a55, rv a64, rv a66, uu, uu]) at_195 rfl rfl ?_
      refine W.front 8 (D' := (a1, true, ar "[C" .char []) :: (a66, true, oTimeRange (vr a64) (vr a55)) :: (a64, false, oString (vr a65) (vi 0)) :: (a65, false, ar "" .byte []) :: (a56, true, ar "[B" .byte [(vi (z1 &&& (255 : Int32)).toInt8.toInt32), (vi ((XT.ushr z1 (8 : Int32)) &&& (255 : Int32)).toInt8.toInt32)]) :: (a55, true, oString (vr a56) (vi 0)) :: (a54, false, ar "" .byte []) :: (a53, true, oString (vr a54) (vi 0)) :: (a52, true, ar "[C" .char [(vi (z1 &&& (255 : Int32))), (vi ((XT.ushr z1 (8 : Int32)) &&& (255 : Int32)))]) :: []) rfl rfl ?_
      refine W.front 8 (D' := (a52, true, ar "[C" .char [(vi (z1 &&& (255 : Int32))), (vi ((XT.ushr z1 (8 : Int32)) &&& (255 : Int32)))]) :: (a1, true, ar "[C" .char []) :: (a66, true, oTimeRange (vr a64) (vr a55)) :: (a64, false, oString (vr a65) (vi 0)) :: (a65, false, ar "" .byte []) :: (a56, true, ar "[B" .byte [(vi (z1 &&& (255 : Int32)).toInt8.toInt32), (vi ((XT.ushr z1 (8 : Int32)) &&& (255 : Int32)).toInt8.toInt32)]) :: (a55, true, oString (vr a56) (vi 0)) :: (a54, false, ar "" .byte []) :: (a53, true, oString (vr a54) (vi 0)) :: []) rfl rfl ?_
      refine W.front 8 (D' := (a53, true, oString (vr a54) (vi 0)) :: (a52, true, ar "[C" .char [(vi (z1 &&& (255 : Int32))), (vi ((XT.ushr z1 (8 : Int32)) &&& (255 : Int32)))]) :: (a1, true, ar "[C" .char []) :: (a66, true, oTimeRange (vr a64) (vr a55)) :: (a64, false, oString (vr a65) (vi 0)) :: (a65, false, ar "" .byte []) :: (a56, true, ar "[B" .byte [(vi (z1 &&& (255 : Int32)).toInt8.toInt32), (vi ((XT.ushr z1 (8 : Int32)) &&& (255 : Int32)).toInt8.toInt32)]) :: (a55, true, oString (vr a56) (vi 0)) :: (a54, false, ar "" .byte []) :: []) rfl rfl ?_
      refine W.front 8 (D' := (a54, false, ar "" .byte []) :: (a53, true, oString (vr a54) (vi 0)) :: (a52, true, ar "[C" .char [(vi (z1 &&& (255 : Int32))), (vi ((XT.ushr z1 (8 : Int32)) &&& (255 : Int32)))]) :: (a1, true, ar "[C" .char []) :: (a66, true, oTimeRange (vr a64) (vr a55)) :: (a64, false, oString (vr a65) (vi 0)) :: (a65, false, ar "" .byte []) :: (a56, true, ar "[B" .byte [(vi (z1 &&& (255 : Int32)).toInt8.toInt32), (vi ((XT.ushr z1 (8 : Int32)) &&& (255 : Int32)).toInt8.toInt32)]) :: (a55, true, oString (vr a56) (vi 0)) :: []) rfl rfl ?_
      refine W.front 8 (D' := (a55, true, oString (vr a56) (vi 0)) :: (a54, false, ar "" .byte []) :: (a53, true, oString (vr a54) (vi 0)) :: (a52, true, ar "[C" .char [(vi (z1 &&& (255 : Int32))), (vi ((XT.ushr z1 (8 : Int32)) &&& (255 : Int32)))]) :: (a1, true, ar "[C" .char []) :: (a66, true, oTimeRange (vr a64) (vr a55)) :: (a64, false, oString (vr a65) (vi 0)) :: (a65, false, ar "" .byte []) :: (a56, true, ar "[B" .byte [(vi (z1 &&& (255 : Int32)).toInt8.toInt32), (vi ((XT.ushr z1 (8 : Int32)) &&& (255 : Int32)).toInt8.toInt32)]) :: []) rfl rfl ?_
      refine W.front 8 (D' := (a56, true, ar "[B" .byte [(vi (z1 &&& (255 : Int32)).toInt8.toInt32), (vi ((XT.ushr z1 (8 : Int32)) &&& (255 : Int32)).toInt8.toInt32)]) :: (a55, true, oString (vr a56) (vi 0)) :: (a54, false, ar "" .byte []) :: (a53, true, oString (vr a54) (vi 0)) :: (a52, true, ar "[C" .char [(vi (z1 &&& (255 : Int32))), (vi ((XT.ushr z1 (8 : Int32)) &&& (255 : Int32)))]) :: (a1, true, ar "[C" .char []) :: (a66, true, oTimeRange (vr a64) (vr a55)) :: (a64, false, oString (vr a65) (vi 0)) :: (a65, false, ar "" .byte []) :: []) rfl rfl ?_
      refine W.heap (fun _ _ H => H.sub ((((((((((List.Sublist.refl _).cons _).cons _).cons_cons _).cons_cons _).cons_cons _).cons_cons _).cons_cons _).cons_cons _).cons_cons _)) ?_
      exact W.mono (by decide) (by decide) (K61 (rv a64) a66 (vr a64) (Or.inr ⟨_, rfl, rfl⟩) rfl)
    ·
     have ih13 := f_eq h13
     refine W.iconst (pc := 127) (1) at_127 (by decide) ?_
     refine W.goto (pc := 128) 132 at_128 (by decide) ?_
     refine W.istore (pc := 132) (ls' := #[iv z0, iv z1, iv z2, iv 0, iv (z0 &&& (255 : Int32)), iv ((XT.ushr z0 (8 : Int32)) &&& (255 : Int32)), iv 2, iv (z1 &&& (255 : Int32)), iv ((XT.ushr z1 (8 : Int32)) &&& (255 : Int32)), rv a1, rv a52, rv a53, iv 1, uu, uu, uu, uu, uu, uu]) at_132 rfl ?_
     refine W.iloadN (pc := 134) at_134 rfl ?_
     refine W.iconst (pc := 135) (1) at_135 (by decide) ?_
     refine W.iushr (pc := 136) at_136 ?_
     refine W.iconst (pc := 137) (3) at_137 (by decide) ?_
     refine W.iand (pc := 138) at_138 ?_
     refine W.istore (pc := 139) (ls' := #[iv z0, iv z1, iv z2, iv 0, iv (z0 &&& (255 : Int32)), iv ((XT.ushr z0 (8 : Int32)) &&& (255 : Int32)), iv 2, iv (z1 &&& (255 : Int32)), iv ((XT.ushr z1 (8 : Int32)) &&& (255 : Int32)), rv a1, rv a52, rv a53, iv 1, iv ((XT.ushr z2 (1 : Int32)) &&& (3 : Int32)), uu, uu, uu, uu, uu]) at_139 rfl ?_
     refine W.iload (pc := 141) at_141 rfl ?_
     refine W.ifN (pc := 143) at_143 (n_eq (by decide)) ?_
     refine W.aconstNull (pc := 146) at_146 ?_
     refine W.goto (pc := 147) 159 at_147 (by decide) ?_
     refine W.astore (pc := 159) (ls' := #[iv z0, iv z1, iv z2, iv 0, iv (z0 &&& (255 : Int32)), iv ((XT.ushr z0 (8 : Int32)) &&& (255 : Int32)), iv 2, iv (z1 &&& (255 : Int32)), iv ((XT.ushr z1 (8 : Int32)) &&& (255 : Int32)), rv a1, rv a52, rv a53, iv 1, iv ((XT.ushr z2 (1 : Int32)) &&& (3 : Int32)), .val .null, uu, uu, uu, uu]) at_159 rfl rfl ?_
     have K71 : ∀ (t68 : Slot) (a69 : Addr) (u70 : Value), SlOk t68 → u70.isRef = true → W Z EL room_1 "com/example/chainvouch/chainvouch/chain/TimeRangeStartsAfterPinLaw" "law" code maxLocals ret (fun v _ => v = some (.int 1)) ((a54, false, ar "" .byte []) :: (a53, true, oString (vr a54) (vi 0)) :: (a52, true, ar "[C" .char [(vi (z1 &&& (255 : Int32))), (vi ((XT.ushr z1 (8 : Int32)) &&& (255 : Int32)))]) :: (a1, true, ar "[C" .char []) :: (a69, true, oTimeRange u70 .null) :: []) 10 20 197 #[iv z0, iv z1, iv z2, iv 0, iv (z0 &&& (255 : Int32)), iv ((XT.ushr z0 (8 : Int32)) &&& (255 : Int32)), iv 2, iv (z1 &&& (255 : Int32)), iv ((XT.ushr z1 (8 : Int32)) &&& (255 : Int32)), rv a1, rv a52, rv a53, iv 1, iv ((XT.ushr z2 (1 : Int32)) &&& (3 : Int32)), .val .null, t68, rv a69, uu, uu] [] := by
      intro t68 a69 u70 ht68 hu70
      refine W.aload (pc := 197) 16 at_197 rfl rfl ?_
      refine W.aload (pc := 199) 11 at_199 rfl rfl ?_
      refine W.callV (pc := 201) (as := [(vr a53)]) 0 [] at_201 (w60 hw) (w61 hw) (w63 hw) (w63 hw) (w62 hw) (w25 hw) (w64 hw) (Hp.exa m4) (c22_startsAfter hw hs (p1 := a69) (p2 := a53) (p3 := a54) (u1 := u70) (hu1 := hu70) (mp1 := m4)) (by decide) pd_Ljava_lang_String__Z rfl rfl rfl rfl (by decide) (fun v D' h => ?_)
      obtain ⟨rfl, rfl⟩ := h
      show W _ _ _ _ _ _ _ _ _ _ _ _ 204 _ [(vi 0)]
      refine W.istore (pc := 204) (ls' := #[iv z0, iv z1, iv z2, iv 0, iv (z0 &&& (255 : Int32)), iv ((XT.ushr z0 (8 : Int32)) &&& (255 : Int32)), iv 2, iv (z1 &&& (255 : Int32)), iv ((XT.ushr z1 (8 : Int32)) &&& (255 : Int32)), rv a1, rv a52, rv a53, iv 1, iv ((XT.ushr z2 (1 : Int32)) &&& (3 : Int32)), .val .null, t68, rv a69, iv 0, uu]) at_204 rfl ?_
      refine W.iload (pc := 206) at_206 rfl ?_
      refine W.ifY (pc := 208) 232 at_208 (y_ne (by decide)) (by decide) ?_
      refine W.iconst (pc := 232) (0) at_232 (by decide) ?_
      refine W.istore (pc := 233) (ls' := #[iv z0, iv z1, iv z2, iv 0, iv (z0 &&& (255 : Int32)), iv ((XT.ushr z0 (8 : Int32)) &&& (255 : Int32)), iv 2, iv (z1 &&& (255 : Int32)), iv ((XT.ushr z1 (8 : Int32)) &&& (255 : Int32)), rv a1, rv a52, rv a53, iv 1, iv ((XT.ushr z2 (1 : Int32)) &&& (3 : Int32)), .val .null, t68, rv a69, iv 0, iv 0]) at_233 rfl ?_
      refine W.iload (pc := 235) at_235 rfl ?_
      refine W.iload (pc := 237) at_237 rfl ?_
      refine W.icmpN (pc := 239) at_239 (n_ne (by decide)) ?_
      refine W.iconst (pc := 242) (1) at_242 (by decide) ?_
      refine W.goto (pc := 243) 247 at_243 (by decide) ?_
      exact W.ireturn (pc := 247) at_247 rfl (Or.inr (Or.inl rfl)) (nw_bool (by decide)) (by decide) rfl
     refine W.aconstNull (pc := 161) at_161 ?_
     refine W.astore (pc := 162) (ls' := #[iv z0, iv z1, iv z2, iv 0, iv (z0 &&& (255 : Int32)), iv ((XT.ushr z0 (8 : Int32)) &&& (255 : Int32)), iv 2, iv (z1 &&& (255 : Int32)), iv ((XT.ushr z1 (8 : Int32)) &&& (255 : Int32)), rv a1, rv a52, rv a53, iv 1, iv ((XT.ushr z2 (1 : Int32)) &&& (3 : Int32)), .val .null, .val .null, uu, uu, uu]) at_162 rfl rfl ?_
     refine W.iload (pc := 164) at_164 rfl ?_
     refine W.iconst (pc := 166) (1) at_166 (by decide) ?_
     refine W.icmp (pc := 167) 174 at_167 (by decide) (fun h16 => ?_) (fun h16 => ?_)
     ·
      have ih16 := t_ne h16
      refine W.iload (pc := 174) at_174 rfl ?_
      refine W.iconst (pc := 176) (2) at_176 (by decide) ?_
      refine W.icmp (pc := 177) 184 at_177 (by decide) (fun h17 => ?_) (fun h17 => ?_)
      ·
       have ih17 := t_ne h17
       refine W.new (pc := 184) at_184 (w23 hw) (w24 hw) (w25 hw) (laTimeRange hw) (by decide) (by decide) (fun a72 => ?_)
       show W _ _ _ _ _ _ _ _ _ _ _ _ 187 _ [(vr a72)]
       refine W.dup (pc := 187) at_187 rfl ?_
       refine W.aload (pc := 188) 15 at_188 rfl rfl ?_
       refine W.aload (pc := 190) 14 at_190 rfl rfl ?_
       refine W.callI (pc := 192) (as := [.null, .null]) 1 [(vr a72)] at_192 rfl (w26 hw) (w27 hw) (w25 hw) (w28 hw) (c20_init hw hs (p1 := a72)) (by decide) pd_Ljava_lang_String_Ljava_lang_String__V rfl rfl rfl rfl (by decide) (fun v D' h => ?_)
       obtain ⟨rfl, rfl⟩ := h
       show W _ _ _ _ _ _ _ _ _ _ _ _ 195 _ [(vr a72)]
       refine W.astore (pc := 195) (ls' := #[iv z0, iv z1, iv z2, iv 0, iv (z0 &&& (255 : Int32)), iv ((XT.ushr z0 (8 : Int32)) &&& (255 : Int32)), iv 2, iv (z1 &&& (255 : Int32)), iv ((XT.ushr z1 (8 : Int32)) &&& (255 : Int32)), rv a1, rv a52, rv a53, iv 1, iv ((XT.ushr z2 (1 : Int32)) &&& (3 : Int32)), .val .null, .val .null, rv a72, uu, uu]) at_195 rfl rfl ?_
       refine W.front 4 (D' := (a1, true, ar "[C" .char []) :: (a72, true, oTimeRange .null .null) :: (a54, false, ar "" .byte []) :: (a53, true, oString (vr a54) (vi 0)) :: (a52, true, ar "[C" .char [(vi (z1 &&& (255 : Int32))), (vi ((XT.ushr z1 (8 : Int32)) &&& (255 : Int32)))]) :: []) rfl rfl ?_
       refine W.front 4 (D' := (a52, true, ar "[C" .char [(vi (z1 &&& (255 : Int32))), (vi ((XT.ushr z1 (8 : Int32)) &&& (255 : Int32)))]) :: (a1, true, ar "[C" .char []) :: (a72, true, oTimeRange .null .null) :: (a54, false, ar "" .byte []) :: (a53, true, oString (vr a54) (vi 0)) :: []) rfl rfl ?_
       refine W.front 4 (D' := (a53, true, oString (vr a54) (vi 0)) :: (a52, true, ar "[C" .char [(vi (z1 &&& (255 : Int32))), (vi ((XT.ushr z1 (8 : Int32)) &&& (255 : Int32)))]) :: (a1, true, ar "[C" .char []) :: (a72, true, oTimeRange .null .null) :: (a54, false, ar "" .byte []) :: []) rfl rfl ?_
       refine W.front 4 (D' := (a54, false, ar "" .byte []) :: (a53, true, oString (vr a54) (vi 0)) :: (a52, true, ar "[C" .char [(vi (z1 &&& (255 : Int32))), (vi ((XT.ushr z1 (8 : Int32)) &&& (255 : Int32)))]) :: (a1, true, ar "[C" .char []) :: (a72, true, oTimeRange .null .null) :: []) rfl rfl ?_
       exact W.mono (by decide) (by decide) (K71 (.val .null) a72 .null (Or.inr ⟨_, rfl, rfl⟩) rfl)
      ·
       have ih17 := f_ne h17
       refine W.aload (pc := 180) 14 at_180 rfl rfl ?_
       refine W.astore (pc := 182) (ls' := #[iv z0, iv z1, iv z2, iv 0, iv (z0 &&& (255 : Int32)), iv ((XT.ushr z0 (8 : Int32)) &&& (255 : Int32)), iv 2, iv (z1 &&& (255 : Int32)), iv ((XT.ushr z1 (8 : Int32)) &&& (255 : Int32)), rv a1, rv a52, rv a53, iv 1, iv ((XT.ushr z2 (1 : Int32)) &&& (3 : Int32)), .val .null, .val .null, uu, uu, uu]) at_182 rfl rfl ?_
       refine W.new (pc := 184) at_184 (w23 hw) (w24 hw) (w25 hw) (laTimeRange hw) (by decide) (by decide) (fun a73 => ?_)
       show W _ _ _ _ _ _ _ _ _ _ _ _ 187 _ [(vr a73)]
       refine W.dup (pc := 187) at_187 rfl ?_
       refine W.aload (pc := 188) 15 at_188 rfl rfl ?_
       refine W.aload (pc := 190) 14 at_190 rfl rfl ?_
       refine W.callI (pc := 192) (as := [.null, .null]) 1 [(vr a73)] at_192 rfl (w26 hw) (w27 hw) (w25 hw) (w28 hw) (c20_init hw hs (p1 := a73)) (by decide) pd_Ljava_lang_String_Ljava_lang_String__V rfl rfl rfl rfl (by decide) (fun v D' h => ?_)
       obtain ⟨rfl, rfl⟩ := h
       show W _ _ _ _ _ _ _ _ _ _ _ _ 195 _ [(vr a73)]
       refine W.astore (pc := 195) (ls' := #[iv z0, iv z1, iv z2, iv 0, iv (z0 &&& (255 : Int32)), iv ((XT.ushr z0 (8 : Int32)) &&& (255 : Int32)), iv 2, iv (z1 &&& (255 : Int32)), iv ((XT.ushr z1 (8 : Int32)) &&& (255 : Int32)), rv a1, rv a52, rv a53, iv 1, iv ((XT.ushr z2 (1 : Int32)) &&& (3 : Int32)), .val .null, .val .null, rv a73, uu, uu]) at_195 rfl rfl ?_
       refine W.front 4 (D' := (a1, true, ar "[C" .char []) :: (a73, true, oTimeRange .null .null) :: (a54, false, ar "" .byte []) :: (a53, true, oString (vr a54) (vi 0)) :: (a52, true, ar "[C" .char [(vi (z1 &&& (255 : Int32))), (vi ((XT.ushr z1 (8 : Int32)) &&& (255 : Int32)))]) :: []) rfl rfl ?_
       refine W.front 4 (D' := (a52, true, ar "[C" .char [(vi (z1 &&& (255 : Int32))), (vi ((XT.ushr z1 (8 : Int32)) &&& (255 : Int32)))]) :: (a1, true, ar "[C" .char []) :: (a73, true, oTimeRange .null .null) :: (a54, false, ar "" .byte []) :: (a53, true, oString (vr a54) (vi 0)) :: []) rfl rfl ?_
       refine W.front 4 (D' := (a53, true, oString (vr a54) (vi 0)) :: (a52, true, ar "[C" .char [(vi (z1 &&& (255 : Int32))), (vi ((XT.ushr z1 (8 : Int32)) &&& (255 : Int32)))]) :: (a1, true, ar "[C" .char []) :: (a73, true, oTimeRange .null .null) :: (a54, false, ar "" .byte []) :: []) rfl rfl ?_
       refine W.front 4 (D' := (a54, false, ar "" .byte []) :: (a53, true, oString (vr a54) (vi 0)) :: (a52, true, ar "[C" .char [(vi (z1 &&& (255 : Int32))), (vi ((XT.ushr z1 (8 : Int32)) &&& (255 : Int32)))]) :: (a1, true, ar "[C" .char []) :: (a73, true, oTimeRange .null .null) :: []) rfl rfl ?_
       exact W.mono (by decide) (by decide) (K71 (.val .null) a73 .null (Or.inr ⟨_, rfl, rfl⟩) rfl)
     ·
      have ih16 := f_ne h16
      refine W.ldcT (pc := 170) 0 (vs := []) rfl at_170 (w22 hw) (wS hw) m0 tx_ (by decide) (by decide) (by decide) (fun a74 a75 => ?_)
      show W _ _ _ _ _ _ _ _ _ _ _ _ 172 _ [(vr a74)]
      refine W.astore (pc := 172) (ls' := #[iv z0, iv z1, iv z2, iv 0, iv (z0 &&& (255 : Int32)), iv ((XT.ushr z0 (8 : Int32)) &&& (255 : Int32)), iv 2, iv (z1 &&& (255 : Int32)), iv ((XT.ushr z1 (8 : Int32)) &&& (255 : Int32)), rv a1, rv a52, rv a53, iv 1, iv ((XT.ushr z2 (1 : Int32)) &&& (3 : Int32)), .val .null, rv a74, uu, uu, uu]) at_172 rfl rfl ?_
      refine W.iload (pc := 174) at_174 rfl ?_
      refine W.iconst (pc := 176) (2) at_176 (by decide) ?_
      refine W.icmpY (pc := 177) 184 at_177 (y_ne (by have := rng32 z2; have := q1; have := aushr_1 z2; have := q3; have := am_3 (XT.ushr z2 (1 : Int32)); have := q2; omega)) (by decide) ?_
      refine W.new (pc := 184) at_184 (w23 hw) (w24 hw) (w25 hw) (laTimeRange hw) (by decide) (by decide) (fun a76 => ?_)
      show W _ _ _ _ _ _ _ _ _ _ _ _ 187 _ [(vr a76)]
      refine W.dup (pc := 187) at_187 rfl ?_
      refine W.aload (pc := 188) 15 at_188 rfl rfl ?_
      refine W.aload (pc := 190) 14 at_190 rfl rfl ?_
      refine W.callI (pc := 192) (as := [(vr a74), .null]) 1 [(vr a76)] at_192 rfl (w26 hw) (w27 hw) (w25 hw) (w28 hw) (c21_init hw hs (p1 := a76) (p2 := a74) (p3 := a75)) (by decide) pd_Ljava_lang_String_Ljava_lang_String__V rfl rfl rfl rfl (by decide) (fun v D' h => ?_)
      obtain ⟨rfl, rfl⟩ := h
      show W _ _ _ _ _ _ _ _ _ _ _ _ 195 _ [(vr a76)]
      refine W.astore (pc := 195) (ls' := #[iv z0, iv z1, iv z2, iv 0, iv (z0 &&& (255 : Int32)), iv ((XT.ushr z0 (8 : Int32)) &&& (255 : Int32)), iv 2, iv (z1 &&& (255 : Int32)), iv ((XT.ushr z1 (8 : Int32)) &&& (255 : Int32)), rv a1, rv a52, rv a53, iv 1, iv ((XT.ushr z2 (1 : Int32)) &&& (3 : Int32)), .val .null, rv a74, rv a76, uu, uu]) at_195 rfl rfl ?_
      refine W.front 6 (D' := (a1, true, ar "[C" .char []) :: (a76, true, oTimeRange (vr a74) .null) :: (a74, false, oString (vr a75) (vi 0)) :: (a75, false, ar "" .byte []) :: (a54, false, ar "" .byte []) :: (a53, true, oString (vr a54) (vi 0)) :: (a52, true, ar "[C" .char [(vi (z1 &&& (255 : Int32))), (vi ((XT.ushr z1 (8 : Int32)) &&& (255 : Int32)))]) :: []) rfl rfl ?_
      refine W.front 6 (D' := (a52, true, ar "[C" .char [(vi (z1 &&& (255 : Int32))), (vi ((XT.ushr z1 (8 : Int32)) &&& (255 : Int32)))]) :: (a1, true, ar "[C" .char []) :: (a76, true, oTimeRange (vr a74) .null) :: (a74, false, oString (vr a75) (vi 0)) :: (a75, false, ar "" .byte []) :: (a54, false, ar "" .byte []) :: (a53, true, oString (vr a54) (vi 0)) :: []) rfl rfl ?_
      refine W.front 6 (D' := (a53, true, oString (vr a54) (vi 0)) :: (a52, true, ar "[C" .char [(vi (z1 &&& (255 : Int32))), (vi ((XT.ushr z1 (8 : Int32)) &&& (255 : Int32)))]) :: (a1, true, ar "[C" .char []) :: (a76, true, oTimeRange (vr a74) .null) :: (a74, false, oString (vr a75) (vi 0)) :: (a75, false, ar "" .byte []) :: (a54, false, ar "" .byte []) :: []) rfl rfl ?_
      refine W.front 6 (D' := (a54, false, ar "" .byte []) :: (a53, true, oString (vr a54) (vi 0)) :: (a52, true, ar "[C" .char [(vi (z1 &&& (255 : Int32))), (vi ((XT.ushr z1 (8 : Int32)) &&& (255 : Int32)))]) :: (a1, true, ar "[C" .char []) :: (a76, true, oTimeRange (vr a74) .null) :: (a74, false, oString (vr a75) (vi 0)) :: (a75, false, ar "" .byte []) :: []) rfl rfl ?_
      refine W.heap (fun _ _ H => H.sub ((((((((List.Sublist.refl _).cons _).cons _).cons_cons _).cons_cons _).cons_cons _).cons_cons _).cons_cons _)) ?_
      exact W.mono (by decide) (by decide) (K71 (rv a74) a76 (vr a74) (Or.inr ⟨_, rfl, rfl⟩) rfl)
  ·
   have ie1 := i_eq e1
   rw [e1]
   show W _ _ _ _ _ _ _ _ _ ([]) _ _ 50 #[iv z0, iv z1, iv z2, iv 1, iv (z0 &&& (255 : Int32)), iv ((XT.ushr z0 (8 : Int32)) &&& (255 : Int32)), iv ((XT.ushr z1 (16 : Int32)) % (3 : Int32)), iv (z1 &&& (255 : Int32)), iv ((XT.ushr z1 (8 : Int32)) &&& (255 : Int32)), uu, uu, uu, uu, uu, uu, uu, uu, uu, uu] [(vi 1)]
   refine W.newarr (pc := 50) 1 (ad := "[C") (ty := .char) at_50 rfl (w0 hw) ix1 rfl (by decide) (by decide) (fun a77 => ?_)
   show W _ _ _ _ _ _ _ _ _ _ _ _ 52 _ [(vr a77)]
   refine W.astore (pc := 52) (ls' := #[iv z0, iv z1, iv z2, iv 1, iv (z0 &&& (255 : Int32)), iv ((XT.ushr z0 (8 : Int32)) &&& (255 : Int32)), iv ((XT.ushr z1 (16 : Int32)) % (3 : Int32)), iv (z1 &&& (255 : Int32)), iv ((XT.ushr z1 (8 : Int32)) &&& (255 : Int32)), rv a77, uu, uu, uu, uu, uu, uu, uu, uu, uu]) at_52 rfl rfl ?_
   refine W.iloadN (pc := 54) at_54 rfl ?_
   refine W.iconst (pc := 55) (1) at_55 (by decide) ?_
   refine W.icmpN (pc := 56) at_56 (n_lt (by decide)) ?_
   refine W.aload (pc := 59) 9 at_59 rfl rfl ?_
   refine W.iconst (pc := 61) (0) at_61 (by decide) ?_
   refine W.iload (pc := 62) at_62 rfl ?_
   refine W.i2cK (pc := 64) (z0 &&& (255 : Int32)) at_64 (z_i2c (by have := rng32 z0; have := q255; have := am_255 z0; omega)) ?_
   refine W.castore (pc := 65) (D' := (a77, true, ar "[C" .char [(vi (z0 &&& (255 : Int32)))]) :: []) 0 0 at_65 rfl ix0 (Nat.le_of_ble_eq_true rfl) (z_narC (by have := rng32 z0; have := q255; have := am_255 z0; omega)) rfl ?_
   refine W.iloadN (pc := 66) at_66 rfl ?_
   refine W.iconst (pc := 67) (2) at_67 (by decide) ?_
   refine W.icmpY (pc := 68) 78 at_68 (y_lt (by decide)) (by decide) ?_
   refine W.iload (pc := 78) at_78 rfl ?_
   have e18 : ((XT.ushr z1 (16 : Int32)) % (3 : Int32)) = (0 : Int32) ∨ ((XT.ushr z1 (16 : Int32)) % (3 : Int32)) = (1 : Int32) ∨ ((XT.ushr z1 (16 : Int32)) % (3 : Int32)) = (2 : Int32) := by
    rcases (by have := rng32 z1; have := q16; have := aushr_16 z1; have := q3; have := arem_3 (XT.ushr z1 (16 : Int32)); have := q0; have := q1; have := q2; omega : ((XT.ushr z1 (16 : Int32)) % (3 : Int32)).toInt = 0 ∨ ((XT.ushr z1 (16 : Int32)) % (3 : Int32)).toInt = 1 ∨ ((XT.ushr z1 (16 : Int32)) % (3 : Int32)).toInt = 2) with z | z | z
    · exact (Or.inl (eqI z))
    · exact (Or.inr (Or.inl (eqI z)))
    · exact (Or.inr (Or.inr (eqI z)))
   rcases e18 with e18 | e18 | e18
   ·
    have ie18 := i_eq e18
    rw [e18]
    show W _ _ _ _ _ _ _ _ _ ((a77, true, ar "[C" .char [(vi (z0 &&& (255 : Int32)))]) :: []) _ _ 80 #[iv z0, iv z1, iv z2, iv 1, iv (z0 &&& (255 : Int32)), iv ((XT.ushr z0 (8 : Int32)) &&& (255 : Int32)), iv 0, iv (z1 &&& (255 : Int32)), iv ((XT.ushr z1 (8 : Int32)) &&& (255 : Int32)), rv a77, uu, uu, uu, uu, uu, uu, uu, uu, uu] [(vi 0)]
    refine W.newarr (pc := 80) 0 (ad := "[C") (ty := .char) at_80 rfl (w0 hw) ix0 rfl (by decide) (by decide) (fun a78 => ?_)
    show W _ _ _ _ _ _ _ _ _ _ _ _ 82 _ [(vr a78)]
    refine W.astore (pc := 82) (ls' := #[iv z0, iv z1, iv z2, iv 1, iv (z0 &&& (255 : Int32)), iv ((XT.ushr z0 (8 : Int32)) &&& (255 : Int32)), iv 0, iv (z1 &&& (255 : Int32)), iv ((XT.ushr z1 (8 : Int32)) &&& (255 : Int32)), rv a77, rv a78, uu, uu, uu, uu, uu, uu, uu, uu]) at_82 rfl rfl ?_
    refine W.iload (pc := 84) at_84 rfl ?_
    refine W.iconst (pc := 86) (1) at_86 (by decide) ?_
    refine W.icmpY (pc := 87) 97 at_87 (y_lt (by decide)) (by decide) ?_
    refine W.iload (pc := 97) at_97 rfl ?_
    refine W.iconst (pc := 99) (2) at_99 (by decide) ?_
    refine W.icmpY (pc := 100) 110 at_100 (y_lt (by decide)) (by decide) ?_
    refine W.new (pc := 110) at_110 (w1 hw) (w2 hw) (w3 hw) (laString hw) (by decide) (by decide) (fun a79 => ?_)
    show W _ _ _ _ _ _ _ _ _ _ _ _ 113 _ [(vr a79)]
    refine W.dup (pc := 113) at_113 rfl ?_
    refine W.aload (pc := 114) 9 at_114 rfl rfl ?_
    refine W.callI (pc := 116) (as := [(vr a77)]) 1 [(vr a79)] at_116 rfl (w4 hw) (w5 hw) (w3 hw) (w6 hw) (c23_init hw hs (p1 := a79) (p2 := a77) (x1 := (z0 &&& (255 : Int32))) (hx1 := (by have := rng32 z0; have := q255; have := am_255 z0; omega)) (mp2 := m1)) (by decide) pd__C_V rfl rfl rfl rfl (by decide) (fun v D' h => ?_)
    obtain ⟨a80, rfl, rfl⟩ := h
    show W _ _ _ _ _ _ _ _ _ _ _ _ 119 _ [(vr a79)]
    refine W.astore (pc := 119) (ls' := #[iv z0, iv z1, iv z2, iv 1, iv (z0 &&& (255 : Int32)), iv ((XT.ushr z0 (8 : Int32)) &&& (255 : Int32)), iv 0, iv (z1 &&& (255 : Int32)), iv ((XT.ushr z1 (8 : Int32)) &&& (255 : Int32)), rv a77, rv a78, rv a79, uu, uu, uu, uu, uu, uu, uu]) at_119 rfl rfl ?_
    refine W.iloadN (pc := 121) at_121 rfl ?_
    refine W.iconst (pc := 122) (1) at_122 (by decide) ?_
    refine W.iand (pc := 123) at_123 ?_
    refine W.if (pc := 124) 131 at_124 (by decide) (fun h19 => ?_) (fun h19 => ?_)
    ·
     have ih19 := t_eq h19
     refine W.iconst (pc := 131) (0) at_131 (by decide) ?_
     refine W.istore (pc := 132) (ls' := #[iv z0, iv z1, iv z2, iv 1, iv (z0 &&& (255 : Int32)), iv ((XT.ushr z0 (8 : Int32)) &&& (255 : Int32)), iv 0, iv (z1 &&& (255 : Int32)), iv ((XT.ushr z1 (8 : Int32)) &&& (255 : Int32)), rv a77, rv a78, rv a79, iv 0, uu, uu, uu, uu, uu, uu]) at_132 rfl ?_
     refine W.iloadN (pc := 134) at_134 rfl ?_
     refine W.iconst (pc := 135) (1) at_135 (by decide) ?_
     refine W.iushr (pc := 136) at_136 ?_
     refine W.iconst (pc := 137) (3) at_137 (by decide) ?_
     refine W.iand (pc := 138) at_138 ?_
     refine W.istore (pc := 139) (ls' := #[iv z0, iv z1, iv z2, iv 1, iv (z0 &&& (255 : Int32)), iv ((XT.ushr z0 (8 : Int32)) &&& (255 : Int32)), iv 0, iv (z1 &&& (255 : Int32)), iv ((XT.ushr z1 (8 : Int32)) &&& (255 : Int32)), rv a77, rv a78, rv a79, iv 0, iv ((XT.ushr z2 (1 : Int32)) &&& (3 : Int32)), uu, uu, uu, uu, uu]) at_139 rfl ?_
     refine W.iload (pc := 141) at_141 rfl ?_
     refine W.ifY (pc := 143) 150 at_143 (y_eq (by decide)) (by decide) ?_
     refine W.new (pc := 150) at_150 (w1 hw) (w2 hw) (w3 hw) (laString hw) (by decide) (by decide) (fun a81 => ?_)
     show W _ _ _ _ _ _ _ _ _ _ _ _ 153 _ [(vr a81)]
     refine W.dup (pc := 153) at_153 rfl ?_
     refine W.aload (pc := 154) 10 at_154 rfl rfl ?_
     refine W.callI (pc := 156) (as := [(vr a78)]) 1 [(vr a81)] at_156 rfl (w4 hw) (w5 hw) (w3 hw) (w6 hw) (c1_init hw hs (p1 := a81) (p2 := a78) (mp2 := m2)) (by decide) pd__C_V rfl rfl rfl rfl (by decide) (fun v D' h => ?_)
     obtain ⟨a82, rfl, rfl⟩ := h
     show W _ _ _ _ _ _ _ _ _ _ _ _ 159 _ [(vr a81)]
     refine W.astore (pc := 159) (ls' := #[iv z0, iv z1, iv z2, iv 1, iv (z0 &&& (255 : Int32)), iv ((XT.ushr z0 (8 : Int32)) &&& (255 : Int32)), iv 0, iv (z1 &&& (255 : Int32)), iv ((XT.ushr z1 (8 : Int32)) &&& (255 : Int32)), rv a77, rv a78, rv a79, iv 0, iv ((XT.ushr z2 (1 : Int32)) &&& (3 : Int32)), rv a81, uu, uu, uu, uu]) at_159 rfl rfl ?_
     have K87 : ∀ (t84 : Slot) (a85 : Addr) (u86 : Value), SlOk t84 → u86.isRef = true → W Z EL room_1 "com/example/chainvouch/chainvouch/chain/TimeRangeStartsAfterPinLaw" "law" code maxLocals ret (fun v _ => v = some (.int 1)) ((a82, false, ar "" .byte []) :: (a81, true, oString (vr a82) (vi 0)) :: (a80, true, ar "[B" .byte [(vi (z0 &&& (255 : Int32)).toInt8.toInt32)]) :: (a79, true, oString (vr a80) (vi 0)) :: (a78, true, ar "[C" .char []) :: (a77, true, ar "[C" .char [(vi (z0 &&& (255 : Int32)))]) :: (a85, true, oTimeRange u86 (vr a81)) :: []) 12 24 197 #[iv z0, iv z1, iv z2, iv 1, iv (z0 &&& (255 : Int32)), iv ((XT.ushr z0 (8 : Int32)) &&& (255 : Int32)), iv 0, iv (z1 &&& (255 : Int32)), iv ((XT.ushr z1 (8 : Int32)) &&& (255 : Int32)), rv a77, rv a78, rv a79, iv 0, iv ((XT.ushr z2 (1 : Int32)) &&& (3 : Int32)), rv a81, t84, rv a85, uu, uu] [] := by
      intro t84 a85 u86 ht84 hu86
      refine W.aload (pc := 197) 16 at_197 rfl rfl ?_
      refine W.aload (pc := 199) 11 at_199 rfl rfl ?_
      refine W.callV (pc := 201) (as := [(vr a79)]) 0 [] at_201 (w60 hw) (w61 hw) (w63 hw) (w63 hw) (w62 hw) (w25 hw) (w64 hw) (Hp.exa m6) (c65_startsAfter hw hs (p1 := a85) (p2 := a79) (p3 := a81) (p4 := a80) (p5 := a82) (x1 := (z0 &&& (255 : Int32)).toInt8.toInt32) (hx1 := (by have := rng32 z0; have := q255; have := am_255 z0; have := a_i2b (z0 &&& (255 : Int32)); omega)) (u1 := u86) (hu1 := hu86) (mp1 := m6) (mp2 := m3) (mp3 := m1) (mp4 := m2) (mp5 := m0)) (by decide) pd_Ljava_lang_String__Z rfl rfl rfl rfl (by decide) (fun v D' h => ?_)
      obtain ⟨rfl, rfl⟩ := h
      show W _ _ _ _ _ _ _ _ _ _ _ _ 204 _ [(vi 1)]
      refine W.istore (pc := 204) (ls' := #[iv z0, iv z1, iv z2, iv 1, iv (z0 &&& (255 : Int32)), iv ((XT.ushr z0 (8 : Int32)) &&& (255 : Int32)), iv 0, iv (z1 &&& (255 : Int32)), iv ((XT.ushr z1 (8 : Int32)) &&& (255 : Int32)), rv a77, rv a78, rv a79, iv 0, iv ((XT.ushr z2 (1 : Int32)) &&& (3 : Int32)), rv a81, t84, rv a85, iv 1, uu]) at_204 rfl ?_
      refine W.iload (pc := 206) at_206 rfl ?_
      refine W.ifN (pc := 208) at_208 (n_ne (by decide)) ?_
      refine W.iloadN (pc := 211) at_211 rfl ?_
      refine W.iload (pc := 212) at_212 rfl ?_
      refine W.iload (pc := 214) at_214 rfl ?_
      refine W.iload (pc := 216) at_216 rfl ?_
      refine W.iload (pc := 218) at_218 rfl ?_
      refine W.iload (pc := 220) at_220 rfl ?_
      refine W.callS (pc := 222) (as := [(vi 1), (vi (z0 &&& (255 : Int32))), (vi ((XT.ushr z0 (8 : Int32)) &&& (255 : Int32))), (vi 0), (vi (z1 &&& (255 : Int32))), (vi ((XT.ushr z1 (8 : Int32)) &&& (255 : Int32)))]) 0 [] at_222 (w65 hw) (w66 hw) (w67 hw) (w68 hw) (c71_geq hw hs (x1 := (z0 &&& (255 : Int32))) (hx1 := (by have := rng32 z0; have := q255; have := am_255 z0; omega)) (x2 := ((XT.ushr z0 (8 : Int32)) &&& (255 : Int32))) (hx2 := (by have := rng32 z0; have := q8; have := aushr_8 z0; have := q255; have := am_255 (XT.ushr z0 (8 : Int32)); omega)) (x3 := (z1 &&& (255 : Int32))) (hx3 := (by have := rng32 z1; have := q255; have := am_255 z1; omega)) (x4 := ((XT.ushr z1 (8 : Int32)) &&& (255 : Int32))) (hx4 := (by have := rng32 z1; have := q8; have := aushr_8 z1; have := q255; have := am_255 (XT.ushr z1 (8 : Int32)); omega))) (by decide) pd_IIIIII_Z rfl rfl rfl rfl (by decide) (fun v D' h => ?_)
      obtain ⟨rfl, rfl⟩ := h
      show W _ _ _ _ _ _ _ _ _ _ _ _ 225 _ [(vi 1)]
      refine W.ifN (pc := 225) at_225 (n_eq (by decide)) ?_
      refine W.iconst (pc := 228) (1) at_228 (by decide) ?_
      refine W.goto (pc := 229) 233 at_229 (by decide) ?_
      refine W.istore (pc := 233) (ls' := #[iv z0, iv z1, iv z2, iv 1, iv (z0 &&& (255 : Int32)), iv ((XT.ushr z0 (8 : Int32)) &&& (255 : Int32)), iv 0, iv (z1 &&& (255 : Int32)), iv ((XT.ushr z1 (8 : Int32)) &&& (255 : Int32)), rv a77, rv a78, rv a79, iv 0, iv ((XT.ushr z2 (1 : Int32)) &&& (3 : Int32)), rv a81, t84, rv a85, iv 1, iv 1]) at_233 rfl ?_
      refine W.iload (pc := 235) at_235 rfl ?_
      refine W.iload (pc := 237) at_237 rfl ?_
      refine W.icmpN (pc := 239) at_239 (n_ne (by decide)) ?_
      refine W.iconst (pc := 242) (1) at_242 (by decide) ?_
      refine W.goto (pc := 243) 247 at_243 (by decide) ?_
      exact W.ireturn (pc := 247) at_247 rfl (Or.inr (Or.inl rfl)) (nw_bool (by decide)) (by decide) rfl
     refine W.aconstNull (pc := 161) at_161 ?_
     refine W.astore (pc := 162) (ls' := #[iv z0, iv z1, iv z2, iv 1, iv (z0 &&& (255 : Int32)), iv ((XT.ushr z0 (8 : Int32)) &&& (255 : Int32)), iv 0, iv (z1 &&& (255 : Int32)), iv ((XT.ushr z1 (8 : Int32)) &&& (255 : Int32)), rv a77, rv a78, rv a79, iv 0, iv ((XT.ushr z2 (1 : Int32)) &&& (3 : Int32)), rv a81, .val .null, uu, uu, uu]) at_162 rfl rfl ?_
     refine W.iload (pc := 164) at_164 rfl ?_
     refine W.iconst (pc := 166) (1) at_166 (by decide) ?_
     refine W.icmp (pc := 167) 174 at_167 (by decide) (fun h20 => ?_) (fun h20 => ?_)
     ·
      have ih20 := t_ne h20
      refine W.iload (pc := 174) at_174 rfl ?_
      refine W.iconst (pc := 176) (2) at_176 (by decide) ?_
      refine W.icmp (pc := 177) 184 at_177 (by decide) (fun h21 => ?_) (fun h21 => ?_)
      ·
       have ih21 := t_ne h21
       refine W.new (pc := 184) at_184 (w23 hw) (w24 hw) (w25 hw) (laTimeRange hw) (by decide) (by decide) (fun a88 => ?_)
       show W _ _ _ _ _ _ _ _ _ _ _ _ 187 _ [(vr a88)]
       refine W.dup (pc := 187) at_187 rfl ?_
       refine W.aload (pc := 188) 15 at_188 rfl rfl ?_
       refine W.aload (pc := 190) 14 at_190 rfl rfl ?_
       refine W.callI (pc := 192) (as := [.null, (vr a81)]) 1 [(vr a88)] at_192 rfl (w26 hw) (w27 hw) (w25 hw) (w28 hw) (c3_init hw hs (p1 := a88) (p2 := a81) (p3 := a82)) (by decide) pd_Ljava_lang_String_Ljava_lang_String__V rfl rfl rfl rfl (by decide) (fun v D' h => ?_)
       obtain ⟨rfl, rfl⟩ := h
       show W _ _ _ _ _ _ _ _ _ _ _ _ 195 _ [(vr a88)]
       refine W.astore (pc := 195) (ls' := #[iv z0, iv z1, iv z2, iv 1, iv (z0 &&& (255 : Int32)), iv ((XT.ushr z0 (8 : Int32)) &&& (255 : Int32)), iv 0, iv (z1 &&& (255 : Int32)), iv ((XT.ushr z1 (8 : Int32)) &&& (255 : Int32)), rv a77, rv a78, rv a79, iv 0, iv ((XT.ushr z2 (1 : Int32)) &&& (3 : Int32)), rv a81, .val .null, rv a88, uu, uu]) at_195 rfl rfl ?_
       refine W.front 6 (D' := (a77, true, ar "[C" .char [(vi (z0 &&& (255 : Int32)))]) :: (a88, true, oTimeRange .null (vr a81)) :: (a82, false, ar "" .byte []) :: (a81, true, oString (vr a82) (vi 0)) :: (a80, true, ar "[B" .byte [(vi (z0 &&& (255 : Int32)).toInt8.toInt32)]) :: (a79, true, oString (vr a80) (vi 0)) :: (a78, true, ar "[C" .char []) :: []) rfl rfl ?_
       refine W.front 6 (D' := (a78, true, ar "[C" .char []) :: (a77, true, ar "[C" .char [(vi (z0 &&& (255 : Int32)))]) :: (a88, true, oTimeRange .null (vr a81)) :: (a82, false, ar "" .byte []) :: (a81, true, oString (vr a82) (vi 0)) :: (a80, true, ar "[B" .byte [(vi (z0 &&& (255 : Int32)).toInt8.toInt32)]) :: (a79, true, oString (vr a80) (vi 0)) :: []) rfl rfl ?_
       refine W.front 6 (D' := (a79, true, oString (vr a80) (vi 0)) :: (a78, true, ar "[C" .char []) :: (a77, true, ar "[C" .char [(vi (z0 &&& (255 : Int32)))]) :: (a88, true, oTimeRange .null (vr a81)) :: (a82, false, ar "" .byte []) :: (a81, true, oString (vr a82) (vi 0)) :: (a80, true, ar "[B" .byte [(vi (z0 &&& (255 : Int32)).toInt8.toInt32)]) :: []) rfl rfl ?_
       refine W.front 6 (D' := (a80, true, ar "[B" .byte [(vi (z0 &&& (255 : Int32)).toInt8.toInt32)]) :: (a79, true, oString (vr a80) (vi 0)) :: (a78, true, ar "[C" .char []) :: (a77, true, ar "[C" .char [(vi (z0 &&& (255 : Int32)))]) :: (a88, true, oTimeRange .null (vr a81)) :: (a82, false, ar "" .byte []) :: (a81, true, oString (vr a82) (vi 0)) :: []) rfl rfl ?_
       refine W.front 6 (D' := (a81, true, oString (vr a82) (vi 0)) :: (a80, true, ar "[B" .byte [(vi (z0 &&& (255 : Int32)).toInt8.toInt32)]) :: (a79, true, oString (vr a80) (vi 0)) :: (a78, true, ar "[C" .char []) :: (a77, true, ar "[C" .char [(vi (z0 &&& (255 : Int32)))]) :: (a88, true, oTimeRange .null (vr a81)) :: (a82, false, ar "" .byte []) :: []) rfl rfl ?_
       refine W.front 6 (D' := (a82, false, ar "" .byte []) :: (a81, true, oString (vr a82) (vi 0)) :: (a80, true, ar "[B" .byte [(vi (z0 &&& (255 : Int32)).toInt8.toInt32)]) :: (a79, true, oString (vr a80) (vi 0)) :: (a78, true, ar "[C" .char []) :: (a77, true, ar "[C" .char [(vi (z0 &&& (255 : Int32)))]) :: (a88, true, oTimeRange .null (vr a81)) :: []) rfl rfl ?_
       exact W.mono (by decide) (by decide) (K87 (.val .null) a88 .null (Or.inr ⟨_, rfl, rfl⟩) rfl)
      ·
       have ih21 := f_ne h21
       refine W.aload (pc := 180) 14 at_180 rfl rfl ?_
       refine W.astore (pc := 182) (ls' := #[iv z0, iv z1, iv z2, iv 1, iv (z0 &&& (255 : Int32)), iv ((XT.ushr z0 (8 : Int32)) &&& (255 : Int32)), iv 0, iv (z1 &&& (255 : Int32)), iv ((XT.ushr z1 (8 : Int32)) &&& (255 : Int32)), rv a77, rv a78, rv a79, iv 0, iv ((XT.ushr z2 (1 : Int32)) &&& (3 : Int32)), rv a81, rv a81, uu, uu, uu]) at_182 rfl rfl ?_
       refine W.new (pc := 184) at_184 (w23 hw) (w24 hw) (w25 hw) (laTimeRange hw) (by decide) (by decide) (fun a89 => ?_)
       show W _ _ _ _ _ _ _ _ _ _ _ _ 187 _ [(vr a89)]
       refine W.dup (pc := 187) at_187 rfl ?_
       refine W.aload (pc := 188) 15 at_188 rfl rfl ?_
       refine W.aload (pc := 190) 14 at_190 rfl rfl ?_
       refine W.callI (pc := 192) (as := [(vr a81), (vr a81)]) 1 [(vr a89)] at_192 rfl (w26 hw) (w27 hw) (w25 hw) (w28 hw) (c4_init hw hs (p1 := a89) (p2 := a81) (p3 := a82) (mp2 := m1) (mp3 := m0)) (by decide) pd_Ljava_lang_String_Ljava_lang_String__V rfl rfl rfl rfl (by decide) (fun v D' h => ?_)
       obtain ⟨rfl, rfl⟩ := h
       show W _ _ _ _ _ _ _ _ _ _ _ _ 195 _ [(vr a89)]
       refine W.astore (pc := 195) (ls' := #[iv z0, iv z1, iv z2, iv 1, iv (z0 &&& (255 : Int32)), iv ((XT.ushr z0 (8 : Int32)) &&& (255 : Int32)), iv 0, iv (z1 &&& (255 : Int32)), iv ((XT.ushr z1 (8 : Int32)) &&& (255 : Int32)), rv a77, rv a78, rv a79, iv 0, iv ((XT.ushr z2 (1 : Int32)) &&& (3 : Int32)), rv a81, rv a81, rv a89, uu, uu]) at_195 rfl rfl ?_
       refine W.front 6 (D' := (a77, true, ar "[C" .char [(vi (z0 &&& (255 : Int32)))]) :: (a89, true, oTimeRange (vr a81) (vr a81)) :: (a82, false, ar "" .byte []) :: (a81, true, oString (vr a82) (vi 0)) :: (a80, true, ar "[B" .byte [(vi (z0 &&& (255 : Int32)).toInt8.toInt32)]) :: (a79, true, oString (vr a80) (vi 0)) :: (a78, true, ar "[C" .char []) :: []) rfl rfl ?_
       refine W.front 6 (D' := (a78, true, ar "[C" .char []) :: (a77, true, ar "[C" .char [(vi (z0 &&& (255 : Int32)))]) :: (a89, true, oTimeRange (vr a81) (vr a81)) :: (a82, false, ar "" .byte []) :: (a81, true, oString (vr a82) (vi 0)) :: (a80, true, ar "[B" .byte [(vi (z0 &&& (255 : Int32)).toInt8.toInt32)]) :: (a79, true, oString (vr a80) (vi 0)) :: []) rfl rfl ?_
       refine W.front 6 (D' := (a79, true, oString (vr a80) (vi 0)) :: (a78, true, ar "[C" .char []) :: (a77, true, ar "[C" .char [(vi (z0 &&& (255 : Int32)))]) :: (a89, true, oTimeRange (vr a81) (vr a81)) :: (a82, false, ar "" .byte []) :: (a81, true, oString (vr a82) (vi 0)) :: (a80, true, ar "[B" .byte [(vi (z0 &&& (255 : Int32)).toInt8.toInt32)]) :: []) rfl rfl ?_
       refine W.front 6 (D' := (a80, true, ar "[B" .byte [(vi (z0 &&& (255 : Int32)).toInt8.toInt32)]) :: (a79, true, oString (vr a80) (vi 0)) :: (a78, true, ar "[C" .char []) :: (a77, true, ar "[C" .char [(vi (z0 &&& (255 : Int32)))]) :: (a89, true, oTimeRange (vr a81) (vr a81)) :: (a82, false, ar "" .byte []) :: (a81, true, oString (vr a82) (vi 0)) :: []) rfl rfl ?_
       refine W.front 6 (D' := (a81, true, oString (vr a82) (vi 0)) :: (a80, true, ar "[B" .byte [(vi (z0 &&& (255 : Int32)).toInt8.toInt32)]) :: (a79, true, oString (vr a80) (vi 0)) :: (a78, true, ar "[C" .char []) :: (a77, true, ar "[C" .char [(vi (z0 &&& (255 : Int32)))]) :: (a89, true, oTimeRange (vr a81) (vr a81)) :: (a82, false, ar "" .byte []) :: []) rfl rfl ?_
       refine W.front 6 (D' := (a82, false, ar "" .byte []) :: (a81, true, oString (vr a82) (vi 0)) :: (a80, true, ar "[B" .byte [(vi (z0 &&& (255 : Int32)).toInt8.toInt32)]) :: (a79, true, oString (vr a80) (vi 0)) :: (a78, true, ar "[C" .char []) :: (a77, true, ar "[C" .char [(vi (z0 &&& (255 : Int32)))]) :: (a89, true, oTimeRange (vr a81) (vr a81)) :: []) rfl rfl ?_
       exact W.mono (by decide) (by decide) (K87 (rv a81) a89 (vr a81) (Or.inr ⟨_, rfl, rfl⟩) rfl)
     ·
      have ih20 := f_ne h20
      refine W.ldcT (pc := 170) 0 (vs := []) rfl at_170 (w22 hw) (wS hw) m0 tx_ (by decide) (by decide) (by decide) (fun a90 a91 => ?_)
      show W _ _ _ _ _ _ _ _ _ _ _ _ 172 _ [(vr a90)]
      refine W.astore (pc := 172) (ls' := #[iv z0, iv z1, iv z2, iv 1, iv (z0 &&& (255 : Int32)), iv ((XT.ushr z0 (8 : Int32)) &&& (255 : Int32)), iv 0, iv (z1 &&& (255 : Int32)), iv ((XT.ushr z1 (8 : Int32)) &&& (255 : Int32)), rv a77, rv a78, rv a79, iv 0, iv ((XT.ushr z2 (1 : Int32)) &&& (3 : Int32)), rv a81, rv a90, uu, uu, uu]) at_172 rfl rfl ?_
      refine W.iload (pc := 174) at_174 rfl ?_
      refine W.iconst (pc := 176) (2) at_176 (by decide) ?_
      refine W.icmpY (pc := 177) 184 at_177 (y_ne (by have := rng32 z2; have := q1; have := aushr_1 z2; have := q3; have := am_3 (XT.ushr z2 (1 : Int32)); have := q2; omega)) (by decide) ?_
      refine W.new (pc := 184) at_184 (w23 hw) (w24 hw) (w25 hw) (laTimeRange hw) (by decide) (by decide) (fun a92 => ?_)
      show W _ _ _ _ _ _ _ _ _ _ _ _ 187 _ [(vr a92)]
      refine W.dup (pc := 187) at_187 rfl ?_
      refine W.aload (pc := 188) 15 at_188 rfl rfl ?_
      refine W.aload (pc := 190) 14 at_190 rfl rfl ?_
      refine W.callI (pc := 192) (as := [(vr a90), (vr a81)]) 1 [(vr a92)] at_192 rfl (w26 hw) (w27 hw) (w25 hw) (w28 hw) (c12_init hw hs (p1 := a92) (p2 := a90) (p3 := a81) (p4 := a91) (p5 := a82) (mp2 := m0) (mp3 := m3) (mp4 := m1) (mp5 := m2)) (by decide) pd_Ljava_lang_String_Ljava_lang_String__V rfl rfl rfl rfl (by decide) (fun v D' h => ?_)
      obtain ⟨rfl, rfl⟩ := h
      show W _ _ _ _ _ _ _ _ _ _ _ _ 195 _ [(vr a92)]
      refine W.astore (pc := 195) (ls' := #[iv z0, iv z1, iv z2, iv 1, iv (z0 &&& (255 : Int32)), iv ((XT.ushr z0 (8 : Int32)) &&& (255 : Int32)), iv 0, iv (z1 &&& (255 : Int32)), iv ((XT.ushr z1 (8 : Int32)) &&& (255 : Int32)), rv a77, rv a78, rv a79, iv 0, iv ((XT.ushr z2 (1 : Int32)) &&& (3 : Int32)), rv a81, rv a90, rv a92, uu, uu]) at_195 rfl rfl ?_
      refine W.front 8 (D' := (a77, true, ar "[C" .char [(vi (z0 &&& (255 : Int32)))]) :: (a92, true, oTimeRange (vr a90) (vr a81)) :: (a90, false, oString (vr a91) (vi 0)) :: (a91, false, ar "" .byte []) :: (a82, false, ar "" .byte []) :: (a81, true, oString (vr a82) (vi 0)) :: (a80, true, ar "[B" .byte [(vi (z0 &&& (255 : Int32)).toInt8.toInt32)]) :: (a79, true, oString (vr a80) (vi 0)) :: (a78, true, ar "[C" .char []) :: []) rfl rfl ?_
      refine W.front 8 (D' := (a78, true, ar "[C" .char []) :: (a77, true, ar "[C" .char [(vi (z0 &&& (255 : Int32)))]) :: (a92, true, oTimeRange (vr a90) (vr a81)) :: (a90, false, oString (vr a91) (vi 0)) :: (a91, false, ar "" .byte []) :: (a82, false, ar "" .byte []) :: (a81, true, oString (vr a82) (vi 0)) :: (a80, true, ar "[B" .byte [(vi (z0 &&& (255 : Int32)).toInt8.toInt32)]) :: (a79, true, oString (vr a80) (vi 0)) :: []) rfl rfl ?_
      refine W.front 8 (D' := (a79, true, oString (vr a80) (vi 0)) :: (a78, true, ar "[C" .char []) :: (a77, true, ar "[C" .char [(vi (z0 &&& (255 : Int32)))]) :: (a92, true, oTimeRange (vr a90) (vr a81)) :: (a90, false, oString (vr a91) (vi 0)) :: (a91, false, ar "" .byte []) :: (a82, false, ar "" .byte []) :: (a81, true, oString (vr a82) (vi 0)) :: (a80, true, ar "[B" .byte [(vi (z0 &&& (255 : Int32)).toInt8.toInt32)]) :: []) rfl rfl ?_
      refine W.front 8 (D' := (a80, true, ar "[B" .byte [(vi (z0 &&& (255 : Int32)).toInt8.toInt32)]) :: (a79, true, oString (vr a80) (vi 0)) :: (a78, true, ar "[C" .char []) :: (a77, true, ar "[C" .char [(vi (z0 &&& (255 : Int32)))]) :: (a92, true, oTimeRange (vr a90) (vr a81)) :: (a90, false, oString (vr a91) (vi 0)) :: (a91, false, ar "" .byte []) :: (a82, false, ar "" .byte []) :: (a81, true, oString (vr a82) (vi 0)) :: []) rfl rfl ?_
      refine W.front 8 (D' := (a81, true, oString (vr a82) (vi 0)) :: (a80, true, ar "[B" .byte [(vi (z0 &&& (255 : Int32)).toInt8.toInt32)]) :: (a79, true, oString (vr a80) (vi 0)) :: (a78, true, ar "[C" .char []) :: (a77, true, ar "[C" .char [(vi (z0 &&& (255 : Int32)))]) :: (a92, true, oTimeRange (vr a90) (vr a81)) :: (a90, false, oString (vr a91) (vi 0)) :: (a91, false, ar "" .byte []) :: (a82, false, ar "" .byte []) :: []) rfl rfl ?_
      refine W.front 8 (D' := (a82, false, ar "" .byte []) :: (a81, true, oString (vr a82) (vi 0)) :: (a80, true, ar "[B" .byte [(vi (z0 &&& (255 : Int32)).toInt8.toInt32)]) :: (a79, true, oString (vr a80) (vi 0)) :: (a78, true, ar "[C" .char []) :: (a77, true, ar "[C" .char [(vi (z0 &&& (255 : Int32)))]) :: (a92, true, oTimeRange (vr a90) (vr a81)) :: (a90, false, oString (vr a91) (vi 0)) :: (a91, false, ar "" .byte []) :: []) rfl rfl ?_
      refine W.heap (fun _ _ H => H.sub ((((((((((List.Sublist.refl _).cons _).cons _).cons_cons _).cons_cons _).cons_cons _).cons_cons _).cons_cons _).cons_cons _).cons_cons _)) ?_
      exact W.mono (by decide) (by decide) (K87 (rv a90) a92 (vr a90) (Or.inr ⟨_, rfl, rfl⟩) rfl)
    ·
     have ih19 := f_eq h19
     refine W.iconst (pc := 127) (1) at_127 (by decide) ?_
     refine W.goto (pc := 128) 132 at_128 (by decide) ?_
     refine W.istore (pc := 132) (ls' := #[iv z0, iv z1, iv z2, iv 1, iv (z0 &&& (255 : Int32)), iv ((XT.ushr z0 (8 : Int32)) &&& (255 : Int32)), iv 0, iv (z1 &&& (255 : Int32)), iv ((XT.ushr z1 (8 : Int32)) &&& (255 : Int32)), rv a77, rv a78, rv a79, iv 1, uu, uu, uu, uu, uu, uu]) at_132 rfl ?_
     refine W.iloadN (pc := 134) at_134 rfl ?_
     refine W.iconst (pc := 135) (1) at_135 (by decide) ?_
     refine W.iushr (pc := 136) at_136 ?_
     refine W.iconst (pc := 137) (3) at_137 (by decide) ?_
     refine W.iand (pc := 138) at_138 ?_
     refine W.istore (pc := 139) (ls' := #[iv z0, iv z1, iv z2, iv 1, iv (z0 &&& (255 : Int32)), iv ((XT.ushr z0 (8 : Int32)) &&& (255 : Int32)), iv 0, iv (z1 &&& (255 : Int32)), iv ((XT.ushr z1 (8 : Int32)) &&& (255 : Int32)), rv a77, rv a78, rv a79, iv 1, iv ((XT.ushr z2 (1 : Int32)) &&& (3 : Int32)), uu, uu, uu, uu, uu]) at_139 rfl ?_
     refine W.iload (pc := 141) at_141 rfl ?_
     refine W.ifN (pc := 143) at_143 (n_eq (by decide)) ?_
     refine W.aconstNull (pc := 146) at_146 ?_
     refine W.goto (pc := 147) 159 at_147 (by decide) ?_
     refine W.astore (pc := 159) (ls' := #[iv z0, iv z1, iv z2, iv 1, iv (z0 &&& (255 : Int32)), iv ((XT.ushr z0 (8 : Int32)) &&& (255 : Int32)), iv 0, iv (z1 &&& (255 : Int32)), iv ((XT.ushr z1 (8 : Int32)) &&& (255 : Int32)), rv a77, rv a78, rv a79, iv 1, iv ((XT.ushr z2 (1 : Int32)) &&& (3 : Int32)), .val .null, uu, uu, uu, uu]) at_159 rfl rfl ?_
     have K97 : ∀ (t94 : Slot) (a95 : Addr) (u96 : Value), SlOk t94 → u96.isRef = true → W Z EL room_1 "com/example/chainvouch/chainvouch/chain/TimeRangeStartsAfterPinLaw" "law" code maxLocals ret (fun v _ => v = some (.int 1)) ((a80, true, ar "[B" .byte [(vi (z0 &&& (255 : Int32)).toInt8.toInt32)]) :: (a79, true, oString (vr a80) (vi 0)) :: (a78, true, ar "[C" .char []) :: (a77, true, ar "[C" .char [(vi (z0 &&& (255 : Int32)))]) :: (a95, true, oTimeRange u96 .null) :: []) 7 12 197 #[iv z0, iv z1, iv z2, iv 1, iv (z0 &&& (255 : Int32)), iv ((XT.ushr z0 (8 : Int32)) &&& (255 : Int32)), iv 0, iv (z1 &&& (255 : Int32)), iv ((XT.ushr z1 (8 : Int32)) &&& (255 : Int32)), rv a77, rv a78, rv a79, iv 1, iv ((XT.ushr z2 (1 : Int32)) &&& (3 : Int32)), .val .null, t94, rv a95, uu, uu] [] := by
      intro t94 a95 u96 ht94 hu96
      refine W.aload (pc := 197) 16 at_197 rfl rfl ?_
      refine W.aload (pc := 199) 11 at_199 rfl rfl ?_
      refine W.callV (pc := 201) (as := [(vr a79)]) 0 [] at_201 (w60 hw) (w61 hw) (w63 hw) (w63 hw) (w62 hw) (w25 hw) (w64 hw) (Hp.exa m4) (c72_startsAfter hw hs (p1 := a95) (p2 := a79) (p3 := a80) (x1 := (z0 &&& (255 : Int32)).toInt8.toInt32) (hx1 := (by have := rng32 z0; have := q255; have := am_255 z0; have := a_i2b (z0 &&& (255 : Int32)); omega)) (u1 := u96) (hu1 := hu96) (mp1 := m4)) (by decide) pd_Ljava_lang_String__Z rfl rfl rfl rfl (by decide) (fun v D' h => ?_)
      obtain ⟨rfl, rfl⟩ := h
      show W _ _ _ _ _ _ _ _ _ _ _ _ 204 _ [(vi 0)]
      refine W.istore (pc := 204) (ls' := #[iv z0, iv z1, iv z2, iv 1, iv (z0 &&& (255 : Int32)), iv ((XT.ushr z0 (8 : Int32)) &&& (255 : Int32)), iv 0, iv (z1 &&& (255 : Int32)), iv ((XT.ushr z1 (8 : Int32)) &&& (255 : Int32)), rv a77, rv a78, rv a79, iv 1, iv ((XT.ushr z2 (1 : Int32)) &&& (3 : Int32)), .val .null, t94, rv a95, iv 0, uu]) at_204 rfl ?_
      refine W.iload (pc := 206) at_206 rfl ?_
      refine W.ifY (pc := 208) 232 at_208 (y_ne (by decide)) (by decide) ?_
      refine W.iconst (pc := 232) (0) at_232 (by decide) ?_
      refine W.istore (pc := 233) (ls' := #[iv z0, iv z1, iv z2, iv 1, iv (z0 &&& (255 : Int32)), iv ((XT.ushr z0 (8 : Int32)) &&& (255 : Int32)), iv 0, iv (z1 &&& (255 : Int32)), iv ((XT.ushr z1 (8 : Int32)) &&& (255 : Int32)), rv a77, rv a78, rv a79, iv 1, iv ((XT.ushr z2 (1 : Int32)) &&& (3 : Int32)), .val .null, t94, rv a95, iv 0, iv 0]) at_233 rfl ?_
      refine W.iload (pc := 235) at_235 rfl ?_
      refine W.iload (pc := 237) at_237 rfl ?_
      refine W.icmpN (pc := 239) at_239 (n_ne (by decide)) ?_
      refine W.iconst (pc := 242) (1) at_242 (by decide) ?_
      refine W.goto (pc := 243) 247 at_243 (by decide) ?_
      exact W.ireturn (pc := 247) at_247 rfl (Or.inr (Or.inl rfl)) (nw_bool (by decide)) (by decide) rfl
     refine W.aconstNull (pc := 161) at_161 ?_
     refine W.astore (pc := 162) (ls' := #[iv z0, iv z1, iv z2, iv 1, iv (z0 &&& (255 : Int32)), iv ((XT.ushr z0 (8 : Int32)) &&& (255 : Int32)), iv 0, iv (z1 &&& (255 : Int32)), iv ((XT.ushr z1 (8 : Int32)) &&& (255 : Int32)), rv a77, rv a78, rv a79, iv 1, iv ((XT.ushr z2 (1 : Int32)) &&& (3 : Int32)), .val .null, .val .null, uu, uu, uu]) at_162 rfl rfl ?_
     refine W.iload (pc := 164) at_164 rfl ?_
     refine W.iconst (pc := 166) (1) at_166 (by decide) ?_
     refine W.icmp (pc := 167) 174 at_167 (by decide) (fun h22 => ?_) (fun h22 => ?_)
     ·
      have ih22 := t_ne h22
      refine W.iload (pc := 174) at_174 rfl ?_
      refine W.iconst (pc := 176) (2) at_176 (by decide) ?_
      refine W.icmp (pc := 177) 184 at_177 (by decide) (fun h23 => ?_) (fun h23 => ?_)
      ·
       have ih23 := t_ne h23
       refine W.new (pc := 184) at_184 (w23 hw) (w24 hw) (w25 hw) (laTimeRange hw) (by decide) (by decide) (fun a98 => ?_)
       show W _ _ _ _ _ _ _ _ _ _ _ _ 187 _ [(vr a98)]
       refine W.dup (pc := 187) at_187 rfl ?_
       refine W.aload (pc := 188) 15 at_188 rfl rfl ?_
       refine W.aload (pc := 190) 14 at_190 rfl rfl ?_
       refine W.callI (pc := 192) (as := [.null, .null]) 1 [(vr a98)] at_192 rfl (w26 hw) (w27 hw) (w25 hw) (w28 hw) (c20_init hw hs (p1 := a98)) (by decide) pd_Ljava_lang_String_Ljava_lang_String__V rfl rfl rfl rfl (by decide) (fun v D' h => ?_)
       obtain ⟨rfl, rfl⟩ := h
       show W _ _ _ _ _ _ _ _ _ _ _ _ 195 _ [(vr a98)]
       refine W.astore (pc := 195) (ls' := #[iv z0, iv z1, iv z2, iv 1, iv (z0 &&& (255 : Int32)), iv ((XT.ushr z0 (8 : Int32)) &&& (255 : Int32)), iv 0, iv (z1 &&& (255 : Int32)), iv ((XT.ushr z1 (8 : Int32)) &&& (255 : Int32)), rv a77, rv a78, rv a79, iv 1, iv ((XT.ushr z2 (1 : Int32)) &&& (3 : Int32)), .val .null, .val .null, rv a98, uu, uu]) at_195 rfl rfl ?_
       refine W.front 4 (D' := (a77, true, ar "[C" .char [(vi (z0 &&& (255 : Int32)))]) :: (a98, true, oTimeRange .null .null) :: (a80, true, ar "[B" .byte [(vi (z0 &&& (255 : Int32)).toInt8.toInt32)]) :: (a79, true, oString (vr a80) (vi 0)) :: (a78, true, ar "[C" .char []) :: []) rfl rfl ?_
       refine W.front 4 (D' := (a78, true, ar "[C" .char []) :: (a77, true, ar "[C" .char [(vi (z0 &&& (255 : Int32)))]) :: (a98, true, oTimeRange .null .null) :: (a80, true, ar "[B" .byte [(vi (z0 &&& (255 : Int32)).toInt8.toInt32)]) :: (a79, true, oString (vr a80) (vi 0)) :: []) rfl rfl ?_
       refine W.front 4 (D' := (a79, true, oString (vr a80) (vi 0)) :: (a78, true, ar "[C" .char []) :: (a77, true, ar "[C" .char [(vi (z0 &&& (255 : Int32)))]) :: (a98, true, oTimeRange .null .null) :: (a80, true, ar "[B" .byte [(vi (z0 &&& (255 : Int32)).toInt8.toInt32)]) :: []) rfl rfl ?_
       refine W.front 4 (D' := (a80, true, ar "[B" .byte [(vi (z0 &&& (255 : Int32)).toInt8.toInt32)]) :: (a79, true, oString (vr a80) (vi 0)) :: (a78, true, ar "[C" .char []) :: (a77, true, ar "[C" .char [(vi (z0 &&& (255 : Int32)))]) :: (a98, true, oTimeRange .null .null) :: []) rfl rfl ?_
       exact W.mono (by decide) (by decide) (K97 (.val .null) a98 .null (Or.inr ⟨_, rfl, rfl⟩) rfl)
      ·
       have ih23 := f_ne h23
       refine W.aload (pc := 180) 14 at_180 rfl rfl ?_
       refine W.astore (pc := 182) (ls' := #[iv z0, iv z1, iv z2, iv 1, iv (z0 &&& (255 : Int32)), iv ((XT.ushr z0 (8 : Int32)) &&& (255 : Int32)), iv 0, iv (z1 &&& (255 : Int32)), iv ((XT.ushr z1 (8 : Int32)) &&& (255 : Int32)), rv a77, rv a78, rv a79, iv 1, iv ((XT.ushr z2 (1 : Int32)) &&& (3 : Int32)), .val .null, .val .null, uu, uu, uu]) at_182 rfl rfl ?_
       refine W.new (pc := 184) at_184 (w23 hw) (w24 hw) (w25 hw) (laTimeRange hw) (by decide) (by decide) (fun a99 => ?_)
       show W _ _ _ _ _ _ _ _ _ _ _ _ 187 _ [(vr a99)]
       refine W.dup (pc := 187) at_187 rfl ?_
       refine W.aload (pc := 188) 15 at_188 rfl rfl ?_
       refine W.aload (pc := 190) 14 at_190 rfl rfl ?_
       refine W.callI (pc := 192) (as := [.null, .null]) 1 [(vr a99)] at_192 rfl (w26 hw) (w27 hw) (w25 hw) (w28 hw) (c20_init hw hs (p1 := a99)) (by decide) pd_Ljava_lang_String_Ljava_lang_String__V rfl rfl rfl rfl (by decide) (fun v D' h => ?_)
       obtain ⟨rfl, rfl⟩ := h
       show W _ _ _ _ _ _ _ _ _ _ _ _ 195 _ [(vr a99)]
       refine W.astore (pc := 195) (ls' := #[iv z0, iv z1, iv z2, iv 1, iv (z0 &&& (255 : Int32)), iv ((XT.ushr z0 (8 : Int32)) &&& (255 : Int32)), iv 0, iv (z1 &&& (255 : Int32)), iv ((XT.ushr z1 (8 : Int32)) &&& (255 : Int32)), rv a77, rv a78, rv a79, iv 1, iv ((XT.ushr z2 (1 : Int32)) &&& (3 : Int32)), .val .null, .val .null, rv a99, uu, uu]) at_195 rfl rfl ?_
       refine W.front 4 (D' := (a77, true, ar "[C" .char [(vi (z0 &&& (255 : Int32)))]) :: (a99, true, oTimeRange .null .null) :: (a80, true, ar "[B" .byte [(vi (z0 &&& (255 : Int32)).toInt8.toInt32)]) :: (a79, true, oString (vr a80) (vi 0)) :: (a78, true, ar "[C" .char []) :: []) rfl rfl ?_
       refine W.front 4 (D' := (a78, true, ar "[C" .char []) :: (a77, true, ar "[C" .char [(vi (z0 &&& (255 : Int32)))]) :: (a99, true, oTimeRange .null .null) :: (a80, true, ar "[B" .byte [(vi (z0 &&& (255 : Int32)).toInt8.toInt32)]) :: (a79, true, oString (vr a80) (vi 0)) :: []) rfl rfl ?_
       refine W.front 4 (D' := (a79, true, oString (vr a80) (vi 0)) :: (a78, true, ar "[C" .char []) :: (a77, true, ar "[C" .char [(vi (z0 &&& (255 : Int32)))]) :: (a99, true, oTimeRange .null .null) :: (a80, true, ar "[B" .byte [(vi (z0 &&& (255 : Int32)).toInt8.toInt32)]) :: []) rfl rfl ?_
       refine W.front 4 (D' := (a80, true, ar "[B" .byte [(vi (z0 &&& (255 : Int32)).toInt8.toInt32)]) :: (a79, true, oString (vr a80) (vi 0)) :: (a78, true, ar "[C" .char []) :: (a77, true, ar "[C" .char [(vi (z0 &&& (255 : Int32)))]) :: (a99, true, oTimeRange .null .null) :: []) rfl rfl ?_
       exact W.mono (by decide) (by decide) (K97 (.val .null) a99 .null (Or.inr ⟨_, rfl, rfl⟩) rfl)
     ·
      have ih22 := f_ne h22
      refine W.ldcT (pc := 170) 0 (vs := []) rfl at_170 (w22 hw) (wS hw) m0 tx_ (by decide) (by decide) (by decide) (fun a100 a101 => ?_)
      show W _ _ _ _ _ _ _ _ _ _ _ _ 172 _ [(vr a100)]
      refine W.astore (pc := 172) (ls' := #[iv z0, iv z1, iv z2, iv 1, iv (z0 &&& (255 : Int32)), iv ((XT.ushr z0 (8 : Int32)) &&& (255 : Int32)), iv 0, iv (z1 &&& (255 : Int32)), iv ((XT.ushr z1 (8 : Int32)) &&& (255 : Int32)), rv a77, rv a78, rv a79, iv 1, iv ((XT.ushr z2 (1 : Int32)) &&& (3 : Int32)), .val .null, rv a100, uu, uu, uu]) at_172 rfl rfl ?_
      refine W.iload (pc := 174) at_174 rfl ?_
      refine W.iconst (pc := 176) (2) at_176 (by decide) ?_
      refine W.icmpY (pc := 177) 184 at_177 (y_ne (by have := rng32 z2; have := q1; have := aushr_1 z2; have := q3; have := am_3 (XT.ushr z2 (1 : Int32)); have := q2; omega)) (by decide) ?_
      refine W.new (pc := 184) at_184 (w23 hw) (w24 hw) (w25 hw) (laTimeRange hw) (by decide) (by decide) (fun a102 => ?_)
      show W _ _ _ _ _ _ _ _ _ _ _ _ 187 _ [(vr a102)]
      refine W.dup (pc := 187) at_187 rfl ?_
      refine W.aload (pc := 188) 15 at_188 rfl rfl ?_
      refine W.aload (pc := 190) 14 at_190 rfl rfl ?_
      refine W.callI (pc := 192) (as := [(vr a100), .null]) 1 [(vr a102)] at_192 rfl (w26 hw) (w27 hw) (w25 hw) (w28 hw) (c21_init hw hs (p1 := a102) (p2 := a100) (p3 := a101)) (by decide) pd_Ljava_lang_String_Ljava_lang_String__V rfl rfl rfl rfl (by decide) (fun v D' h => ?_)
      obtain ⟨rfl, rfl⟩ := h
      show W _ _ _ _ _ _ _ _ _ _ _ _ 195 _ [(vr a102)]
      refine W.astore (pc := 195) (ls' := #[iv z0, iv z1, iv z2, iv 1, iv (z0 &&& (255 : Int32)), iv ((XT.ushr z0 (8 : Int32)) &&& (255 : Int32)), iv 0, iv (z1 &&& (255 : Int32)), iv ((XT.ushr z1 (8 : Int32)) &&& (255 : Int32)), rv a77, rv a78, rv a79, iv 1, iv ((XT.ushr z2 (1 : Int32)) &&& (3 : Int32)), .val .null, rv a100, rv a102, uu, uu]) at_195 rfl rfl ?_
      refine W.front 6 (D' := (a77, true, ar "[C" .char [(vi (z0 &&& (255 : Int32)))]) :: (a102, true, oTimeRange (vr a100) .null) :: (a100, false, oString (vr a101) (vi 0)) :: (a101, false, ar "" .byte []) :: (a80, true, ar "[B" .byte [(vi (z0 &&& (255 : Int32)).toInt8.toInt32)]) :: (a79, true, oString (vr a80) (vi 0)) :: (a78, true, ar "[C" .char []) :: []) rfl rfl ?_
      refine W.front 6 (D' := (a78, true, ar "[C" .char []) :: (a77, true, ar "[C" .char [(vi (z0 &&& (255 : Int32)))]) :: (a102, true, oTimeRange (vr a100) .null) :: (a100, false, oString (vr a101) (vi 0)) :: (a101, false, ar "" .byte []) :: (a80, true, ar "[B" .byte [(vi (z0 &&& (255 : Int32)).toInt8.toInt32)]) :: (a79, true, oString (vr a80) (vi 0)) :: []) rfl rfl ?_
      refine W.front 6 (D' := (a79, true, oString (vr a80) (vi 0)) :: (a78, true, ar "[C" .char []) :: (a77, true, ar "[C" .char [(vi (z0 &&& (255 : Int32)))]) :: (a102, true, oTimeRange (vr a100) .null) :: (a100, false, oString (vr a101) (vi 0)) :: (a101, false, ar "" .byte []) :: (a80, true, ar "[B" .byte [(vi (z0 &&& (255 : Int32)).toInt8.toInt32)]) :: []) rfl rfl ?_
      refine W.front 6 (D' := (a80, true, ar "[B" .byte [(vi (z0 &&& (255 : Int32)).toInt8.toInt32)]) :: (a79, true, oString (vr a80) (vi 0)) :: (a78, true, ar "[C" .char []) :: (a77, true, ar "[C" .char [(vi (z0 &&& (255 : Int32)))]) :: (a102, true, oTimeRange (vr a100) .null) :: (a100, false, oString (vr a101) (vi 0)) :: (a101, false, ar "" .byte []) :: []) rfl rfl ?_
      refine W.heap (fun _ _ H => H.sub ((((((((List.Sublist.refl _).cons _).cons _).cons_cons _).cons_cons _).cons_cons _).cons_cons _).cons_cons _)) ?_
      exact W.mono (by decide) (by decide) (K97 (rv a100) a102 (vr a100) (Or.inr ⟨_, rfl, rfl⟩) rfl)
   ·
    have ie18 := i_eq e18
    rw [e18]
    show W _ _ _ _ _ _ _ _ _ ((a77, true, ar "[C" .char [(vi (z0 &&& (255 : Int32)))]) :: []) _ _ 80 #[iv z0, iv z1, iv z2, iv 1, iv (z0 &&& (255 : Int32)), iv ((XT.ushr z0 (8 : Int32)) &&& (255 : Int32)), iv 1, iv (z1 &&& (255 : Int32)), iv ((XT.ushr z1 (8 : Int32)) &&& (255 : Int32)), rv a77, uu, uu, uu, uu, uu, uu, uu, uu, uu] [(vi 1)]
    refine W.newarr (pc := 80) 1 (ad := "[C") (ty := .char) at_80 rfl (w0 hw) ix1 rfl (by decide) (by decide) (fun a103 => ?_)
    show W _ _ _ _ _ _ _ _ _ _ _ _ 82 _ [(vr a103)]
    refine W.astore (pc := 82) (ls' := #[iv z0, iv z1, iv z2, iv 1, iv (z0 &&& (255 : Int32)), iv ((XT.ushr z0 (8 : Int32)) &&& (255 : Int32)), iv 1, iv (z1 &&& (255 : Int32)), iv ((XT.ushr z1 (8 : Int32)) &&& (255 : Int32)), rv a77, rv a103, uu, uu, uu, uu, uu, uu, uu, uu]) at_82 rfl rfl ?_
    refine W.iload (pc := 84) at_84 rfl ?_
    refine W.iconst (pc := 86) (1) at_86 (by decide) ?_
    refine W.icmpN (pc := 87) at_87 (n_lt (by decide)) ?_
    refine W.aload (pc := 90) 10 at_90 rfl rfl ?_
    refine W.iconst (pc := 92) (0) at_92 (by decide) ?_
    refine W.iload (pc := 93) at_93 rfl ?_
    refine W.i2cK (pc := 95) (z1 &&& (255 : Int32)) at_95 (z_i2c (by have := rng32 z1; have := q255; have := am_255 z1; omega)) ?_
    refine W.castore (pc := 96) (D' := (a103, true, ar "[C" .char [(vi (z1 &&& (255 : Int32)))]) :: (a77, true, ar "[C" .char [(vi (z0 &&& (255 : Int32)))]) :: []) 0 0 at_96 rfl ix0 (Nat.le_of_ble_eq_true rfl) (z_narC (by have := rng32 z1; have := q255; have := am_255 z1; omega)) rfl ?_
    refine W.iload (pc := 97) at_97 rfl ?_
    refine W.iconst (pc := 99) (2) at_99 (by decide) ?_
    refine W.icmpY (pc := 100) 110 at_100 (y_lt (by decide)) (by decide) ?_
    refine W.new (pc := 110) at_110 (w1 hw) (w2 hw) (w3 hw) (laString hw) (by decide) (by decide) (fun a104 => ?_)
    show W _ _ _ _ _ _ _ _ _ _ _ _ 113 _ [(vr a104)]
    refine W.dup (pc := 113) at_113 rfl ?_
    refine W.aload (pc := 114) 9 at_114 rfl rfl ?_
    refine W.callI (pc := 116) (as := [(vr a77)]) 1 [(vr a104)] at_116 rfl (w4 hw) (w5 hw) (w3 hw) (w6 hw) (c23_init hw hs (p1 := a104) (p2 := a77) (x1 := (z0 &&& (255 : Int32))) (hx1 := (by have := rng32 z0; have := q255; have := am_255 z0; omega)) (mp2 := m1)) (by decide) pd__C_V rfl rfl rfl rfl (by decide) (fun v D' h => ?_)
    obtain ⟨a105, rfl, rfl⟩ := h
    show W _ _ _ _ _ _ _ _ _ _ _ _ 119 _ [(vr a104)]
    refine W.astore (pc := 119) (ls' := #[iv z0, iv z1, iv z2, iv 1, iv (z0 &&& (255 : Int32)), iv ((XT.ushr z0 (8 : Int32)) &&& (255 : Int32)), iv 1, iv (z1 &&& (255 : Int32)), iv ((XT.ushr z1 (8 : Int32)) &&& (255 : Int32)), rv a77, rv a103, rv a104, uu, uu, uu, uu, uu, uu, uu]) at_119 rfl rfl ?_
    refine W.iloadN (pc := 121) at_121 rfl ?_
    refine W.iconst (pc := 122) (1) at_122 (by decide) ?_
    refine W.iand (pc := 123) at_123 ?_
    refine W.if (pc := 124) 131 at_124 (by decide) (fun h24 => ?_) (fun h24 => ?_)
    ·
     have ih24 := t_eq h24
     refine W.iconst (pc := 131) (0) at_131 (by decide) ?_
     refine W.istore (pc := 132) (ls' := #[iv z0, iv z1, iv z2, iv 1, iv (z0 &&& (255 : Int32)), iv ((XT.ushr z0 (8 : Int32)) &&& (255 : Int32)), iv 1, iv (z1 &&& (255 : Int32)), iv ((XT.ushr z1 (8 : Int32)) &&& (255 : Int32)), rv a77, rv a103, rv a104, iv 0, uu, uu, uu, uu, uu, uu]) at_132 rfl ?_
     refine W.iloadN (pc := 134) at_134 rfl ?_
     refine W.iconst (pc := 135) (1) at_135 (by decide) ?_
     refine W.iushr (pc := 136) at_136 ?_
     refine W.iconst (pc := 137) (3) at_137 (by decide) ?_
     refine W.iand (pc := 138) at_138 ?_
     refine W.istore (pc := 139) (ls' := #[iv z0, iv z1, iv z2, iv 1, iv (z0 &&& (255 : Int32)), iv ((XT.ushr z0 (8 : Int32)) &&& (255 : Int32)), iv 1, iv (z1 &&& (255 : Int32)), iv ((XT.ushr z1 (8 : Int32)) &&& (255 : Int32)), rv a77, rv a103, rv a104, iv 0, iv ((XT.ushr z2 (1 : Int32)) &&& (3 : Int32)), uu, uu, uu, uu, uu]) at_139 rfl ?_
     refine W.iload (pc := 141) at_141 rfl ?_
     refine W.ifY (pc := 143) 150 at_143 (y_eq (by decide)) (by decide) ?_
     refine W.new (pc := 150) at_150 (w1 hw) (w2 hw) (w3 hw) (laString hw) (by decide) (by decide) (fun a106 => ?_)
     show W _ _ _ _ _ _ _ _ _ _ _ _ 153 _ [(vr a106)]
     refine W.dup (pc := 153) at_153 rfl ?_
     refine W.aload (pc := 154) 10 at_154 rfl rfl ?_
     refine W.callI (pc := 156) (as := [(vr a103)]) 1 [(vr a106)] at_156 rfl (w4 hw) (w5 hw) (w3 hw) (w6 hw) (c23_init hw hs (p1 := a106) (p2 := a103) (x1 := (z1 &&& (255 : Int32))) (hx1 := (by have := rng32 z1; have := q255; have := am_255 z1; omega)) (mp2 := m2)) (by decide) pd__C_V rfl rfl rfl rfl (by decide) (fun v D' h => ?_)
     obtain ⟨a107, rfl, rfl⟩ := h
     show W _ _ _ _ _ _ _ _ _ _ _ _ 159 _ [(vr a106)]
     refine W.astore (pc := 159) (ls' := #[iv z0, iv z1, iv z2, iv 1, iv (z0 &&& (255 : Int32)), iv ((XT.ushr z0 (8 : Int32)) &&& (255 : Int32)), iv 1, iv (z1 &&& (255 : Int32)), iv ((XT.ushr z1 (8 : Int32)) &&& (255 : Int32)), rv a77, rv a103, rv a104, iv 0, iv ((XT.ushr z2 (1 : Int32)) &&& (3 : Int32)), rv a106, uu, uu, uu, uu]) at_159 rfl rfl ?_
     have K112 : ∀ (t109 : Slot) (a110 : Addr) (u111 : Value), SlOk t109 → u111.isRef = true → W Z EL room_1 "com/example/chainvouch/chainvouch/chain/TimeRangeStartsAfterPinLaw" "law" code maxLocals ret (fun v _ => v = some (.int 1)) ((a107, true, ar "[B" .byte [(vi (z1 &&& (255 : Int32)).toInt8.toInt32)]) :: (a106, true, oString (vr a107) (vi 0)) :: (a105, true, ar "[B" .byte [(vi (z0 &&& (255 : Int32)).toInt8.toInt32)]) :: (a104, true, oString (vr a105) (vi 0)) :: (a103, true, ar "[C" .char [(vi (z1 &&& (255 : Int32)))]) :: (a77, true, ar "[C" .char [(vi (z0 &&& (255 : Int32)))]) :: (a110, true, oTimeRange u111 (vr a106)) :: []) 9 18 197 #[iv z0, iv z1, iv z2, iv 1, iv (z0 &&& (255 : Int32)), iv ((XT.ushr z0 (8 : Int32)) &&& (255 : Int32)), iv 1, iv (z1 &&& (255 : Int32)), iv ((XT.ushr z1 (8 : Int32)) &&& (255 : Int32)), rv a77, rv a103, rv a104, iv 0, iv ((XT.ushr z2 (1 : Int32)) &&& (3 : Int32)), rv a106, t109, rv a110, uu, uu] [] := by
      intro t109 a110 u111 ht109 hu111
      refine W.aload (pc := 197) 16 at_197 rfl rfl ?_
      refine W.aload (pc := 199) 11 at_199 rfl rfl ?_
      refine W.callV (pc := 201) (as := [(vr a104)]) 0 [] at_201 (w60 hw) (w61 hw) (w63 hw) (w63 hw) (w62 hw) (w25 hw) (w64 hw) (Hp.exa m6) (c73_startsAfter hw hs (p1 := a110) (p2 := a104) (p3 := a106) (p4 := a105) (p5 := a107) (x1 := (z0 &&& (255 : Int32)).toInt8.toInt32) (hx1 := (by have := rng32 z0; have := q255; have := am_255 z0; have := a_i2b (z0 &&& (255 : Int32)); omega)) (x2 := (z1 &&& (255 : Int32)).toInt8.toInt32) (hx2 := (by have := rng32 z1; have := q255; have := am_255 z1; have := a_i2b (z1 &&& (255 : Int32)); omega)) (u1 := u111) (hu1 := hu111) (mp1 := m6) (mp2 := m3) (mp3 := m1) (mp4 := m2) (mp5 := m0)) (by decide) pd_Ljava_lang_String__Z rfl rfl rfl rfl (by decide) (fun v D' h => ?_)
      rcases h with ⟨h25, rfl, rfl⟩ | ⟨h26, h27, rfl, rfl⟩ | ⟨h28, h29, rfl, rfl⟩
      ·
       have ih25 := t_eq h25
       show W _ _ _ _ _ _ _ _ _ _ _ _ 204 _ [(vi 1)]
       refine W.istore (pc := 204) (ls' := #[iv z0, iv z1, iv z2, iv 1, iv (z0 &&& (255 : Int32)), iv ((XT.ushr z0 (8 : Int32)) &&& (255 : Int32)), iv 1, iv (z1 &&& (255 : Int32)), iv ((XT.ushr z1 (8 : Int32)) &&& (255 : Int32)), rv a77, rv a103, rv a104, iv 0, iv ((XT.ushr z2 (1 : Int32)) &&& (3 : Int32)), rv a106, t109, rv a110, iv 1, uu]) at_204 rfl ?_
       refine W.iload (pc := 206) at_206 rfl ?_
       refine W.ifN (pc := 208) at_208 (n_ne (by decide)) ?_
       refine W.iloadN (pc := 211) at_211 rfl ?_
       refine W.iload (pc := 212) at_212 rfl ?_
       refine W.iload (pc := 214) at_214 rfl ?_
       refine W.iload (pc := 216) at_216 rfl ?_
       refine W.iload (pc := 218) at_218 rfl ?_
       refine W.iload (pc := 220) at_220 rfl ?_
       refine W.callS (pc := 222) (as := [(vi 1), (vi (z0 &&& (255 : Int32))), (vi ((XT.ushr z0 (8 : Int32)) &&& (255 : Int32))), (vi 1), (vi (z1 &&& (255 : Int32))), (vi ((XT.ushr z1 (8 : Int32)) &&& (255 : Int32)))]) 0 [] at_222 (w65 hw) (w66 hw) (w67 hw) (w68 hw) (c79_geq hw hs (x1 := (z0 &&& (255 : Int32))) (hx1 := (by have := rng32 z0; have := q255; have := am_255 z0; have := a_i2b (z0 &&& (255 : Int32)); have := rng32 z1; have := am_255 z1; have := a_i2b (z1 &&& (255 : Int32)); omega)) (x2 := ((XT.ushr z0 (8 : Int32)) &&& (255 : Int32))) (hx2 := (by have := rng32 z0; have := q8; have := aushr_8 z0; have := q255; have := am_255 (XT.ushr z0 (8 : Int32)); omega)) (x3 := (z1 &&& (255 : Int32))) (hx3 := (by have := rng32 z1; have := q255; have := am_255 z1; have := rng32 z0; have := am_255 z0; have := a_i2b (z0 &&& (255 : Int32)); have := a_i2b (z1 &&& (255 : Int32)); omega)) (x4 := ((XT.ushr z1 (8 : Int32)) &&& (255 : Int32))) (hx4 := (by have := rng32 z1; have := q8; have := aushr_8 z1; have := q255; have := am_255 (XT.ushr z1 (8 : Int32)); omega))) (by decide) pd_IIIIII_Z rfl rfl rfl rfl (by decide) (fun v D' h => ?_)
       rcases h with ⟨h30, rfl, rfl⟩ | ⟨h31, h32, rfl, rfl⟩ | ⟨h33, h34, rfl, rfl⟩
       ·
        have ih30 := t_eq h30
        show W _ _ _ _ _ _ _ _ _ _ _ _ 225 _ [(vi 1)]
        refine W.ifN (pc := 225) at_225 (n_eq (by decide)) ?_
        refine W.iconst (pc := 228) (1) at_228 (by decide) ?_
        refine W.goto (pc := 229) 233 at_229 (by decide) ?_
        refine W.istore (pc := 233) (ls' := #[iv z0, iv z1, iv z2, iv 1, iv (z0 &&& (255 : Int32)), iv ((XT.ushr z0 (8 : Int32)) &&& (255 : Int32)), iv 1, iv (z1 &&& (255 : Int32)), iv ((XT.ushr z1 (8 : Int32)) &&& (255 : Int32)), rv a77, rv a103, rv a104, iv 0, iv ((XT.ushr z2 (1 : Int32)) &&& (3 : Int32)), rv a106, t109, rv a110, iv 1, iv 1]) at_233 rfl ?_
        refine W.iload (pc := 235) at_235 rfl ?_
        refine W.iload (pc := 237) at_237 rfl ?_
        refine W.icmpN (pc := 239) at_239 (n_ne (by decide)) ?_
        refine W.iconst (pc := 242) (1) at_242 (by decide) ?_
        refine W.goto (pc := 243) 247 at_243 (by decide) ?_
        exact W.ireturn (pc := 247) at_247 rfl (Or.inr (Or.inl rfl)) (nw_bool (by decide)) (by decide) rfl
       ·
        exact absurd h31 (Classical.not_not.mpr (y_eq (by have := rng32 z0; have := q255; have := am_255 z0; have := rng32 z1; have := am_255 z1; have := a_i2b (z0 &&& (255 : Int32)); have := a_i2b (z1 &&& (255 : Int32)); omega)))
       ·
        exact absurd h33 (Classical.not_not.mpr (y_eq (by have := rng32 z0; have := q255; have := am_255 z0; have := rng32 z1; have := am_255 z1; have := a_i2b (z0 &&& (255 : Int32)); have := a_i2b (z1 &&& (255 : Int32)); omega)))
      ·
       have ih26 := f_eq h26
       have ih27 := t_lt h27
       show W _ _ _ _ _ _ _ _ _ _ _ _ 204 _ [(vi 0)]
       refine W.istore (pc := 204) (ls' := #[iv z0, iv z1, iv z2, iv 1, iv (z0 &&& (255 : Int32)), iv ((XT.ushr z0 (8 : Int32)) &&& (255 : Int32)), iv 1, iv (z1 &&& (255 : Int32)), iv ((XT.ushr z1 (8 : Int32)) &&& (255 : Int32)), rv a77, rv a103, rv a104, iv 0, iv ((XT.ushr z2 (1 : Int32)) &&& (3 : Int32)), rv a106, t109, rv a110, iv 0, uu]) at_204 rfl ?_
       refine W.iload (pc := 206) at_206 rfl ?_
       refine W.ifN (pc := 208) at_208 (n_ne (by decide)) ?_
       refine W.iloadN (pc := 211) at_211 rfl ?_
       refine W.iload (pc := 212) at_212 rfl ?_
       refine W.iload (pc := 214) at_214 rfl ?_
       refine W.iload (pc := 216) at_216 rfl ?_
       refine W.iload (pc := 218) at_218 rfl ?_
       refine W.iload (pc := 220) at_220 rfl ?_
       refine W.callS (pc := 222) (as := [(vi 1), (vi (z0 &&& (255 : Int32))), (vi ((XT.ushr z0 (8 : Int32)) &&& (255 : Int32))), (vi 1), (vi (z1 &&& (255 : Int32))), (vi ((XT.ushr z1 (8 : Int32)) &&& (255 : Int32)))]) 0 [] at_222 (w65 hw) (w66 hw) (w67 hw) (w68 hw) (c79_geq hw hs (x1 := (z0 &&& (255 : Int32))) (hx1 := (by have := rng32 z0; have := q255; have := am_255 z0; have := a_i2b (z0 &&& (255 : Int32)); have := rng32 z1; have := am_255 z1; have := a_i2b (z1 &&& (255 : Int32)); have := am_255 (z0 &&& (255 : Int32)).toInt8.toInt32; have := am_255 (z1 &&& (255 : Int32)).toInt8.toInt32; have := a_sub ((z0 &&& (255 : Int32)).toInt8.toInt32 &&& (255 : Int32)) ((z1 &&& (255 : Int32)).toInt8.toInt32 &&& (255 : Int32)); have := q0; omega)) (x2 := ((XT.ushr z0 (8 : Int32)) &&& (255 : Int32))) (hx2 := (by have := rng32 z0; have := q8; have := aushr_8 z0; have := q255; have := am_255 (XT.ushr z0 (8 : Int32)); omega)) (x3 := (z1 &&& (255 : Int32))) (hx3 := (by have := rng32 z1; have := q255; have := am_255 z1; have := rng32 z0; have := am_255 z0; have := a_i2b (z0 &&& (255 : Int32)); have := a_i2b (z1 &&& (255 : Int32)); have := am_255 (z0 &&& (255 : Int32)).toInt8.toInt32; have := am_255 (z1 &&& (255 : Int32)).toInt8.toInt32; have := a_sub ((z0 &&& (255 : Int32)).toInt8.toInt32 &&& (255 : Int32)) ((z1 &&& (255 : Int32)).toInt8.toInt32 &&& (255 : Int32)); have := q0; omega)) (x4 := ((XT.ushr z1 (8 : Int32)) &&& (255 : Int32))) (hx4 := (by have := rng32 z1; have := q8; have := aushr_8 z1; have := q255; have := am_255 (XT.ushr z1 (8 : Int32)); omega))) (by decide) pd_IIIIII_Z rfl rfl rfl rfl (by decide) (fun v D' h => ?_)
       rcases h with ⟨h35, rfl, rfl⟩ | ⟨h36, h37, rfl, rfl⟩ | ⟨h38, h39, rfl, rfl⟩
       ·
        exact absurd h35 (n_eq (by have := rng32 z0; have := q255; have := am_255 z0; have := rng32 z1; have := am_255 z1; have := a_i2b (z0 &&& (255 : Int32)); have := a_i2b (z1 &&& (255 : Int32)); have := am_255 (z0 &&& (255 : Int32)).toInt8.toInt32; have := am_255 (z1 &&& (255 : Int32)).toInt8.toInt32; have := a_sub ((z0 &&& (255 : Int32)).toInt8.toInt32 &&& (255 : Int32)) ((z1 &&& (255 : Int32)).toInt8.toInt32 &&& (255 : Int32)); have := q0; omega))
       ·
        have ih36 := f_eq h36
        have ih37 := t_le h37
        show W _ _ _ _ _ _ _ _ _ _ _ _ 225 _ [(vi 0)]
        refine W.ifY (pc := 225) 232 at_225 (y_eq (by decide)) (by decide) ?_
        refine W.iconst (pc := 232) (0) at_232 (by decide) ?_
        refine W.istore (pc := 233) (ls' := #[iv z0, iv z1, iv z2, iv 1, iv (z0 &&& (255 : Int32)), iv ((XT.ushr z0 (8 : Int32)) &&& (255 : Int32)), iv 1, iv (z1 &&& (255 : Int32)), iv ((XT.ushr z1 (8 : Int32)) &&& (255 : Int32)), rv a77, rv a103, rv a104, iv 0, iv ((XT.ushr z2 (1 : Int32)) &&& (3 : Int32)), rv a106, t109, rv a110, iv 0, iv 0]) at_233 rfl ?_
        refine W.iload (pc := 235) at_235 rfl ?_
        refine W.iload (pc := 237) at_237 rfl ?_
        refine W.icmpN (pc := 239) at_239 (n_ne (by decide)) ?_
        refine W.iconst (pc := 242) (1) at_242 (by decide) ?_
        refine W.goto (pc := 243) 247 at_243 (by decide) ?_
        exact W.ireturn (pc := 247) at_247 rfl (Or.inr (Or.inl rfl)) (nw_bool (by decide)) (by decide) rfl
       ·
        have ih38 := f_eq h38
        exact absurd h39 (Classical.not_not.mpr (y_le (by have := rng32 z0; have := q255; have := am_255 z0; have := rng32 z1; have := am_255 z1; have := a_i2b (z0 &&& (255 : Int32)); have := a_i2b (z1 &&& (255 : Int32)); have := am_255 (z0 &&& (255 : Int32)).toInt8.toInt32; have := am_255 (z1 &&& (255 : Int32)).toInt8.toInt32; have := a_sub ((z0 &&& (255 : Int32)).toInt8.toInt32 &&& (255 : Int32)) ((z1 &&& (255 : Int32)).toInt8.toInt32 &&& (255 : Int32)); have := q0; omega)))
      ·
       have ih28 := f_eq h28
       have ih29 := f_lt h29
       show W _ _ _ _ _ _ _ _ _ _ _ _ 204 _ [(vi 1)]
       refine W.istore (pc := 204) (ls' := #[iv z0, iv z1, iv z2, iv 1, iv (z0 &&& (255 : Int32)), iv ((XT.ushr z0 (8 : Int32)) &&& (255 : Int32)), iv 1, iv (z1 &&& (255 : Int32)), iv ((XT.ushr z1 (8 : Int32)) &&& (255 : Int32)), rv a77, rv a103, rv a104, iv 0, iv ((XT.ushr z2 (1 : Int32)) &&& (3 : Int32)), rv a106, t109, rv a110, iv 1, uu]) at_204 rfl ?_
       refine W.iload (pc := 206) at_206 rfl ?_
       refine W.ifN (pc := 208) at_208 (n_ne (by decide)) ?_
       refine W.iloadN (pc := 211) at_211 rfl ?_
       refine W.iload (pc := 212) at_212 rfl ?_
       refine W.iload (pc := 214) at_214 rfl ?_
       refine W.iload (pc := 216) at_216 rfl ?_
       refine W.iload (pc := 218) at_218 rfl ?_
       refine W.iload (pc := 220) at_220 rfl ?_
       refine W.callS (pc := 222) (as := [(vi 1), (vi (z0 &&& (255 : Int32))), (vi ((XT.ushr z0 (8 : Int32)) &&& (255 : Int32))), (vi 1), (vi (z1 &&& (255 : Int32))), (vi ((XT.ushr z1 (8 : Int32)) &&& (255 : Int32)))]) 0 [] at_222 (w65 hw) (w66 hw) (w67 hw) (w68 hw) (c79_geq hw hs (x1 := (z0 &&& (255 : Int32))) (hx1 := (by have := rng32 z0; have := q255; have := am_255 z0; have := a_i2b (z0 &&& (255 : Int32)); have := rng32 z1; have := am_255 z1; have := a_i2b (z1 &&& (255 : Int32)); have := q0; have := am_255 (z0 &&& (255 : Int32)).toInt8.toInt32; have := am_255 (z1 &&& (255 : Int32)).toInt8.toInt32; have := a_sub ((z0 &&& (255 : Int32)).toInt8.toInt32 &&& (255 : Int32)) ((z1 &&& (255 : Int32)).toInt8.toInt32 &&& (255 : Int32)); omega)) (x2 := ((XT.ushr z0 (8 : Int32)) &&& (255 : Int32))) (hx2 := (by have := rng32 z0; have := q8; have := aushr_8 z0; have := q255; have := am_255 (XT.ushr z0 (8 : Int32)); omega)) (x3 := (z1 &&& (255 : Int32))) (hx3 := (by have := rng32 z1; have := q255; have := am_255 z1; have := rng32 z0; have := am_255 z0; have := a_i2b (z0 &&& (255 : Int32)); have := a_i2b (z1 &&& (255 : Int32)); have := q0; have := am_255 (z0 &&& (255 : Int32)).toInt8.toInt32; have := am_255 (z1 &&& (255 : Int32)).toInt8.toInt32; have := a_sub ((z0 &&& (255 : Int32)).toInt8.toInt32 &&& (255 : Int32)) ((z1 &&& (255 : Int32)).toInt8.toInt32 &&& (255 : Int32)); omega)) (x4 := ((XT.ushr z1 (8 : Int32)) &&& (255 : Int32))) (hx4 := (by have := rng32 z1; have := q8; have := aushr_8 z1; have := q255; have := am_255 (XT.ushr z1 (8 : Int32)); omega))) (by decide) pd_IIIIII_Z rfl rfl rfl rfl (by decide) (fun v D' h => ?_)
       rcases h with ⟨h40, rfl, rfl⟩ | ⟨h41, h42, rfl, rfl⟩ | ⟨h43, h44, rfl, rfl⟩
       ·
        exact absurd h40 (n_eq (by have := rng32 z0; have := q255; have := am_255 z0; have := rng32 z1; have := am_255 z1; have := a_i2b (z0 &&& (255 : Int32)); have := a_i2b (z1 &&& (255 : Int32)); have := q0; have := am_255 (z0 &&& (255 : Int32)).toInt8.toInt32; have := am_255 (z1 &&& (255 : Int32)).toInt8.toInt32; have := a_sub ((z0 &&& (255 : Int32)).toInt8.toInt32 &&& (255 : Int32)) ((z1 &&& (255 : Int32)).toInt8.toInt32 &&& (255 : Int32)); omega))
       ·
        have ih41 := f_eq h41
        exact absurd h42 (n_le (by have := rng32 z0; have := q255; have := am_255 z0; have := rng32 z1; have := am_255 z1; have := a_i2b (z0 &&& (255 : Int32)); have := a_i2b (z1 &&& (255 : Int32)); have := q0; have := am_255 (z0 &&& (255 : Int32)).toInt8.toInt32; have := am_255 (z1 &&& (255 : Int32)).toInt8.toInt32; have := a_sub ((z0 &&& (255 : Int32)).toInt8.toInt32 &&& (255 : Int32)) ((z1 &&& (255 : Int32)).toInt8.toInt32 &&& (255 : Int32)); omega))
       ·
        have ih43 := f_eq h43
        have ih44 := f_le h44
        show W _ _ _ _ _ _ _ _ _ _ _ _ 225 _ [(vi 1)]
        refine W.ifN (pc := 225) at_225 (n_eq (by decide)) ?_
        refine W.iconst (pc := 228) (1) at_228 (by decide) ?_
        refine W.goto (pc := 229) 233 at_229 (by decide) ?_
        refine W.istore (pc := 233) (ls' := #[iv z0, iv z1, iv z2, iv 1, iv (z0 &&& (255 : Int32)), iv ((XT.ushr z0 (8 : Int32)) &&& (255 : Int32)), iv 1, iv (z1 &&& (255 : Int32)), iv ((XT.ushr z1 (8 : Int32)) &&& (255 : Int32)), rv a77, rv a103, rv a104, iv 0, iv ((XT.ushr z2 (1 : Int32)) &&& (3 : Int32)), rv a106, t109, rv a110, iv 1, iv 1]) at_233 rfl ?_
        refine W.iload (pc := 235) at_235 rfl ?_
        refine W.iload (pc := 237) at_237 rfl ?_
        refine W.icmpN (pc := 239) at_239 (n_ne (by decide)) ?_
        refine W.iconst (pc := 242) (1) at_242 (by decide) ?_
        refine W.goto (pc := 243) 247 at_243 (by decide) ?_
        exact W.ireturn (pc := 247) at_247 rfl (Or.inr (Or.inl rfl)) (nw_bool (by decide)) (by decide) rfl
     refine W.aconstNull (pc := 161) at_161 ?_
     refine W.astore (pc := 162) (ls' := #[iv z0, iv z1, iv z2, iv 1, iv (z0 &&& (255 : Int32)), iv ((XT.ushr z0 (8 : Int32)) &&& (255 : Int32)), iv 1, iv (z1 &&& (255 : Int32)), iv ((XT.ushr z1 (8 : Int32)) &&& (255 : Int32)), rv a77, rv a103, rv a104, iv 0, iv ((XT.ushr z2 (1 : Int32)) &&& (3 : Int32)), rv a106, .val .null, uu, uu, uu]) at_162 rfl rfl ?_
     refine W.iload (pc := 164) at_164 rfl ?_
     refine W.iconst (pc := 166) (1) at_166 (by decide) ?_
     refine W.icmp (pc := 167) 174 at_167 (by decide) (fun h45 => ?_) (fun h45 => ?_)
     ·
      have ih45 := t_ne h45
      refine W.iload (pc := 174) at_174 rfl ?_
      refine W.iconst (pc := 176) (2) at_176 (by decide) ?_
      refine W.icmp (pc := 177) 184 at_177 (by decide) (fun h46 => ?_) (fun h46 => ?_)
      ·
       have ih46 := t_ne h46
       refine W.new (pc := 184) at_184 (w23 hw) (w24 hw) (w25 hw) (laTimeRange hw) (by decide) (by decide) (fun a113 => ?_)
       show W _ _ _ _ _ _ _ _ _ _ _ _ 187 _ [(vr a113)]
       refine W.dup (pc := 187) at_187 rfl ?_
       refine W.aload (pc := 188) 15 at_188 rfl rfl ?_
       refine W.aload (pc := 190) 14 at_190 rfl rfl ?_
       refine W.callI (pc := 192) (as := [.null, (vr a106)]) 1 [(vr a113)] at_192 rfl (w26 hw) (w27 hw) (w25 hw) (w28 hw) (c28_init hw hs (p1 := a113) (p2 := a106) (p3 := a107) (x1 := (z1 &&& (255 : Int32)).toInt8.toInt32) (hx1 := (by have := rng32 z1; have := q255; have := am_255 z1; have := a_i2b (z1 &&& (255 : Int32)); omega))) (by decide) pd_Ljava_lang_String_Ljava_lang_String__V rfl rfl rfl rfl (by decide) (fun v D' h => ?_)
       obtain ⟨rfl, rfl⟩ := h
       show W _ _ _ _ _ _ _ _ _ _ _ _ 195 _ [(vr a113)]
       refine W.astore (pc := 195) (ls' := #[iv z0, iv z1, iv z2, iv 1, iv (z0 &&& (255 : Int32)), iv ((XT.ushr z0 (8 : Int32)) &&& (255 : Int32)), iv 1, iv (z1 &&& (255 : Int32)), iv ((XT.ushr z1 (8 : Int32)) &&& (255 : Int32)), rv a77, rv a103, rv a104, iv 0, iv ((XT.ushr z2 (1 : Int32)) &&& (3 : Int32)), rv a106, .val .null, rv a113, uu, uu]) at_195 rfl rfl ?_
       refine W.front 6 (D' := (a77, true, ar "[C" .char [(vi (z0 &&& (255 : Int32)))]) :: (a113, true, oTimeRange .null (vr a106)) :: (a107, true, ar "[B" .byte [(vi (z1 &&& (255 : Int32)).toInt8.toInt32)]) :: (a106, true, oString (vr a107) (vi 0)) :: (a105, true, ar "[B" .byte [(vi (z0 &&& (255 : Int32)).toInt8.toInt32)]) :: (a104, true, oString (vr a105) (vi 0)) :: (a103, true, ar "[C" .char [(vi (z1 &&& (255 : Int32)))]) :: []) rfl rfl ?_
       refine W.front 6 (D' := (a103, true, ar "[C" .char [(vi (z1 &&& (255 : Int32)))]) :: (a77, true, ar "[C" .char [(vi (z0 &&& (255 : Int32)))]) :: (a113, true, oTimeRange .null (vr a106)) :: (a107, true, ar "[B" .byte [(vi (z1 &&& (255 : Int32)).toInt8.toInt32)]) :: (a106, true, oString (vr a107) (vi 0)) :: (a105, true, ar "[B" .byte [(vi (z0 &&& (255 : Int32)).toInt8.toInt32)]) :: (a104, true, oString (vr a105) (vi 0)) :: []) rfl rfl ?_
       refine W.front 6 (D' := (a104, true, oString (vr a105) (vi 0)) :: (a103, true, ar "[C" .char [(vi (z1 &&& (255 : Int32)))]) :: (a77, true, ar "[C" .char [(vi (z0 &&& (255 : Int32)))]) :: (a113, true, oTimeRange .null (vr a106)) :: (a107, true, ar "[B" .byte [(vi (z1 &&& (255 : Int32)).toInt8.toInt32)]) :: (a106, true, oString (vr a107) (vi 0)) :: (a105, true, ar "[B" .byte [(vi (z0 &&& (255 : Int32)).toInt8.toInt32)]) :: []) rfl rfl ?_
       refine W.front 6 (D' := (a105, true, ar "[B" .byte [(vi (z0 &&& (255 : Int32)).toInt8.toInt32)]) :: (a104, true, oString (vr a105) (vi 0)) :: (a103, true, ar "[C" .char [(vi (z1 &&& (255 : Int32)))]) :: (a77, true, ar "[C" .char [(vi (z0 &&& (255 : Int32)))]) :: (a113, true, oTimeRange .null (vr a106)) :: (a107, true, ar "[B" .byte [(vi (z1 &&& (255 : Int32)).toInt8.toInt32)]) :: (a106, true, oString (vr a107) (vi 0)) :: []) rfl rfl ?_
       refine W.front 6 (D' := (a106, true, oString (vr a107) (vi 0)) :: (a105, true, ar "[B" .byte [(vi (z0 &&& (255 : Int32)).toInt8.toInt32)]) :: (a104, true, oString (vr a105) (vi 0)) :: (a103, true, ar "[C" .char [(vi (z1 &&& (255 : Int32)))]) :: (a77, true, ar "[C" .char [(vi (z0 &&& (255 : Int32)))]) :: (a113, true, oTimeRange .null (vr a106)) :: (a107, true, ar "[B" .byte [(vi (z1 &&& (255 : Int32)).toInt8.toInt32)]) :: []) rfl rfl ?_
       refine W.front 6 (D' := (a107, true, ar "[B" .byte [(vi (z1 &&& (255 : Int32)).toInt8.toInt32)]) :: (a106, true, oString (vr a107) (vi 0)) :: (a105, true, ar "[B" .byte [(vi (z0 &&& (255 : Int32)).toInt8.toInt32)]) :: (a104, true, oString (vr a105) (vi 0)) :: (a103, true, ar "[C" .char [(vi (z1 &&& (255 : Int32)))]) :: (a77, true, ar "[C" .char [(vi (z0 &&& (255 : Int32)))]) :: (a113, true, oTimeRange .null (vr a106)) :: []) rfl rfl ?_
       exact W.mono (by decide) (by decide) (K112 (.val .null) a113 .null (Or.inr ⟨_, rfl, rfl⟩) rfl)
      ·
       have ih46 := f_ne h46
       refine W.aload (pc := 180) 14 at_180 rfl rfl ?_
       refine W.astore (pc := 182) (ls' := #[iv z0, iv z1, iv z2, iv 1, iv (z0 &&& (255 : Int32)), iv ((XT.ushr z0 (8 : Int32)) &&& (255 : Int32)), iv 1, iv (z1 &&& (255 : Int32)), iv ((XT.ushr z1 (8 : Int32)) &&& (255 : Int32)), rv a77, rv a103, rv a104, iv 0, iv ((XT.ushr z2 (1 : Int32)) &&& (3 : Int32)), rv a106, rv a106, uu, uu, uu]) at_182 rfl rfl ?_
       refine W.new (pc := 184) at_184 (w23 hw) (w24 hw) (w25 hw) (laTimeRange hw) (by decide) (by decide) (fun a114 => ?_)
       show W _ _ _ _ _ _ _ _ _ _ _ _ 187 _ [(vr a114)]
       refine W.dup (pc := 187) at_187 rfl ?_
       refine W.aload (pc := 188) 15 at_188 rfl rfl ?_
       refine W.aload (pc := 190) 14 at_190 rfl rfl ?_
       refine W.callI (pc := 192) (as := [(vr a106), (vr a106)]) 1 [(vr a114)] at_192 rfl (w26 hw) (w27 hw) (w25 hw) (w28 hw) (c29_init hw hs (p1 := a114) (p2 := a106) (p3 := a107) (x1 := (z1 &&& (255 : Int32)).toInt8.toInt32) (hx1 := (by have := rng32 z1; have := q255; have := am_255 z1; have := a_i2b (z1 &&& (255 : Int32)); omega)) (mp2 := m1) (mp3 := m0)) (by decide) pd_Ljava_lang_String_Ljava_lang_String__V rfl rfl rfl rfl (by decide) (fun v D' h => ?_)
       obtain ⟨rfl, rfl⟩ := h
       show W _ _ _ _ _ _ _ _ _ _ _ _ 195 _ [(vr a114)]
       refine W.astore (pc := 195) (ls' := #[iv z0, iv z1, iv z2, iv 1, iv (z0 &&& (255 : Int32)), iv ((XT.ushr z0 (8 : Int32)) &&& (255 : Int32)), iv 1, iv (z1 &&& (255 : Int32)), iv ((XT.ushr z1 (8 : Int32)) &&& (255 : Int32)), rv a77, rv a103, rv a104, iv 0, iv ((XT.ushr z2 (1 : Int32)) &&& (3 : Int32)), rv a106, rv a106, rv a114, uu, uu]) at_195 rfl rfl ?_
       refine W.front 6 (D' := (a77, true, ar "[C" .char [(vi (z0 &&& (255 : Int32)))]) :: (a114, true, oTimeRange (vr a106) (vr a106)) :: (a107, true, ar "[B" .byte [(vi (z1 &&& (255 : Int32)).toInt8.toInt32)]) :: (a106, true, oString (vr a107) (vi 0)) :: (a105, true, ar "[B" .byte [(vi (z0 &&& (255 : Int32)).toInt8.toInt32)]) :: (a104, true, oString (vr a105) (vi 0)) :: (a103, true, ar "[C" .char [(vi (z1 &&& (255 : Int32)))]) :: []) rfl rfl ?_
       refine W.front 6 (D' := (a103, true, ar "[C" .char [(vi (z1 &&& (255 : Int32)))]) :: (a77, true, ar "[C" .char [(vi (z0 &&& (255 : Int32)))]) :: (a114, true, oTimeRange (vr a106) (vr a106)) :: (a107, true, ar "[B" .byte [(vi (z1 &&& (255 : Int32)).toInt8.toInt32)]) :: (a106, true, oString (vr a107) (vi 0)) :: (a105, true, ar "[B" .byte [(vi (z0 &&& (255 : Int32)).toInt8.toInt32)]) :: (a104, true, oString (vr a105) (vi 0)) :: []) rfl rfl ?_
       refine W.front 6 (D' := (a104, true, oString (vr a105) (vi 0)) :: (a103, true, ar "[C" .char [(vi (z1 &&& (255 : Int32)))]) :: (a77, true, ar "[C" .char [(vi (z0 &&& (255 : Int32)))]) :: (a114, true, oTimeRange (vr a106) (vr a106)) :: (a107, true, ar "[B" .byte [(vi (z1 &&& (255 : Int32)).toInt8.toInt32)]) :: (a106, true, oString (vr a107) (vi 0)) :: (a105, true, ar "[B" .byte [(vi (z0 &&& (255 : Int32)).toInt8.toInt32)]) :: []) rfl rfl ?_
       refine W.front 6 (D' := (a105, true, ar "[B" .byte [(vi (z0 &&& (255 : Int32)).toInt8.toInt32)]) :: (a104, true, oString (vr a105) (vi 0)) :: (a103, true, ar "[C" .char [(vi (z1 &&& (255 : Int32)))]) :: (a77, true, ar "[C" .char [(vi (z0 &&& (255 : Int32)))]) :: (a114, true, oTimeRange (vr a106) (vr a106)) :: (a107, true, ar "[B" .byte [(vi (z1 &&& (255 : Int32)).toInt8.toInt32)]) :: (a106, true, oString (vr a107) (vi 0)) :: []) rfl rfl ?_
       refine W.front 6 (D' := (a106, true, oString (vr a107) (vi 0)) :: (a105, true, ar "[B" .byte [(vi (z0 &&& (255 : Int32)).toInt8.toInt32)]) :: (a104, true, oString (vr a105) (vi 0)) :: (a103, true, ar "[C" .char [(vi (z1 &&& (255 : Int32)))]) :: (a77, true, ar "[C" .char [(vi (z0 &&& (255 : Int32)))]) :: (a114, true, oTimeRange (vr a106) (vr a106)) :: (a107, true, ar "[B" .byte [(vi (z1 &&& (255 : Int32)).toInt8.toInt32)]) :: []) rfl rfl ?_
       refine W.front 6 (D' := (a107, true, ar "[B" .byte [(vi (z1 &&& (255 : Int32)).toInt8.toInt32)]) :: (a106, true, oString (vr a107) (vi 0)) :: (a105, true, ar "[B" .byte [(vi (z0 &&& (255 : Int32)).toInt8.toInt32)]) :: (a104, true, oString (vr a105) (vi 0)) :: (a103, true, ar "[C" .char [(vi (z1 &&& (255 : Int32)))]) :: (a77, true, ar "[C" .char [(vi (z0 &&& (255 : Int32)))]) :: (a114, true, oTimeRange (vr a106) (vr a106)) :: []) rfl rfl ?_
       exact W.mono (by decide) (by decide) (K112 (rv a106) a114 (vr a106) (Or.inr ⟨_, rfl, rfl⟩) rfl)
     ·
      have ih45 := f_ne h45
      refine W.ldcT (pc := 170) 0 (vs := []) rfl at_170 (w22 hw) (wS hw) m0 tx_ (by decide) (by decide) (by decide) (fun a115 a116 => ?_)
      show W _ _ _ _ _ _ _ _ _ _ _ _ 172 _ [(vr a115)]
      refine W.astore (pc := 172) (ls' := #[iv z0, iv z1, iv z2, iv 1, iv (z0 &&& (255 : Int32)), iv ((XT.ushr z0 (8 : Int32)) &&& (255 : Int32)), iv 1, iv (z1 &&& (255 : Int32)), iv ((XT.ushr z1 (8 : Int32)) &&& (255 : Int32)), rv a77, rv a103, rv a104, iv 0, iv ((XT.ushr z2 (1 : Int32)) &&& (3 : Int32)), rv a106, rv a115, uu, uu, uu]) at_172 rfl rfl ?_
      refine W.iload (pc := 174) at_174 rfl ?_
      refine W.iconst (pc := 176) (2) at_176 (by decide) ?_
      refine W.icmpY (pc := 177) 184 at_177 (y_ne (by have := rng32 z2; have := q1; have := aushr_1 z2; have := q3; have := am_3 (XT.ushr z2 (1 : Int32)); have := q2; omega)) (by decide) ?_
      refine W.new (pc := 184) at_184 (w23 hw) (w24 hw) (w25 hw) (laTimeRange hw) (by decide) (by decide) (fun a117 => ?_)
      show W _ _ _ _ _ _ _ _ _ _ _ _ 187 _ [(vr a117)]
      refine W.dup (pc := 187) at_187 rfl ?_
      refine W.aload (pc := 188) 15 at_188 rfl rfl ?_
      refine W.aload (pc := 190) 14 at_190 rfl rfl ?_
      refine W.callI (pc := 192) (as := [(vr a115), (vr a106)]) 1 [(vr a117)] at_192 rfl (w26 hw) (w27 hw) (w25 hw) (w28 hw) (c36_init hw hs (p1 := a117) (p2 := a115) (p3 := a106) (p4 := a116) (p5 := a107) (x1 := (z1 &&& (255 : Int32)).toInt8.toInt32) (hx1 := (by have := rng32 z1; have := q255; have := am_255 z1; have := a_i2b (z1 &&& (255 : Int32)); omega)) (mp2 := m0) (mp3 := m3) (mp4 := m1) (mp5 := m2)) (by decide) pd_Ljava_lang_String_Ljava_lang_String__V rfl rfl rfl rfl (by decide) (fun v D' h => ?_)
      obtain ⟨rfl, rfl⟩ := h
      show W _ _ _ _ _ _ _ _ _ _ _ _ 195 _ [(vr a117)]
      refine W.astore (pc := 195) (ls' := #[iv z0, iv z1, iv z2, iv 1, iv (z0 &&& (255 : Int32)), iv ((XT.ushr z0 (8 : Int32)) &&& (255 : Int32)), iv 1, iv (z1 &&& (255 : Int32)), iv ((XT.ushr z1 (8 : Int32)) &&& (255 : Int32)), rv a77, rv a103, rv a104, iv 0, iv ((XT.ushr z2 (1 : Int32)) &&& (3 : Int32)), rv a106, rv a115, rv a117, uu, uu]) at_195 rfl rfl ?_
      refine W.front 8 (D' := (a77, true, ar "[C" .char [(vi (z0 &&& (255 : Int32)))]) :: (a117, true, oTimeRange (vr a115) (vr a106)) :: (a115, false, oString (vr a116) (vi 0)) :: (a116, false, ar "" .byte []) :: (a107, true, ar "[B" .byte [(vi (z1 &&& (255 : Int32)).toInt8.toInt32)]) :: (a106, true, oString (vr a107) (vi 0)) :: (a105, true, ar "[B" .byte [(vi (z0 &&& (255 : Int32)).toInt8.toInt32)]) :: (a104, true, oString (vr a105) (vi 0)) :: (a103, true, ar "[C" .char [(vi (z1 &&& (255 : Int32)))]) :: []) rfl rfl ?_
      refine W.front 8 (D' := (a103, true, ar "[C" .char [(vi (z1 &&& (255 : Int32)))]) :: (a77, true, ar "[C" .char [(vi (z0 &&& (255 : Int32)))]) :: (a117, true, oTimeRange (vr a115) (vr a106)) :: (a115, false, oString (vr a116) (vi 0)) :: (a116, false, ar "" .byte []) :: (a107, true, ar "[B" .byte [(vi (z1 &&& (255 : Int32)).toInt8.toInt32)]) :: (a106, true, oString (vr a107) (vi 0)) :: (a105, true, ar "[B" .byte [(vi (z0 &&& (255 : Int32)).toInt8.toInt32)]) :: (a104, true, oString (vr a105) (vi 0)) :: []) rfl rfl ?_
      refine W.front 8 (D' := (a104, true, oString (vr a105) (vi 0)) :: (a103, true, ar "[C" .char [(vi (z1 &&& (255 : Int32)))]) :: (a77, true, ar "[C" .char [(vi (z0 &&& (255 : Int32)))]) :: (a117, true, oTimeRange (vr a115) (vr a106)) :: (a115, false, oString (vr a116) (vi 0)) :: (a116, false, ar "" .byte []) :: (a107, true, ar "[B" .byte [(vi (z1 &&& (255 : Int32)).toInt8.toInt32)]) :: (a106, true, oString (vr a107) (vi 0)) :: (a105, true, ar "[B" .byte [(vi (z0 &&& (255 : Int32)).toInt8.toInt32)]) :: []) rfl rfl ?_
      refine W.front 8 (D' := (a105, true, ar "[B" .byte [(vi (z0 &&& (255 : Int32)).toInt8.toInt32)]) :: (a104, true, oString (vr a105) (vi 0)) :: (a103, true, ar "[C" .char [(vi (z1 &&& (255 : Int32)))]) :: (a77, true, ar "[C" .char [(vi (z0 &&& (255 : Int32)))]) :: (a117, true, oTimeRange (vr a115) (vr a106)) :: (a115, false, oString (vr a116) (vi 0)) :: (a116, false, ar "" .byte []) :: (a107, true, ar "[B" .byte [(vi (z1 &&& (255 : Int32)).toInt8.toInt32)]) :: (a106, true, oString (vr a107) (vi 0)) :: []) rfl rfl ?_
      refine W.front 8 (D' := (a106, true, oString (vr a107) (vi 0)) :: (a105, true, ar "[B" .byte [(vi (z0 &&& (255 : Int32)).toInt8.toInt32)]) :: (a104, true, oString (vr a105) (vi 0)) :: (a103, true, ar "[C" .char [(vi (z1 &&& (255 : Int32)))]) :: (a77, true, ar "[C" .char [(vi (z0 &&& (255 : Int32)))]) :: (a117, true, oTimeRange (vr a115) (vr a106)) :: (a115, false, oString (vr a116) (vi 0)) :: (a116, false, ar "" .byte []) :: (a107, true, ar "[B" .byte [(vi (z1 &&& (255 : Int32)).toInt8.toInt32)]) :: []) rfl rfl ?_
      refine W.front 8 (D' := (a107, true, ar "[B" .byte [(vi (z1 &&& (255 : Int32)).toInt8.toInt32)]) :: (a106, true, oString (vr a107) (vi 0)) :: (a105, true, ar "[B" .byte [(vi (z0 &&& (255 : Int32)).toInt8.toInt32)]) :: (a104, true, oString (vr a105) (vi 0)) :: (a103, true, ar "[C" .char [(vi (z1 &&& (255 : Int32)))]) :: (a77, true, ar "[C" .char [(vi (z0 &&& (255 : Int32)))]) :: (a117, true, oTimeRange (vr a115) (vr a106)) :: (a115, false, oString (vr a116) (vi 0)) :: (a116, false, ar "" .byte []) :: []) rfl rfl ?_
      refine W.heap (fun _ _ H => H.sub ((((((((((List.Sublist.refl _).cons _).cons _).cons_cons _).cons_cons _).cons_cons _).cons_cons _).cons_cons _).cons_cons _).cons_cons _)) ?_
      exact W.mono (by decide) (by decide) (K112 (rv a115) a117 (vr a115) (Or.inr ⟨_, rfl, rfl⟩) rfl)
    ·
     have ih24 := f_eq h24
     refine W.iconst (pc := 127) (1) at_127 (by decide) ?_
     refine W.goto (pc := 128) 132 at_128 (by decide) ?_
     refine W.istore (pc := 132) (ls' := #[iv z0, iv z1, iv z2, iv 1, iv (z0 &&& (255 : Int32)), iv ((XT.ushr z0 (8 : Int32)) &&& (255 : Int32)), iv 1, iv (z1 &&& (255 : Int32)), iv ((XT.ushr z1 (8 : Int32)) &&& (255 : Int32)), rv a77, rv a103, rv a104, iv 1, uu, uu, uu, uu, uu, uu]) at_132 rfl ?_
     refine W.iloadN (pc := 134) at_134 rfl ?_
     refine W.iconst (pc := 135) (1) at_135 (by decide) ?_
     refine W.iushr (pc := 136) at_136 ?_
     refine W.iconst (pc := 137) (3) at_137 (by decide) ?_
     refine W.iand (pc := 138) at_138 ?_
     refine W.istore (pc := 139) (ls' := #[iv z0, iv z1, iv z2, iv 1, iv (z0 &&& (255 : Int32)), iv ((XT.ushr z0 (8 : Int32)) &&& (255 : Int32)), iv 1, iv (z1 &&& (255 : Int32)), iv ((XT.ushr z1 (8 : Int32)) &&& (255 : Int32)), rv a77, rv a103, rv a104, iv 1, iv ((XT.ushr z2 (1 : Int32)) &&& (3 : Int32)), uu, uu, uu, uu, uu]) at_139 rfl ?_
     refine W.iload (pc := 141) at_141 rfl ?_
     refine W.ifN (pc := 143) at_143 (n_eq (by decide)) ?_
     refine W.aconstNull (pc := 146) at_146 ?_
     refine W.goto (pc := 147) 159 at_147 (by decide) ?_
     refine W.astore (pc := 159) (ls' := #[iv z0, iv z1, iv z2, iv 1, iv (z0 &&& (255 : Int32)), iv ((XT.ushr z0 (8 : Int32)) &&& (255 : Int32)), iv 1, iv (z1 &&& (255 : Int32)), iv ((XT.ushr z1 (8 : Int32)) &&& (255 : Int32)), rv a77, rv a103, rv a104, iv 1, iv ((XT.ushr z2 (1 : Int32)) &&& (3 : Int32)), .val .null, uu, uu, uu, uu]) at_159 rfl rfl ?_
     have K122 : ∀ (t119 : Slot) (a120 : Addr) (u121 : Value), SlOk t119 → u121.isRef = true → W Z EL room_1 "com/example/chainvouch/chainvouch/chain/TimeRangeStartsAfterPinLaw" "law" code maxLocals ret (fun v _ => v = some (.int 1)) ((a105, true, ar "[B" .byte [(vi (z0 &&& (255 : Int32)).toInt8.toInt32)]) :: (a104, true, oString (vr a105) (vi 0)) :: (a103, true, ar "[C" .char [(vi (z1 &&& (255 : Int32)))]) :: (a77, true, ar "[C" .char [(vi (z0 &&& (255 : Int32)))]) :: (a120, true, oTimeRange u121 .null) :: []) 7 13 197 #[iv z0, iv z1, iv z2, iv 1, iv (z0 &&& (255 : Int32)), iv ((XT.ushr z0 (8 : Int32)) &&& (255 : Int32)), iv 1, iv (z1 &&& (255 : Int32)), iv ((XT.ushr z1 (8 : Int32)) &&& (255 : Int32)), rv a77, rv a103, rv a104, iv 1, iv ((XT.ushr z2 (1 : Int32)) &&& (3 : Int32)), .val .null, t119, rv a120, uu, uu] [] := by
      intro t119 a120 u121 ht119 hu121
      refine W.aload (pc := 197) 16 at_197 rfl rfl ?_
      refine W.aload (pc := 199) 11 at_199 rfl rfl ?_
      refine W.callV (pc := 201) (as := [(vr a104)]) 0 [] at_201 (w60 hw) (w61 hw) (w63 hw) (w63 hw) (w62 hw) (w25 hw) (w64 hw) (Hp.exa m4) (c72_startsAfter hw hs (p1 := a120) (p2 := a104) (p3 := a105) (x1 := (z0 &&& (255 : Int32)).toInt8.toInt32) (hx1 := (by have := rng32 z0; have := q255; have := am_255 z0; have := a_i2b (z0 &&& (255 : Int32)); omega)) (u1 := u121) (hu1 := hu121) (mp1 := m4)) (by decide) pd_Ljava_lang_String__Z rfl rfl rfl rfl (by decide) (fun v D' h => ?_)
      obtain ⟨rfl, rfl⟩ := h
      show W _ _ _ _ _ _ _ _ _ _ _ _ 204 _ [(vi 0)]
      refine W.istore (pc := 204) (ls' := #[iv z0, iv z1, iv z2, iv 1, iv (z0 &&& (255 : Int32)), iv ((XT.ushr z0 (8 : Int32)) &&& (255 : Int32)), iv 1, iv (z1 &&& (255 : Int32)), iv ((XT.ushr z1 (8 : Int32)) &&& (255 : Int32)), rv a77, rv a103, rv a104, iv 1, iv ((XT.ushr z2 (1 : Int32)) &&& (3 : Int32)), .val .null, t119, rv a120, iv 0, uu]) at_204 rfl ?_
      refine W.iload (pc := 206) at_206 rfl ?_
      refine W.ifY (pc := 208) 232 at_208 (y_ne (by decide)) (by decide) ?_
      refine W.iconst (pc := 232) (0) at_232 (by decide) ?_
      refine W.istore (pc := 233) (ls' := #[iv z0, iv z1, iv z2, iv 1, iv (z0 &&& (255 : Int32)), iv ((XT.ushr z0 (8 : Int32)) &&& (255 : Int32)), iv 1, iv (z1 &&& (255 : Int32)), iv ((XT.ushr z1 (8 : Int32)) &&& (255 : Int32)), rv a77, rv a103, rv a104, iv 1, iv ((XT.ushr z2 (1 : Int32)) &&& (3 : Int32)), .val .null, t119, rv a120, iv 0, iv 0]) at_233 rfl ?_
      refine W.iload (pc := 235) at_235 rfl ?_
      refine W.iload (pc := 237) at_237 rfl ?_
      refine W.icmpN (pc := 239) at_239 (n_ne (by decide)) ?_
      refine W.iconst (pc := 242) (1) at_242 (by decide) ?_
      refine W.goto (pc := 243) 247 at_243 (by decide) ?_
      exact W.ireturn (pc := 247) at_247 rfl (Or.inr (Or.inl rfl)) (nw_bool (by decide)) (by decide) rfl
     refine W.aconstNull (pc := 161) at_161 ?_
     refine W.astore (pc := 162) (ls' := #[iv z0, iv z1, iv z2, iv 1, iv (z0 &&& (255 : Int32)), iv ((XT.ushr z0 (8 : Int32)) &&& (255 : Int32)), iv 1, iv (z1 &&& (255 : Int32)), iv ((XT.ushr z1 (8 : Int32)) &&& (255 : Int32)), rv a77, rv a103, rv a104, iv 1, iv ((XT.ushr z2 (1 : Int32)) &&& (3 : Int32)), .val .null, .val .null, uu, uu, uu]) at_162 rfl rfl ?_
     refine W.iload (pc := 164) at_164 rfl ?_
     refine W.iconst (pc := 166) (1) at_166 (by decide) ?_
     refine W.icmp (pc := 167) 174 at_167 (by decide) (fun h47 => ?_) (fun h47 => ?_)
     ·
      have ih47 := t_ne h47
      refine W.iload (pc := 174) at_174 rfl ?_
      refine W.iconst (pc := 176) (2) at_176 (by decide) ?_
      refine W.icmp (pc := 177) 184 at_177 (by decide) (fun h48 => ?_) (fun h48 => ?_)
      ·
       have ih48 := t_ne h48
       refine W.new (pc := 184) at_184 (w23 hw) (w24 hw) (w25 hw) (laTimeRange hw) (by decide) (by decide) (fun a123 => ?_)
       show W _ _ _ _ _ _ _ _ _ _ _ _ 187 _ [(vr a123)]
       refine W.dup (pc := 187) at_187 rfl ?_
       refine W.aload (pc := 188) 15 at_188 rfl rfl ?_
       refine W.aload (pc := 190) 14 at_190 rfl rfl ?_
       refine W.callI (pc := 192) (as := [.null, .null]) 1 [(vr a123)] at_192 rfl (w26 hw) (w27 hw) (w25 hw) (w28 hw) (c20_init hw hs (p1 := a123)) (by decide) pd_Ljava_lang_String_Ljava_lang_String__V rfl rfl rfl rfl (by decide) (fun v D' h => ?_)
       obtain ⟨rfl, rfl⟩ := h
       show W _ _ _ _ _ _ _ _ _ _ _ _ 195 _ [(vr a123)]
       refine W.astore (pc := 195) (ls' := #[iv z0, iv z1, iv z2, iv 1, iv (z0 &&& (255 : Int32)), iv ((XT.ushr z0 (8 : Int32)) &&& (255 : Int32)), iv 1, iv (z1 &&& (255 : Int32)), iv ((XT.ushr z1 (8 : Int32)) &&& (255 : Int32)), rv a77, rv a103, rv a104, iv 1, iv ((XT.ushr z2 (1 : Int32)) &&& (3 : Int32)), .val .null, .val .null, rv a123, uu, uu]) at_195 rfl rfl ?_
       refine W.front 4 (D' := (a77, true, ar "[C" .char [(vi (z0 &&& (255 : Int32)))]) :: (a123, true, oTimeRange .null .null) :: (a105, true, ar "[B" .byte [(vi (z0 &&& (255 : Int32)).toInt8.toInt32)]) :: (a104, true, oString (vr a105) (vi 0)) :: (a103, true, ar "[C" .char [(vi (z1 &&& (255 : Int32)))]) :: []) rfl rfl ?_
       refine W.front 4 (D' := (a103, true, ar "[C" .char [(vi (z1 &&& (255 : Int32)))]) :: (a77, true, ar "[C" .char [(vi (z0 &&& (255 : Int32)))]) :: (a123, true, oTimeRange .null .null) :: (a105, true, ar "[B" .byte [(vi (z0 &&& (255 : Int32)).toInt8.toInt32)]) :: (a104, true, oString (vr a105) (vi 0)) :: []) rfl rfl ?_
       refine W.front 4 (D' := (a104, true, oString (vr a105) (vi 0)) :: (a103, true, ar "[C" .char [(vi (z1 &&& (255 : Int32)))]) :: (a77, true, ar "[C" .char [(vi (z0 &&& (255 : Int32)))]) :: (a123, true, oTimeRange .null .null) :: (a105, true, ar "[B" .byte [(vi (z0 &&& (255 : Int32)).toInt8.toInt32)]) :: []) rfl rfl ?_
       refine W.front 4 (D' := (a105, true, ar "[B" .byte [(vi (z0 &&& (255 : Int32)).toInt8.toInt32)]) :: (a104, true, oString (vr a105) (vi 0)) :: (a103, true, ar "[C" .char [(vi (z1 &&& (255 : Int32)))]) :: (a77, true, ar "[C" .char [(vi (z0 &&& (255 : Int32)))]) :: (a123, true, oTimeRange .null .null) :: []) rfl rfl ?_
       exact W.mono (by decide) (by decide) (K122 (.val .null) a123 .null (Or.inr ⟨_, rfl, rfl⟩) rfl)
      ·
       have ih48 := f_ne h48
       refine W.aload (pc := 180) 14 at_180 rfl rfl ?_
       refine W.astore (pc := 182) (ls' := #[iv z0, iv z1, iv z2, iv 1, iv (z0 &&& (255 : Int32)), iv ((XT.ushr z0 (8 : Int32)) &&& (255 : Int32)), iv 1, iv (z1 &&& (255 : Int32)), iv ((XT.ushr z1 (8 : Int32)) &&& (255 : Int32)), rv a77, rv a103, rv a104, iv 1, iv ((XT.ushr z2 (1 : Int32)) &&& (3 : Int32)), .val .null, .val .null, uu, uu, uu]) at_182 rfl rfl ?_
       refine W.new (pc := 184) at_184 (w23 hw) (w24 hw) (w25 hw) (laTimeRange hw) (by decide) (by decide) (fun a124 => ?_)
       show W _ _ _ _ _ _ _ _ _ _ _ _ 187 _ [(vr a124)]
       refine W.dup (pc := 187) at_187 rfl ?_
       refine W.aload (pc := 188) 15 at_188 rfl rfl ?_
       refine W.aload (pc := 190) 14 at_190 rfl rfl ?_
       refine W.callI (pc := 192) (as := [.null, .null]) 1 [(vr a124)] at_192 rfl (w26 hw) (w27 hw) (w25 hw) (w28 hw) (c20_init hw hs (p1 := a124)) (by decide) pd_Ljava_lang_String_Ljava_lang_String__V rfl rfl rfl rfl (by decide) (fun v D' h => ?_)
       obtain ⟨rfl, rfl⟩ := h
       show W _ _ _ _ _ _ _ _ _ _ _ _ 195 _ [(vr a124)]
       refine W.astore (pc := 195) (ls' := #[iv z0, iv z1, iv z2, iv 1, iv (z0 &&& (255 : Int32)), iv ((XT.ushr z0 (8 : Int32)) &&& (255 : Int32)), iv 1, iv (z1 &&& (255 : Int32)), iv ((XT.ushr z1 (8 : Int32)) &&& (255 : Int32)), rv a77, rv a103, rv a104, iv 1, iv ((XT.ushr z2 (1 : Int32)) &&& (3 : Int32)), .val .null, .val .null, rv a124, uu, uu]) at_195 rfl rfl ?_
       refine W.front 4 (D' := (a77, true, ar "[C" .char [(vi (z0 &&& (255 : Int32)))]) :: (a124, true, oTimeRange .null .null) :: (a105, true, ar "[B" .byte [(vi (z0 &&& (255 : Int32)).toInt8.toInt32)]) :: (a104, true, oString (vr a105) (vi 0)) :: (a103, true, ar "[C" .char [(vi (z1 &&& (255 : Int32)))]) :: []) rfl rfl ?_
       refine W.front 4 (D' := (a103, true, ar "[C" .char [(vi (z1 &&& (255 : Int32)))]) :: (a77, true, ar "[C" .char [(vi (z0 &&& (255 : Int32)))]) :: (a124, true, oTimeRange .null .null) :: (a105, true, ar "[B" .byte [(vi (z0 &&& (255 : Int32)).toInt8.toInt32)]) :: (a104, true, oString (vr a105) (vi 0)) :: []) rfl rfl ?_
       refine W.front 4 (D' := (a104, true, oString (vr a105) (vi 0)) :: (a103, true, ar "[C" .char [(vi (z1 &&& (255 : Int32)))]) :: (a77, true, ar "[C" .char [(vi (z0 &&& (255 : Int32)))]) :: (a124, true, oTimeRange .null .null) :: (a105, true, ar "[B" .byte [(vi (z0 &&& (255 : Int32)).toInt8.toInt32)]) :: []) rfl rfl ?_
       refine W.front 4 (D' := (a105, true, ar "[B" .byte [(vi (z0 &&& (255 : Int32)).toInt8.toInt32)]) :: (a104, true, oString (vr a105) (vi 0)) :: (a103, true, ar "[C" .char [(vi (z1 &&& (255 : Int32)))]) :: (a77, true, ar "[C" .char [(vi (z0 &&& (255 : Int32)))]) :: (a124, true, oTimeRange .null .null) :: []) rfl rfl ?_
       exact W.mono (by decide) (by decide) (K122 (.val .null) a124 .null (Or.inr ⟨_, rfl, rfl⟩) rfl)
     ·
      have ih47 := f_ne h47
      refine W.ldcT (pc := 170) 0 (vs := []) rfl at_170 (w22 hw) (wS hw) m0 tx_ (by decide) (by decide) (by decide) (fun a125 a126 => ?_)
      show W _ _ _ _ _ _ _ _ _ _ _ _ 172 _ [(vr a125)]
      refine W.astore (pc := 172) (ls' := #[iv z0, iv z1, iv z2, iv 1, iv (z0 &&& (255 : Int32)), iv ((XT.ushr z0 (8 : Int32)) &&& (255 : Int32)), iv 1, iv (z1 &&& (255 : Int32)), iv ((XT.ushr z1 (8 : Int32)) &&& (255 : Int32)), rv a77, rv a103, rv a104, iv 1, iv ((XT.ushr z2 (1 : Int32)) &&& (3 : Int32)), .val .null, rv a125, uu, uu, uu]) at_172 rfl rfl ?_
      refine W.iload (pc := 174) at_174 rfl ?_
      refine W.iconst (pc := 176) (2) at_176 (by decide) ?_
      refine W.icmpY (pc := 177) 184 at_177 (y_ne (by have := rng32 z2; have := q1; have := aushr_1 z2; have := q3; have := am_3 (XT.ushr z2 (1 : Int32)); have := q2; omega)) (by decide) ?_
      refine W.new (pc := 184) at_184 (w23 hw) (w24 hw) (w25 hw) (laTimeRange hw) (by decide) (by decide) (fun a127 => ?_)
      show W _ _ _ _ _ _ _ _ _ _ _ _ 187 _ [(vr a127)]
      refine W.dup (pc := 187) at_187 rfl ?_
      refine W.aload (pc := 188) 15 at_188 rfl rfl ?_
      refine W.aload (pc := 190) 14 at_190 rfl rfl ?_
      refine W.callI (pc := 192) (as := [(vr a125), .null]) 1 [(vr a127)] at_192 rfl (w26 hw) (w27 hw) (w25 hw) (w28 hw) (c21_init hw hs (p1 := a127) (p2 := a125) (p3 := a126)) (by decide) pd_Ljava_lang_String_Ljava_lang_String__V rfl rfl rfl rfl (by decide) (fun v D' h => ?_)
      obtain ⟨rfl, rfl⟩ := h
      show W _ _ _ _ _ _ _ _ _ _ _ _ 195 _ [(vr a127)]
      refine W.astore (pc := 195) (ls' := #[iv z0, iv z1, iv z2, iv 1, iv (z0 &&& (255 : Int32)), iv ((XT.ushr z0 (8 : Int32)) &&& (255 : Int32)), iv 1, iv (z1 &&& (255 : Int32)), iv ((XT.ushr z1 (8 : Int32)) &&& (255 : Int32)), rv a77, rv a103, rv a104, iv 1, iv ((XT.ushr z2 (1 : Int32)) &&& (3 : Int32)), .val .null, rv a125, rv a127, uu, uu]) at_195 rfl rfl ?_
      refine W.front 6 (D' := (a77, true, ar "[C" .char [(vi (z0 &&& (255 : Int32)))]) :: (a127, true, oTimeRange (vr a125) .null) :: (a125, false, oString (vr a126) (vi 0)) :: (a126, false, ar "" .byte []) :: (a105, true, ar "[B" .byte [(vi (z0 &&& (255 : Int32)).toInt8.toInt32)]) :: (a104, true, oString (vr a105) (vi 0)) :: (a103, true, ar "[C" .char [(vi (z1 &&& (255 : Int32)))]) :: []) rfl rfl ?_
      refine W.front 6 (D' := (a103, true, ar "[C" .char [(vi (z1 &&& (255 : Int32)))]) :: (a77, true, ar "[C" .char [(vi (z0 &&& (255 : Int32)))]) :: (a127, true, oTimeRange (vr a125) .null) :: (a125, false, oString (vr a126) (vi 0)) :: (a126, false, ar "" .byte []) :: (a105, true, ar "[B" .byte [(vi (z0 &&& (255 : Int32)).toInt8.toInt32)]) :: (a104, true, oString (vr a105) (vi 0)) :: []) rfl rfl ?_
      refine W.front 6 (D' := (a104, true, oString (vr a105) (vi 0)) :: (a103, true, ar "[C" .char [(vi (z1 &&& (255 : Int32)))]) :: (a77, true, ar "[C" .char [(vi (z0 &&& (255 : Int32)))]) :: (a127, true, oTimeRange (vr a125) .null) :: (a125, false, oString (vr a126) (vi 0)) :: (a126, false, ar "" .byte []) :: (a105, true, ar "[B" .byte [(vi (z0 &&& (255 : Int32)).toInt8.toInt32)]) :: []) rfl rfl ?_
      refine W.front 6 (D' := (a105, true, ar "[B" .byte [(vi (z0 &&& (255 : Int32)).toInt8.toInt32)]) :: (a104, true, oString (vr a105) (vi 0)) :: (a103, true, ar "[C" .char [(vi (z1 &&& (255 : Int32)))]) :: (a77, true, ar "[C" .char [(vi (z0 &&& (255 : Int32)))]) :: (a127, true, oTimeRange (vr a125) .null) :: (a125, false, oString (vr a126) (vi 0)) :: (a126, false, ar "" .byte []) :: []) rfl rfl ?_
      refine W.heap (fun _ _ H => H.sub ((((((((List.Sublist.refl _).cons _).cons _).cons_cons _).cons_cons _).cons_cons _).cons_cons _).cons_cons _)) ?_
      exact W.mono (by decide) (by decide) (K122 (rv a125) a127 (vr a125) (Or.inr ⟨_, rfl, rfl⟩) rfl)
   ·
    have ie18 := i_eq e18
    rw [e18]
    show W _ _ _ _ _ _ _ _ _ ((a77, true, ar "[C" .char [(vi (z0 &&& (255 : Int32)))]) :: []) _ _ 80 #[iv z0, iv z1, iv z2, iv 1, iv (z0 &&& (255 : Int32)), iv ((XT.ushr z0 (8 : Int32)) &&& (255 : Int32)), iv 2, iv (z1 &&& (255 : Int32)), iv ((XT.ushr z1 (8 : Int32)) &&& (255 : Int32)), rv a77, uu, uu, uu, uu, uu, uu, uu, uu, uu] [(vi 2)]
    refine W.newarr (pc := 80) 2 (ad := "[C") (ty := .char) at_80 rfl (w0 hw) ix2 rfl (by decide) (by decide) (fun a128 => ?_)
    show W _ _ _ _ _ _ _ _ _ _ _ _ 82 _ [(vr a128)]
    refine W.astore (pc := 82) (ls' := #[iv z0, iv z1, iv z2, iv 1, iv (z0 &&& (255 : Int32)), iv ((XT.ushr z0 (8 : Int32)) &&& (255 : Int32)), iv 2, iv (z1 &&& (255 : Int32)), iv ((XT.ushr z1 (8 : Int32)) &&& (255 : Int32)), rv a77, rv a128, uu, uu, uu, uu, uu, uu, uu, uu]) at_82 rfl rfl ?_
    refine W.iload (pc := 84) at_84 rfl ?_
    refine W.iconst (pc := 86) (1) at_86 (by decide) ?_
    refine W.icmpN (pc := 87) at_87 (n_lt (by decide)) ?_
    refine W.aload (pc := 90) 10 at_90 rfl rfl ?_
    refine W.iconst (pc := 92) (0) at_92 (by decide) ?_
    refine W.iload (pc := 93) at_93 rfl ?_
    refine W.i2cK (pc := 95) (z1 &&& (255 : Int32)) at_95 (z_i2c (by have := rng32 z1; have := q255; have := am_255 z1; omega)) ?_
    refine W.castore (pc := 96) (D' := (a128, true, ar "[C" .char [(vi (z1 &&& (255 : Int32))), (vi 0)]) :: (a77, true, ar "[C" .char [(vi (z0 &&& (255 : Int32)))]) :: []) 0 0 at_96 rfl ix0 (Nat.le_of_ble_eq_true rfl) (z_narC (by have := rng32 z1; have := q255; have := am_255 z1; omega)) rfl ?_
    refine W.iload (pc := 97) at_97 rfl ?_
    refine W.iconst (pc := 99) (2) at_99 (by decide) ?_
    refine W.icmpN (pc := 100) at_100 (n_lt (by decide)) ?_
    refine W.aload (pc := 103) 10 at_103 rfl rfl ?_
    refine W.iconst (pc := 105) (1) at_105 (by decide) ?_
    refine W.iload (pc := 106) at_106 rfl ?_
    refine W.i2cK (pc := 108) ((XT.ushr z1 (8 : Int32)) &&& (255 : Int32)) at_108 (z_i2c (by have := rng32 z1; have := q8; have := aushr_8 z1; have := q255; have := am_255 (XT.ushr z1 (8 : Int32)); omega)) ?_
    refine W.castore (pc := 109) (D' := (a128, true, ar "[C" .char [(vi (z1 &&& (255 : Int32))), (vi ((XT.ushr z1 (8 : Int32)) &&& (255 : Int32)))]) :: (a77, true, ar "[C" .char [(vi (z0 &&& (255 : Int32)))]) :: []) 0 1 at_109 rfl ix1 (Nat.le_of_ble_eq_true rfl) (z_narC (by have := rng32 z1; have := q8; have := aushr_8 z1; have := q255; have := am_255 (XT.ushr z1 (8 : Int32)); omega)) rfl ?_
    refine W.new (pc := 110) at_110 (w1 hw) (w2 hw) (w3 hw) (laString hw) (by decide) (by decide) (fun a129 => ?_)
    show W _ _ _ _ _ _ _ _ _ _ _ _ 113 _ [(vr a129)]
    refine W.dup (pc := 113) at_113 rfl ?_
    refine W.aload (pc := 114) 9 at_114 rfl rfl ?_
    refine W.callI (pc := 116) (as := [(vr a77)]) 1 [(vr a129)] at_116 rfl (w4 hw) (w5 hw) (w3 hw) (w6 hw) (c23_init hw hs (p1 := a129) (p2 := a77) (x1 := (z0 &&& (255 : Int32))) (hx1 := (by have := rng32 z0; have := q255; have := am_255 z0; omega)) (mp2 := m1)) (by decide) pd__C_V rfl rfl rfl rfl (by decide) (fun v D' h => ?_)
    obtain ⟨a130, rfl, rfl⟩ := h
    show W _ _ _ _ _ _ _ _ _ _ _ _ 119 _ [(vr a129)]
    refine W.astore (pc := 119) (ls' := #[iv z0, iv z1, iv z2, iv 1, iv (z0 &&& (255 : Int32)), iv ((XT.ushr z0 (8 : Int32)) &&& (255 : Int32)), iv 2, iv (z1 &&& (255 : Int32)), iv ((XT.ushr z1 (8 : Int32)) &&& (255 : Int32)), rv a77, rv a128, rv a129, uu, uu, uu, uu, uu, uu, uu]) at_119 rfl rfl ?_
    refine W.iloadN (pc := 121) at_121 rfl ?_
    refine W.iconst (pc := 122) (1) at_122 (by decide) ?_
    refine W.iand (pc := 123) at_123 ?_
    refine W.if (pc := 124) 131 at_124 (by decide) (fun h49 => ?_) (fun h49 => ?_)
    ·
     have ih49 := t_eq h49
     refine W.iconst (pc := 131) (0) at_131 (by decide) ?_
     refine W.istore (pc := 132) (ls' := #[iv z0, iv z1, iv z2, iv 1, iv (z0 &&& (255 : Int32)), iv ((XT.ushr z0 (8 : Int32)) &&& (255 : Int32)), iv 2, iv (z1 &&& (255 : Int32)), iv ((XT.ushr z1 (8 : Int32)) &&& (255 : Int32)), rv a77, rv a128, rv a129, iv 0, uu, uu, uu, uu, uu, uu]) at_132 rfl ?_
     refine W.iloadN (pc := 134) at_134 rfl ?_
     refine W.iconst (pc := 135) (1) at_135 (by decide) ?_
     refine W.iushr (pc := 136) at_136 ?_
     refine W.iconst (pc := 137) (3) at_137 (by decide) ?_
     refine W.iand (pc := 138) at_138 ?_
     refine W.istore (pc := 139) (ls' := #[iv z0, iv z1, iv z2, iv 1, iv (z0 &&& (255 : Int32)), iv ((XT.ushr z0 (8 : Int32)) &&& (255 : Int32)), iv 2, iv (z1 &&& (255 : Int32)), iv ((XT.ushr z1 (8 : Int32)) &&& (255 : Int32)), rv a77, rv a128, rv a129, iv 0, iv ((XT.ushr z2 (1 : Int32)) &&& (3 : Int32)), uu, uu, uu, uu, uu]) at_139 rfl ?_
     refine W.iload (pc := 141) at_141 rfl ?_
     refine W.ifY (pc := 143) 150 at_143 (y_eq (by decide)) (by decide) ?_
     refine W.new (pc := 150) at_150 (w1 hw) (w2 hw) (w3 hw) (laString hw) (by decide) (by decide) (fun a131 => ?_)
     show W _ _ _ _ _ _ _ _ _ _ _ _ 153 _ [(vr a131)]
     refine W.dup (pc := 153) at_153 rfl ?_
     refine W.aload (pc := 154) 10 at_154 rfl rfl ?_
     refine W.callI (pc := 156) (as := [(vr a128)]) 1 [(vr a131)] at_156 rfl (w4 hw) (w5 hw) (w3 hw) (w6 hw) (c44_init hw hs (p1 := a131) (p2 := a128) (x1 := (z1 &&& (255 : Int32))) (hx1 := (by have := rng32 z1; have := q255; have := am_255 z1; omega)) (x2 := ((XT.ushr z1 (8 : Int32)) &&& (255 : Int32))) (hx2 := (by have := rng32 z1; have := q8; have := aushr_8 z1; have := q255; have := am_255 (XT.ushr z1 (8 : Int32)); omega)) (mp2 := m2)) (by decide) pd__C_V rfl rfl rfl rfl (by decide) (fun v D' h => ?_)
     obtain ⟨a132, rfl, rfl⟩ := h
     show W _ _ _ _ _ _ _ _ _ _ _ _ 159 _ [(vr a131)]
     refine W.astore (pc := 159) (ls' := #[iv z0, iv z1, iv z2, iv 1, iv (z0 &&& (255 : Int32)), iv ((XT.ushr z0 (8 : Int32)) &&& (255 : Int32)), iv 2, iv (z1 &&& (255 : Int32)), iv ((XT.ushr z1 (8 : Int32)) &&& (255 : Int32)), rv a77, rv a128, rv a129, iv 0, iv ((XT.ushr z2 (1 : Int32)) &&& (3 : Int32)), rv a131, uu, uu, uu, uu]) at_159 rfl rfl ?_
     have K137 : ∀ (t134 : Slot) (a135 : Addr) (u136 : Value), SlOk t134 → u136.isRef = true → W Z EL room_1 "com/example/chainvouch/chainvouch/chain/TimeRangeStartsAfterPinLaw" "law" code maxLocals ret (fun v _ => v = some (.int 1)) ((a132, true, ar "[B" .byte [(vi (z1 &&& (255 : Int32)).toInt8.toInt32), (vi ((XT.ushr z1 (8 : Int32)) &&& (255 : Int32)).toInt8.toInt32)]) :: (a131, true, oString (vr a132) (vi 0)) :: (a130, true, ar "[B" .byte [(vi (z0 &&& (255 : Int32)).toInt8.toInt32)]) :: (a129, true, oString (vr a130) (vi 0)) :: (a128, true, ar "[C" .char [(vi (z1 &&& (255 : Int32))), (vi ((XT.ushr z1 (8 : Int32)) &&& (255 : Int32)))]) :: (a77, true, ar "[C" .char [(vi (z0 &&& (255 : Int32)))]) :: (a135, true, oTimeRange u136 (vr a131)) :: []) 9 20 197 #[iv z0, iv z1, iv z2, iv 1, iv (z0 &&& (255 : Int32)), iv ((XT.ushr z0 (8 : Int32)) &&& (255 : Int32)), iv 2, iv (z1 &&& (255 : Int32)), iv ((XT.ushr z1 (8 : Int32)) &&& (255 : Int32)), rv a77, rv a128, rv a129, iv 0, iv ((XT.ushr z2 (1 : Int32)) &&& (3 : Int32)), rv a131, t134, rv a135, uu, uu] [] := by
      intro t134 a135 u136 ht134 hu136
      refine W.aload (pc := 197) 16 at_197 rfl rfl ?_
      refine W.aload (pc := 199) 11 at_199 rfl rfl ?_
      refine W.callV (pc := 201) (as := [(vr a129)]) 0 [] at_201 (w60 hw) (w61 hw) (w63 hw) (w63 hw) (w62 hw) (w25 hw) (w64 hw) (Hp.exa m6) (c80_startsAfter hw hs (p1 := a135) (p2 := a129) (p3 := a131) (p4 := a130) (p5 := a132) (x1 := (z0 &&& (255 : Int32)).toInt8.toInt32) (hx1 := (by have := rng32 z0; have := q255; have := am_255 z0; have := a_i2b (z0 &&& (255 : Int32)); omega)) (x2 := (z1 &&& (255 : Int32)).toInt8.toInt32) (hx2 := (by have := rng32 z1; have := q255; have := am_255 z1; have := a_i2b (z1 &&& (255 : Int32)); omega)) (x3 := ((XT.ushr z1 (8 : Int32)) &&& (255 : Int32)).toInt8.toInt32) (hx3 := (by have := rng32 z1; have := q8; have := aushr_8 z1; have := q255; have := am_255 (XT.ushr z1 (8 : Int32)); have := a_i2b ((XT.ushr z1 (8 : Int32)) &&& (255 : Int32)); omega)) (u1 := u136) (hu1 := hu136) (mp1 := m6) (mp2 := m3) (mp3 := m1) (mp4 := m2) (mp5 := m0)) (by decide) pd_Ljava_lang_String__Z rfl rfl rfl rfl (by decide) (fun v D' h => ?_)
      rcases h with ⟨h50, rfl, rfl⟩ | ⟨h51, h52, rfl, rfl⟩ | ⟨h53, h54, rfl, rfl⟩
      ·
       have ih50 := t_eq h50
       show W _ _ _ _ _ _ _ _ _ _ _ _ 204 _ [(vi 0)]
       refine W.istore (pc := 204) (ls' := #[iv z0, iv z1, iv z2, iv 1, iv (z0 &&& (255 : Int32)), iv ((XT.ushr z0 (8 : Int32)) &&& (255 : Int32)), iv 2, iv (z1 &&& (255 : Int32)), iv ((XT.ushr z1 (8 : Int32)) &&& (255 : Int32)), rv a77, rv a128, rv a129, iv 0, iv ((XT.ushr z2 (1 : Int32)) &&& (3 : Int32)), rv a131, t134, rv a135, iv 0, uu]) at_204 rfl ?_
       refine W.iload (pc := 206) at_206 rfl ?_
       refine W.ifN (pc := 208) at_208 (n_ne (by decide)) ?_
       refine W.iloadN (pc := 211) at_211 rfl ?_
       refine W.iload (pc := 212) at_212 rfl ?_
       refine W.iload (pc := 214) at_214 rfl ?_
       refine W.iload (pc := 216) at_216 rfl ?_
       refine W.iload (pc := 218) at_218 rfl ?_
       refine W.iload (pc := 220) at_220 rfl ?_
       refine W.callS (pc := 222) (as := [(vi 1), (vi (z0 &&& (255 : Int32))), (vi ((XT.ushr z0 (8 : Int32)) &&& (255 : Int32))), (vi 2), (vi (z1 &&& (255 : Int32))), (vi ((XT.ushr z1 (8 : Int32)) &&& (255 : Int32)))]) 0 [] at_222 (w65 hw) (w66 hw) (w67 hw) (w68 hw) (c87_geq hw hs (x1 := (z0 &&& (255 : Int32))) (hx1 := (by have := rng32 z0; have := q255; have := am_255 z0; have := a_i2b (z0 &&& (255 : Int32)); have := rng32 z1; have := am_255 z1; have := a_i2b (z1 &&& (255 : Int32)); omega)) (x2 := ((XT.ushr z0 (8 : Int32)) &&& (255 : Int32))) (hx2 := (by have := rng32 z0; have := q8; have := aushr_8 z0; have := q255; have := am_255 (XT.ushr z0 (8 : Int32)); omega)) (x3 := (z1 &&& (255 : Int32))) (hx3 := (by have := rng32 z1; have := q255; have := am_255 z1; have := rng32 z0; have := am_255 z0; have := a_i2b (z0 &&& (255 : Int32)); have := a_i2b (z1 &&& (255 : Int32)); omega)) (x4 := ((XT.ushr z1 (8 : Int32)) &&& (255 : Int32))) (hx4 := (by have := rng32 z1; have := q8; have := aushr_8 z1; have := q255; have := am_255 (XT.ushr z1 (8 : Int32)); omega))) (by decide) pd_IIIIII_Z rfl rfl rfl rfl (by decide) (fun v D' h => ?_)
       rcases h with ⟨h55, rfl, rfl⟩ | ⟨h56, h57, rfl, rfl⟩ | ⟨h58, h59, rfl, rfl⟩
       ·
        have ih55 := t_eq h55
        show W _ _ _ _ _ _ _ _ _ _ _ _ 225 _ [(vi 0)]
        refine W.ifY (pc := 225) 232 at_225 (y_eq (by decide)) (by decide) ?_
        refine W.iconst (pc := 232) (0) at_232 (by decide) ?_
        refine W.istore (pc := 233) (ls' := #[iv z0, iv z1, iv z2, iv 1, iv (z0 &&& (255 : Int32)), iv ((XT.ushr z0 (8 : Int32)) &&& (255 : Int32)), iv 2, iv (z1 &&& (255 : Int32)), iv ((XT.ushr z1 (8 : Int32)) &&& (255 : Int32)), rv a77, rv a128, rv a129, iv 0, iv ((XT.ushr z2 (1 : Int32)) &&& (3 : Int32)), rv a131, t134, rv a135, iv 0, iv 0]) at_233 rfl ?_
        refine W.iload (pc := 235) at_235 rfl ?_
        refine W.iload (pc := 237) at_237 rfl ?_
        refine W.icmpN (pc := 239) at_239 (n_ne (by decide)) ?_
        refine W.iconst (pc := 242) (1) at_242 (by decide) ?_
        refine W.goto (pc := 243) 247 at_243 (by decide) ?_
        exact W.ireturn (pc := 247) at_247 rfl (Or.inr (Or.inl rfl)) (nw_bool (by decide)) (by decide) rfl
       ·
        exact absurd h56 (Classical.not_not.mpr (y_eq (by have := rng32 z0; have := q255; have := am_255 z0; have := rng32 z1; have := am_255 z1; have := a_i2b (z0 &&& (255 : Int32)); have := a_i2b (z1 &&& (255 : Int32)); omega)))
       ·
        exact absurd h58 (Classical.not_not.mpr (y_eq (by have := rng32 z0; have := q255; have := am_255 z0; have := rng32 z1; have := am_255 z1; have := a_i2b (z0 &&& (255 : Int32)); have := a_i2b (z1 &&& (255 : Int32)); omega)))
      ·
       have ih51 := f_eq h51
       have ih52 := t_lt h52
       show W _ _ _ _ _ _ _ _ _ _ _ _ 204 _ [(vi 0)]
       refine W.istore (pc := 204) (ls' := #[iv z0, iv z1, iv z2, iv 1, iv (z0 &&& (255 : Int32)), iv ((XT.ushr z0 (8 : Int32)) &&& (255 : Int32)), iv 2, iv (z1 &&& (255 : Int32)), iv ((XT.ushr z1 (8 : Int32)) &&& (255 : Int32)), rv a77, rv a128, rv a129, iv 0, iv ((XT.ushr z2 (1 : Int32)) &&& (3 : Int32)), rv a131, t134, rv a135, iv 0, uu]) at_204 rfl ?_
       refine W.iload (pc := 206) at_206 rfl ?_
       refine W.ifN (pc := 208) at_208 (n_ne (by decide)) ?_
       refine W.iloadN (pc := 211) at_211 rfl ?_
       refine W.iload (pc := 212) at_212 rfl ?_
       refine W.iload (pc := 214) at_214 rfl ?_
       refine W.iload (pc := 216) at_216 rfl ?_
       refine W.iload (pc := 218) at_218 rfl ?_
       refine W.iload (pc := 220) at_220 rfl ?_
       refine W.callS (pc := 222) (as := [(vi 1), (vi (z0 &&& (255 : Int32))), (vi ((XT.ushr z0 (8 : Int32)) &&& (255 : Int32))), (vi 2), (vi (z1 &&& (255 : Int32))), (vi ((XT.ushr z1 (8 : Int32)) &&& (255 : Int32)))]) 0 [] at_222 (w65 hw) (w66 hw) (w67 hw) (w68 hw) (c87_geq hw hs (x1 := (z0 &&& (255 : Int32))) (hx1 := (by have := rng32 z0; have := q255; have := am_255 z0; have := a_i2b (z0 &&& (255 : Int32)); have := rng32 z1; have := am_255 z1; have := a_i2b (z1 &&& (255 : Int32)); have := am_255 (z0 &&& (255 : Int32)).toInt8.toInt32; have := am_255 (z1 &&& (255 : Int32)).toInt8.toInt32; have := a_sub ((z0 &&& (255 : Int32)).toInt8.toInt32 &&& (255 : Int32)) ((z1 &&& (255 : Int32)).toInt8.toInt32 &&& (255 : Int32)); have := q0; omega)) (x2 := ((XT.ushr z0 (8 : Int32)) &&& (255 : Int32))) (hx2 := (by have := rng32 z0; have := q8; have := aushr_8 z0; have := q255; have := am_255 (XT.ushr z0 (8 : Int32)); omega)) (x3 := (z1 &&& (255 : Int32))) (hx3 := (by have := rng32 z1; have := q255; have := am_255 z1; have := rng32 z0; have := am_255 z0; have := a_i2b (z0 &&& (255 : Int32)); have := a_i2b (z1 &&& (255 : Int32)); have := am_255 (z0 &&& (255 : Int32)).toInt8.toInt32; have := am_255 (z1 &&& (255 : Int32)).toInt8.toInt32; have := a_sub ((z0 &&& (255 : Int32)).toInt8.toInt32 &&& (255 : Int32)) ((z1 &&& (255 : Int32)).toInt8.toInt32 &&& (255 : Int32)); have := q0; omega)) (x4 := ((XT.ushr z1 (8 : Int32)) &&& (255 : Int32))) (hx4 := (by have := rng32 z1; have := q8; have := aushr_8 z1; have := q255; have := am_255 (XT.ushr z1 (8 : Int32)); omega))) (by decide) pd_IIIIII_Z rfl rfl rfl rfl (by decide) (fun v D' h => ?_)
       rcases h with ⟨h60, rfl, rfl⟩ | ⟨h61, h62, rfl, rfl⟩ | ⟨h63, h64, rfl, rfl⟩
       ·
        exact absurd h60 (n_eq (by have := rng32 z0; have := q255; have := am_255 z0; have := rng32 z1; have := am_255 z1; have := a_i2b (z0 &&& (255 : Int32)); have := a_i2b (z1 &&& (255 : Int32)); have := am_255 (z0 &&& (255 : Int32)).toInt8.toInt32; have := am_255 (z1 &&& (255 : Int32)).toInt8.toInt32; have := a_sub ((z0 &&& (255 : Int32)).toInt8.toInt32 &&& (255 : Int32)) ((z1 &&& (255 : Int32)).toInt8.toInt32 &&& (255 : Int32)); have := q0; omega))
       ·
        have ih61 := f_eq h61
        have ih62 := t_le h62
        show W _ _ _ _ _ _ _ _ _ _ _ _ 225 _ [(vi 0)]
        refine W.ifY (pc := 225) 232 at_225 (y_eq (by decide)) (by decide) ?_
        refine W.iconst (pc := 232) (0) at_232 (by decide) ?_
        refine W.istore (pc := 233) (ls' := #[iv z0, iv z1, iv z2, iv 1, iv (z0 &&& (255 : Int32)), iv ((XT.ushr z0 (8 : Int32)) &&& (255 : Int32)), iv 2, iv (z1 &&& (255 : Int32)), iv ((XT.ushr z1 (8 : Int32)) &&& (255 : Int32)), rv a77, rv a128, rv a129, iv 0, iv ((XT.ushr z2 (1 : Int32)) &&& (3 : Int32)), rv a131, t134, rv a135, iv 0, iv 0]) at_233 rfl ?_
        refine W.iload (pc := 235) at_235 rfl ?_
        refine W.iload (pc := 237) at_237 rfl ?_
        refine W.icmpN (pc := 239) at_239 (n_ne (by decide)) ?_
        refine W.iconst (pc := 242) (1) at_242 (by decide) ?_
        refine W.goto (pc := 243) 247 at_243 (by decide) ?_
        exact W.ireturn (pc := 247) at_247 rfl (Or.inr (Or.inl rfl)) (nw_bool (by decide)) (by decide) rfl
       ·
        have ih63 := f_eq h63
        exact absurd h64 (Classical.not_not.mpr (y_le (by have := rng32 z0; have := q255; have := am_255 z0; have := rng32 z1; have := am_255 z1; have := a_i2b (z0 &&& (255 : Int32)); have := a_i2b (z1 &&& (255 : Int32)); have := am_255 (z0 &&& (255 : Int32)).toInt8.toInt32; have := am_255 (z1 &&& (255 : Int32)).toInt8.toInt32; have := a_sub ((z0 &&& (255 : Int32)).toInt8.toInt32 &&& (255 : Int32)) ((z1 &&& (255 : Int32)).toInt8.toInt32 &&& (255 : Int32)); have := q0; omega)))
      ·
       have ih53 := f_eq h53
       have ih54 := f_lt h54
       show W _ _ _ _ _ _ _ _ _ _ _ _ 204 _ [(vi 1)]
       refine W.istore (pc := 204) (ls' := #[iv z0, iv z1, iv z2, iv 1, iv (z0 &&& (255 : Int32)), iv ((XT.ushr z0 (8 : Int32)) &&& (255 : Int32)), iv 2, iv (z1 &&& (255 : Int32)), iv ((XT.ushr z1 (8 : Int32)) &&& (255 : Int32)), rv a77, rv a128, rv a129, iv 0, iv ((XT.ushr z2 (1 : Int32)) &&& (3 : Int32)), rv a131, t134, rv a135, iv 1, uu]) at_204 rfl ?_
       refine W.iload (pc := 206) at_206 rfl ?_
       refine W.ifN (pc := 208) at_208 (n_ne (by decide)) ?_
       refine W.iloadN (pc := 211) at_211 rfl ?_
       refine W.iload (pc := 212) at_212 rfl ?_
       refine W.iload (pc := 214) at_214 rfl ?_
       refine W.iload (pc := 216) at_216 rfl ?_
       refine W.iload (pc := 218) at_218 rfl ?_
       refine W.iload (pc := 220) at_220 rfl ?_
       refine W.callS (pc := 222) (as := [(vi 1), (vi (z0 &&& (255 : Int32))), (vi ((XT.ushr z0 (8 : Int32)) &&& (255 : Int32))), (vi 2), (vi (z1 &&& (255 : Int32))), (vi ((XT.ushr z1 (8 : Int32)) &&& (255 : Int32)))]) 0 [] at_222 (w65 hw) (w66 hw) (w67 hw) (w68 hw) (c87_geq hw hs (x1 := (z0 &&& (255 : Int32))) (hx1 := (by have := rng32 z0; have := q255; have := am_255 z0; have := a_i2b (z0 &&& (255 : Int32)); have := rng32 z1; have := am_255 z1; have := a_i2b (z1 &&& (255 : Int32)); have := q0; have := am_255 (z0 &&& (255 : Int32)).toInt8.toInt32; have := am_255 (z1 &&& (255 : Int32)).toInt8.toInt32; have := a_sub ((z0 &&& (255 : Int32)).toInt8.toInt32 &&& (255 : Int32)) ((z1 &&& (255 : Int32)).toInt8.toInt32 &&& (255 : Int32)); omega)) (x2 := ((XT.ushr z0 (8 : Int32)) &&& (255 : Int32))) (hx2 := (by have := rng32 z0; have := q8; have := aushr_8 z0; have := q255; have := am_255 (XT.ushr z0 (8 : Int32)); omega)) (x3 := (z1 &&& (255 : Int32))) (hx3 := (by have := rng32 z1; have := q255; have := am_255 z1; have := rng32 z0; have := am_255 z0; have := a_i2b (z0 &&& (255 : Int32)); have := a_i2b (z1 &&& (255 : Int32)); have := q0; have := am_255 (z0 &&& (255 : Int32)).toInt8.toInt32; have := am_255 (z1 &&& (255 : Int32)).toInt8.toInt32; have := a_sub ((z0 &&& (255 : Int32)).toInt8.toInt32 &&& (255 : Int32)) ((z1 &&& (255 : Int32)).toInt8.toInt32 &&& (255 : Int32)); omega)) (x4 := ((XT.ushr z1 (8 : Int32)) &&& (255 : Int32))) (hx4 := (by have := rng32 z1; have := q8; have := aushr_8 z1; have := q255; have := am_255 (XT.ushr z1 (8 : Int32)); omega))) (by decide) pd_IIIIII_Z rfl rfl rfl rfl (by decide) (fun v D' h => ?_)
       rcases h with ⟨h65, rfl, rfl⟩ | ⟨h66, h67, rfl, rfl⟩ | ⟨h68, h69, rfl, rfl⟩
       ·
        exact absurd h65 (n_eq (by have := rng32 z0; have := q255; have := am_255 z0; have := rng32 z1; have := am_255 z1; have := a_i2b (z0 &&& (255 : Int32)); have := a_i2b (z1 &&& (255 : Int32)); have := q0; have := am_255 (z0 &&& (255 : Int32)).toInt8.toInt32; have := am_255 (z1 &&& (255 : Int32)).toInt8.toInt32; have := a_sub ((z0 &&& (255 : Int32)).toInt8.toInt32 &&& (255 : Int32)) ((z1 &&& (255 : Int32)).toInt8.toInt32 &&& (255 : Int32)); omega))
       ·
        have ih66 := f_eq h66
        exact absurd h67 (n_le (by have := rng32 z0; have := q255; have := am_255 z0; have := rng32 z1; have := am_255 z1; have := a_i2b (z0 &&& (255 : Int32)); have := a_i2b (z1 &&& (255 : Int32)); have := q0; have := am_255 (z0 &&& (255 : Int32)).toInt8.toInt32; have := am_255 (z1 &&& (255 : Int32)).toInt8.toInt32; have := a_sub ((z0 &&& (255 : Int32)).toInt8.toInt32 &&& (255 : Int32)) ((z1 &&& (255 : Int32)).toInt8.toInt32 &&& (255 : Int32)); omega))
       ·
        have ih68 := f_eq h68
        have ih69 := f_le h69
        show W _ _ _ _ _ _ _ _ _ _ _ _ 225 _ [(vi 1)]
        refine W.ifN (pc := 225) at_225 (n_eq (by decide)) ?_
        refine W.iconst (pc := 228) (1) at_228 (by decide) ?_
        refine W.goto (pc := 229) 233 at_229 (by decide) ?_
        refine W.istore (pc := 233) (ls' := #[iv z0, iv z1, iv z2, iv 1, iv (z0 &&& (255 : Int32)), iv ((XT.ushr z0 (8 : Int32)) &&& (255 : Int32)), iv 2, iv (z1 &&& (255 : Int32)), iv ((XT.ushr z1 (8 : Int32)) &&& (255 : Int32)), rv a77, rv a128, rv a129, iv 0, iv ((XT.ushr z2 (1 : Int32)) &&& (3 : Int32)), rv a131, t134, rv a135, iv 1, iv 1]) at_233 rfl ?_
        refine W.iload (pc := 235) at_235 rfl ?_
        refine W.iload (pc := 237) at_237 rfl ?_
        refine W.icmpN (pc := 239) at_239 (n_ne (by decide)) ?_
        refine W.iconst (pc := 242) (1) at_242 (by decide) ?_
        refine W.goto (pc := 243) 247 at_243 (by decide) ?_
        exact W.ireturn (pc := 247) at_247 rfl (Or.inr (Or.inl rfl)) (nw_bool (by decide)) (by decide) rfl
     refine W.aconstNull (pc := 161) at_161 ?_
     refine W.astore (pc := 162) (ls' := #[iv z0, iv z1, iv z2, iv 1, iv (z0 &&& (255 : Int32)), iv ((XT.ushr z0 (8 : Int32)) &&& (255 : Int32)), iv 2, iv (z1 &&& (255 : Int32)), iv ((XT.ushr z1 (8 : Int32)) &&& (255 : Int32)), rv a77, rv a128, rv a129, iv 0, iv ((XT.ushr z2 (1 : Int32)) &&& (3 : Int32)), rv a131, .val .null, uu, uu, uu]) at_162 rfl rfl ?_
     refine W.iload (pc := 164) at_164 rfl ?_
     refine W.iconst (pc := 166) (1) at_166 (by decide) ?_
     refine W.icmp (pc := 167) 174 at_167 (by decide) (fun h70 => ?_) (fun h70 => ?_)
     ·
      have ih70 := t_ne h70
      refine W.iload (pc := 174) at_174 rfl ?_
      refine W.iconst (pc := 176) (2) at_176 (by decide) ?_
      refine W.icmp (pc := 177) 184 at_177 (by decide) (fun h71 => ?_) (fun h71 => ?_)
      ·
       have ih71 := t_ne h71
       refine W.new (pc := 184) at_184 (w23 hw) (w24 hw) (w25 hw) (laTimeRange hw) (by decide) (by decide) (fun a138 => ?_)
       show W _ _ _ _ _ _ _ _ _ _ _ _ 187 _ [(vr a138)]
       refine W.dup (pc := 187) at_187 rfl ?_
       refine W.aload (pc := 188) 15 at_188 rfl rfl ?_
       refine W.aload (pc := 190) 14 at_190 rfl rfl ?_
       refine W.callI (pc := 192) (as := [.null, (vr a131)]) 1 [(vr a138)] at_192 rfl (w26 hw) (w27 hw) (w25 hw) (w28 hw) (c49_init hw hs (p1 := a138) (p2 := a131) (p3 := a132) (x1 := (z1 &&& (255 : Int32)).toInt8.toInt32) (hx1 := (by have := rng32 z1; have := q255; have := am_255 z1; have := a_i2b (z1 &&& (255 : Int32)); omega)) (x2 := ((XT.ushr z1 (8 : Int32)) &&& (255 : Int32)).toInt8.toInt32) (hx2 := (by have := rng32 z1; have := q8; have := aushr_8 z1; have := q255; have := am_255 (XT.ushr z1 (8 : Int32)); have := a_i2b ((XT.ushr z1 (8 : Int32)) &&& (255 : Int32)); omega))) (by decide) pd_Ljava_lang_String_Ljava_lang_String__V rfl rfl rfl rfl (by decide) (fun v D' h => ?_)
       obtain ⟨rfl, rfl⟩ := h
       show W _ _ _ _ _ _ _ _ _ _ _ _ 195 _ [(vr a138)]
       refine W.astore (pc := 195) (ls' := #[iv z0, iv z1, iv z2, iv 1, iv (z0 &&& (255 : Int32)), iv ((XT.ushr z0 (8 : Int32)) &&& (255 : Int32)), iv 2, iv (z1 &&& (255 : Int32)), iv ((XT.ushr z1 (8 : Int32)) &&& (255 : Int32)), rv a77, rv a128, rv a129, iv 0, iv ((XT.ushr z2 (1 : Int32)) &&& (3 : Int32)), rv a131, .val .null, rv a138, uu, uu]) at_195 rfl rfl ?_
       refine W.front 6 (D' := (a77, true, ar "[C" .char [(vi (z0 &&& (255 : Int32)))]) :: (a138, true, oTimeRange .null (vr a131)) :: (a132, true, ar "[B" .byte [(vi (z1 &&& (255 : Int32)).toInt8.toInt32), (vi ((XT.ushr z1 (8 : Int32)) &&& (255 : Int32)).toInt8.toInt32)]) :: (a131, true, oString (vr a132) (vi 0)) :: (a130, true, ar "[B" .byte [(vi (z0 &&& (255 : Int32)).toInt8.toInt32)]) :: (a129, true, oString (vr a130) (vi 0)) :: (a128, true, ar "[C" .char [(vi (z1 &&& (255 : Int32))), (vi ((XT.ushr z1 (8 : Int32)) &&& (255 : Int32)))]) :: []) rfl rfl ?_
       refine W.front 6 (D' := (a128, true, ar "[C" .char [(vi (z1 &&& (255 : Int32))), (vi ((XT.ushr z1 (8 : Int32)) &&& (255 : Int32)))]) :: (a77, true, ar "[C" .char [(vi (z0 &&& (255 : Int32)))]) :: (a138, true, oTimeRange .null (vr a131)) :: (a132, true, ar "[B" .byte [(vi (z1 &&& (255 : Int32)).toInt8.toInt32), (vi ((XT.ushr z1 (8 : Int32)) &&& (255 : Int32)).toInt8.toInt32)]) :: (a131, true, oString (vr a132) (vi 0)) :: (a130, true, ar "[B" .byte [(vi (z0 &&& (255 : Int32)).toInt8.toInt32)]) :: (a129, true, oString (vr a130) (vi 0)) :: []) rfl rfl ?_
       refine W.front 6 (D' := (a129, true, oString (vr a130) (vi 0)) :: (a128, true, ar "[C" .char [(vi (z1 &&& (255 : Int32))), (vi ((XT.ushr z1 (8 : Int32)) &&& (255 : Int32)))]) :: (a77, true, ar "[C" .char [(vi (z0 &&& (255 : Int32)))]) :: (a138, true, oTimeRange .null (vr a131)) :: (a132, true, ar "[B" .byte [(vi (z1 &&& (255 : Int32)).toInt8.toInt32), (vi ((XT.ushr z1 (8 : Int32)) &&& (255 : Int32)).toInt8.toInt32)]) :: (a131, true, oString (vr a132) (vi 0)) :: (a130, true, ar "[B" .byte [(vi (z0 &&& (255 : Int32)).toInt8.toInt32)]) :: []) rfl rfl ?_
       refine W.front 6 (D' := (a130, true, ar "[B" .byte [(vi (z0 &&& (255 : Int32)).toInt8.toInt32)]) :: (a129, true, oString (vr a130) (vi 0)) :: (a128, true, ar "[C" .char [(vi (z1 &&& (255 : Int32))), (vi ((XT.ushr z1 (8 : Int32)) &&& (255 : Int32)))]) :: (a77, true, ar "[C" .char [(vi (z0 &&& (255 : Int32)))]) :: (a138, true, oTimeRange .null (vr a131)) :: (a132, true, ar "[B" .byte [(vi (z1 &&& (255 : Int32)).toInt8.toInt32), (vi ((XT.ushr z1 (8 : Int32)) &&& (255 : Int32)).toInt8.toInt32)]) :: (a131, true, oString (vr a132) (vi 0)) :: []) rfl rfl ?_
       refine W.front 6 (D' := (a131, true, oString (vr a132) (vi 0)) :: (a130, true, ar "[B" .byte [(vi (z0 &&& (255 : Int32)).toInt8.toInt32)]) :: (a129, true, oString (vr a130) (vi 0)) :: (a128, true, ar "[C" .char [(vi (z1 &&& (255 : Int32))), (vi ((XT.ushr z1 (8 : Int32)) &&& (255 : Int32)))]) :: (a77, true, ar "[C" .char [(vi (z0 &&& (255 : Int32)))]) :: (a138, true, oTimeRange .null (vr a131)) :: (a132, true, ar "[B" .byte [(vi (z1 &&& (255 : Int32)).toInt8.toInt32), (vi ((XT.ushr z1 (8 : Int32)) &&& (255 : Int32)).toInt8.toInt32)]) :: []) rfl rfl ?_
       refine W.front 6 (D' := (a132, true, ar "[B" .byte [(vi (z1 &&& (255 : Int32)).toInt8.toInt32), (vi ((XT.ushr z1 (8 : Int32)) &&& (255 : Int32)).toInt8.toInt32)]) :: (a131, true, oString (vr a132) (vi 0)) :: (a130, true, ar "[B" .byte [(vi (z0 &&& (255 : Int32)).toInt8.toInt32)]) :: (a129, true, oString (vr a130) (vi 0)) :: (a128, true, ar "[C" .char [(vi (z1 &&& (255 : Int32))), (vi ((XT.ushr z1 (8 : Int32)) &&& (255 : Int32)))]) :: (a77, true, ar "[C" .char [(vi (z0 &&& (255 : Int32)))]) :: (a138, true, oTimeRange .null (vr a131)) :: []) rfl rfl ?_
       exact W.mono (by decide) (by decide) (K137 (.val .null) a138 .null (Or.inr ⟨_, rfl, rfl⟩) rfl)
      ·
       have ih71 := f_ne h71
       refine W.aload (pc := 180) 14 at_180 rfl rfl ?_
       refine W.astore (pc := 182) (ls' := #[iv z0, iv z1, iv z2, iv 1, iv (z0 &&& (255 : Int32)), iv ((XT.ushr z0 (8 : Int32)) &&& (255 : Int32)), iv 2, iv (z1 &&& (255 : Int32)), iv ((XT.ushr z1 (8 : Int32)) &&& (255 : Int32)), rv a77, rv a128, rv a129, iv 0, iv ((XT.ushr z2 (1 : Int32)) &&& (3 : Int32)), rv a131, rv a131, uu, uu, uu]) at_182 rfl rfl ?_
       refine W.new (pc := 184) at_184 (w23 hw) (w24 hw) (w25 hw) (laTimeRange hw) (by decide) (by decide) (fun a139 => ?_)
       show W _ _ _ _ _ _ _ _ _ _ _ _ 187 _ [(vr a139)]
       refine W.dup (pc := 187) at_187 rfl ?_
       refine W.aload (pc := 188) 15 at_188 rfl rfl ?_
       refine W.aload (pc := 190) 14 at_190 rfl rfl ?_
       refine W.callI (pc := 192) (as := [(vr a131), (vr a131)]) 1 [(vr a139)] at_192 rfl (w26 hw) (w27 hw) (w25 hw) (w28 hw) (c50_init hw hs (p1 := a139) (p2 := a131) (p3 := a132) (x1 := (z1 &&& (255 : Int32)).toInt8.toInt32) (hx1 := (by have := rng32 z1; have := q255; have := am_255 z1; have := a_i2b (z1 &&& (255 : Int32)); omega)) (x2 := ((XT.ushr z1 (8 : Int32)) &&& (255 : Int32)).toInt8.toInt32) (hx2 := (by have := rng32 z1; have := q8; have := aushr_8 z1; have := q255; have := am_255 (XT.ushr z1 (8 : Int32)); have := a_i2b ((XT.ushr z1 (8 : Int32)) &&& (255 : Int32)); omega)) (mp2 := m1) (mp3 := m0)) (by decide) pd_Ljava_lang_String_Ljava_lang_String__V rfl rfl rfl rfl (by decide) (fun v D' h => ?_)
       obtain ⟨rfl, rfl⟩ := h
       show W _ _ _ _ _ _ _ _ _ _ _ _ 195 _ [(vr a139)]
       refine W.astore (pc := 195) (ls' := #[iv z0, iv z1, iv z2, iv 1, iv (z0 &&& (255 : Int32)), iv ((XT.ushr z0 (8 : Int32)) &&& (255 : Int32)), iv 2, iv (z1 &&& (255 : Int32)), iv ((XT.ushr z1 (8 : Int32)) &&& (255 : Int32)), rv a77, rv a128, rv a129, iv 0, iv ((XT.ushr z2 (1 : Int32)) &&& (3 : Int32)), rv a131, rv a131, rv a139, uu, uu]) at_195 rfl rfl ?_
       refine W.front 6 (D' := (a77, true, ar "[C" .char [(vi (z0 &&& (255 : Int32)))]) :: (a139, true, oTimeRange (vr a131) (vr a131)) :: (a132, true, ar "[B" .byte [(vi (z1 &&& (255 : Int32)).toInt8.toInt32), (vi ((XT.ushr z1 (8 : Int32)) &&& (255 : Int32)).toInt8.toInt32)]) :: (a131, true, oString (vr a132) (vi 0)) :: (a130, true, ar "[B" .byte [(vi (z0 &&& (255 : Int32)).toInt8.toInt32)]) :: (a129, true, oString (vr a130) (vi 0)) :: (a128, true, ar "[C" .char [(vi (z1 &&& (255 : Int32))), (vi ((XT.ushr z1 (8 : Int32)) &&& (255 : Int32)))]) :: []) rfl rfl ?_
       refine W.front 6 (D' := (a128, true, ar "[C" .char [(vi (z1 &&& (255 : Int32))), (vi ((XT.ushr z1 (8 : Int32)) &&& (255 : Int32)))]) :: (a77, true, ar "[C" .char [(vi (z0 &&& (255 : Int32)))]) :: (a139, true, oTimeRange (vr a131) (vr a131)) :: (a132, true, ar "[B" .byte [(vi (z1 &&& (255 : Int32)).toInt8.toInt32), (vi ((XT.ushr z1 (8 : Int32)) &&& (255 : Int32)).toInt8.toInt32)]) :: (a131, true, oString (vr a132) (vi 0)) :: (a130, true, ar "[B" .byte [(vi (z0 &&& (255 : Int32)).toInt8.toInt32)]) :: (a129, true, oString (vr a130) (vi 0)) :: []) rfl rfl ?_
       refine W.front 6 (D' := (a129, true, oString (vr a130) (vi 0)) :: (a128, true, ar "[C" .char [(vi (z1 &&& (255 : Int32))), (vi ((XT.ushr z1 (8 : Int32)) &&& (255 : Int32)))]) :: (a77, true, ar "[C" .char [(vi (z0 &&& (255 : Int32)))]) :: (a139, true, oTimeRange (vr a131) (vr a131)) :: (a132, true, ar "[B" .byte [(vi (z1 &&& (255 : Int32)).toInt8.toInt32), (vi ((XT.ushr z1 (8 : Int32)) &&& (255 : Int32)).toInt8.toInt32)]) :: (a131, true, oString (vr a132) (vi 0)) :: (a130, true, ar "[B" .byte [(vi (z0 &&& (255 : Int32)).toInt8.toInt32)]) :: []) rfl rfl ?_
       refine W.front 6 (D' := (a130, true, ar "[B" .byte [(vi (z0 &&& (255 : Int32)).toInt8.toInt32)]) :: (a129, true, oString (vr a130) (vi 0)) :: (a128, true, ar "[C" .char [(vi (z1 &&& (255 : Int32))), (vi ((XT.ushr z1 (8 : Int32)) &&& (255 : Int32)))]) :: (a77, true, ar "[C" .char [(vi (z0 &&& (255 : Int32)))]) :: (a139, true, oTimeRange (vr a131) (vr a131)) :: (a132, true, ar "[B" .byte [(vi (z1 &&& (255 : Int32)).toInt8.toInt32), (vi ((XT.ushr z1 (8 : Int32)) &&& (255 : Int32)).toInt8.toInt32)]) :: (a131, true, oString (vr a132) (vi 0)) :: []) rfl rfl ?_
       refine W.front 6 (D' := (a131, true, oString (vr a132) (vi 0)) :: (a130, true, ar "[B" .byte [(vi (z0 &&& (255 : Int32)).toInt8.toInt32)]) :: (a129, true, oString (vr a130) (vi 0)) :: (a128, true, ar "[C" .char [(vi (z1 &&& (255 : Int32))), (vi ((XT.ushr z1 (8 : Int32)) &&& (255 : Int32)))]) :: (a77, true, ar "[C" .char [(vi (z0 &&& (255 : Int32)))]) :: (a139, true, oTimeRange (vr a131) (vr a131)) :: (a132, true, ar "[B" .byte [(vi (z1 &&& (255 : Int32)).toInt8.toInt32), (vi ((XT.ushr z1 (8 : Int32)) &&& (255 : Int32)).toInt8.toInt32)]) :: []) rfl rfl ?_
       refine W.front 6 (D' := (a132, true, ar "[B" .byte [(vi (z1 &&& (255 : Int32)).toInt8.toInt32), (vi ((XT.ushr z1 (8 : Int32)) &&& (255 : Int32)).toInt8.toInt32)]) :: (a131, true, oString (vr a132) (vi 0)) :: (a130, true, ar "[B" .byte [(vi (z0 &&& (255 : Int32)).toInt8.toInt32)]) :: (a129, true, oString (vr a130) (vi 0)) :: (a128, true, ar "[C" .char [(vi (z1 &&& (255 : Int32))), (vi ((XT.ushr z1 (8 : Int32)) &&& (255 : Int32)))]) :: (a77, true, ar "[C" .char [(vi (z0 &&& (255 : Int32)))]) :: (a139, true, oTimeRange (vr a131) (vr a131)) :: []) rfl rfl ?_
       exact W.mono (by decide) (by decide) (K137 (rv a131) a139 (vr a131) (Or.inr ⟨_, rfl, rfl⟩) rfl)
     ·
      have ih70 := f_ne h70
      refine W.ldcT (pc := 170) 0 (vs := []) rfl at_170 (w22 hw) (wS hw) m0 tx_ (by decide) (by decide) (by decide) (fun a140 a141 => ?_)
      show W _ _ _ _ _ _ _ _ _ _ _ _ 172 _ [(vr a140)]
      refine W.astore (pc := 172) (ls' := #[iv z0, iv z1, iv z2, iv 1, iv (z0 &&& (255 : Int32)), iv ((XT.ushr z0 (8 : Int32)) &&& (255 : Int32)), iv 2, iv (z1 &&& (255 : Int32)), iv ((XT.ushr z1 (8 : Int32)) &&& (255 : Int32)), rv a77, rv a128, rv a129, iv 0, iv ((XT.ushr z2 (1 : Int32)) &&& (3 : Int32)), rv a131, rv a140, uu, uu, uu]) at_172 rfl rfl ?_
      refine W.iload (pc := 174) at_174 rfl ?_
      refine W.iconst (pc := 176) (2) at_176 (by decide) ?_
      refine W.icmpY (pc := 177) 184 at_177 (y_ne (by have := rng32 z2; have := q1; have := aushr_1 z2; have := q3; have := am_3 (XT.ushr z2 (1 : Int32)); have := q2; omega)) (by decide) ?_
      refine W.new (pc := 184) at_184 (w23 hw) (w24 hw) (w25 hw) (laTimeRange hw) (by decide) (by decide) (fun a142 => ?_)
      show W _ _ _ _ _ _ _ _ _ _ _ _ 187 _ [(vr a142)]
      refine W.dup (pc := 187) at_187 rfl ?_
      refine W.aload (pc := 188) 15 at_188 rfl rfl ?_
      refine W.aload (pc := 190) 14 at_190 rfl rfl ?_
      refine W.callI (pc := 192) (as := [(vr a140), (vr a131)]) 1 [(vr a142)] at_192 rfl (w26 hw) (w27 hw) (w25 hw) (w28 hw) (c57_init hw hs (p1 := a142) (p2 := a140) (p3 := a131) (p4 := a141) (p5 := a132) (x1 := (z1 &&& (255 : Int32)).toInt8.toInt32) (hx1 := (by have := rng32 z1; have := q255; have := am_255 z1; have := a_i2b (z1 &&& (255 : Int32)); omega)) (x2 := ((XT.ushr z1 (8 : Int32)) &&& (255 : Int32)).toInt8.toInt32) (hx2 := (by have := rng32 z1; have := q8; have := aushr_8 z1; have := q255; have := am_255 (XT.ushr z1 (8 : Int32)); have := a_i2b ((XT.ushr z1 (8 : Int32)) &&& (255 : Int32)); omega)) (mp2 := m0) (mp3 := m3) (mp4 := m1) (mp5 := m2)) (by decide) pd_Ljava_lang_String_Ljava_lang_String__V rfl rfl rfl rfl (by decide) (fun v D' h => ?_)
      obtain ⟨rfl, rfl⟩ := h
      show W _ _ _ _ _ _ _ _ _ _ _ _ 195 _ [(vr a142)]
      refine W.astore (pc := 195) (ls' := #[iv z0, iv z1, iv z2, iv 1, iv (z0 &&& (255 : Int32)), iv ((XT.ushr z0 (8 : Int32)) &&& (255 : Int32)), iv 2, iv (z1 &&& (255 : Int32)), iv ((XT.ushr z1 (8 : Int32)) &&& (255 : Int32)), rv a77, rv a128, rv a129, iv 0, iv ((XT.ushr z2 (1 : Int32)) &&& (3 : Int32)), rv a131, rv a140, rv a142, uu, uu]) at_195 rfl rfl ?_
      refine W.front 8 (D' := (a77, true, ar "[C" .char [(vi (z0 &&& (255 : Int32)))]) :: (a142, true, oTimeRange (vr a140) (vr a131)) :: (a140, false, oString (vr a141) (vi 0)) :: (a141, false, ar "" .byte []) :: (a132, true, ar "[B" .byte [(vi (z1 &&& (255 : Int32)).toInt8.toInt32), (vi ((XT.ushr z1 (8 : Int32)) &&& (255 : Int32)).toInt8.toInt32)]) :: (a131, true, oString (vr a132) (vi 0)) :: (a130, true, ar "[B" .byte [(vi (z0 &&& (255 : Int32)).toInt8.toInt32)]) :: (a129, true, oString (vr a130) (vi 0)) :: (a128, true, ar "[C" .char [(vi (z1 &&& (255 : Int32))), (vi ((XT.ushr z1 (8 : Int32)) &&& (255 : Int32)))]) :: []) rfl rfl ?_
      refine W.front 8 (D' := (a128, true, ar "[C" .char [(vi (z1 &&& (255 : Int32))), (vi ((XT.ushr z1 (8 : Int32)) &&& (255 : Int32)))]) :: (a77, true, ar "[C" .char [(vi (z0 &&& (255 : Int32)))]) :: (a142, true, oTimeRange (vr a140) (vr a131)) :: (a140, false, oString (vr a141) (vi 0)) :: (a141, false, ar "" .byte []) :: (a132, true, ar "[B" .byte [(vi (z1 &&& (255 : Int32)).toInt8.toInt32), (vi ((XT.ushr z1 (8 : Int32)) &&& (255 : Int32)).toInt8.toInt32)]) :: (a131, true, oString (vr a132) (vi 0)) :: (a130, true, ar "[B" .byte [(vi (z0 &&& (255 : Int32)).toInt8.toInt32)]) :: (a129, true, oString (vr a130) (vi 0)) :: []) rfl rfl ?_
      refine W.front 8 (D' := (a129, true, oString (vr a130) (vi 0)) :: (a128, true, ar "[C" .char [(vi (z1 &&& (255 : Int32))), (vi ((XT.ushr z1 (8 : Int32)) &&& (255 : Int32)))]) :: (a77, true, ar "[C" .char [(vi (z0 &&& (255 : Int32)))]) :: (a142, true, oTimeRange (vr a140) (vr a131)) :: (a140, false, oString (vr a141) (vi 0)) :: (a141, false, ar "" .byte []) :: (a132, true, ar "[B" .byte [(vi (z1 &&& (255 : Int32)).toInt8.toInt32), (vi ((XT.ushr z1 (8 : Int32)) &&& (255 : Int32)).toInt8.toInt32)]) :: (a131, true, oString (vr a132) (vi 0)) :: (a130, true, ar "[B" .byte [(vi (z0 &&& (255 : Int32)).toInt8.toInt32)]) :: []) rfl rfl ?_
      refine W.front 8 (D' := (a130, true, ar "[B" .byte [(vi (z0 &&& (255 : Int32)).toInt8.toInt32)]) :: (a129, true, oString (vr a130) (vi 0)) :: (a128, true, ar "[C" .char [(vi (z1 &&& (255 : Int32))), (vi ((XT.ushr z1 (8 : Int32)) &&& (255 : Int32)))]) :: (a77, true, ar "[C" .char [(vi (z0 &&& (255 : Int32)))]) :: (a142, true, oTimeRange (vr a140) (vr a131)) :: (a140, false, oString (vr a141) (vi 0)) :: (a141, false, ar "" .byte []) :: (a132, true, ar "[B" .byte [(vi (z1 &&& (255 : Int32)).toInt8.toInt32), (vi ((XT.ushr z1 (8 : Int32)) &&& (255 : Int32)).toInt8.toInt32)]) :: (a131, true, oString (vr a132) (vi 0)) :: []) rfl rfl ?_
      refine W.front 8 (D' := (a131, true, oString (vr a132) (vi 0)) :: (a130, true, ar "[B" .byte [(vi (z0 &&& (255 : Int32)).toInt8.toInt32)]) :: (a129, true, oString (vr a130) (vi 0)) :: (a128, true, ar "[C" .char [(vi (z1 &&& (255 : Int32))), (vi ((XT.ushr z1 (8 : Int32)) &&& (255 : Int32)))]) :: (a77, true, ar "[C" .char [(vi (z0 &&& (255 : Int32)))]) :: (a142, true, oTimeRange (vr a140) (vr a131)) :: (a140, false, oString (vr a141) (vi 0)) :: (a141, false, ar "" .byte []) :: (a132, true, ar "[B" .byte [(vi (z1 &&& (255 : Int32)).toInt8.toInt32), (vi ((XT.ushr z1 (8 : Int32)) &&& (255 : Int32)).toInt8.toInt32)]) :: []) rfl rfl ?_
      refine W.front 8 (D' := (a132, true, ar "[B" .byte [(vi (z1 &&& (255 : Int32)).toInt8.toInt32), (vi ((XT.ushr z1 (8 : Int32)) &&& (255 : Int32)).toInt8.toInt32)]) :: (a131, true, oString (vr a132) (vi 0)) :: (a130, true, ar "[B" .byte [(vi (z0 &&& (255 : Int32)).toInt8.toInt32)]) :: (a129, true, oString (vr a130) (vi 0)) :: (a128, true, ar "[C" .char [(vi (z1 &&& (255 : Int32))), (vi ((XT.ushr z1 (8 : Int32)) &&& (255 : Int32)))]) :: (a77, true, ar "[C" .char [(vi (z0 &&& (255 : Int32)))]) :: (a142, true, oTimeRange (vr a140) (vr a131)) :: (a140, false, oString (vr a141) (vi 0)) :: (a141, false, ar "" .byte []) :: []) rfl rfl ?_
      refine W.heap (fun _ _ H => H.sub ((((((((((List.Sublist.refl _).cons _).cons _).cons_cons _).cons_cons _).cons_cons _).cons_cons _).cons_cons _).cons_cons _).cons_cons _)) ?_
      exact W.mono (by decide) (by decide) (K137 (rv a140) a142 (vr a140) (Or.inr ⟨_, rfl, rfl⟩) rfl)
    ·
     have ih49 := f_eq h49
     refine W.iconst (pc := 127) (1) at_127 (by decide) ?_
     refine W.goto (pc := 128) 132 at_128 (by decide) ?_
     refine W.istore (pc := 132) (ls' := #[iv z0, iv z1, iv z2, iv 1, iv (z0 &&& (255 : Int32)), iv ((XT.ushr z0 (8 : Int32)) &&& (255 : Int32)), iv 2, iv (z1 &&& (255 : Int32)), iv ((XT.ushr z1 (8 : Int32)) &&& (255 : Int32)), rv a77, rv a128, rv a129, iv 1, uu, uu, uu, uu, uu, uu]) at_132 rfl ?_
     refine W.iloadN (pc := 134) at_134 rfl ?_
     refine W.iconst (pc := 135) (1) at_135 (by decide) ?_
     refine W.iushr (pc := 136) at_136 ?_
     refine W.iconst (pc := 137) (3) at_137 (by decide) ?_
     refine W.iand (pc := 138) at_138 ?_
     refine W.istore (pc := 139) (ls' := #[iv z0, iv z1, iv z2, iv 1, iv (z0 &&& (255 : Int32)), iv ((XT.ushr z0 (8 : Int32)) &&& (255 : Int32)), iv 2, iv (z1 &&& (255 : Int32)), iv ((XT.ushr z1 (8 : Int32)) &&& (255 : Int32)), rv a77, rv a128, rv a129, iv 1, iv ((XT.ushr z2 (1 : Int32)) &&& (3 : Int32)), uu, uu, uu, uu, uu]) at_139 rfl ?_
     refine W.iload (pc := 141) at_141 rfl ?_
     refine W.ifN (pc := 143) at_143 (n_eq (by decide)) ?_
     refine W.aconstNull (pc := 146) at_146 ?_
     refine W.goto (pc := 147) 159 at_147 (by decide) ?_
     refine W.astore (pc := 159) (ls' := #[iv z0, iv z1, iv z2, iv 1, iv (z0 &&& (255 : Int32)), iv ((XT.ushr z0 (8 : Int32)) &&& (255 : Int32)), iv 2, iv (z1 &&& (255 : Int32)), iv ((XT.ushr z1 (8 : Int32)) &&& (255 : Int32)), rv a77, rv a128, rv a129, iv 1, iv ((XT.ushr z2 (1 : Int32)) &&& (3 : Int32)), .val .null, uu, uu, uu, uu]) at_159 rfl rfl ?_
     have K147 : ∀ (t144 : Slot) (a145 : Addr) (u146 : Value), SlOk t144 → u146.isRef = true → W Z EL room_1 "com/example/chainvouch/chainvouch/chain/TimeRangeStartsAfterPinLaw" "law" code maxLocals ret (fun v _ => v = some (.int 1)) ((a130, true, ar "[B" .byte [(vi (z0 &&& (255 : Int32)).toInt8.toInt32)]) :: (a129, true, oString (vr a130) (vi 0)) :: (a128, true, ar "[C" .char [(vi (z1 &&& (255 : Int32))), (vi ((XT.ushr z1 (8 : Int32)) &&& (255 : Int32)))]) :: (a77, true, ar "[C" .char [(vi (z0 &&& (255 : Int32)))]) :: (a145, true, oTimeRange u146 .null) :: []) 7 14 197 #[iv z0, iv z1, iv z2, iv 1, iv (z0 &&& (255 : Int32)), iv ((XT.ushr z0 (8 : Int32)) &&& (255 : Int32)), iv 2, iv (z1 &&& (255 : Int32)), iv ((XT.ushr z1 (8 : Int32)) &&& (255 : Int32)), rv a77, rv a128, rv a129, iv 1, iv ((XT.ushr z2 (1 : Int32)) &&& (3 : Int32)), .val .null, t144, rv a145, uu, uu] [] := by
      intro t144 a145 u146 ht144 hu146
      refine W.aload (pc := 197) 16 at_197 rfl rfl ?_
      refine W.aload (pc := 199) 11 at_199 rfl rfl ?_
      refine W.callV (pc := 201) (as := [(vr a129)]) 0 [] at_201 (w60 hw) (w61 hw) (w63 hw) (w63 hw) (w62 hw) (w25 hw) (w64 hw) (Hp.exa m4) (c72_startsAfter hw hs (p1 := a145) (p2 := a129) (p3 := a130) (x1 := (z0 &&& (255 : Int32)).toInt8.toInt32) (hx1 := (by have := rng32 z0; have := q255; have := am_255 z0; have := a_i2b (z0 &&& (255 : Int32)); omega)) (u1 := u146) (hu1 := hu146) (mp1 := m4)) (by decide) pd_Ljava_lang_String__Z rfl rfl rfl rfl (by decide) (fun v D' h => ?_)
      obtain ⟨rfl, rfl⟩ := h
      show W _ _ _ _ _ _ _ _ _ _ _ _ 204 _ [(vi 0)]
      refine W.istore (pc := 204) (ls' := #[iv z0, iv z1, iv z2, iv 1, iv (z0 &&& (255 : Int32)), iv ((XT.ushr z0 (8 : Int32)) &&& (255 : Int32)), iv 2, iv (z1 &&& (255 : Int32)), iv ((XT.ushr z1 (8 : Int32)) &&& (255 : Int32)), rv a77, rv a128, rv a129, iv 1, iv ((XT.ushr z2 (1 : Int32)) &&& (3 : Int32)), .val .null, t144, rv a145, iv 0, uu]) at_204 rfl ?_
      refine W.iload (pc := 206) at_206 rfl ?_
      refine W.ifY (pc := 208) 232 at_208 (y_ne (by decide)) (by decide) ?_
      refine W.iconst (pc := 232) (0) at_232 (by decide) ?_
      refine W.istore (pc := 233) (ls' := #[iv z0, iv z1, iv z2, iv 1, iv (z0 &&& (255 : Int32)), iv ((XT.ushr z0 (8 : Int32)) &&& (255 : Int32)), iv 2, iv (z1 &&& (255 : Int32)), iv ((XT.ushr z1 (8 : Int32)) &&& (255 : Int32)), rv a77, rv a128, rv a129, iv 1, iv ((XT.ushr z2 (1 : Int32)) &&& (3 : Int32)), .val .null, t144, rv a145, iv 0, iv 0]) at_233 rfl ?_
      refine W.iload (pc := 235) at_235 rfl ?_
      refine W.iload (pc := 237) at_237 rfl ?_
      refine W.icmpN (pc := 239) at_239 (n_ne (by decide)) ?_
      refine W.iconst (pc := 242) (1) at_242 (by decide) ?_
      refine W.goto (pc := 243) 247 at_243 (by decide) ?_
      exact W.ireturn (pc := 247) at_247 rfl (Or.inr (Or.inl rfl)) (nw_bool (by decide)) (by decide) rfl
     refine W.aconstNull (pc := 161) at_161 ?_
     refine W.astore (pc := 162) (ls' := #[iv z0, iv z1, iv z2, iv 1, iv (z0 &&& (255 : Int32)), iv ((XT.ushr z0 (8 : Int32)) &&& (255 : Int32)), iv 2, iv (z1 &&& (255 : Int32)), iv ((XT.ushr z1 (8 : Int32)) &&& (255 : Int32)), rv a77, rv a128, rv a129, iv 1, iv ((XT.ushr z2 (1 : Int32)) &&& (3 : Int32)), .val .null, .val .null, uu, uu, uu]) at_162 rfl rfl ?_
     refine W.iload (pc := 164) at_164 rfl ?_
     refine W.iconst (pc := 166) (1) at_166 (by decide) ?_
     refine W.icmp (pc := 167) 174 at_167 (by decide) (fun h72 => ?_) (fun h72 => ?_)
     ·
      have ih72 := t_ne h72
      refine W.iload (pc := 174) at_174 rfl ?_
      refine W.iconst (pc := 176) (2) at_176 (by decide) ?_
      refine W.icmp (pc := 177) 184 at_177 (by decide) (fun h73 => ?_) (fun h73 => ?_)
      ·
       have ih73 := t_ne h73
       refine W.new (pc := 184) at_184 (w23 hw) (w24 hw) (w25 hw) (laTimeRange hw) (by decide) (by decide) (fun a148 => ?_)
       show W _ _ _ _ _ _ _ _ _ _ _ _ 187 _ [(vr a148)]
       refine W.dup (pc := 187) at_187 rfl ?_
       refine W.aload (pc := 188) 15 at_188 rfl rfl ?_
       refine W.aload (pc := 190) 14 at_190 rfl rfl ?_
       refine W.callI (pc := 192) (as := [.null, .null]) 1 [(vr a148)] at_192 rfl (w26 hw) (w27 hw) (w25 hw) (w28 hw) (c20_init hw hs (p1 := a148)) (by decide) pd_Ljava_lang_String_Ljava_lang_String__V rfl rfl rfl rfl (by decide) (fun v D' h => ?_)
       obtain ⟨rfl, rfl⟩ := h
       show W _ _ _ _ _ _ _ _ _ _ _ _ 195 _ [(vr a148)]
       refine W.astore (pc := 195) (ls' := #[iv z0, iv z1, iv z2, iv 1, iv (z0 &&& (255 : Int32)), iv ((XT.ushr z0 (8 : Int32)) &&& (255 : Int32)), iv 2, iv (z1 &&& (255 : Int32)), iv ((XT.ushr z1 (8 : Int32)) &&& (255 : Int32)), rv a77, rv a128, rv a129, iv 1, iv ((XT.ushr z2 (1 : Int32)) &&& (3 : Int32)), .val .null, .val .null, rv a148, uu, uu]) at_195 rfl rfl ?_
       refine W.front 4 (D' := (a77, true, ar "[C" .char [(vi (z0 &&& (255 : Int32)))]) :: (a148, true, oTimeRange .null .null) :: (a130, true, ar "[B" .byte [(vi (z0 &&& (255 : Int32)).toInt8.toInt32)]) :: (a129, true, oString (vr a130) (vi 0)) :: (a128, true, ar "[C" .char [(vi (z1 &&& (255 : Int32))), (vi ((XT.ushr z1 (8 : Int32)) &&& (255 : Int32)))]) :: []) rfl rfl ?_
       refine W.front 4 (D' := (a128, true, ar "[C" .char [(vi (z1 &&& (255 : Int32))), (vi ((XT.ushr z1 (8 : Int32)) &&& (255 : Int32)))]) :: (a77, true, ar "[C" .char [(vi (z0 &&& (255 : Int32)))]) :: (a148, true, oTimeRange .null .null) :: (a130, true, ar "[B" .byte [(vi (z0 &&& (255 : Int32)).toInt8.toInt32)]) :: (a129, true, oString (vr a130) (vi 0)) :: []) rfl rfl ?_
       refine W.front 4 (D' := (a129, true, oString (vr a130) (vi 0)) :: (a128, true, ar "[C" .char [(vi (z1 &&& (255 : Int32))), (vi ((XT.ushr z1 (8 : Int32)) &&& (255 : Int32)))]) :: (a77, true, ar "[C" .char [(vi (z0 &&& (255 : Int32)))]) :: (a148, true, oTimeRange .null .null) :: (a130, true, ar "[B" .byte [(vi (z0 &&& (255 : Int32)).toInt8.toInt32)]) :: []) rfl rfl ?_
       refine W.front 4 (D' := (a130, true, ar "[B" .byte [(vi (z0 &&& (255 : Int32)).toInt8.toInt32)]) :: (a129, true, oString (vr a130) (vi 0)) :: (a128, true, ar "[C" .char [(vi (z1 &&& (255 : Int32))), (vi ((XT.ushr z1 (8 : Int32)) &&& (255 : Int32)))]) :: (a77, true, ar "[C" .char [(vi (z0 &&& (255 : Int32)))]) :: (a148, true, oTimeRange .null .null) :: []) rfl rfl ?_
       exact W.mono (by decide) (by decide) (K147 (.val .null) a148 .null (Or.inr ⟨_, rfl, rfl⟩) rfl)
      ·
       have ih73 := f_ne h73
       refine W.aload (pc := 180) 14 at_180 rfl rfl ?_
       refine W.astore (pc := 182) (ls' := #[iv z0, iv z1, iv z2, iv 1, iv (z0 &&& (255 : Int32)), iv ((XT.ushr z0 (8 : Int32)) &&& (255 : Int32)), iv 2, iv (z1 &&& (255 : Int32)), iv ((XT.ushr z1 (8 : Int32)) &&& (255 : Int32)), rv a77, rv a128, rv a129, iv 1, iv ((XT.ushr z2 (1 : Int32)) &&& (3 : Int32)), .val .null, .val .null, uu, uu, uu]) at_182 rfl rfl ?_
       refine W.new (pc := 184) at_184 (w23 hw) (w24 hw) (w25 hw) (laTimeRange hw) (by decide) (by decide) (fun a149 => ?_)
       show W _ _ _ _ _ _ _ _ _ _ _ _ 187 _ [(vr a149)]
       refine W.dup (pc := 187) at_187 rfl ?_
       refine W.aload (pc := 188) 15 at_188 rfl rfl ?_
       refine W.aload (pc := 190) 14 at_190 rfl rfl ?_
       refine W.callI (pc := 192) (as := [.null, .null]) 1 [(vr a149)] at_192 rfl (w26 hw) (w27 hw) (w25 hw) (w28 hw) (c20_init hw hs (p1 := a149)) (by decide) pd_Ljava_lang_String_Ljava_lang_String__V rfl rfl rfl rfl (by decide) (fun v D' h => ?_)
       obtain ⟨rfl, rfl⟩ := h
       show W _ _ _ _ _ _ _ _ _ _ _ _ 195 _ [(vr a149)]
       refine W.astore (pc := 195) (ls' := #[iv z0, iv z1, iv z2, iv 1, iv (z0 &&& (255 : Int32)), iv ((XT.ushr z0 (8 : Int32)) &&& (255 : Int32)), iv 2, iv (z1 &&& (255 : Int32)), iv ((XT.ushr z1 (8 : Int32)) &&& (255 : Int32)), rv a77, rv a128, rv a129, iv 1, iv ((XT.ushr z2 (1 : Int32)) &&& (3 : Int32)), .val .null, .val .null, rv a149, uu, uu]) at_195 rfl rfl ?_
       refine W.front 4 (D' := (a77, true, ar "[C" .char [(vi (z0 &&& (255 : Int32)))]) :: (a149, true, oTimeRange .null .null) :: (a130, true, ar "[B" .byte [(vi (z0 &&& (255 : Int32)).toInt8.toInt32)]) :: (a129, true, oString (vr a130) (vi 0)) :: (a128, true, ar "[C" .char [(vi (z1 &&& (255 : Int32))), (vi ((XT.ushr z1 (8 : Int32)) &&& (255 : Int32)))]) :: []) rfl rfl ?_
       refine W.front 4 (D' := (a128, true, ar "[C" .char [(vi (z1 &&& (255 : Int32))), (vi ((XT.ushr z1 (8 : Int32)) &&& (255 : Int32)))]) :: (a77, true, ar "[C" .char [(vi (z0 &&& (255 : Int32)))]) :: (a149, true, oTimeRange .null .null) :: (a130, true, ar "[B" .byte [(vi (z0 &&& (255 : Int32)).toInt8.toInt32)]) :: (a129, true, oString (vr a130) (vi 0)) :: []) rfl rfl ?_
       refine W.front 4 (D' := (a129, true, oString (vr a130) (vi 0)) :: (a128, true, ar "[C" .char [(vi (z1 &&& (255 : Int32))), (vi ((XT.ushr z1 (8 : Int32)) &&& (255 : Int32)))]) :: (a77, true, ar "[C" .char [(vi (z0 &&& (255 : Int32)))]) :: (a149, true, oTimeRange .null .null) :: (a130, true, ar "[B" .byte [(vi (z0 &&& (255 : Int32)).toInt8.toInt32)]) :: []) rfl rfl ?_
       refine W.front 4 (D' := (a130, true, ar "[B" .byte [(vi (z0 &&& (255 : Int32)).toInt8.toInt32)]) :: (a129, true, oString (vr a130) (vi 0)) :: (a128, true, ar "[C" .char [(vi (z1 &&& (255 : Int32))), (vi ((XT.ushr z1 (8 : Int32)) &&& (255 : Int32)))]) :: (a77, true, ar "[C" .char [(vi (z0 &&& (255 : Int32)))]) :: (a149, true, oTimeRange .null .null) :: []) rfl rfl ?_
       exact W.mono (by decide) (by decide) (K147 (.val .null) a149 .null (Or.inr ⟨_, rfl, rfl⟩) rfl)
     ·
      have ih72 := f_ne h72
      refine W.ldcT (pc := 170) 0 (vs := []) rfl at_170 (w22 hw) (wS hw) m0 tx_ (by decide) (by decide) (by decide) (fun a150 a151 => ?_)
      show W _ _ _ _ _ _ _ _ _ _ _ _ 172 _ [(vr a150)]
      refine W.astore (pc := 172) (ls' := #[iv z0, iv z1, iv z2, iv 1, iv (z0 &&& (255 : Int32)), iv ((XT.ushr z0 (8 : Int32)) &&& (255 : Int32)), iv 2, iv (z1 &&& (255 : Int32)), iv ((XT.ushr z1 (8 : Int32)) &&& (255 : Int32)), rv a77, rv a128, rv a129, iv 1, iv ((XT.ushr z2 (1 : Int32)) &&& (3 : Int32)), .val .null, rv a150, uu, uu, uu]) at_172 rfl rfl ?_
      refine W.iload (pc := 174) at_174 rfl ?_
      refine W.iconst (pc := 176) (2) at_176 (by decide) ?_
      refine W.icmpY (pc := 177) 184 at_177 (y_ne (by have := rng32 z2; have := q1; have := aushr_1 z2; have := q3; have := am_3 (XT.ushr z2 (1 : Int32)); have := q2; omega)) (by decide) ?_
      refine W.new (pc := 184) at_184 (w23 hw) (w24 hw) (w25 hw) (laTimeRange hw) (by decide) (by decide) (fun a152 => ?_)
      show W _ _ _ _ _ _ _ _ _ _ _ _ 187 _ [(vr a152)]
      refine W.dup (pc := 187) at_187 rfl ?_
      refine W.aload (pc := 188) 15 at_188 rfl rfl ?_
      refine W.aload (pc := 190) 14 at_190 rfl rfl ?_
      refine W.callI (pc := 192) (as := [(vr a150), .null]) 1 [(vr a152)] at_192 rfl (w26 hw) (w27 hw) (w25 hw) (w28 hw) (c21_init hw hs (p1 := a152) (p2 := a150) (p3 := a151)) (by decide) pd_Ljava_lang_String_Ljava_lang_String__V rfl rfl rfl rfl (by decide) (fun v D' h => ?_)
      obtain ⟨rfl, rfl⟩ := h
      show W _ _ _ _ _ _ _ _ _ _ _ _ 195 _ [(vr a152)]
      refine W.astore (pc := 195) (ls' := #[iv z0, iv z1, iv z2, iv 1, iv (z0 &&& (255 : Int32)), iv ((XT.ushr z0 (8 : Int32)) &&& (255 : Int32)), iv 2, iv (z1 &&& (255 : Int32)), iv ((XT.ushr z1 (8 : Int32)) &&& (255 : Int32)), rv a77, rv a128, rv a129, iv 1, iv ((XT.ushr z2 (1 : Int32)) &&& (3 : Int32)), .val .null, rv a150, rv a152, uu, uu]) at_195 rfl rfl ?_
      refine W.front 6 (D' := (a77, true, ar "[C" .char [(vi (z0 &&& (255 : Int32)))]) :: (a152, true, oTimeRange (vr a150) .null) :: (a150, false, oString (vr a151) (vi 0)) :: (a151, false, ar "" .byte []) :: (a130, true, ar "[B" .byte [(vi (z0 &&& (255 : Int32)).toInt8.toInt32)]) :: (a129, true, oString (vr a130) (vi 0)) :: (a128, true, ar "[C" .char [(vi (z1 &&& (255 : Int32))), (vi ((XT.ushr z1 (8 : Int32)) &&& (255 : Int32)))]) :: []) rfl rfl ?_
      refine W.front 6 (D' := (a128, true, ar "[C" .char [(vi (z1 &&& (255 : Int32))), (vi ((XT.ushr z1 (8 : Int32)) &&& (255 : Int32)))]) :: (a77, true, ar "[C" .char [(vi (z0 &&& (255 : Int32)))]) :: (a152, true, oTimeRange (vr a150) .null) :: (a150, false, oString (vr a151) (vi 0)) :: (a151, false, ar "" .byte []) :: (a130, true, ar "[B" .byte [(vi (z0 &&& (255 : Int32)).toInt8.toInt32)]) :: (a129, true, oString (vr a130) (vi 0)) :: []) rfl rfl ?_
      refine W.front 6 (D' := (a129, true, oString (vr a130) (vi 0)) :: (a128, true, ar "[C" .char [(vi (z1 &&& (255 : Int32))), (vi ((XT.ushr z1 (8 : Int32)) &&& (255 : Int32)))]) :: (a77, true, ar "[C" .char [(vi (z0 &&& (255 : Int32)))]) :: (a152, true, oTimeRange (vr a150) .null) :: (a150, false, oString (vr a151) (vi 0)) :: (a151, false, ar "" .byte []) :: (a130, true, ar "[B" .byte [(vi (z0 &&& (255 : Int32)).toInt8.toInt32)]) :: []) rfl rfl ?_
      refine W.front 6 (D' := (a130, true, ar "[B" .byte [(vi (z0 &&& (255 : Int32)).toInt8.toInt32)]) :: (a129, true, oString (vr a130) (vi 0)) :: (a128, true, ar "[C" .char [(vi (z1 &&& (255 : Int32))), (vi ((XT.ushr z1 (8 : Int32)) &&& (255 : Int32)))]) :: (a77, true, ar "[C" .char [(vi (z0 &&& (255 : Int32)))]) :: (a152, true, oTimeRange (vr a150) .null) :: (a150, false, oString (vr a151) (vi 0)) :: (a151, false, ar "" .byte []) :: []) rfl rfl ?_
      refine W.heap (fun _ _ H => H.sub ((((((((List.Sublist.refl _).cons _).cons _).cons_cons _).cons_cons _).cons_cons _).cons_cons _).cons_cons _)) ?_
      exact W.mono (by decide) (by decide) (K147 (rv a150) a152 (vr a150) (Or.inr ⟨_, rfl, rfl⟩) rfl)
  ·
   have ie1 := i_eq e1
   rw [e1]
   show W _ _ _ _ _ _ _ _ _ ([]) _ _ 50 #[iv z0, iv z1, iv z2, iv 2, iv (z0 &&& (255 : Int32)), iv ((XT.ushr z0 (8 : Int32)) &&& (255 : Int32)), iv ((XT.ushr z1 (16 : Int32)) % (3 : Int32)), iv (z1 &&& (255 : Int32)), iv ((XT.ushr z1 (8 : Int32)) &&& (255 : Int32)), uu, uu, uu, uu, uu, uu, uu, uu, uu, uu] [(vi 2)]
   refine W.newarr (pc := 50) 2 (ad := "[C") (ty := .char) at_50 rfl (w0 hw) ix2 rfl (by decide) (by decide) (fun a153 => ?_)
   show W _ _ _ _ _ _ _ _ _ _ _ _ 52 _ [(vr a153)]
   refine W.astore (pc := 52) (ls' := #[iv z0, iv z1, iv z2, iv 2, iv (z0 &&& (255 : Int32)), iv ((XT.ushr z0 (8 : Int32)) &&& (255 : Int32)), iv ((XT.ushr z1 (16 : Int32)) % (3 : Int32)), iv (z1 &&& (255 : Int32)), iv ((XT.ushr z1 (8 : Int32)) &&& (255 : Int32)), rv a153, uu, uu, uu, uu, uu, uu, uu, uu, uu]) at_52 rfl rfl ?_
   refine W.iloadN (pc := 54) at_54 rfl ?_
   refine W.iconst (pc := 55) (1) at_55 (by decide) ?_
   refine W.icmpN (pc := 56) at_56 (n_lt (by decide)) ?_
   refine W.aload (pc := 59) 9 at_59 rfl rfl ?_
   refine W.iconst (pc := 61) (0) at_61 (by decide) ?_
   refine W.iload (pc := 62) at_62 rfl ?_
   refine W.i2cK (pc := 64) (z0 &&& (255 : Int32)) at_64 (z_i2c (by have := rng32 z0; have := q255; have := am_255 z0; omega)) ?_
   refine W.castore (pc := 65) (D' := (a153, true, ar "[C" .char [(vi (z0 &&& (255 : Int32))), (vi 0)]) :: []) 0 0 at_65 rfl ix0 (Nat.le_of_ble_eq_true rfl) (z_narC (by have := rng32 z0; have := q255; have := am_255 z0; omega)) rfl ?_
   refine W.iloadN (pc := 66) at_66 rfl ?_
   refine W.iconst (pc := 67) (2) at_67 (by decide) ?_
   refine W.icmpN (pc := 68) at_68 (n_lt (by decide)) ?_
   refine W.aload (pc := 71) 9 at_71 rfl rfl ?_
   refine W.iconst (pc := 73) (1) at_73 (by decide) ?_
   refine W.iload (pc := 74) at_74 rfl ?_
   refine W.i2cK (pc := 76) ((XT.ushr z0 (8 : Int32)) &&& (255 : Int32)) at_76 (z_i2c (by have := rng32 z0; have := q8; have := aushr_8 z0; have := q255; have := am_255 (XT.ushr z0 (8 : Int32)); omega)) ?_
   refine W.castore (pc := 77) (D' := (a153, true, ar "[C" .char [(vi (z0 &&& (255 : Int32))), (vi ((XT.ushr z0 (8 : Int32)) &&& (255 : Int32)))]) :: []) 0 1 at_77 rfl ix1 (Nat.le_of_ble_eq_true rfl) (z_narC (by have := rng32 z0; have := q8; have := aushr_8 z0; have := q255; have := am_255 (XT.ushr z0 (8 : Int32)); omega)) rfl ?_
   refine W.iload (pc := 78) at_78 rfl ?_
   have e74 : ((XT.ushr z1 (16 : Int32)) % (3 : Int32)) = (0 : Int32) ∨ ((XT.ushr z1 (16 : Int32)) % (3 : Int32)) = (1 : Int32) ∨ ((XT.ushr z1 (16 : Int32)) % (3 : Int32)) = (2 : Int32) := by
    rcases (by have := rng32 z1; have := q16; have := aushr_16 z1; have := q3; have := arem_3 (XT.ushr z1 (16 : Int32)); have := q0; have := q1; have := q2; omega : ((XT.ushr z1 (16 : Int32)) % (3 : Int32)).toInt = 0 ∨ ((XT.ushr z1 (16 : Int32)) % (3 : Int32)).toInt = 1 ∨ ((XT.ushr z1 (16 : Int32)) % (3 : Int32)).toInt = 2) with z | z | z
    · exact (Or.inl (eqI z))
    · exact (Or.inr (Or.inl (eqI z)))
    · exact (Or.inr (Or.inr (eqI z)))
   rcases e74 with e74 | e74 | e74
   ·
    have ie74 := i_eq e74
    rw [e74]
    show W _ _ _ _ _ _ _ _ _ ((a153, true, ar "[C" .char [(vi (z0 &&& (255 : Int32))), (vi ((XT.ushr z0 (8 : Int32)) &&& (255 : Int32)))]) :: []) _ _ 80 #[iv z0, iv z1, iv z2, iv 2, iv (z0 &&& (255 : Int32)), iv ((XT.ushr z0 (8 : Int32)) &&& (255 : Int32)), iv 0, iv (z1 &&& (255 : Int32)), iv ((XT.ushr z1 (8 : Int32)) &&& (255 : Int32)), rv a153, uu, uu, uu, uu, uu, uu, uu, uu, uu] [(vi 0)]
    refine W.newarr (pc := 80) 0 (ad := "[C") (ty := .char) at_80 rfl (w0 hw) ix0 rfl (by decide) (by decide) (fun a154 => ?_)
    show W _ _ _ _ _ _ _ _ _ _ _ _ 82 _ [(vr a154)]
    refine W.astore (pc := 82) (ls' := #[iv z0, iv z1, iv z2, iv 2, iv (z0 &&& (255 : Int32)), iv ((XT.ushr z0 (8 : Int32)) &&& (255 : Int32)), iv 0, iv (z1 &&& (255 : Int32)), iv ((XT.ushr z1 (8 : Int32)) &&& (255 : Int32)), rv a153, rv a154, uu, uu, uu, uu, uu, uu, uu, uu]) at_82 rfl rfl ?_
    refine W.iload (pc := 84) at_84 rfl ?_
    refine W.iconst (pc := 86) (1) at_86 (by decide) ?_
    refine W.icmpY (pc := 87) 97 at_87 (y_lt (by decide)) (by decide) ?_
    refine W.iload (pc := 97) at_97 rfl ?_
    refine W.iconst (pc := 99) (2) at_99 (by decide) ?_
    refine W.icmpY (pc := 100) 110 at_100 (y_lt (by decide)) (by decide) ?_
    refine W.new (pc := 110) at_110 (w1 hw) (w2 hw) (w3 hw) (laString hw) (by decide) (by decide) (fun a155 => ?_)
    show W _ _ _ _ _ _ _ _ _ _ _ _ 113 _ [(vr a155)]
    refine W.dup (pc := 113) at_113 rfl ?_
    refine W.aload (pc := 114) 9 at_114 rfl rfl ?_
    refine W.callI (pc := 116) (as := [(vr a153)]) 1 [(vr a155)] at_116 rfl (w4 hw) (w5 hw) (w3 hw) (w6 hw) (c44_init hw hs (p1 := a155) (p2 := a153) (x1 := (z0 &&& (255 : Int32))) (hx1 := (by have := rng32 z0; have := q255; have := am_255 z0; omega)) (x2 := ((XT.ushr z0 (8 : Int32)) &&& (255 : Int32))) (hx2 := (by have := rng32 z0; have := q8; have := aushr_8 z0; have := q255; have := am_255 (XT.ushr z0 (8 : Int32)); omega)) (mp2 := m1)) (by decide) pd__C_V rfl rfl rfl rfl (by decide) (fun v D' h => ?_)
    obtain ⟨a156, rfl, rfl⟩ := h
    show W _ _ _ _ _ _ _ _ _ _ _ _ 119 _ [(vr a155)]
    refine W.astore (pc := 119) (ls' := #[iv z0, iv z1, iv z2, iv 2, iv (z0 &&& (255 : Int32)), iv ((XT.ushr z0 (8 : Int32)) &&& (255 : Int32)), iv 0, iv (z1 &&& (255 : Int32)), iv ((XT.ushr z1 (8 : Int32)) &&& (255 : Int32)), rv a153, rv a154, rv a155, uu, uu, uu, uu, uu, uu, uu]) at_119 rfl rfl ?_
    refine W.iloadN (pc := 121) at_121 rfl ?_
    refine W.iconst (pc := 122) (1) at_122 (by decide) ?_
    refine W.iand (pc := 123) at_123 ?_
    refine W.if (pc := 124) 131 at_124 (by decide) (fun h75 => ?_) (fun h75 => ?_)
    ·
     have ih75 := t_eq h75
     refine W.iconst (pc := 131) (0) at_131 (by decide) ?_
     refine W.istore (pc := 132) (ls' := #[iv z0, iv z1, iv z2, iv 2, iv (z0 &&& (255 : Int32)), iv ((XT.ushr z0 (8 : Int32)) &&& (255 : Int32)), iv 0, iv (z1 &&& (255 : Int32)), iv ((XT.ushr z1 (8 : Int32)) &&& (255 : Int32)), rv a153, rv a154, rv a155, iv 0, uu, uu, uu, uu, uu, uu]) at_132 rfl ?_
     refine W.iloadN (pc := 134) at_134 rfl ?_
     refine W.iconst (pc := 135) (1) at_135 (by decide) ?_
     refine W.iushr (pc := 136) at_136 ?_
     refine W.iconst (pc := 137) (3) at_137 (by decide) ?_
     refine W.iand (pc := 138) at_138 ?_
     refine W.istore (pc := 139) (ls' := #[iv z0, iv z1, iv z2, iv 2, iv (z0 &&& (255 : Int32)), iv ((XT.ushr z0 (8 : Int32)) &&& (255 : Int32)), iv 0, iv (z1 &&& (255 : Int32)), iv ((XT.ushr z1 (8 : Int32)) &&& (255 : Int32)), rv a153, rv a154, rv a155, iv 0, iv ((XT.ushr z2 (1 : Int32)) &&& (3 : Int32)), uu, uu, uu, uu, uu]) at_139 rfl ?_
     refine W.iload (pc := 141) at_141 rfl ?_
     refine W.ifY (pc := 143) 150 at_143 (y_eq (by decide)) (by decide) ?_
     refine W.new (pc := 150) at_150 (w1 hw) (w2 hw) (w3 hw) (laString hw) (by decide) (by decide) (fun a157 => ?_)
     show W _ _ _ _ _ _ _ _ _ _ _ _ 153 _ [(vr a157)]
     refine W.dup (pc := 153) at_153 rfl ?_
     refine W.aload (pc := 154) 10 at_154 rfl rfl ?_
     refine W.callI (pc := 156) (as := [(vr a154)]) 1 [(vr a157)] at_156 rfl (w4 hw) (w5 hw) (w3 hw) (w6 hw) (c1_init hw hs (p1 := a157) (p2 := a154) (mp2 := m2)) (by decide) pd__C_V rfl rfl rfl rfl (by decide) (fun v D' h => ?_)
     obtain ⟨a158, rfl, rfl⟩ := h
     show W _ _ _ _ _ _ _ _ _ _ _ _ 159 _ [(vr a157)]
     refine W.astore (pc := 159) (ls' := #[iv z0, iv z1, iv z2, iv 2, iv (z0 &&& (255 : Int32)), iv ((XT.ushr z0 (8 : Int32)) &&& (255 : Int32)), iv 0, iv (z1 &&& (255 : Int32)), iv ((XT.ushr z1 (8 : Int32)) &&& (255 : Int32)), rv a153, rv a154, rv a155, iv 0, iv ((XT.ushr z2 (1 : Int32)) &&& (3 : Int32)), rv a157, uu, uu, uu, uu]) at_159 rfl rfl ?_
     have K163 : ∀ (t160 : Slot) (a161 : Addr) (u162 : Value), SlOk t160 → u162.isRef = true → W Z EL room_1 "com/example/chainvouch/chainvouch/chain/TimeRangeStartsAfterPinLaw" "law" code maxLocals ret (fun v _ => v = some (.int 1)) ((a158, false, ar "" .byte []) :: (a157, true, oString (vr a158) (vi 0)) :: (a156, true, ar "[B" .byte [(vi (z0 &&& (255 : Int32)).toInt8.toInt32), (vi ((XT.ushr z0 (8 : Int32)) &&& (255 : Int32)).toInt8.toInt32)]) :: (a155, true, oString (vr a156) (vi 0)) :: (a154, true, ar "[C" .char []) :: (a153, true, ar "[C" .char [(vi (z0 &&& (255 : Int32))), (vi ((XT.ushr z0 (8 : Int32)) &&& (255 : Int32)))]) :: (a161, true, oTimeRange u162 (vr a157)) :: []) 12 26 197 #[iv z0, iv z1, iv z2, iv 2, iv (z0 &&& (255 : Int32)), iv ((XT.ushr z0 (8 : Int32)) &&& (255 : Int32)), iv 0, iv (z1 &&& (255 : Int32)), iv ((XT.ushr z1 (8 : Int32)) &&& (255 : Int32)), rv a153, rv a154, rv a155, iv 0, iv ((XT.ushr z2 (1 : Int32)) &&& (3 : Int32)), rv a157, t160, rv a161, uu, uu] [] := by
      intro t160 a161 u162 ht160 hu162
      refine W.aload (pc := 197) 16 at_197 rfl rfl ?_
      refine W.aload (pc := 199) 11 at_199 rfl rfl ?_
      refine W.callV (pc := 201) (as := [(vr a155)]) 0 [] at_201 (w60 hw) (w61 hw) (w63 hw) (w63 hw) (w62 hw) (w25 hw) (w64 hw) (Hp.exa m6) (c88_startsAfter hw hs (p1 := a161) (p2 := a155) (p3 := a157) (p4 := a156) (p5 := a158) (x1 := (z0 &&& (255 : Int32)).toInt8.toInt32) (hx1 := (by have := rng32 z0; have := q255; have := am_255 z0; have := a_i2b (z0 &&& (255 : Int32)); omega)) (x2 := ((XT.ushr z0 (8 : Int32)) &&& (255 : Int32)).toInt8.toInt32) (hx2 := (by have := rng32 z0; have := q8; have := aushr_8 z0; have := q255; have := am_255 (XT.ushr z0 (8 : Int32)); have := a_i2b ((XT.ushr z0 (8 : Int32)) &&& (255 : Int32)); omega)) (u1 := u162) (hu1 := hu162) (mp1 := m6) (mp2 := m3) (mp3 := m1) (mp4 := m2) (mp5 := m0)) (by decide) pd_Ljava_lang_String__Z rfl rfl rfl rfl (by decide) (fun v D' h => ?_)
      obtain ⟨rfl, rfl⟩ := h
      show W _ _ _ _ _ _ _ _ _ _ _ _ 204 _ [(vi 1)]
      refine W.istore (pc := 204) (ls' := #[iv z0, iv z1, iv z2, iv 2, iv (z0 &&& (255 : Int32)), iv ((XT.ushr z0 (8 : Int32)) &&& (255 : Int32)), iv 0, iv (z1 &&& (255 : Int32)), iv ((XT.ushr z1 (8 : Int32)) &&& (255 : Int32)), rv a153, rv a154, rv a155, iv 0, iv ((XT.ushr z2 (1 : Int32)) &&& (3 : Int32)), rv a157, t160, rv a161, iv 1, uu]) at_204 rfl ?_
      refine W.iload (pc := 206) at_206 rfl ?_
      refine W.ifN (pc := 208) at_208 (n_ne (by decide)) ?_
      refine W.iloadN (pc := 211) at_211 rfl ?_
      refine W.iload (pc := 212) at_212 rfl ?_
      refine W.iload (pc := 214) at_214 rfl ?_
      refine W.iload (pc := 216) at_216 rfl ?_
      refine W.iload (pc := 218) at_218 rfl ?_
      refine W.iload (pc := 220) at_220 rfl ?_
      refine W.callS (pc := 222) (as := [(vi 2), (vi (z0 &&& (255 : Int32))), (vi ((XT.ushr z0 (8 : Int32)) &&& (255 : Int32))), (vi 0), (vi (z1 &&& (255 : Int32))), (vi ((XT.ushr z1 (8 : Int32)) &&& (255 : Int32)))]) 0 [] at_222 (w65 hw) (w66 hw) (w67 hw) (w68 hw) (c94_geq hw hs (x1 := (z0 &&& (255 : Int32))) (hx1 := (by have := rng32 z0; have := q255; have := am_255 z0; omega)) (x2 := ((XT.ushr z0 (8 : Int32)) &&& (255 : Int32))) (hx2 := (by have := rng32 z0; have := q8; have := aushr_8 z0; have := q255; have := am_255 (XT.ushr z0 (8 : Int32)); omega)) (x3 := (z1 &&& (255 : Int32))) (hx3 := (by have := rng32 z1; have := q255; have := am_255 z1; omega)) (x4 := ((XT.ushr z1 (8 : Int32)) &&& (255 : Int32))) (hx4 := (by have := rng32 z1; have := q8; have := aushr_8 z1; have := q255; have := am_255 (XT.ushr z1 (8 : Int32)); omega))) (by decide) pd_IIIIII_Z rfl rfl rfl rfl (by decide) (fun v D' h => ?_)
      obtain ⟨rfl, rfl⟩ := h
      show W _ _ _ _ _ _ _ _ _ _ _ _ 225 _ [(vi 1)]
      refine W.ifN (pc := 225) at_225 (n_eq (by decide)) ?_
      refine W.iconst (pc := 228) (1) at_228 (by decide) ?_
      refine W.goto (pc := 229) 233 at_229 (by decide) ?_
      refine W.istore (pc := 233) (ls' := #[iv z0, iv z1, iv z2, iv 2, iv (z0 &&& (255 : Int32)), iv ((XT.ushr z0 (8 : Int32)) &&& (255 : Int32)), iv 0, iv (z1 &&& (255 : Int32)), iv ((XT.ushr z1 (8 : Int32)) &&& (255 : Int32)), rv a153, rv a154, rv a155, iv 0, iv ((XT.ushr z2 (1 : Int32)) &&& (3 : Int32)), rv a157, t160, rv a161, iv 1, iv 1]) at_233 rfl ?_
      refine W.iload (pc := 235) at_235 rfl ?_
      refine W.iload (pc := 237) at_237 rfl ?_
      refine W.icmpN (pc := 239) at_239 (n_ne (by decide)) ?_
      refine W.iconst (pc := 242) (1) at_242 (by decide) ?_
      refine W.goto (pc := 243) 247 at_243 (by decide) ?_
      exact W.ireturn (pc := 247) at_247 rfl (Or.inr (Or.inl rfl)) (nw_bool (by decide)) (by decide) rfl
     refine W.aconstNull (pc := 161) at_161 ?_
     refine W.astore (pc := 162) (ls' := #[iv z0, iv z1, iv z2, iv 2, iv (z0 &&& (255 : Int32)), iv ((XT.ushr z0 (8 : Int32)) &&& (255 : Int32)), iv 0, iv (z1 &&& (255 : Int32)), iv ((XT.ushr z1 (8 : Int32)) &&& (255 : Int32)), rv a153, rv a154, rv a155, iv 0, iv ((XT.ushr z2 (1 : Int32)) &&& (3 : Int32)), rv a157, .val .null, uu, uu, uu]) at_162 rfl rfl ?_
     refine W.iload (pc := 164) at_164 rfl ?_
     refine W.iconst (pc := 166) (1) at_166 (by decide) ?_
     refine W.icmp (pc := 167) 174 at_167 (by decide) (fun h76 => ?_) (fun h76 => ?_)
     ·
      have ih76 := t_ne h76
      refine W.iload (pc := 174) at_174 rfl ?_
      refine W.iconst (pc := 176) (2) at_176 (by decide) ?_
      refine W.icmp (pc := 177) 184 at_177 (by decide) (fun h77 => ?_) (fun h77 => ?_)
      ·
       have ih77 := t_ne h77
       refine W.new (pc := 184) at_184 (w23 hw) (w24 hw) (w25 hw) (laTimeRange hw) (by decide) (by decide) (fun a164 => ?_)
       show W _ _ _ _ _ _ _ _ _ _ _ _ 187 _ [(vr a164)]
       refine W.dup (pc := 187) at_187 rfl ?_
       refine W.aload (pc := 188) 15 at_188 rfl rfl ?_
       refine W.aload (pc := 190) 14 at_190 rfl rfl ?_
       refine W.callI (pc := 192) (as := [.null, (vr a157)]) 1 [(vr a164)] at_192 rfl (w26 hw) (w27 hw) (w25 hw) (w28 hw) (c3_init hw hs (p1 := a164) (p2 := a157) (p3 := a158)) (by decide) pd_Ljava_lang_String_Ljava_lang_String__V rfl rfl rfl rfl (by decide) (fun v D' h => ?_)
       obtain ⟨rfl, rfl⟩ := h
       show W _ _ _ _ _ _ _ _ _ _ _ _ 195 _ [(vr a164)]
       refine W.astore (pc := 195) (ls' := #[iv z0, iv z1, iv z2, iv 2, iv (z0 &&& (255 : Int32)), iv ((XT.ushr z0 (8 : Int32)) &&& (255 : Int32)), iv 0, iv (z1 &&& (255 : Int32)), iv ((XT.ushr z1 (8 : Int32)) &&& (255 : Int32)), rv a153, rv a154, rv a155, iv 0, iv ((XT.ushr z2 (1 : Int32)) &&& (3 : Int32)), rv a157, .val .null, rv a164, uu, uu]) at_195 rfl rfl ?_
       refine W.front 6 (D' := (a153, true, ar "[C" .char [(vi (z0 &&& (255 : Int32))), (vi ((XT.ushr z0 (8 : Int32)) &&& (255 : Int32)))]) :: (a164, true, oTimeRange .null (vr a157)) :: (a158, false, ar "" .byte []) :: (a157, true, oString (vr a158) (vi 0)) :: (a156, true, ar "[B" .byte [(vi (z0 &&& (255 : Int32)).toInt8.toInt32), (vi ((XT.ushr z0 (8 : Int32)) &&& (255 : Int32)).toInt8.toInt32)]) :: (a155, true, oString (vr a156) (vi 0)) :: (a154, true, ar "[C" .char []) :: []) rfl rfl ?_
       refine W.front 6 (D' := (a154, true, ar "[C" .char []) :: (a153, true, ar "[C" .char [(vi (z0 &&& (255 : Int32))), (vi ((XT.ushr z0 (8 : Int32)) &&& (255 : Int32)))]) :: (a164, true, oTimeRange .null (vr a157)) :: (a158, false, ar "" .byte []) :: (a157, true, oString (vr a158) (vi 0)) :: (a156, true, ar "[B" .byte [(vi (z0 &&& (255 : Int32)).toInt8.toInt32), (vi ((XT.ushr z0 (8 : Int32)) &&& (255 : Int32)).toInt8.toInt32)]) :: (a155, true, oString (vr a156) (vi 0)) :: []) rfl rfl ?_
       refine W.front 6 (D' := (a155, true, oString (vr a156) (vi 0)) :: (a154, true, ar "[C" .char []) :: (a153, true, ar "[C" .char [(vi (z0 &&& (255 : Int32))), (vi ((XT.ushr z0 (8 : Int32)) &&& (255 : Int32)))]) :: (a164, true, oTimeRange .null (vr a157)) :: (a158, false, ar "" .byte []) :: (a157, true, oString (vr a158) (vi 0)) :: (a156, true, ar "[B" .byte [(vi (z0 &&& (255 : Int32)).toInt8.toInt32), (vi ((XT.ushr z0 (8 : Int32)) &&& (255 : Int32)).toInt8.toInt32)]) :: []) rfl rfl ?_
       refine W.front 6 (D' := (a156, true, ar "[B" .byte [(vi (z0 &&& (255 : Int32)).toInt8.toInt32), (vi ((XT.ushr z0 (8 : Int32)) &&& (255 : Int32)).toInt8.toInt32)]) :: (a155, true, oString (vr a156) (vi 0)) :: (a154, true, ar "[C" .char []) :: (a153, true, ar "[C" .char [(vi (z0 &&& (255 : Int32))), (vi ((XT.ushr z0 (8 : Int32)) &&& (255 : Int32)))]) :: (a164, true, oTimeRange .null (vr a157)) :: (a158, false, ar "" .byte []) :: (a157, true, oString (vr a158) (vi 0)) :: []) rfl rfl ?_
       refine W.front 6 (D' := (a157, true, oString (vr a158) (vi 0)) :: (a156, true, ar "[B" .byte [(vi (z0 &&& (255 : Int32)).toInt8.toInt32), (vi ((XT.ushr z0 (8 : Int32)) &&& (255 : Int32)).toInt8.toInt32)]) :: (a155, true, oString (vr a156) (vi 0)) :: (a154, true, ar "[C" .char []) :: (a153, true, ar "[C" .char [(vi (z0 &&& (255 : Int32))), (vi ((XT.ushr z0 (8 : Int32)) &&& (255 : Int32)))]) :: (a164, true, oTimeRange .null (vr a157)) :: (a158, false, ar "" .byte []) :: []) rfl rfl ?_
       refine W.front 6 (D' := (a158, false, ar "" .byte []) :: (a157, true, oString (vr a158) (vi 0)) :: (a156, true, ar "[B" .byte [(vi (z0 &&& (255 : Int32)).toInt8.toInt32), (vi ((XT.ushr z0 (8 : Int32)) &&& (255 : Int32)).toInt8.toInt32)]) :: (a155, true, oString (vr a156) (vi 0)) :: (a154, true, ar "[C" .char []) :: (a153, true, ar "[C" .char [(vi (z0 &&& (255 : Int32))), (vi ((XT.ushr z0 (8 : Int32)) &&& (255 : Int32)))]) :: (a164, true, oTimeRange .null (vr a157)) :: []) rfl rfl ?_
       exact W.mono (by decide) (by decide) (K163 (.val .null) a164 .null (Or.inr ⟨_, rfl, rfl⟩) rfl)
      ·
       have ih77 := f_ne h77
       refine W.aload (pc := 180) 14 at_180 rfl rfl ?_
       refine W.astore (pc := 182) (ls' := #[iv z0, iv z1, iv z2, iv 2, iv (z0 &&& (255 : Int32)), iv ((XT.ushr z0 (8 : Int32)) &&& (255 : Int32)), iv 0, iv (z1 &&& (255 : Int32)), iv ((XT.ushr z1 (8 : Int32)) &&& (255 : Int32)), rv a153, rv a154, rv a155, iv 0, iv ((XT.ushr z2 (1 : Int32)) &&& (3 : Int32)), rv a157, rv a157, uu, uu, uu]) at_182 rfl rfl ?_
       refine W.new (pc := 184) at_184 (w23 hw) (w24 hw) (w25 hw) (laTimeRange hw) (by decide) (by decide) (fun a165 => ?_)
       show W _ _ _ _ _ _ _ _ _ _ _ _ 187 _ [(vr a165)]
       refine W.dup (pc := 187) at_187 rfl ?_
       refine W.aload (pc := 188) 15 at_188 rfl rfl ?_
       refine W.aload (pc := 190) 14 at_190 rfl rfl ?_
       refine W.callI (pc := 192) (as := [(vr a157), (vr a157)]) 1 [(vr a165)] at_192 rfl (w26 hw) (w27 hw) (w25 hw) (w28 hw) (c4_init hw hs (p1 := a165) (p2 := a157) (p3 := a158) (mp2 := m1) (mp3 := m0)) (by decide) pd_Ljava_lang_String_Ljava_lang_String__V rfl rfl rfl rfl (by decide) (fun v D' h => ?_)
       obtain ⟨rfl, rfl⟩ := h
       show W _ _ _ _ _ _ _ _ _ _ _ _ 195 _ [(vr a165)]
       refine W.astore (pc := 195) (ls' := #[iv z0, iv z1, iv z2, iv 2, iv (z0 &&& (255 : Int32)), iv ((XT.ushr z0 (8 : Int32)) &&& (255 : Int32)), iv 0, iv (z1 &&& (255 : Int32)), iv ((XT.ushr z1 (8 : Int32)) &&& (255 : Int32)), rv a153, rv a154, rv a155, iv 0, iv ((XT.ushr z2 (1 : Int32)) &&& (3 : Int32)), rv a157, rv a157, rv a165, uu, uu]) at_195 rfl rfl ?_
       refine W.front 6 (D' := (a153, true, ar "[C" .char [(vi (z0 &&& (255 : Int32))), (vi ((XT.ushr z0 (8 : Int32)) &&& (255 : Int32)))]) :: (a165, true, oTimeRange (vr a157) (vr a157)) :: (a158, false, ar "" .byte []) :: (a157, true, oString (vr a158) (vi 0)) :: (a156, true, ar "[B" .byte [(vi (z0 &&& (255 : Int32)).toInt8.toInt32), (vi ((XT.ushr z0 (8 : Int32)) &&& (255 : Int32)).toInt8.toInt32)]) :: (a155, true, oString (vr a156) (vi 0)) :: (a154, true, ar "[C" .char []) :: []) rfl rfl ?_
       refine W.front 6 (D' := (a154, true, ar "[C" .char []) :: (a153, true, ar "[C" .char [(vi (z0 &&& (255 : Int32))), (vi ((XT.ushr z0 (8 : Int32)) &&& (255 : Int32)))]) :: (a165, true, oTimeRange (vr a157) (vr a157)) :: (a158, false, ar "" .byte []) :: (a157, true, oString (vr a158) (vi 0)) :: (a156, true, ar "[B" .byte [(vi (z0 &&& (255 : Int32)).toInt8.toInt32), (vi ((XT.ushr z0 (8 : Int32)) &&& (255 : Int32)).toInt8.toInt32)]) :: (a155, true, oString (vr a156) (vi 0)) :: []) rfl rfl ?_
       refine W.front 6 (D' := (a155, true, oString (vr a156) (vi 0)) :: (a154, true, ar "[C" .char []) :: (a153, true, ar "[C" .char [(vi (z0 &&& (255 : Int32))), (vi ((XT.ushr z0 (8 : Int32)) &&& (255 : Int32)))]) :: (a165, true, oTimeRange (vr a157) (vr a157)) :: (a158, false, ar "" .byte []) :: (a157, true, oString (vr a158) (vi 0)) :: (a156, true, ar "[B" .byte [(vi (z0 &&& (255 : Int32)).toInt8.toInt32), (vi ((XT.ushr z0 (8 : Int32)) &&& (255 : Int32)).toInt8.toInt32)]) :: []) rfl rfl ?_
       refine W.front 6 (D' := (a156, true, ar "[B" .byte [(vi (z0 &&& (255 : Int32)).toInt8.toInt32), (vi ((XT.ushr z0 (8 : Int32)) &&& (255 : Int32)).toInt8.toInt32)]) :: (a155, true, oString (vr a156) (vi 0)) :: (a154, true, ar "[C" .char []) :: (a153, true, ar "[C" .char [(vi (z0 &&& (255 : Int32))), (vi ((XT.ushr z0 (8 : Int32)) &&& (255 : Int32)))]) :: (a165, true, oTimeRange (vr a157) (vr a157)) :: (a158, false, ar "" .byte []) :: (a157, true, oString (vr a158) (vi 0)) :: []) rfl rfl ?_
       refine W.front 6 (D' := (a157, true, oString (vr a158) (vi 0)) :: (a156, true, ar "[B" .byte [(vi (z0 &&& (255 : Int32)).toInt8.toInt32), (vi ((XT.ushr z0 (8 : Int32)) &&& (255 : Int32)).toInt8.toInt32)]) :: (a155, true, oString (vr a156) (vi 0)) :: (a154, true, ar "[C" .char []) :: (a153, true, ar "[C" .char [(vi (z0 &&& (255 : Int32))), (vi ((XT.ushr z0 (8 : Int32)) &&& (255 : Int32)))]) :: (a165, true, oTimeRange (vr a157) (vr a157)) :: (a158, false, ar "" .byte []) :: []) rfl rfl ?_
       refine W.front 6 (D' := (a158, false, ar "" .byte []) :: (a157, true, oString (vr a158) (vi 0)) :: (a156, true, ar "[B" .byte [(vi (z0 &&& (255 : Int32)).toInt8.toInt32), (vi ((XT.ushr z0 (8 : Int32)) &&& (255 : Int32)).toInt8.toInt32)]) :: (a155, true, oString (vr a156) (vi 0)) :: (a154, true, ar "[C" .char []) :: (a153, true, ar "[C" .char [(vi (z0 &&& (255 : Int32))), (vi ((XT.ushr z0 (8 : Int32)) &&& (255 : Int32)))]) :: (a165, true, oTimeRange (vr a157) (vr a157)) :: []) rfl rfl ?_
       exact W.mono (by decide) (by decide) (K163 (rv a157) a165 (vr a157) (Or.inr ⟨_, rfl, rfl⟩) rfl)
     ·
      have ih76 := f_ne h76
      refine W.ldcT (pc := 170) 0 (vs := []) rfl at_170 (w22 hw) (wS hw) m0 tx_ (by decide) (by decide) (by decide) (fun a166 a167 => ?_)
      show W _ _ _ _ _ _ _ _ _ _ _ _ 172 _ [(vr a166)]
      refine W.astore (pc := 172) (ls' := #[iv z0, iv z1, iv z2, iv 2, iv (z0 &&& (255 : Int32)), iv ((XT.ushr z0 (8 : Int32)) &&& (255 : Int32)), iv 0, iv (z1 &&& (255 : Int32)), iv ((XT.ushr z1 (8 : Int32)) &&& (255 : Int32)), rv a153, rv a154, rv a155, iv 0, iv ((XT.ushr z2 (1 : Int32)) &&& (3 : Int32)), rv a157, rv a166, uu, uu, uu]) at_172 rfl rfl ?_
      refine W.iload (pc := 174) at_174 rfl ?_
      refine W.iconst (pc := 176) (2) at_176 (by decide) ?_
      refine W.icmpY (pc := 177) 184 at_177 (y_ne (by have := rng32 z2; have := q1; have := aushr_1 z2; have := q3; have := am_3 (XT.ushr z2 (1 : Int32)); have := q2; omega)) (by decide) ?_
      refine W.new (pc := 184) at_184 (w23 hw) (w24 hw) (w25 hw) (laTimeRange hw) (by decide) (by decide) (fun a168 => ?_)
      show W _ _ _ _ _ _ _ _ _ _ _ _ 187 _ [(vr a168)]
      refine W.dup (pc := 187) at_187 rfl ?_
      refine W.aload (pc := 188) 15 at_188 rfl rfl ?_
      refine W.aload (pc := 190) 14 at_190 rfl rfl ?_
      refine W.callI (pc := 192) (as := [(vr a166), (vr a157)]) 1 [(vr a168)] at_192 rfl (w26 hw) (w27 hw) (w25 hw) (w28 hw) (c12_init hw hs (p1 := a168) (p2 := a166) (p3 := a157) (p4 := a167) (p5 := a158) (mp2 := m0) (mp3 := m3) (mp4 := m1) (mp5 := m2)) (by decide) pd_Ljava_lang_String_Ljava_lang_String__V rfl rfl rfl rfl (by decide) (fun v D' h => ?_)
      obtain ⟨rfl, rfl⟩ := h
      show W _ _ _ _ _ _ _ _ _ _ _ _ 195 _ [(vr a168)]
      refine W.astore (pc := 195) (ls' := #[iv z0, iv z1, iv z2, iv 2, iv (z0 &&& (255 : Int32)), iv ((XT.ushr z0 (8 : Int32)) &&& (255 : Int32)), iv 0, iv (z1 &&& (255 : Int32)), iv ((XT.ushr z1 (8 : Int32)) &&& (255 : Int32)), rv a153, rv a154, rv a155, iv 0, iv ((XT.ushr z2 (1 : Int32)) &&& (3 : Int32)), rv a157, rv a166, rv a168, uu, uu]) at_195 rfl rfl ?_
      refine W.front 8 (D' := (a153, true, ar "[C" .char [(vi (z0 &&& (255 : Int32))), (vi ((XT.ushr z0 (8 : Int32)) &&& (255 : Int32)))]) :: (a168, true, oTimeRange (vr a166) (vr a157)) :: (a166, false, oString (vr a167) (vi 0)) :: (a167, false, ar "" .byte []) :: (a158, false, ar "" .byte []) :: (a157, true, oString (vr a158) (vi 0)) :: (a156, true, ar "[B" .byte [(vi (z0 &&& (255 : Int32)).toInt8.toInt32), (vi ((XT.ushr z0 (8 : Int32)) &&& (255 : Int32)).toInt8.toInt32)]) :: (a155, true, oString (vr a156) (vi 0)) :: (a154, true, ar "[C" .char []) :: []) rfl rfl ?_
      refine W.front 8 (D' := (a154, true, ar "[C" .char []) :: (a153, true, ar "[C" .char [(vi (z0 &&& (255 : Int32))), (vi ((XT.ushr z0 (8 : Int32)) &&& (255 : Int32)))]) :: (a168, true, oTimeRange (vr a166) (vr a157)) :: (a166, false, oString (vr a167) (vi 0)) :: (a167, false, ar "" .byte []) :: (a158, false, ar "" .byte []) :: (a157, true, oString (vr a158) (vi 0)) :: (a156, true, ar "[B" .byte [(vi (z0 &&& (255 : Int32)).toInt8.toInt32), (vi ((XT.ushr z0 (8 : Int32)) &&& (255 : Int32)).toInt8.toInt32)]) :: (a155, true, oString (vr a156) (vi 0)) :: []) rfl rfl ?_
      refine W.front 8 (D' := (a155, true, oString (vr a156) (vi 0)) :: (a154, true, ar "[C" .char []) :: (a153, true, ar "[C" .char [(vi (z0 &&& (255 : Int32))), (vi ((XT.ushr z0 (8 : Int32)) &&& (255 : Int32)))]) :: (a168, true, oTimeRange (vr a166) (vr a157)) :: (a166, false, oString (vr a167) (vi 0)) :: (a167, false, ar "" .byte []) :: (a158, false, ar "" .byte []) :: (a157, true, oString (vr a158) (vi 0)) :: (a156, true, ar "[B" .byte [(vi (z0 &&& (255 : Int32)).toInt8.toInt32), (vi ((XT.ushr z0 (8 : Int32)) &&& (255 : Int32)).toInt8.toInt32)]) :: []) rfl rfl ?_
      refine W.front 8 (D' := (a156, true, ar "[B" .byte [(vi (z0 &&& (255 : Int32)).toInt8.toInt32), (vi ((XT.ushr z0 (8 : Int32)) &&& (255 : Int32)).toInt8.toInt32)]) :: (a155, true, oString (vr a156) (vi 0)) :: (a154, true, ar "[C" .char []) :: (a153, true, ar "[C" .char [(vi (z0 &&& (255 : Int32))), (vi ((XT.ushr z0 (8 : Int32)) &&& (255 : Int32)))]) :: (a168, true, oTimeRange (vr a166) (vr a157)) :: (a166, false, oString (vr a167) (vi 0)) :: (a167, false, ar "" .byte []) :: (a158, false, ar "" .byte []) :: (a157, true, oString (vr a158) (vi 0)) :: []) rfl rfl ?_
      refine W.front 8 (D' := (a157, true, oString (vr a158) (vi 0)) :: (a156, true, ar "[B" .byte [(vi (z0 &&& (255 : Int32)).toInt8.toInt32), (vi ((XT.ushr z0 (8 : Int32)) &&& (255 : Int32)).toInt8.toInt32)]) :: (a155, true, oString (vr a156) (vi 0)) :: (a154, true, ar "[C" .char []) :: (a153, true, ar "[C" .char [(vi (z0 &&& (255 : Int32))), (vi ((XT.ushr z0 (8 : Int32)) &&& (255 : Int32)))]) :: (a168, true, oTimeRange (vr a166) (vr a157)) :: (a166, false, oString (vr a167) (vi 0)) :: (a167, false, ar "" .byte []) :: (a158, false, ar "" .byte []) :: []) rfl rfl ?_
      refine W.front 8 (D' := (a158, false, ar "" .byte []) :: (a157, true, oString (vr a158) (vi 0)) :: (a156, true, ar "[B" .byte [(vi (z0 &&& (255 : Int32)).toInt8.toInt32), (vi ((XT.ushr z0 (8 : Int32)) &&& (255 : Int32)).toInt8.toInt32)]) :: (a155, true, oString (vr a156) (vi 0)) :: (a154, true, ar "[C" .char []) :: (a153, true, ar "[C" .char [(vi (z0 &&& (255 : Int32))), (vi ((XT.ushr z0 (8 : Int32)) &&& (255 : Int32)))]) :: (a168, true, oTimeRange (vr a166) (vr a157)) :: (a166, false, oString (vr a167) (vi 0)) :: (a167, false, ar "" .byte []) :: []) rfl rfl ?_
      refine W.heap (fun _ _ H => H.sub ((((((((((List.Sublist.refl _).cons _).cons _).cons_cons _).cons_cons _).cons_cons _).cons_cons _).cons_cons _).cons_cons _).cons_cons _)) ?_
      exact W.mono (by decide) (by decide) (K163 (rv a166) a168 (vr a166) (Or.inr ⟨_, rfl, rfl⟩) rfl)
    ·
     have ih75 := f_eq h75
     refine W.iconst (pc := 127) (1) at_127 (by decide) ?_
     refine W.goto (pc := 128) 132 at_128 (by decide) ?_
     refine W.istore (pc := 132) (ls' := #[iv z0, iv z1, iv z2, iv 2, iv (z0 &&& (255 : Int32)), iv ((XT.ushr z0 (8 : Int32)) &&& (255 : Int32)), iv 0, iv (z1 &&& (255 : Int32)), iv ((XT.ushr z1 (8 : Int32)) &&& (255 : Int32)), rv a153, rv a154, rv a155, iv 1, uu, uu, uu, uu, uu, uu]) at_132 rfl ?_
     refine W.iloadN (pc := 134) at_134 rfl ?_
     refine W.iconst (pc := 135) (1) at_135 (by decide) ?_
     refine W.iushr (pc := 136) at_136 ?_
     refine W.iconst (pc := 137) (3) at_137 (by decide) ?_
     refine W.iand (pc := 138) at_138 ?_
     refine W.istore (pc := 139) (ls' := #[iv z0, iv z1, iv z2, iv 2, iv (z0 &&& (255 : Int32)), iv ((XT.ushr z0 (8 : Int32)) &&& (255 : Int32)), iv 0, iv (z1 &&& (255 : Int32)), iv ((XT.ushr z1 (8 : Int32)) &&& (255 : Int32)), rv a153, rv a154, rv a155, iv 1, iv ((XT.ushr z2 (1 : Int32)) &&& (3 : Int32)), uu, uu, uu, uu, uu]) at_139 rfl ?_
     refine W.iload (pc := 141) at_141 rfl ?_
     refine W.ifN (pc := 143) at_143 (n_eq (by decide)) ?_
     refine W.aconstNull (pc := 146) at_146 ?_
     refine W.goto (pc := 147) 159 at_147 (by decide) ?_
     refine W.astore (pc := 159) (ls' := #[iv z0, iv z1, iv z2, iv 2, iv (z0 &&& (255 : Int32)), iv ((XT.ushr z0 (8 : Int32)) &&& (255 : Int32)), iv 0, iv (z1 &&& (255 : Int32)), iv ((XT.ushr z1 (8 : Int32)) &&& (255 : Int32)), rv a153, rv a154, rv a155, iv 1, iv ((XT.ushr z2 (1 : Int32)) &&& (3 : Int32)), .val .null, uu, uu, uu, uu]) at_159 rfl rfl ?_
     have K173 : ∀ (t170 : Slot) (a171 : Addr) (u172 : Value), SlOk t170 → u172.isRef = true → W Z EL room_1 "com/example/chainvouch/chainvouch/chain/TimeRangeStartsAfterPinLaw" "law" code maxLocals ret (fun v _ => v = some (.int 1)) ((a156, true, ar "[B" .byte [(vi (z0 &&& (255 : Int32)).toInt8.toInt32), (vi ((XT.ushr z0 (8 : Int32)) &&& (255 : Int32)).toInt8.toInt32)]) :: (a155, true, oString (vr a156) (vi 0)) :: (a154, true, ar "[C" .char []) :: (a153, true, ar "[C" .char [(vi (z0 &&& (255 : Int32))), (vi ((XT.ushr z0 (8 : Int32)) &&& (255 : Int32)))]) :: (a171, true, oTimeRange u172 .null) :: []) 7 14 197 #[iv z0, iv z1, iv z2, iv 2, iv (z0 &&& (255 : Int32)), iv ((XT.ushr z0 (8 : Int32)) &&& (255 : Int32)), iv 0, iv (z1 &&& (255 : Int32)), iv ((XT.ushr z1 (8 : Int32)) &&& (255 : Int32)), rv a153, rv a154, rv a155, iv 1, iv ((XT.ushr z2 (1 : Int32)) &&& (3 : Int32)), .val .null, t170, rv a171, uu, uu] [] := by
      intro t170 a171 u172 ht170 hu172
      refine W.aload (pc := 197) 16 at_197 rfl rfl ?_
      refine W.aload (pc := 199) 11 at_199 rfl rfl ?_
      refine W.callV (pc := 201) (as := [(vr a155)]) 0 [] at_201 (w60 hw) (w61 hw) (w63 hw) (w63 hw) (w62 hw) (w25 hw) (w64 hw) (Hp.exa m4) (c95_startsAfter hw hs (p1 := a171) (p2 := a155) (p3 := a156) (x1 := (z0 &&& (255 : Int32)).toInt8.toInt32) (hx1 := (by have := rng32 z0; have := q255; have := am_255 z0; have := a_i2b (z0 &&& (255 : Int32)); omega)) (x2 := ((XT.ushr z0 (8 : Int32)) &&& (255 : Int32)).toInt8.toInt32) (hx2 := (by have := rng32 z0; have := q8; have := aushr_8 z0; have := q255; have := am_255 (XT.ushr z0 (8 : Int32)); have := a_i2b ((XT.ushr z0 (8 : Int32)) &&& (255 : Int32)); omega)) (u1 := u172) (hu1 := hu172) (mp1 := m4)) (by decide) pd_Ljava_lang_String__Z rfl rfl rfl rfl (by decide) (fun v D' h => ?_)
      obtain ⟨rfl, rfl⟩ := h
      show W _ _ _ _ _ _ _ _ _ _ _ _ 204 _ [(vi 0)]
      refine W.istore (pc := 204) (ls' := #[iv z0, iv z1, iv z2, iv 2, iv (z0 &&& (255 : Int32)), iv ((XT.ushr z0 (8 : Int32)) &&& (255 : Int32)), iv 0, iv (z1 &&& (255 : Int32)), iv ((XT.ushr z1 (8 : Int32)) &&& (255 : Int32)), rv a153, rv a154, rv a155, iv 1, iv ((XT.ushr z2 (1 : Int32)) &&& (3 : Int32)), .val .null, t170, rv a171, iv 0, uu]) at_204 rfl ?_
      refine W.iload (pc := 206) at_206 rfl ?_
      refine W.ifY (pc := 208) 232 at_208 (y_ne (by decide)) (by decide) ?_
      refine W.iconst (pc := 232) (0) at_232 (by decide) ?_
      refine W.istore (pc := 233) (ls' := #[iv z0, iv z1, iv z2, iv 2, iv (z0 &&& (255 : Int32)), iv ((XT.ushr z0 (8 : Int32)) &&& (255 : Int32)), iv 0, iv (z1 &&& (255 : Int32)), iv ((XT.ushr z1 (8 : Int32)) &&& (255 : Int32)), rv a153, rv a154, rv a155, iv 1, iv ((XT.ushr z2 (1 : Int32)) &&& (3 : Int32)), .val .null, t170, rv a171, iv 0, iv 0]) at_233 rfl ?_
      refine W.iload (pc := 235) at_235 rfl ?_
      refine W.iload (pc := 237) at_237 rfl ?_
      refine W.icmpN (pc := 239) at_239 (n_ne (by decide)) ?_
      refine W.iconst (pc := 242) (1) at_242 (by decide) ?_
      refine W.goto (pc := 243) 247 at_243 (by decide) ?_
      exact W.ireturn (pc := 247) at_247 rfl (Or.inr (Or.inl rfl)) (nw_bool (by decide)) (by decide) rfl
     refine W.aconstNull (pc := 161) at_161 ?_
     refine W.astore (pc := 162) (ls' := #[iv z0, iv z1, iv z2, iv 2, iv (z0 &&& (255 : Int32)), iv ((XT.ushr z0 (8 : Int32)) &&& (255 : Int32)), iv 0, iv (z1 &&& (255 : Int32)), iv ((XT.ushr z1 (8 : Int32)) &&& (255 : Int32)), rv a153, rv a154, rv a155, iv 1, iv ((XT.ushr z2 (1 : Int32)) &&& (3 : Int32)), .val .null, .val .null, uu, uu, uu]) at_162 rfl rfl ?_
     refine W.iload (pc := 164) at_164 rfl ?_
     refine W.iconst (pc := 166) (1) at_166 (by decide) ?_
     refine W.icmp (pc := 167) 174 at_167 (by decide) (fun h78 => ?_) (fun h78 => ?_)
     ·
      have ih78 := t_ne h78
      refine W.iload (pc := 174) at_174 rfl ?_
      refine W.iconst (pc := 176) (2) at_176 (by decide) ?_
      refine W.icmp (pc := 177) 184 at_177 (by decide) (fun h79 => ?_) (fun h79 => ?_)
      ·
       have ih79 := t_ne h79
       refine W.new (pc := 184) at_184 (w23 hw) (w24 hw) (w25 hw) (laTimeRange hw) (by decide) (by decide) (fun a174 => ?_)
       show W _ _ _ _ _ _ _ _ _ _ _ _ 187 _ [(vr a174)]
       refine W.dup (pc := 187) at_187 rfl ?_
       refine W.aload (pc := 188) 15 at_188 rfl rfl ?_
       refine W.aload (pc := 190) 14 at_190 rfl rfl ?_
       refine W.callI (pc := 192) (as := [.null, .null]) 1 [(vr a174)] at_192 rfl (w26 hw) (w27 hw) (w25 hw) (w28 hw) (c20_init hw hs (p1 := a174)) (by decide) pd_Ljava_lang_String_Ljava_lang_String__V rfl rfl rfl rfl (by decide) (fun v D' h => ?_)
       obtain ⟨rfl, rfl⟩ := h
       show W _ _ _ _ _ _ _ _ _ _ _ _ 195 _ [(vr a174)]
       refine W.astore (pc := 195) (ls' := #[iv z0, iv z1, iv z2, iv 2, iv (z0 &&& (255 : Int32)), iv ((XT.ushr z0 (8 : Int32)) &&& (255 : Int32)), iv 0, iv (z1 &&& (255 : Int32)), iv ((XT.ushr z1 (8 : Int32)) &&& (255 : Int32)), rv a153, rv a154, rv a155, iv 1, iv ((XT.ushr z2 (1 : Int32)) &&& (3 : Int32)), .val .null, .val .null, rv a174, uu, uu]) at_195 rfl rfl ?_
       refine W.front 4 (D' := (a153, true, ar "[C" .char [(vi (z0 &&& (255 : Int32))), (vi ((XT.ushr z0 (8 : Int32)) &&& (255 : Int32)))]) :: (a174, true, oTimeRange .null .null) :: (a156, true, ar "[B" .byte [(vi (z0 &&& (255 : Int32)).toInt8.toInt32), (vi ((XT.ushr z0 (8 : Int32)) &&& (255 : Int32)).toInt8.toInt32)]) :: (a155, true, oString (vr a156) (vi 0)) :: (a154, true, ar "[C" .char []) :: []) rfl rfl ?_
       refine W.front 4 (D' := (a154, true, ar "[C" .char []) :: (a153, true, ar "[C" .char [(vi (z0 &&& (255 : Int32))), (vi ((XT.ushr z0 (8 : Int32)) &&& (255 : Int32)))]) :: (a174, true, oTimeRange .null .null) :: (a156, true, ar "[B" .byte [(vi (z0 &&& (255 : Int32)).toInt8.toInt32), (vi ((XT.ushr z0 (8 : Int32)) &&& (255 : Int32)).toInt8.toInt32)]) :: (a155, true, oString (vr a156) (vi 0)) :: []) rfl rfl ?_
       refine W.front 4 (D' := (a155, true, oString (vr a156) (vi 0)) :: (a154, true, ar "[C" .char []) :: (a153, true, ar "[C" .char [(vi (z0 &&& (255 : Int32))), (vi ((XT.ushr z0 (8 : Int32)) &&& (255 : Int32)))]) :: (a174, true, oTimeRange .null .null) :: (a156, true, ar "[B" .byte [(vi (z0 &&& (255 : Int32)).toInt8.toInt32), (vi ((XT.ushr z0 (8 : Int32)) &&& (255 : Int32)).toInt8.toInt32)]) :: []) rfl rfl ?_
       refine W.front 4 (D' := (a156, true, ar "[B" .byte [(vi (z0 &&& (255 : Int32)).toInt8.toInt32), (vi ((XT.ushr z0 (8 : Int32)) &&& (255 : Int32)).toInt8.toInt32)]) :: (a155, true, oString (vr a156) (vi 0)) :: (a154, true, ar "[C" .char []) :: (a153, true, ar "[C" .char [(vi (z0 &&& (255 : Int32))), (vi ((XT.ushr z0 (8 : Int32)) &&& (255 : Int32)))]) :: (a174, true, oTimeRange .null .null) :: []) rfl rfl ?_
       exact W.mono (by decide) (by decide) (K173 (.val .null) a174 .null (Or.inr ⟨_, rfl, rfl⟩) rfl)
      ·
       have ih79 := f_ne h79
       refine W.aload (pc := 180) 14 at_180 rfl rfl ?_
       refine W.astore (pc := 182) (ls' := #[iv z0, iv z1, iv z2, iv 2, iv (z0 &&& (255 : Int32)), iv ((XT.ushr z0 (8 : Int32)) &&& (255 : Int32)), iv 0, iv (z1 &&& (255 : Int32)), iv ((XT.ushr z1 (8 : Int32)) &&& (255 : Int32)), rv a153, rv a154, rv a155, iv 1, iv ((XT.ushr z2 (1 : Int32)) &&& (3 : Int32)), .val .null, .val .null, uu, uu, uu]) at_182 rfl rfl ?_
       refine W.new (pc := 184) at_184 (w23 hw) (w24 hw) (w25 hw) (laTimeRange hw) (by decide) (by decide) (fun a175 => ?_)
       show W _ _ _ _ _ _ _ _ _ _ _ _ 187 _ [(vr a175)]
       refine W.dup (pc := 187) at_187 rfl ?_
       refine W.aload (pc := 188) 15 at_188 rfl rfl ?_
       refine W.aload (pc := 190) 14 at_190 rfl rfl ?_
       refine W.callI (pc := 192) (as := [.null, .null]) 1 [(vr a175)] at_192 rfl (w26 hw) (w27 hw) (w25 hw) (w28 hw) (c20_init hw hs (p1 := a175)) (by decide) pd_Ljava_lang_String_Ljava_lang_String__V rfl rfl rfl rfl (by decide) (fun v D' h => ?_)
       obtain ⟨rfl, rfl⟩ := h
       show W _ _ _ _ _ _ _ _ _ _ _ _ 195 _ [(vr a175)]
       refine W.astore (pc := 195) (ls' := #[iv z0, iv z1, iv z2, iv 2, iv (z0 &&& (255 : Int32)), iv ((XT.ushr z0 (8 : Int32)) &&& (255 : Int32)), iv 0, iv (z1 &&& (255 : Int32)), iv ((XT.ushr z1 (8 : Int32)) &&& (255 : Int32)), rv a153, rv a154, rv a155, iv 1, iv ((XT.ushr z2 (1 : Int32)) &&& (3 : Int32)), .val .null, .val .null, rv a175, uu, uu]) at_195 rfl rfl ?_
       refine W.front 4 (D' := (a153, true, ar "[C" .char [(vi (z0 &&& (255 : Int32))), (vi ((XT.ushr z0 (8 : Int32)) &&& (255 : Int32)))]) :: (a175, true, oTimeRange .null .null) :: (a156, true, ar "[B" .byte [(vi (z0 &&& (255 : Int32)).toInt8.toInt32), (vi ((XT.ushr z0 (8 : Int32)) &&& (255 : Int32)).toInt8.toInt32)]) :: (a155, true, oString (vr a156) (vi 0)) :: (a154, true, ar "[C" .char []) :: []) rfl rfl ?_
       refine W.front 4 (D' := (a154, true, ar "[C" .char []) :: (a153, true, ar "[C" .char [(vi (z0 &&& (255 : Int32))), (vi ((XT.ushr z0 (8 : Int32)) &&& (255 : Int32)))]) :: (a175, true, oTimeRange .null .null) :: (a156, true, ar "[B" .byte [(vi (z0 &&& (255 : Int32)).toInt8.toInt32), (vi ((XT.ushr z0 (8 : Int32)) &&& (255 : Int32)).toInt8.toInt32)]) :: (a155, true, oString (vr a156) (vi 0)) :: []) rfl rfl ?_
       refine W.front 4 (D' := (a155, true, oString (vr a156) (vi 0)) :: (a154, true, ar "[C" .char []) :: (a153, true, ar "[C" .char [(vi (z0 &&& (255 : Int32))), (vi ((XT.ushr z0 (8 : Int32)) &&& (255 : Int32)))]) :: (a175, true, oTimeRange .null .null) :: (a156, true, ar "[B" .byte [(vi (z0 &&& (255 : Int32)).toInt8.toInt32), (vi ((XT.ushr z0 (8 : Int32)) &&& (255 : Int32)).toInt8.toInt32)]) :: []) rfl rfl ?_
       refine W.front 4 (D' := (a156, true, ar "[B" .byte [(vi (z0 &&& (255 : Int32)).toInt8.toInt32), (vi ((XT.ushr z0 (8 : Int32)) &&& (255 : Int32)).toInt8.toInt32)]) :: (a155, true, oString (vr a156) (vi 0)) :: (a154, true, ar "[C" .char []) :: (a153, true, ar "[C" .char [(vi (z0 &&& (255 : Int32))), (vi ((XT.ushr z0 (8 : Int32)) &&& (255 : Int32)))]) :: (a175, true, oTimeRange .null .null) :: []) rfl rfl ?_
       exact W.mono (by decide) (by decide) (K173 (.val .null) a175 .null (Or.inr ⟨_, rfl, rfl⟩) rfl)
     ·
      have ih78 := f_ne h78
      refine W.ldcT (pc := 170) 0 (vs := []) rfl at_170 (w22 hw) (wS hw) m0 tx_ (by decide) (by decide) (by decide) (fun a176 a177 => ?_)
      show W _ _ _ _ _ _ _ _ _ _ _ _ 172 _ [(vr a176)]
      refine W.astore (pc := 172) (ls' := #[iv z0, iv z1, iv z2, iv 2, iv (z0 &&& (255 : Int32)), iv ((XT.ushr z0 (8 : Int32)) &&& (255 : Int32)), iv 0, iv (z1 &&& (255 : Int32)), iv ((XT.ushr z1 (8 : Int32)) &&& (255 : Int32)), rv a153, rv a154, rv a155, iv 1, iv ((XT.ushr z2 (1 : Int32)) &&& (3 : Int32)), .val .null, rv a176, uu, uu, uu]) at_172 rfl rfl ?_
      refine W.iload (pc := 174) at_174 rfl ?_
      refine W.iconst (pc := 176) (2) at_176 (by decide) ?_
      refine W.icmpY (pc := 177) 184 at_177 (y_ne (by have := rng32 z2; have := q1; have := aushr_1 z2; have := q3; have := am_3 (XT.ushr z2 (1 : Int32)); have := q2; omega)) (by decide) ?_
      refine W.new (pc := 184) at_184 (w23 hw) (w24 hw) (w25 hw) (laTimeRange hw) (by decide) (by decide) (fun a178 => ?_)
      show W _ _ _ _ _ _ _ _ _ _ _ _ 187 _ [(vr a178)]
      refine W.dup (pc := 187) at_187 rfl ?_
      refine W.aload (pc := 188) 15 at_188 rfl rfl ?_
      refine W.aload (pc := 190) 14 at_190 rfl rfl ?_
      refine W.callI (pc := 192) (as := [(vr a176), .null]) 1 [(vr a178)] at_192 rfl (w26 hw) (w27 hw) (w25 hw) (w28 hw) (c21_init hw hs (p1 := a178) (p2 := a176) (p3 := a177)) (by decide) pd_Ljava_lang_String_Ljava_lang_String__V rfl rfl rfl rfl (by decide) (fun v D' h => ?_)
      obtain ⟨rfl, rfl⟩ := h
      show W _ _ _ _ _ _ _ _ _ _ _ _ 195 _ [(vr a178)]
      refine W.astore (pc := 195) (ls' := #[iv z0, iv z1, iv z2, iv 2, iv (z0 &&& (255 : Int32)), iv ((XT.ushr z0 (8 : Int32)) &&& (255 : Int32)), iv 0, iv (z1 &&& (255 : Int32)), iv ((XT.ushr z1 (8 : Int32)) &&& (255 : Int32)), rv a153, rv a154, rv a155, iv 1, iv ((XT.ushr z2 (1 : Int32)) &&& (3 : Int32)), .val .null, rv a176, rv a178, uu, uu]) at_195 rfl rfl ?_
      refine W.front 6 (D' := (a153, true, ar "[C" .char [(vi (z0 &&& (255 : Int32))), (vi ((XT.ushr z0 (8 : Int32)) &&& (255 : Int32)))]) :: (a178, true, oTimeRange (vr a176) .null) :: (a176, false, oString (vr a177) (vi 0)) :: (a177, false, ar "" .byte []) :: (a156, true, ar "[B" .byte [(vi (z0 &&& (255 : Int32)).toInt8.toInt32), (vi ((XT.ushr z0 (8 : Int32)) &&& (255 : Int32)).toInt8.toInt32)]) :: (a155, true, oString (vr a156) (vi 0)) :: (a154, true, ar "[C" .char []) :: []) rfl rfl ?_
      refine W.front 6 (D' := (a154, true, ar "[C" .char []) :: (a153, true, ar "[C" .char [(vi (z0 &&& (255 : Int32))), (vi ((XT.ushr z0 (8 : Int32)) &&& (255 : Int32)))]) :: (a178, true, oTimeRange (vr a176) .null) :: (a176, false, oString (vr a177) (vi 0)) :: (a177, false, ar "" .byte []) :: (a156, true, ar "[B" .byte [(vi (z0 &&& (255 : Int32)).toInt8.toInt32), (vi ((XT.ushr z0 (8 : Int32)) &&& (255 : Int32)).toInt8.toInt32)]) :: (a155, true, oString (vr a156) (vi 0)) :: []) rfl rfl ?_
      refine W.front 6 (D' := (a155, true, oString (vr a156) (vi 0)) :: (a154, true, ar "[C" .char []) :: (a153, true, ar "[C" .char [(vi (z0 &&& (255 : Int32))), (vi ((XT.ushr z0 (8 : Int32)) &&& (255 : Int32)))]) :: (a178, true, oTimeRange (vr a176) .null) :: (a176, false, oString (vr a177) (vi 0)) :: (a177, false, ar "" .byte []) :: (a156, true, ar "[B" .byte [(vi (z0 &&& (255 : Int32)).toInt8.toInt32), (vi ((XT.ushr z0 (8 : Int32)) &&& (255 : Int32)).toInt8.toInt32)]) :: []) rfl rfl ?_
      refine W.front 6 (D' := (a156, true, ar "[B" .byte [(vi (z0 &&& (255 : Int32)).toInt8.toInt32), (vi ((XT.ushr z0 (8 : Int32)) &&& (255 : Int32)).toInt8.toInt32)]) :: (a155, true, oString (vr a156) (vi 0)) :: (a154, true, ar "[C" .char []) :: (a153, true, ar "[C" .char [(vi (z0 &&& (255 : Int32))), (vi ((XT.ushr z0 (8 : Int32)) &&& (255 : Int32)))]) :: (a178, true, oTimeRange (vr a176) .null) :: (a176, false, oString (vr a177) (vi 0)) :: (a177, false, ar "" .byte []) :: []) rfl rfl ?_
      refine W.heap (fun _ _ H => H.sub ((((((((List.Sublist.refl _).cons _).cons _).cons_cons _).cons_cons _).cons_cons _).cons_cons _).cons_cons _)) ?_
      exact W.mono (by decide) (by decide) (K173 (rv a176) a178 (vr a176) (Or.inr ⟨_, rfl, rfl⟩) rfl)
   ·
    have ie74 := i_eq e74
    rw [e74]
    show W _ _ _ _ _ _ _ _ _ ((a153, true, ar "[C" .char [(vi (z0 &&& (255 : Int32))), (vi ((XT.ushr z0 (8 : Int32)) &&& (255 : Int32)))]) :: []) _ _ 80 #[iv z0, iv z1, iv z2, iv 2, iv (z0 &&& (255 : Int32)), iv ((XT.ushr z0 (8 : Int32)) &&& (255 : Int32)), iv 1, iv (z1 &&& (255 : Int32)), iv ((XT.ushr z1 (8 : Int32)) &&& (255 : Int32)), rv a153, uu, uu, uu, uu, uu, uu, uu, uu, uu] [(vi 1)]
    refine W.newarr (pc := 80) 1 (ad := "[C") (ty := .char) at_80 rfl (w0 hw) ix1 rfl (by decide) (by decide) (fun a179 => ?_)
    show W _ _ _ _ _ _ _ _ _ _ _ _ 82 _ [(vr a179)]
    refine W.astore (pc := 82) (ls' := #[iv z0, iv z1, iv z2, iv 2, iv (z0 &&& (255 : Int32)), iv ((XT.ushr z0 (8 : Int32)) &&& (255 : Int32)), iv 1, iv (z1 &&& (255 : Int32)), iv ((XT.ushr z1 (8 : Int32)) &&& (255 : Int32)), rv a153, rv a179, uu, uu, uu, uu, uu, uu, uu, uu]) at_82 rfl rfl ?_
    refine W.iload (pc := 84) at_84 rfl ?_
    refine W.iconst (pc := 86) (1) at_86 (by decide) ?_
    refine W.icmpN (pc := 87) at_87 (n_lt (by decide)) ?_
    refine W.aload (pc := 90) 10 at_90 rfl rfl ?_
    refine W.iconst (pc := 92) (0) at_92 (by decide) ?_
    refine W.iload (pc := 93) at_93 rfl ?_
    refine W.i2cK (pc := 95) (z1 &&& (255 : Int32)) at_95 (z_i2c (by have := rng32 z1; have := q255; have := am_255 z1; omega)) ?_
    refine W.castore (pc := 96) (D' := (a179, true, ar "[C" .char [(vi (z1 &&& (255 : Int32)))]) :: (a153, true, ar "[C" .char [(vi (z0 &&& (255 : Int32))), (vi ((XT.ushr z0 (8 : Int32)) &&& (255 : Int32)))]) :: []) 0 0 at_96 rfl ix0 (Nat.le_of_ble_eq_true rfl) (z_narC (by have := rng32 z1; have := q255; have := am_255 z1; omega)) rfl ?_
    refine W.iload (pc := 97) at_97 rfl ?_
    refine W.iconst (pc := 99) (2) at_99 (by decide) ?_
    refine W.icmpY (pc := 100) 110 at_100 (y_lt (by decide)) (by decide) ?_
    refine W.new (pc := 110) at_110 (w1 hw) (w2 hw) (w3 hw) (laString hw) (by decide) (by decide) (fun a180 => ?_)
    show W _ _ _ _ _ _ _ _ _ _ _ _ 113 _ [(vr a180)]
    refine W.dup (pc := 113) at_113 rfl ?_
    refine W.aload (pc := 114) 9 at_114 rfl rfl ?_
    refine W.callI (pc := 116) (as := [(vr a153)]) 1 [(vr a180)] at_116 rfl (w4 hw) (w5 hw) (w3 hw) (w6 hw) (c44_init hw hs (p1 := a180) (p2 := a153) (x1 := (z0 &&& (255 : Int32))) (hx1 := (by have := rng32 z0; have := q255; have := am_255 z0; omega)) (x2 := ((XT.ushr z0 (8 : Int32)) &&& (255 : Int32))) (hx2 := (by have := rng32 z0; have := q8; have := aushr_8 z0; have := q255; have := am_255 (XT.ushr z0 (8 : Int32)); omega)) (mp2 := m1)) (by decide) pd__C_V rfl rfl rfl rfl (by decide) (fun v D' h => ?_)
    obtain ⟨a181, rfl, rfl⟩ := h
    show W _ _ _ _ _ _ _ _ _ _ _ _ 119 _ [(vr a180)]
    refine W.astore (pc := 119) (ls' := #[iv z0, iv z1, iv z2, iv 2, iv (z0 &&& (255 : Int32)), iv ((XT.ushr z0 (8 : Int32)) &&& (255 : Int32)), iv 1, iv (z1 &&& (255 : Int32)), iv ((XT.ushr z1 (8 : Int32)) &&& (255 : Int32)), rv a153, rv a179, rv a180, uu, uu, uu, uu, uu, uu, uu]) at_119 rfl rfl ?_
    refine W.iloadN (pc := 121) at_121 rfl ?_
    refine W.iconst (pc := 122) (1) at_122 (by decide) ?_
    refine W.iand (pc := 123) at_123 ?_
    refine W.if (pc := 124) 131 at_124 (by decide) (fun h80 => ?_) (fun h80 => ?_)
    ·
     have ih80 := t_eq h80
     refine W.iconst (pc := 131) (0) at_131 (by decide) ?_
     refine W.istore (pc := 132) (ls' := #[iv z0, iv z1, iv z2, iv 2, iv (z0 &&& (255 : Int32)), iv ((XT.ushr z0 (8 : Int32)) &&& (255 : Int32)), iv 1, iv (z1 &&& (255 : Int32)), iv ((XT.ushr z1 (8 : Int32)) &&& (255 : Int32)), rv a153, rv a179, rv a180, iv 0, uu, uu, uu, uu, uu, uu]) at_132 rfl ?_
     refine W.iloadN (pc := 134) at_134 rfl ?_
     refine W.iconst (pc := 135) (1) at_135 (by decide) ?_
     refine W.iushr (pc := 136) at_136 ?_
     refine W.iconst (pc := 137) (3) at_137 (by decide) ?_
     refine W.iand (pc := 138) at_138 ?_
     refine W.istore (pc := 139) (ls' := #[iv z0, iv z1, iv z2, iv 2, iv (z0 &&& (255 : Int32)), iv ((XT.ushr z0 (8 : Int32)) &&& (255 : Int32)), iv 1, iv (z1 &&& (255 : Int32)), iv ((XT.ushr z1 (8 : Int32)) &&& (255 : Int32)), rv a153, rv a179, rv a180, iv 0, iv ((XT.ushr z2 (1 : Int32)) &&& (3 : Int32)), uu, uu, uu, uu, uu]) at_139 rfl ?_
     refine W.iload (pc := 141) at_141 rfl ?_
     refine W.ifY (pc := 143) 150 at_143 (y_eq (by decide)) (by decide) ?_
     refine W.new (pc := 150) at_150 (w1 hw) (w2 hw) (w3 hw) (laString hw) (by decide) (by decide) (fun a182 => ?_)
     show W _ _ _ _ _ _ _ _ _ _ _ _ 153 _ [(vr a182)]
     refine W.dup (pc := 153) at_153 rfl ?_
     refine W.aload (pc := 154) 10 at_154 rfl rfl ?_
     refine W.callI (pc := 156) (as := [(vr a179)]) 1 [(vr a182)] at_156 rfl (w4 hw) (w5 hw) (w3 hw) (w6 hw) (c23_init hw hs (p1 := a182) (p2 := a179) (x1 := (z1 &&& (255 : Int32))) (hx1 := (by have := rng32 z1; have := q255; have := am_255 z1; omega)) (mp2 := m2)) (by decide) pd__C_V rfl rfl rfl rfl (by decide) (fun v D' h => ?_)
     obtain ⟨a183, rfl, rfl⟩ := h
     show W _ _ _ _ _ _ _ _ _ _ _ _ 159 _ [(vr a182)]
     refine W.astore (pc := 159) (ls' := #[iv z0, iv z1, iv z2, iv 2, iv (z0 &&& (255 : Int32)), iv ((XT.ushr z0 (8 : Int32)) &&& (255 : Int32)), iv 1, iv (z1 &&& (255 : Int32)), iv ((XT.ushr z1 (8 : Int32)) &&& (255 : Int32)), rv a153, rv a179, rv a180, iv 0, iv ((XT.ushr z2 (1 : Int32)) &&& (3 : Int32)), rv a182, uu, uu, uu, uu]) at_159 rfl rfl ?_
     have K188 : ∀ (t185 : Slot) (a186 : Addr) (u187 : Value), SlOk t185 → u187.isRef = true → W Z EL room_1 "com/example/chainvouch/chainvouch/chain/TimeRangeStartsAfterPinLaw" "law" code maxLocals ret (fun v _ => v = some (.int 1)) ((a183, true, ar "[B" .byte [(vi (z1 &&& (255 : Int32)).toInt8.toInt32)]) :: (a182, true, oString (vr a183) (vi 0)) :: (a181, true, ar "[B" .byte [(vi (z0 &&& (255 : Int32)).toInt8.toInt32), (vi ((XT.ushr z0 (8 : Int32)) &&& (255 : Int32)).toInt8.toInt32)]) :: (a180, true, oString (vr a181) (vi 0)) :: (a179, true, ar "[C" .char [(vi (z1 &&& (255 : Int32)))]) :: (a153, true, ar "[C" .char [(vi (z0 &&& (255 : Int32))), (vi ((XT.ushr z0 (8 : Int32)) &&& (255 : Int32)))]) :: (a186, true, oTimeRange u187 (vr a182)) :: []) 9 20 197 #[iv z0, iv z1, iv z2, iv 2, iv (z0 &&& (255 : Int32)), iv ((XT.ushr z0 (8 : Int32)) &&& (255 : Int32)), iv 1, iv (z1 &&& (255 : Int32)), iv ((XT.ushr z1 (8 : Int32)) &&& (255 : Int32)), rv a153, rv a179, rv a180, iv 0, iv ((XT.ushr z2 (1 : Int32)) &&& (3 : Int32)), rv a182, t185, rv a186, uu, uu] [] := by
      intro t185 a186 u187 ht185 hu187
      refine W.aload (pc := 197) 16 at_197 rfl rfl ?_
      refine W.aload (pc := 199) 11 at_199 rfl rfl ?_
      refine W.callV (pc := 201) (as := [(vr a180)]) 0 [] at_201 (w60 hw) (w61 hw) (w63 hw) (w63 hw) (w62 hw) (w25 hw) (w64 hw) (Hp.exa m6) (c96_startsAfter hw hs (p1 := a186) (p2 := a180) (p3 := a182) (p4 := a181) (p5 := a183) (x1 := (z0 &&& (255 : Int32)).toInt8.toInt32) (hx1 := (by have := rng32 z0; have := q255; have := am_255 z0; have := a_i2b (z0 &&& (255 : Int32)); omega)) (x2 := ((XT.ushr z0 (8 : Int32)) &&& (255 : Int32)).toInt8.toInt32) (hx2 := (by have := rng32 z0; have := q8; have := aushr_8 z0; have := q255; have := am_255 (XT.ushr z0 (8 : Int32)); have := a_i2b ((XT.ushr z0 (8 : Int32)) &&& (255 : Int32)); omega)) (x3 := (z1 &&& (255 : Int32)).toInt8.toInt32) (hx3 := (by have := rng32 z1; have := q255; have := am_255 z1; have := a_i2b (z1 &&& (255 : Int32)); omega)) (u1 := u187) (hu1 := hu187) (mp1 := m6) (mp2 := m3) (mp3 := m1) (mp4 := m2) (mp5 := m0)) (by decide) pd_Ljava_lang_String__Z rfl rfl rfl rfl (by decide) (fun v D' h => ?_)
      rcases h with ⟨h81, rfl, rfl⟩ | ⟨h82, h83, rfl, rfl⟩ | ⟨h84, h85, rfl, rfl⟩
      ·
       have ih81 := t_eq h81
       show W _ _ _ _ _ _ _ _ _ _ _ _ 204 _ [(vi 1)]
       refine W.istore (pc := 204) (ls' := #[iv z0, iv z1, iv z2, iv 2, iv (z0 &&& (255 : Int32)), iv ((XT.ushr z0 (8 : Int32)) &&& (255 : Int32)), iv 1, iv (z1 &&& (255 : Int32)), iv ((XT.ushr z1 (8 : Int32)) &&& (255 : Int32)), rv a153, rv a179, rv a180, iv 0, iv ((XT.ushr z2 (1 : Int32)) &&& (3 : Int32)), rv a182, t185, rv a186, iv 1, uu]) at_204 rfl ?_
       refine W.iload (pc := 206) at_206 rfl ?_
       refine W.ifN (pc := 208) at_208 (n_ne (by decide)) ?_
       refine W.iloadN (pc := 211) at_211 rfl ?_
       refine W.iload (pc := 212) at_212 rfl ?_
       refine W.iload (pc := 214) at_214 rfl ?_
       refine W.iload (pc := 216) at_216 rfl ?_
       refine W.iload (pc := 218) at_218 rfl ?_
       refine W.iload (pc := 220) at_220 rfl ?_
       refine W.callS (pc := 222) (as := [(vi 2), (vi (z0 &&& (255 : Int32))), (vi ((XT.ushr z0 (8 : Int32)) &&& (255 : Int32))), (vi 1), (vi (z1 &&& (255 : Int32))), (vi ((XT.ushr z1 (8 : Int32)) &&& (255 : Int32)))]) 0 [] at_222 (w65 hw) (w66 hw) (w67 hw) (w68 hw) (c102_geq hw hs (x1 := (z0 &&& (255 : Int32))) (hx1 := (by have := rng32 z0; have := q255; have := am_255 z0; have := a_i2b (z0 &&& (255 : Int32)); have := rng32 z1; have := am_255 z1; have := a_i2b (z1 &&& (255 : Int32)); omega)) (x2 := ((XT.ushr z0 (8 : Int32)) &&& (255 : Int32))) (hx2 := (by have := rng32 z0; have := q8; have := aushr_8 z0; have := q255; have := am_255 (XT.ushr z0 (8 : Int32)); omega)) (x3 := (z1 &&& (255 : Int32))) (hx3 := (by have := rng32 z1; have := q255; have := am_255 z1; have := rng32 z0; have := am_255 z0; have := a_i2b (z0 &&& (255 : Int32)); have := a_i2b (z1 &&& (255 : Int32)); omega)) (x4 := ((XT.ushr z1 (8 : Int32)) &&& (255 : Int32))) (hx4 := (by have := rng32 z1; have := q8; have := aushr_8 z1; have := q255; have := am_255 (XT.ushr z1 (8 : Int32)); omega))) (by decide) pd_IIIIII_Z rfl rfl rfl rfl (by decide) (fun v D' h => ?_)
       rcases h with ⟨h86, rfl, rfl⟩ | ⟨h87, h88, rfl, rfl⟩ | ⟨h89, h90, rfl, rfl⟩
       ·
        have ih86 := t_eq h86
        show W _ _ _ _ _ _ _ _ _ _ _ _ 225 _ [(vi 1)]
        refine W.ifN (pc := 225) at_225 (n_eq (by decide)) ?_
        refine W.iconst (pc := 228) (1) at_228 (by decide) ?_
        refine W.goto (pc := 229) 233 at_229 (by decide) ?_
        refine W.istore (pc := 233) (ls' := #[iv z0, iv z1, iv z2, iv 2, iv (z0 &&& (255 : Int32)), iv ((XT.ushr z0 (8 : Int32)) &&& (255 : Int32)), iv 1, iv (z1 &&& (255 : Int32)), iv ((XT.ushr z1 (8 : Int32)) &&& (255 : Int32)), rv a153, rv a179, rv a180, iv 0, iv ((XT.ushr z2 (1 : Int32)) &&& (3 : Int32)), rv a182, t185, rv a186, iv 1, iv 1]) at_233 rfl ?_
        refine W.iload (pc := 235) at_235 rfl ?_
        refine W.iload (pc := 237) at_237 rfl ?_
        refine W.icmpN (pc := 239) at_239 (n_ne (by decide)) ?_
        refine W.iconst (pc := 242) (1) at_242 (by decide) ?_
        refine W.goto (pc := 243) 247 at_243 (by decide) ?_
        exact W.ireturn (pc := 247) at_247 rfl (Or.inr (Or.inl rfl)) (nw_bool (by decide)) (by decide) rfl
       ·
        exact absurd h87 (Classical.not_not.mpr (y_eq (by have := rng32 z0; have := q255; have := am_255 z0; have := rng32 z1; have := am_255 z1; have := a_i2b (z0 &&& (255 : Int32)); have := a_i2b (z1 &&& (255 : Int32)); omega)))
       ·
        exact absurd h89 (Classical.not_not.mpr (y_eq (by have := rng32 z0; have := q255; have := am_255 z0; have := rng32 z1; have := am_255 z1; have := a_i2b (z0 &&& (255 : Int32)); have := a_i2b (z1 &&& (255 : Int32)); omega)))
      ·
       have ih82 := f_eq h82
       have ih83 := t_lt h83
       show W _ _ _ _ _ _ _ _ _ _ _ _ 204 _ [(vi 0)]
       refine W.istore (pc := 204) (ls' := #[iv z0, iv z1, iv z2, iv 2, iv (z0 &&& (255 : Int32)), iv ((XT.ushr z0 (8 : Int32)) &&& (255 : Int32)), iv 1, iv (z1 &&& (255 : Int32)), iv ((XT.ushr z1 (8 : Int32)) &&& (255 : Int32)), rv a153, rv a179, rv a180, iv 0, iv ((XT.ushr z2 (1 : Int32)) &&& (3 : Int32)), rv a182, t185, rv a186, iv 0, uu]) at_204 rfl ?_
       refine W.iload (pc := 206) at_206 rfl ?_
       refine W.ifN (pc := 208) at_208 (n_ne (by decide)) ?_
       refine W.iloadN (pc := 211) at_211 rfl ?_
       refine W.iload (pc := 212) at_212 rfl ?_
       refine W.iload (pc := 214) at_214 rfl ?_
       refine W.iload (pc := 216) at_216 rfl ?_
       refine W.iload (pc := 218) at_218 rfl ?_
       refine W.iload (pc := 220) at_220 rfl ?_
       refine W.callS (pc := 222) (as := [(vi 2), (vi (z0 &&& (255 : Int32))), (vi ((XT.ushr z0 (8 : Int32)) &&& (255 : Int32))), (vi 1), (vi (z1 &&& (255 : Int32))), (vi ((XT.ushr z1 (8 : Int32)) &&& (255 : Int32)))]) 0 [] at_222 (w65 hw) (w66 hw) (w67 hw) (w68 hw) (c102_geq hw hs (x1 := (z0 &&& (255 : Int32))) (hx1 := (by have := rng32 z0; have := q255; have := am_255 z0; have := a_i2b (z0 &&& (255 : Int32)); have := rng32 z1; have := am_255 z1; have := a_i2b (z1 &&& (255 : Int32)); have := am_255 (z0 &&& (255 : Int32)).toInt8.toInt32; have := am_255 (z1 &&& (255 : Int32)).toInt8.toInt32; have := a_sub ((z0 &&& (255 : Int32)).toInt8.toInt32 &&& (255 : Int32)) ((z1 &&& (255 : Int32)).toInt8.toInt32 &&& (255 : Int32)); have := q0; omega)) (x2 := ((XT.ushr z0 (8 : Int32)) &&& (255 : Int32))) (hx2 := (by have := rng32 z0; have := q8; have := aushr_8 z0; have := q255; have := am_255 (XT.ushr z0 (8 : Int32)); omega)) (x3 := (z1 &&& (255 : Int32))) (hx3 := (by have := rng32 z1; have := q255; have := am_255 z1; have := rng32 z0; have := am_255 z0; have := a_i2b (z0 &&& (255 : Int32)); have := a_i2b (z1 &&& (255 : Int32)); have := am_255 (z0 &&& (255 : Int32)).toInt8.toInt32; have := am_255 (z1 &&& (255 : Int32)).toInt8.toInt32; have := a_sub ((z0 &&& (255 : Int32)).toInt8.toInt32 &&& (255 : Int32)) ((z1 &&& (255 : Int32)).toInt8.toInt32 &&& (255 : Int32)); have := q0; omega)) (x4 := ((XT.ushr z1 (8 : Int32)) &&& (255 : Int32))) (hx4 := (by have := rng32 z1; have := q8; have := aushr_8 z1; have := q255; have := am_255 (XT.ushr z1 (8 : Int32)); omega))) (by decide) pd_IIIIII_Z rfl rfl rfl rfl (by decide) (fun v D' h => ?_)
       rcases h with ⟨h91, rfl, rfl⟩ | ⟨h92, h93, rfl, rfl⟩ | ⟨h94, h95, rfl, rfl⟩
       ·
        exact absurd h91 (n_eq (by have := rng32 z0; have := q255; have := am_255 z0; have := rng32 z1; have := am_255 z1; have := a_i2b (z0 &&& (255 : Int32)); have := a_i2b (z1 &&& (255 : Int32)); have := am_255 (z0 &&& (255 : Int32)).toInt8.toInt32; have := am_255 (z1 &&& (255 : Int32)).toInt8.toInt32; have := a_sub ((z0 &&& (255 : Int32)).toInt8.toInt32 &&& (255 : Int32)) ((z1 &&& (255 : Int32)).toInt8.toInt32 &&& (255 : Int32)); have := q0; omega))
       ·
        have ih92 := f_eq h92
        have ih93 := t_le h93
        show W _ _ _ _ _ _ _ _ _ _ _ _ 225 _ [(vi 0)]
        refine W.ifY (pc := 225) 232 at_225 (y_eq (by decide)) (by decide) ?_
        refine W.iconst (pc := 232) (0) at_232 (by decide) ?_
        refine W.istore (pc := 233) (ls' := #[iv z0, iv z1, iv z2, iv 2, iv (z0 &&& (255 : Int32)), iv ((XT.ushr z0 (8 : Int32)) &&& (255 : Int32)), iv 1, iv (z1 &&& (255 : Int32)), iv ((XT.ushr z1 (8 : Int32)) &&& (255 : Int32)), rv a153, rv a179, rv a180, iv 0, iv ((XT.ushr z2 (1 : Int32)) &&& (3 : Int32)), rv a182, t185, rv a186, iv 0, iv 0]) at_233 rfl ?_
        refine W.iload (pc := 235) at_235 rfl ?_
        refine W.iload (pc := 237) at_237 rfl ?_
        refine W.icmpN (pc := 239) at_239 (n_ne (by decide)) ?_
        refine W.iconst (pc := 242) (1) at_242 (by decide) ?_
        refine W.goto (pc := 243) 247 at_243 (by decide) ?_
        exact W.ireturn (pc := 247) at_247 rfl (Or.inr (Or.inl rfl)) (nw_bool (by decide)) (by decide) rfl
       ·
        have ih94 := f_eq h94
        exact absurd h95 (Classical.not_not.mpr (y_le (by have := rng32 z0; have := q255; have := am_255 z0; have := rng32 z1; have := am_255 z1; have := a_i2b (z0 &&& (255 : Int32)); have := a_i2b (z1 &&& (255 : Int32)); have := am_255 (z0 &&& (255 : Int32)).toInt8.toInt32; have := am_255 (z1 &&& (255 : Int32)).toInt8.toInt32; have := a_sub ((z0 &&& (255 : Int32)).toInt8.toInt32 &&& (255 : Int32)) ((z1 &&& (255 : Int32)).toInt8.toInt32 &&& (255 : Int32)); have := q0; omega)))
      ·
       have ih84 := f_eq h84
       have ih85 := f_lt h85
       show W _ _ _ _ _ _ _ _ _ _ _ _ 204 _ [(vi 1)]
       refine W.istore (pc := 204) (ls' := #[iv z0, iv z1, iv z2, iv 2, iv (z0 &&& (255 : Int32)), iv ((XT.ushr z0 (8 : Int32)) &&& (255 : Int32)), iv 1, iv (z1 &&& (255 : Int32)), iv ((XT.ushr z1 (8 : Int32)) &&& (255 : Int32)), rv a153, rv a179, rv a180, iv 0, iv ((XT.ushr z2 (1 : Int32)) &&& (3 : Int32)), rv a182, t185, rv a186, iv 1, uu]) at_204 rfl ?_
       refine W.iload (pc := 206) at_206 rfl ?_
       refine W.ifN (pc := 208) at_208 (n_ne (by decide)) ?_
       refine W.iloadN (pc := 211) at_211 rfl ?_
       refine W.iload (pc := 212) at_212 rfl ?_
       refine W.iload (pc := 214) at_214 rfl ?_
       refine W.iload (pc := 216) at_216 rfl ?_
       refine W.iload (pc := 218) at_218 rfl ?_
       refine W.iload (pc := 220) at_220 rfl ?_
       refine W.callS (pc := 222) (as := [(vi 2), (vi (z0 &&& (255 : Int32))), (vi ((XT.ushr z0 (8 : Int32)) &&& (255 : Int32))), (vi 1), (vi (z1 &&& (255 : Int32))), (vi ((XT.ushr z1 (8 : Int32)) &&& (255 : Int32)))]) 0 [] at_222 (w65 hw) (w66 hw) (w67 hw) (w68 hw) (c102_geq hw hs (x1 := (z0 &&& (255 : Int32))) (hx1 := (by have := rng32 z0; have := q255; have := am_255 z0; have := a_i2b (z0 &&& (255 : Int32)); have := rng32 z1; have := am_255 z1; have := a_i2b (z1 &&& (255 : Int32)); have := q0; have := am_255 (z0 &&& (255 : Int32)).toInt8.toInt32; have := am_255 (z1 &&& (255 : Int32)).toInt8.toInt32; have := a_sub ((z0 &&& (255 : Int32)).toInt8.toInt32 &&& (255 : Int32)) ((z1 &&& (255 : Int32)).toInt8.toInt32 &&& (255 : Int32)); omega)) (x2 := ((XT.ushr z0 (8 : Int32)) &&& (255 : Int32))) (hx2 := (by have := rng32 z0; have := q8; have := aushr_8 z0; have := q255; have := am_255 (XT.ushr z0 (8 : Int32)); omega)) (x3 := (z1 &&& (255 : Int32))) (hx3 := (by have := rng32 z1; have := q255; have := am_255 z1; have := rng32 z0; have := am_255 z0; have := a_i2b (z0 &&& (255 : Int32)); have := a_i2b (z1 &&& (255 : Int32)); have := q0; have := am_255 (z0 &&& (255 : Int32)).toInt8.toInt32; have := am_255 (z1 &&& (255 : Int32)).toInt8.toInt32; have := a_sub ((z0 &&& (255 : Int32)).toInt8.toInt32 &&& (255 : Int32)) ((z1 &&& (255 : Int32)).toInt8.toInt32 &&& (255 : Int32)); omega)) (x4 := ((XT.ushr z1 (8 : Int32)) &&& (255 : Int32))) (hx4 := (by have := rng32 z1; have := q8; have := aushr_8 z1; have := q255; have := am_255 (XT.ushr z1 (8 : Int32)); omega))) (by decide) pd_IIIIII_Z rfl rfl rfl rfl (by decide) (fun v D' h => ?_)
       rcases h with ⟨h96, rfl, rfl⟩ | ⟨h97, h98, rfl, rfl⟩ | ⟨h99, h100, rfl, rfl⟩
       ·
        exact absurd h96 (n_eq (by have := rng32 z0; have := q255; have := am_255 z0; have := rng32 z1; have := am_255 z1; have := a_i2b (z0 &&& (255 : Int32)); have := a_i2b (z1 &&& (255 : Int32)); have := q0; have := am_255 (z0 &&& (255 : Int32)).toInt8.toInt32; have := am_255 (z1 &&& (255 : Int32)).toInt8.toInt32; have := a_sub ((z0 &&& (255 : Int32)).toInt8.toInt32 &&& (255 : Int32)) ((z1 &&& (255 : Int32)).toInt8.toInt32 &&& (255 : Int32)); omega))
       ·
        have ih97 := f_eq h97
        exact absurd h98 (n_le (by have := rng32 z0; have := q255; have := am_255 z0; have := rng32 z1; have := am_255 z1; have := a_i2b (z0 &&& (255 : Int32)); have := a_i2b (z1 &&& (255 : Int32)); have := q0; have := am_255 (z0 &&& (255 : Int32)).toInt8.toInt32; have := am_255 (z1 &&& (255 : Int32)).toInt8.toInt32; have := a_sub ((z0 &&& (255 : Int32)).toInt8.toInt32 &&& (255 : Int32)) ((z1 &&& (255 : Int32)).toInt8.toInt32 &&& (255 : Int32)); omega))
       ·
        have ih99 := f_eq h99
        have ih100 := f_le h100
        show W _ _ _ _ _ _ _ _ _ _ _ _ 225 _ [(vi 1)]
        refine W.ifN (pc := 225) at_225 (n_eq (by decide)) ?_
        refine W.iconst (pc := 228) (1) at_228 (by decide) ?_
        refine W.goto (pc := 229) 233 at_229 (by decide) ?_
        refine W.istore (pc := 233) (ls' := #[iv z0, iv z1, iv z2, iv 2, iv (z0 &&& (255 : Int32)), iv ((XT.ushr z0 (8 : Int32)) &&& (255 : Int32)), iv 1, iv (z1 &&& (255 : Int32)), iv ((XT.ushr z1 (8 : Int32)) &&& (255 : Int32)), rv a153, rv a179, rv a180, iv 0, iv ((XT.ushr z2 (1 : Int32)) &&& (3 : Int32)), rv a182, t185, rv a186, iv 1, iv 1]) at_233 rfl ?_
        refine W.iload (pc := 235) at_235 rfl ?_
        refine W.iload (pc := 237) at_237 rfl ?_
        refine W.icmpN (pc := 239) at_239 (n_ne (by decide)) ?_
        refine W.iconst (pc := 242) (1) at_242 (by decide) ?_
        refine W.goto (pc := 243) 247 at_243 (by decide) ?_
        exact W.ireturn (pc := 247) at_247 rfl (Or.inr (Or.inl rfl)) (nw_bool (by decide)) (by decide) rfl
     refine W.aconstNull (pc := 161) at_161 ?_
     refine W.astore (pc := 162) (ls' := #[iv z0, iv z1, iv z2, iv 2, iv (z0 &&& (255 : Int32)), iv ((XT.ushr z0 (8 : Int32)) &&& (255 : Int32)), iv 1, iv (z1 &&& (255 : Int32)), iv ((XT.ushr z1 (8 : Int32)) &&& (255 : Int32)), rv a153, rv a179, rv a180, iv 0, iv ((XT.ushr z2 (1 : Int32)) &&& (3 : Int32)), rv a182, .val .null, uu, uu, uu]) at_162 rfl rfl ?_
     refine W.iload (pc := 164) at_164 rfl ?_
     refine W.iconst (pc := 166) (1) at_166 (by decide) ?_
     refine W.icmp (pc := 167) 174 at_167 (by decide) (fun h101 => ?_) (fun h101 => ?_)
     ·
      have ih101 := t_ne h101
      refine W.iload (pc := 174) at_174 rfl ?_
      refine W.iconst (pc := 176) (2) at_176 (by decide) ?_
      refine W.icmp (pc := 177) 184 at_177 (by decide) (fun h102 => ?_) (fun h102 => ?_)
      ·
       have ih102 := t_ne h102
       refine W.new (pc := 184) at_184 (w23 hw) (w24 hw) (w25 hw) (laTimeRange hw) (by decide) (by decide) (fun a189 => ?_)
       show W _ _ _ _ _ _ _ _ _ _ _ _ 187 _ [(vr a189)]
       refine W.dup (pc := 187) at_187 rfl ?_
       refine W.aload (pc := 188) 15 at_188 rfl rfl ?_
       refine W.aload (pc := 190) 14 at_190 rfl rfl ?_
       refine W.callI (pc := 192) (as := [.null, (vr a182)]) 1 [(vr a189)] at_192 rfl (w26 hw) (w27 hw) (w25 hw) (w28 hw) (c28_init hw hs (p1 := a189) (p2 := a182) (p3 := a183) (x1 := (z1 &&& (255 : Int32)).toInt8.toInt32) (hx1 := (by have := rng32 z1; have := q255; have := am_255 z1; have := a_i2b (z1 &&& (255 : Int32)); omega))) (by decide) pd_Ljava_lang_String_Ljava_lang_String__V rfl rfl rfl rfl (by decide) (fun v D' h => ?_)
       obtain ⟨rfl, rfl⟩ := h
       show W _ _ _ _ _ _ _ _ _ _ _ _ 195 _ [(vr a189)]
       refine W.astore (pc := 195) (ls' := #[iv z0, iv z1, iv z2, iv 2, iv (z0 &&& (255 : Int32)), iv ((XT.ushr z0 (8 : Int32)) &&& (255 : Int32)), iv 1, iv (z1 &&& (255 : Int32)), iv ((XT.ushr z1 (8 : Int32)) &&& (255 : Int32)), rv a153, rv a179, rv a180, iv 0, iv ((XT.ushr z2 (1 : Int32)) &&& (3 : Int32)), rv a182, .val .null, rv a189, uu, uu]) at_195 rfl rfl ?_
       refine W.front 6 (D' := (a153, true, ar "[C" .char [(vi (z0 &&& (255 : Int32))), (vi ((XT.ushr z0 (8 : Int32)) &&& (255 : Int32)))]) :: (a189, true, oTimeRange .null (vr a182)) :: (a183, true, ar "[B" .byte [(vi (z1 &&& (255 : Int32)).toInt8.toInt32)]) :: (a182, true, oString (vr a183) (vi 0)) :: (a181, true, ar "[B" .byte [(vi (z0 &&& (255 : Int32)).toInt8.toInt32), (vi ((XT.ushr z0 (8 : Int32)) &&& (255 : Int32)).toInt8.toInt32)]) :: (a180, true, oString (vr a181) (vi 0)) :: (a179, true, ar "[C" .char [(vi (z1 &&& (255 : Int32)))]) :: []) rfl rfl ?_
       refine W.front 6 (D' := (a179, true, ar "[C" .char [(vi (z1 &&& (255 : Int32)))]) :: (a153, true, ar "[C" .char [(vi (z0 &&& (255 : Int32))), (vi ((XT.ushr z0 (8 : Int32)) &&& (255 : Int32)))]) :: (a189, true, oTimeRange .null (vr a182)) :: (a183, true, ar "[B" .byte [(vi (z1 &&& (255 : Int32)).toInt8.toInt32)]) :: (a182, true, oString (vr a183) (vi 0)) :: (a181, true, ar "[B" .byte [(vi (z0 &&& (255 : Int32)).toInt8.toInt32), (vi ((XT.ushr z0 (8 : Int32)) &&& (255 : Int32)).toInt8.toInt32)]) :: (a180, true, oString (vr a181) (vi 0)) :: []) rfl rfl ?_
       refine W.front 6 (D' := (a180, true, oString (vr a181) (vi 0)) :: (a179, true, ar "[C" .char [(vi (z1 &&& (255 : Int32)))]) :: (a153, true, ar "[C" .char [(vi (z0 &&& (255 : Int32))), (vi ((XT.ushr z0 (8 : Int32)) &&& (255 : Int32)))]) :: (a189, true, oTimeRange .null (vr a182)) :: (a183, true, ar "[B" .byte [(vi (z1 &&& (255 : Int32)).toInt8.toInt32)]) :: (a182, true, oString (vr a183) (vi 0)) :: (a181, true, ar "[B" .byte [(vi (z0 &&& (255 : Int32)).toInt8.toInt32), (vi ((XT.ushr z0 (8 : Int32)) &&& (255 : Int32)).toInt8.toInt32)]) :: []) rfl rfl ?_
       refine W.front 6 (D' := (a181, true, ar "[B" .byte [(vi (z0 &&& (255 : Int32)).toInt8.toInt32), (vi ((XT.ushr z0 (8 : Int32)) &&& (255 : Int32)).toInt8.toInt32)]) :: (a180, true, oString (vr a181) (vi 0)) :: (a179, true, ar "[C" .char [(vi (z1 &&& (255 : Int32)))]) :: (a153, true, ar "[C" .char [(vi (z0 &&& (255 : Int32))), (vi ((XT.ushr z0 (8 : Int32)) &&& (255 : Int32)))]) :: (a189, true, oTimeRange .null (vr a182)) :: (a183, true, ar "[B" .byte [(vi (z1 &&& (255 : Int32)).toInt8.toInt32)]) :: (a182, true, oString (vr a183) (vi 0)) :: []) rfl rfl ?_
       refine W.front 6 (D' := (a182, true, oString (vr a183) (vi 0)) :: (a181, true, ar "[B" .byte [(vi (z0 &&& (255 : Int32)).toInt8.toInt32), (vi ((XT.ushr z0 (8 : Int32)) &&& (255 : Int32)).toInt8.toInt32)]) :: (a180, true, oString (vr a181) (vi 0)) :: (a179, true, ar "[C" .char [(vi (z1 &&& (255 : Int32)))]) :: (a153, true, ar "[C" .char [(vi (z0 &&& (255 : Int32))), (vi ((XT.ushr z0 (8 : Int32)) &&& (255 : Int32)))]) :: (a189, true, oTimeRange .null (vr a182)) :: (a183, true, ar "[B" .byte [(vi (z1 &&& (255 : Int32)).toInt8.toInt32)]) :: []) rfl rfl ?_
       refine W.front 6 (D' := (a183, true, ar "[B" .byte [(vi (z1 &&& (255 : Int32)).toInt8.toInt32)]) :: (a182, true, oString (vr a183) (vi 0)) :: (a181, true, ar "[B" .byte [(vi (z0 &&& (255 : Int32)).toInt8.toInt32), (vi ((XT.ushr z0 (8 : Int32)) &&& (255 : Int32)).toInt8.toInt32)]) :: (a180, true, oString (vr a181) (vi 0)) :: (a179, true, ar "[C" .char [(vi (z1 &&& (255 : Int32)))]) :: (a153, true, ar "[C" .char [(vi (z0 &&& (255 : Int32))), (vi ((XT.ushr z0 (8 : Int32)) &&& (255 : Int32)))]) :: (a189, true, oTimeRange .null (vr a182)) :: []) rfl rfl ?_
       exact W.mono (by decide) (by decide) (K188 (.val .null) a189 .null (Or.inr ⟨_, rfl, rfl⟩) rfl)
      ·
       have ih102 := f_ne h102
       refine W.aload (pc := 180) 14 at_180 rfl rfl ?_
       refine W.astore (pc := 182) (ls' := #[iv z0, iv z1, iv z2, iv 2, iv (z0 &&& (255 : Int32)), iv ((XT.ushr z0 (8 : Int32)) &&& (255 : Int32)), iv 1, iv (z1 &&& (255 : Int32)), iv ((XT.ushr z1 (8 : Int32)) &&& (255 : Int32)), rv a153, rv a179, rv a180, iv 0, iv ((XT.ushr z2 (1 : Int32)) &&& (3 : Int32)), rv a182, rv a182, uu, uu, uu]) at_182 rfl rfl ?_
       refine W.new (pc := 184) at_184 (w23 hw) (w24 hw) (w25 hw) (laTimeRange hw) (by decide) (by decide) (fun a190 => ?_)
       show W _ _ _ _ _ _ _ _ _ _ _ _ 187 _ [(vr a190)]
       refine W.dup (pc := 187) at_187 rfl ?_
       refine W.aload (pc := 188) 15 at_188 rfl rfl ?_
       refine W.aload (pc := 190) 14 at_190 rfl rfl ?_
       refine W.callI (pc := 192) (as := [(vr a182), (vr a182)]) 1 [(vr a190)] at_192 rfl (w26 hw) (w27 hw) (w25 hw) (w28 hw) (c29_init hw hs (p1 := a190) (p2 := a182) (p3 := a183) (x1 := (z1 &&& (255 : Int32)).toInt8.toInt32) (hx1 := (by have := rng32 z1; have := q255; have := am_255 z1; have := a_i2b (z1 &&& (255 : Int32)); omega)) (mp2 := m1) (mp3 := m0)) (by decide) pd_Ljava_lang_String_Ljava_lang_String__V rfl rfl rfl rfl (by decide) (fun v D' h => ?_)
       obtain ⟨rfl, rfl⟩ := h
       show W _ _ _ _ _ _ _ _ _ _ _ _ 195 _ [(vr a190)]
       refine W.astore (pc := 195) (ls' := #[iv z0, iv z1, iv z2, iv 2, iv (z0 &&& (255 : Int32)), iv ((XT.ushr z0 (8 : Int32)) &&& (255 : Int32)), iv 1, iv (z1 &&& (255 : Int32)), iv ((XT.ushr z1 (8 : Int32)) &&& (255 : Int32)), rv a153, rv a179, rv a180, iv 0, iv ((XT.ushr z2 (1 : Int32)) &&& (3 : Int32)), rv a182, rv a182, rv a190, uu, uu]) at_195 rfl rfl ?_
       refine W.front 6 (D' := (a153, true, ar "[C" .char [(vi (z0 &&& (255 : Int32))), (vi ((XT.ushr z0 (8 : Int32)) &&& (255 : Int32)))]) :: (a190, true, oTimeRange (vr a182) (vr a182)) :: (a183, true, ar "[B" .byte [(vi (z1 &&& (255 : Int32)).toInt8.toInt32)]) :: (a182, true, oString (vr a183) (vi 0)) :: (a181, true, ar "[B" .byte [(vi (z0 &&& (255 : Int32)).toInt8.toInt32), (vi ((XT.ushr z0 (8 : Int32)) &&& (255 : Int32)).toInt8.toInt32)]) :: (a180, true, oString (vr a181) (vi 0)) :: (a179, true, ar "[C" .char [(vi (z1 &&& (255 : Int32)))]) :: []) rfl rfl ?_
       refine W.front 6 (D' := (a179, true, ar "[C" .char [(vi (z1 &&& (255 : Int32)))]) :: (a153, true, ar "[C" .char [(vi (z0 &&& (255 : Int32))), (vi ((XT.ushr z0 (8 : Int32)) &&& (255 : Int32)))]) :: (a190, true, oTimeRange (vr a182) (vr a182)) :: (a183, true, ar "[B" .byte [(vi (z1 &&& (255 : Int32)).toInt8.toInt32)]) :: (a182, true, oString (vr a183) (vi 0)) :: (a181, true, ar "[B" .byte [(vi (z0 &&& (255 : Int32)).toInt8.toInt32), (vi ((XT.ushr z0 (8 : Int32)) &&& (255 : Int32)).toInt8.toInt32)]) :: (a180, true, oString (vr a181) (vi 0)) :: []) rfl rfl ?_
       refine W.front 6 (D' := (a180, true, oString (vr a181) (vi 0)) :: (a179, true, ar "[C" .char [(vi (z1 &&& (255 : Int32)))]) :: (a153, true, ar "[C" .char [(vi (z0 &&& (255 : Int32))), (vi ((XT.ushr z0 (8 : Int32)) &&& (255 : Int32)))]) :: (a190, true, oTimeRange (vr a182) (vr a182)) :: (a183, true, ar "[B" .byte [(vi (z1 &&& (255 : Int32)).toInt8.toInt32)]) :: (a182, true, oString (vr a183) (vi 0)) :: (a181, true, ar "[B" .byte [(vi (z0 &&& (255 : Int32)).toInt8.toInt32), (vi ((XT.ushr z0 (8 : Int32)) &&& (255 : Int32)).toInt8.toInt32)]) :: []) rfl rfl ?_
       refine W.front 6 (D' := (a181, true, ar "[B" .byte [(vi (z0 &&& (255 : Int32)).toInt8.toInt32), (vi ((XT.ushr z0 (8 : Int32)) &&& (255 : Int32)).toInt8.toInt32)]) :: (a180, true, oString (vr a181) (vi 0)) :: (a179, true, ar "[C" .char [(vi (z1 &&& (255 : Int32)))]) :: (a153, true, ar "[C" .char [(vi (z0 &&& (255 : Int32))), (vi ((XT.ushr z0 (8 : Int32)) &&& (255 : Int32)))]) :: (a190, true, oTimeRange (vr a182) (vr a182)) :: (a183, true, ar "[B" .byte [(vi (z1 &&& (255 : Int32)).toInt8.toInt32)]) :: (a182, true, oString (vr a183) (vi 0)) :: []) rfl rfl ?_
       refine W.front 6 (D' := (a182, true, oString (vr a183) (vi 0)) :: (a181, true, ar "[B" .byte [(vi (z0 &&& (255 : Int32)).toInt8.toInt32), (vi ((XT.ushr z0 (8 : Int32)) &&& (255 : Int32)).toInt8.toInt32)]) :: (a180, true, oString (vr a181) (vi 0)) :: (a179, true, ar "[C" .char [(vi (z1 &&& (255 : Int32)))]) :: (a153, true, ar "[C" .char [(vi (z0 &&& (255 : Int32))), (vi ((XT.ushr z0 (8 : Int32)) &&& (255 : Int32)))]) :: (a190, true, oTimeRange (vr a182) (vr a182)) :: (a183, true, ar "[B" .byte [(vi (z1 &&& (255 : Int32)).toInt8.toInt32)]) :: []) rfl rfl ?_
       refine W.front 6 (D' := (a183, true, ar "[B" .byte [(vi (z1 &&& (255 : Int32)).toInt8.toInt32)]) :: (a182, true, oString (vr a183) (vi 0)) :: (a181, true, ar "[B" .byte [(vi (z0 &&& (255 : Int32)).toInt8.toInt32), (vi ((XT.ushr z0 (8 : Int32)) &&& (255 : Int32)).toInt8.toInt32)]) :: (a180, true, oString (vr a181) (vi 0)) :: (a179, true, ar "[C" .char [(vi (z1 &&& (255 : Int32)))]) :: (a153, true, ar "[C" .char [(vi (z0 &&& (255 : Int32))), (vi ((XT.ushr z0 (8 : Int32)) &&& (255 : Int32)))]) :: (a190, true, oTimeRange (vr a182) (vr a182)) :: []) rfl rfl ?_
       exact W.mono (by decide) (by decide) (K188 (rv a182) a190 (vr a182) (Or.inr ⟨_, rfl, rfl⟩) rfl)
     ·
      have ih101 := f_ne h101
      refine W.ldcT (pc := 170) 0 (vs := []) rfl at_170 (w22 hw) (wS hw) m0 tx_ (by decide) (by decide) (by decide) (fun a191 a192 => ?_)
      show W _ _ _ _ _ _ _ _ _ _ _ _ 172 _ [(vr a191)]
      refine W.astore (pc := 172) (ls' := #[iv z0, iv z1, iv z2, iv 2, iv (z0 &&& (255 : Int32)), iv ((XT.ushr z0 (8 : Int32)) &&& (255 : Int32)), iv 1, iv (z1 &&& (255 : Int32)), iv ((XT.ushr z1 (8 : Int32)) &&& (255 : Int32)), rv a153, rv a179, rv a180, iv 0, iv ((XT.ushr z2 (1 : Int32)) &&& (3 : Int32)), rv a182, rv a191, uu, uu, uu]) at_172 rfl rfl ?_
      refine W.iload (pc := 174) at_174 rfl ?_
      refine W.iconst (pc := 176) (2) at_176 (by decide) ?_
      refine W.icmpY (pc := 177) 184 at_177 (y_ne (by have := rng32 z2; have := q1; have := aushr_1 z2; have := q3; have := am_3 (XT.ushr z2 (1 : Int32)); have := q2; omega)) (by decide) ?_
      refine W.new (pc := 184) at_184 (w23 hw) (w24 hw) (w25 hw) (laTimeRange hw) (by decide) (by decide) (fun a193 => ?_)
      show W _ _ _ _ _ _ _ _ _ _ _ _ 187 _ [(vr a193)]
      refine W.dup (pc := 187) at_187 rfl ?_
      refine W.aload (pc := 188) 15 at_188 rfl rfl ?_
      refine W.aload (pc := 190) 14 at_190 rfl rfl ?_
      refine W.callI (pc := 192) (as := [(vr a191), (vr a182)]) 1 [(vr a193)] at_192 rfl (w26 hw) (w27 hw) (w25 hw) (w28 hw) (c36_init hw hs (p1 := a193) (p2 := a191) (p3 := a182) (p4 := a192) (p5 := a183) (x1 := (z1 &&& (255 : Int32)).toInt8.toInt32) (hx1 := (by have := rng32 z1; have := q255; have := am_255 z1; have := a_i2b (z1 &&& (255 : Int32)); omega)) (mp2 := m0) (mp3 := m3) (mp4 := m1) (mp5 := m2)) (by decide) pd_Ljava_lang_String_Ljava_lang_String__V rfl rfl rfl rfl (by decide) (fun v D' h => ?_)
      obtain ⟨rfl, rfl⟩ := h
      show W _ _ _ _ _ _ _ _ _ _ _ _ 195 _ [(vr a193)]
      refine W.astore (pc := 195) (ls' := #[iv z0, iv z1, iv z2, iv 2, iv (z0 &&& (255 : Int32)), iv ((XT.ushr z0 (8 : Int32)) &&& (255 : Int32)), iv 1, iv (z1 &&& (255 : Int32)), iv ((XT.ushr z1 (8 : Int32)) &&& (255 : Int32)), rv a153, rv a179, rv a180, iv 0, iv ((XT.ushr z2 (1 : Int32)) &&& (3 : Int32)), rv a182, rv a191, rv a193, uu, uu]) at_195 rfl rfl ?_
      refine W.front 8 (D' := (a153, true, ar "[C" .char [(vi (z0 &&& (255 : Int32))), (vi ((XT.ushr z0 (8 : Int32)) &&& (255 : Int32)))]) :: (a193, true, oTimeRange (vr a191) (vr a182)) :: (a191, false, oString (vr a192) (vi 0)) :: (a192, false, ar "" .byte []) :: (a183, true, ar "[B" .byte [(vi (z1 &&& (255 : Int32)).toInt8.toInt32)]) :: (a182, true, oString (vr a183) (vi 0)) :: (a181, true, ar "[B" .byte [(vi (z0 &&& (255 : Int32)).toInt8.toInt32), (vi ((XT.ushr z0 (8 : Int32)) &&& (255 : Int32)).toInt8.toInt32)]) :: (a180, true, oString (vr a181) (vi 0)) :: (a179, true, ar "[C" .char [(vi (z1 &&& (255 : Int32)))]) :: []) rfl rfl ?_
      refine W.front 8 (D' := (a179, true, ar "[C" .char [(vi (z1 &&& (255 : Int32)))]) :: (a153, true, ar "[C" .char [(vi (z0 &&& (255 : Int32))), (vi ((XT.ushr z0 (8 : Int32)) &&& (255 : Int32)))]) :: (a193, true, oTimeRange (vr a191) (vr a182)) :: (a191, false, oString (vr a192) (vi 0)) :: (a192, false, ar "" .byte []) :: (a183, true, ar "[B" .byte [(vi (z1 &&& (255 : Int32)).toInt8.toInt32)]) :: (a182, true, oString (vr a183) (vi 0)) :: (a181, true, ar "[B" .byte [(vi (z0 &&& (255 : Int32)).toInt8.toInt32), (vi ((XT.ushr z0 (8 : Int32)) &&& (255 : Int32)).toInt8.toInt32)]) :: (a180, true, oString (vr a181) (vi 0)) :: []) rfl rfl ?_
      refine W.front 8 (D' := (a180, true, oString (vr a181) (vi 0)) :: (a179, true, ar "[C" .char [(vi (z1 &&& (255 : Int32)))]) :: (a153, true, ar "[C" .char [(vi (z0 &&& (255 : Int32))), (vi ((XT.ushr z0 (8 : Int32)) &&& (255 : Int32)))]) :: (a193, true, oTimeRange (vr a191) (vr a182)) :: (a191, false, oString (vr a192) (vi 0)) :: (a192, false, ar "" .byte []) :: (a183, true, ar "[B" .byte [(vi (z1 &&& (255 : Int32)).toInt8.toInt32)]) :: (a182, true, oString (vr a183) (vi 0)) :: (a181, true, ar "[B" .byte [(vi (z0 &&& (255 : Int32)).toInt8.toInt32), (vi ((XT.ushr z0 (8 : Int32)) &&& (255 : Int32)).toInt8.toInt32)]) :: []) rfl rfl ?_
      refine W.front 8 (D' := (a181, true, ar "[B" .byte [(vi (z0 &&& (255 : Int32)).toInt8.toInt32), (vi ((XT.ushr z0 (8 : Int32)) &&& (255 : Int32)).toInt8.toInt32)]) :: (a180, true, oString (vr a181) (vi 0)) :: (a179, true, ar "[C" .char [(vi (z1 &&& (255 : Int32)))]) :: (a153, true, ar "[C" .char [(vi (z0 &&& (255 : Int32))), (vi ((XT.ushr z0 (8 : Int32)) &&& (255 : Int32)))]) :: (a193, true, oTimeRange (vr a191) (vr a182)) :: (a191, false, oString (vr a192) (vi 0)) :: (a192, false, ar "" .byte []) :: (a183, true, ar "[B" .byte [(vi (z1 &&& (255 : Int32)).toInt8.toInt32)]) :: (a182, true, oString (vr a183) (vi 0)) :: []) rfl rfl ?_
      refine W.front 8 (D' := (a182, true, oString (vr a183) (vi 0)) :: (a181, true, ar "[B" .byte [(vi (z0 &&& (255 : Int32)).toInt8.toInt32), (vi ((XT.ushr z0 (8 : Int32)) &&& (255 : Int32)).toInt8.toInt32)]) :: (a180, true, oString (vr a181) (vi 0)) :: (a179, true, ar "[C" .char [(vi (z1 &&& (255 : Int32)))]) :: (a153, true, ar "[C" .char [(vi (z0 &&& (255 : Int32))), (vi ((XT.ushr z0 (8 : Int32)) &&& (255 : Int32)))]) :: (a193, true, oTimeRange (vr a191) (vr a182)) :: (a191, false, oString (vr a192) (vi 0)) :: (a192, false, ar "" .byte []) :: (a183, true, ar "[B" .byte [(vi (z1 &&& (255 : Int32)).toInt8.toInt32)]) :: []) rfl rfl ?_
      refine W.front 8 (D' := (a183, true, ar "[B" .byte [(vi (z1 &&& (255 : Int32)).toInt8.toInt32)]) :: (a182, true, oString (vr a183) (vi 0)) :: (a181, true, ar "[B" .byte [(vi (z0 &&& (255 : Int32)).toInt8.toInt32), (vi ((XT.ushr z0 (8 : Int32)) &&& (255 : Int32)).toInt8.toInt32)]) :: (a180, true, oString (vr a181) (vi 0)) :: (a179, true, ar "[C" .char [(vi (z1 &&& (255 : Int32)))]) :: (a153, true, ar "[C" .char [(vi (z0 &&& (255 : Int32))), (vi ((XT.ushr z0 (8 : Int32)) &&& (255 : Int32)))]) :: (a193, true, oTimeRange (vr a191) (vr a182)) :: (a191, false, oString (vr a192) (vi 0)) :: (a192, false, ar "" .byte []) :: []) rfl rfl ?_
      refine W.heap (fun _ _ H => H.sub ((((((((((List.Sublist.refl _).cons _).cons _).cons_cons _).cons_cons _).cons_cons _).cons_cons _).cons_cons _).cons_cons _).cons_cons _)) ?_
      exact W.mono (by decide) (by decide) (K188 (rv a191) a193 (vr a191) (Or.inr ⟨_, rfl, rfl⟩) rfl)
    ·
     have ih80 := f_eq h80
     refine W.iconst (pc := 127) (1) at_127 (by decide) ?_
     refine W.goto (pc := 128) 132 at_128 (by decide) ?_
     refine W.istore (pc := 132) (ls' := #[iv z0, iv z1, iv z2, iv 2, iv (z0 &&& (255 : Int32)), iv ((XT.ushr z0 (8 : Int32)) &&& (255 : Int32)), iv 1, iv (z1 &&& (255 : Int32)), iv ((XT.ushr z1 (8 : Int32)) &&& (255 : Int32)), rv a153, rv a179, rv a180, iv 1, uu, uu, uu, uu, uu, uu]) at_132 rfl ?_
     refine W.iloadN (pc := 134) at_134 rfl ?_
     refine W.iconst (pc := 135) (1) at_135 (by decide) ?_
     refine W.iushr (pc := 136) at_136 ?_
     refine W.iconst (pc := 137) (3) at_137 (by decide) ?_
     refine W.iand (pc := 138) at_138 ?_
     refine W.istore (pc := 139) (ls' := #[iv z0, iv z1, iv z2, iv 2, iv (z0 &&& (255 : Int32)), iv ((XT.ushr z0 (8 : Int32)) &&& (255 : Int32)), iv 1, iv (z1 &&& (255 : Int32)), iv ((XT.ushr z1 (8 : Int32)) &&& (255 : Int32)), rv a153, rv a179, rv a180, iv 1, iv ((XT.ushr z2 (1 : Int32)) &&& (3 : Int32)), uu, uu, uu, uu, uu]) at_139 rfl ?_
     refine W.iload (pc := 141) at_141 rfl ?_
     refine W.ifN (pc := 143) at_143 (n_eq (by decide)) ?_
     refine W.aconstNull (pc := 146) at_146 ?_
     refine W.goto (pc := 147) 159 at_147 (by decide) ?_
     refine W.astore (pc := 159) (ls' := #[iv z0, iv z1, iv z2, iv 2, iv (z0 &&& (255 : Int32)), iv ((XT.ushr z0 (8 : Int32)) &&& (255 : Int32)), iv 1, iv (z1 &&& (255 : Int32)), iv ((XT.ushr z1 (8 : Int32)) &&& (255 : Int32)), rv a153, rv a179, rv a180, iv 1, iv ((XT.ushr z2 (1 : Int32)) &&& (3 : Int32)), .val .null, uu, uu, uu, uu]) at_159 rfl rfl ?_
     have K198 : ∀ (t195 : Slot) (a196 : Addr) (u197 : Value), SlOk t195 → u197.isRef = true → W Z EL room_1 "com/example/chainvouch/chainvouch/chain/TimeRangeStartsAfterPinLaw" "law" code maxLocals ret (fun v _ => v = some (.int 1)) ((a181, true, ar "[B" .byte [(vi (z0 &&& (255 : Int32)).toInt8.toInt32), (vi ((XT.ushr z0 (8 : Int32)) &&& (255 : Int32)).toInt8.toInt32)]) :: (a180, true, oString (vr a181) (vi 0)) :: (a179, true, ar "[C" .char [(vi (z1 &&& (255 : Int32)))]) :: (a153, true, ar "[C" .char [(vi (z0 &&& (255 : Int32))), (vi ((XT.ushr z0 (8 : Int32)) &&& (255 : Int32)))]) :: (a196, true, oTimeRange u197 .null) :: []) 7 15 197 #[iv z0, iv z1, iv z2, iv 2, iv (z0 &&& (255 : Int32)), iv ((XT.ushr z0 (8 : Int32)) &&& (255 : Int32)), iv 1, iv (z1 &&& (255 : Int32)), iv ((XT.ushr z1 (8 : Int32)) &&& (255 : Int32)), rv a153, rv a179, rv a180, iv 1, iv ((XT.ushr z2 (1 : Int32)) &&& (3 : Int32)), .val .null, t195, rv a196, uu, uu] [] := by
      intro t195 a196 u197 ht195 hu197
      refine W.aload (pc := 197) 16 at_197 rfl rfl ?_
      refine W.aload (pc := 199) 11 at_199 rfl rfl ?_
      refine W.callV (pc := 201) (as := [(vr a180)]) 0 [] at_201 (w60 hw) (w61 hw) (w63 hw) (w63 hw) (w62 hw) (w25 hw) (w64 hw) (Hp.exa m4) (c95_startsAfter hw hs (p1 := a196) (p2 := a180) (p3 := a181) (x1 := (z0 &&& (255 : Int32)).toInt8.toInt32) (hx1 := (by have := rng32 z0; have := q255; have := am_255 z0; have := a_i2b (z0 &&& (255 : Int32)); omega)) (x2 := ((XT.ushr z0 (8 : Int32)) &&& (255 : Int32)).toInt8.toInt32) (hx2 := (by have := rng32 z0; have := q8; have := aushr_8 z0; have := q255; have := am_255 (XT.ushr z0 (8 : Int32)); have := a_i2b ((XT.ushr z0 (8 : Int32)) &&& (255 : Int32)); omega)) (u1 := u197) (hu1 := hu197) (mp1 := m4)) (by decide) pd_Ljava_lang_String__Z rfl rfl rfl rfl (by decide) (fun v D' h => ?_)
      obtain ⟨rfl, rfl⟩ := h
      show W _ _ _ _ _ _ _ _ _ _ _ _ 204 _ [(vi 0)]
      refine W.istore (pc := 204) (ls' := #[iv z0, iv z1, iv z2, iv 2, iv (z0 &&& (255 : Int32)), iv ((XT.ushr z0 (8 : Int32)) &&& (255 : Int32)), iv 1, iv (z1 &&& (255 : Int32)), iv ((XT.ushr z1 (8 : Int32)) &&& (255 : Int32)), rv a153, rv a179, rv a180, iv 1, iv ((XT.ushr z2 (1 : Int32)) &&& (3 : Int32)), .val .null, t195, rv a196, iv 0, uu]) at_204 rfl ?_
      refine W.iload (pc := 206) at_206 rfl ?_
      refine W.ifY (pc := 208) 232 at_208 (y_ne (by decide)) (by decide) ?_
      refine W.iconst (pc := 232) (0) at_232 (by decide) ?_
      refine W.istore (pc := 233) (ls' := #[iv z0, iv z1, iv z2, iv 2, iv (z0 &&& (255 : Int32)), iv ((XT.ushr z0 (8 : Int32)) &&& (255 : Int32)), iv 1, iv (z1 &&& (255 : Int32)), iv ((XT.ushr z1 (8 : Int32)) &&& (255 : Int32)), rv a153, rv a179, rv a180, iv 1, iv ((XT.ushr z2 (1 : Int32)) &&& (3 : Int32)), .val .null, t195, rv a196, iv 0, iv 0]) at_233 rfl ?_
      refine W.iload (pc := 235) at_235 rfl ?_
      refine W.iload (pc := 237) at_237 rfl ?_
      refine W.icmpN (pc := 239) at_239 (n_ne (by decide)) ?_
      refine W.iconst (pc := 242) (1) at_242 (by decide) ?_
      refine W.goto (pc := 243) 247 at_243 (by decide) ?_
      exact W.ireturn (pc := 247) at_247 rfl (Or.inr (Or.inl rfl)) (nw_bool (by decide)) (by decide) rfl
     refine W.aconstNull (pc := 161) at_161 ?_
     refine W.astore (pc := 162) (ls' := #[iv z0, iv z1, iv z2, iv 2, iv (z0 &&& (255 : Int32)), iv ((XT.ushr z0 (8 : Int32)) &&& (255 : Int32)), iv 1, iv (z1 &&& (255 : Int32)), iv ((XT.ushr z1 (8 : Int32)) &&& (255 : Int32)), rv a153, rv a179, rv a180, iv 1, iv ((XT.ushr z2 (1 : Int32)) &&& (3 : Int32)), .val .null, .val .null, uu, uu, uu]) at_162 rfl rfl ?_
     refine W.iload (pc := 164) at_164 rfl ?_
     refine W.iconst (pc := 166) (1) at_166 (by decide) ?_
     refine W.icmp (pc := 167) 174 at_167 (by decide) (fun h103 => ?_) (fun h103 => ?_)
     ·
      have ih103 := t_ne h103
      refine W.iload (pc := 174) at_174 rfl ?_
      refine W.iconst (pc := 176) (2) at_176 (by decide) ?_
      refine W.icmp (pc := 177) 184 at_177 (by decide) (fun h104 => ?_) (fun h104 => ?_)
      ·
       have ih104 := t_ne h104
       refine W.new (pc := 184) at_184 (w23 hw) (w24 hw) (w25 hw) (laTimeRange hw) (by decide) (by decide) (fun a199 => ?_)
       show W _ _ _ _ _ _ _ _ _ _ _ _ 187 _ [(vr a199)]
       refine W.dup (pc := 187) at_187 rfl ?_
       refine W.aload (pc := 188) 15 at_188 rfl rfl ?_
       refine W.aload (pc := 190) 14 at_190 rfl rfl ?_
       refine W.callI (pc := 192) (as := [.null, .null]) 1 [(vr a199)] at_192 rfl (w26 hw) (w27 hw) (w25 hw) (w28 hw) (c20_init hw hs (p1 := a199)) (by decide) pd_Ljava_lang_String_Ljava_lang_String__V rfl rfl rfl rfl (by decide) (fun v D' h => ?_)
       obtain ⟨rfl, rfl⟩ := h
       show W _ _ _ _ _ _ _ _ _ _ _ _ 195 _ [(vr a199)]
       refine W.astore (pc := 195) (ls' := #[iv z0, iv z1, iv z2, iv 2, iv (z0 &&& (255 : Int32)), iv ((XT.ushr z0 (8 : Int32)) &&& (255 : Int32)), iv 1, iv (z1 &&& (255 : Int32)), iv ((XT.ushr z1 (8 : Int32)) &&& (255 : Int32)), rv a153, rv a179, rv a180, iv 1, iv ((XT.ushr z2 (1 : Int32)) &&& (3 : Int32)), .val .null, .val .null, rv a199, uu, uu]) at_195 rfl rfl ?_
       refine W.front 4 (D' := (a153, true, ar "[C" .char [(vi (z0 &&& (255 : Int32))), (vi ((XT.ushr z0 (8 : Int32)) &&& (255 : Int32)))]) :: (a199, true, oTimeRange .null .null) :: (a181, true, ar "[B" .byte [(vi (z0 &&& (255 : Int32)).toInt8.toInt32), (vi ((XT.ushr z0 (8 : Int32)) &&& (255 : Int32)).toInt8.toInt32)]) :: (a180, true, oString (vr a181) (vi 0)) :: (a179, true, ar "[C" .char [(vi (z1 &&& (255 : Int32)))]) :: []) rfl rfl ?_
       refine W.front 4 (D' := (a179, true, ar "[C" .char [(vi (z1 &&& (255 : Int32)))]) :: (a153, true, ar "[C" .char [(vi (z0 &&& (255 : Int32))), (vi ((XT.ushr z0 (8 : Int32)) &&& (255 : Int32)))]) :: (a199, true, oTimeRange .null .null) :: (a181, true, ar "[B" .byte [(vi (z0 &&& (255 : Int32)).toInt8.toInt32), (vi ((XT.ushr z0 (8 : Int32)) &&& (255 : Int32)).toInt8.toInt32)]) :: (a180, true, oString (vr a181) (vi 0)) :: []) rfl rfl ?_
       refine W.front 4 (D' := (a180, true, oString (vr a181) (vi 0)) :: (a179, true, ar "[C" .char [(vi (z1 &&& (255 : Int32)))]) :: (a153, true, ar "[C" .char [(vi (z0 &&& (255 : Int32))), (vi ((XT.ushr z0 (8 : Int32)) &&& (255 : Int32)))]) :: (a199, true, oTimeRange .null .null) :: (a181, true, ar "[B" .byte [(vi (z0 &&& (255 : Int32)).toInt8.toInt32), (vi ((XT.ushr z0 (8 : Int32)) &&& (255 : Int32)).toInt8.toInt32)]) :: []) rfl rfl ?_
       refine W.front 4 (D' := (a181, true, ar "[B" .byte [(vi (z0 &&& (255 : Int32)).toInt8.toInt32), (vi ((XT.ushr z0 (8 : Int32)) &&& (255 : Int32)).toInt8.toInt32)]) :: (a180, true, oString (vr a181) (vi 0)) :: (a179, true, ar "[C" .char [(vi (z1 &&& (255 : Int32)))]) :: (a153, true, ar "[C" .char [(vi (z0 &&& (255 : Int32))), (vi ((XT.ushr z0 (8 : Int32)) &&& (255 : Int32)))]) :: (a199, true, oTimeRange .null .null) :: []) rfl rfl ?_
       exact W.mono (by decide) (by decide) (K198 (.val .null) a199 .null (Or.inr ⟨_, rfl, rfl⟩) rfl)
      ·
       have ih104 := f_ne h104
       refine W.aload (pc := 180) 14 at_180 rfl rfl ?_
       refine W.astore (pc := 182) (ls' := #[iv z0, iv z1, iv z2, iv 2, iv (z0 &&& (255 : Int32)), iv ((XT.ushr z0 (8 : Int32)) &&& (255 : Int32)), iv 1, iv (z1 &&& (255 : Int32)), iv ((XT.ushr z1 (8 : Int32)) &&& (255 : Int32)), rv a153, rv a179, rv a180, iv 1, iv ((XT.ushr z2 (1 : Int32)) &&& (3 : Int32)), .val .null, .val .null, uu, uu, uu]) at_182 rfl rfl ?_
       refine W.new (pc := 184) at_184 (w23 hw) (w24 hw) (w25 hw) (laTimeRange hw) (by decide) (by decide) (fun a200 => ?_)
       show W _ _ _ _ _ _ _ _ _ _ _ _ 187 _ [(vr a200)]
       refine W.dup (pc := 187) at_187 rfl ?_
       refine W.aload (pc := 188) 15 at_188 rfl rfl ?_
       refine W.aload (pc := 190) 14 at_190 rfl rfl ?_
       refine W.callI (pc := 192) (as := [.null, .null]) 1 [(vr a200)] at_192 rfl (w26 hw) (w27 hw) (w25 hw) (w28 hw) (c20_init hw hs (p1 := a200)) (by decide) pd_Ljava_lang_String_Ljava_lang_String__V rfl rfl rfl rfl (by decide) (fun v D' h => ?_)
       obtain ⟨rfl, rfl⟩ := h
       show W _ _ _ _ _ _ _ _ _ _ _ _ 195 _ [(vr a200)]
       refine W.astore (pc := 195) (ls' := #[iv z0, iv z1, iv z2, iv 2, iv (z0 &&& (255 : Int32)), iv ((XT.ushr z0 (8 : Int32)) &&& (255 : Int32)), iv 1, iv (z1 &&& (255 : Int32)), iv ((XT.ushr z1 (8 : Int32)) &&& (255 : Int32)), rv a153, rv a179, rv a180, iv 1, iv ((XT.ushr z2 (1 : Int32)) &&& (3 : Int32)), .val .null, .val .null, rv a200, uu, uu]) at_195 rfl rfl ?_
       refine W.front 4 (D' := (a153, true, ar "[C" .char [(vi (z0 &&& (255 : Int32))), (vi ((XT.ushr z0 (8 : Int32)) &&& (255 : Int32)))]) :: (a200, true, oTimeRange .null .null) :: (a181, true, ar "[B" .byte [(vi (z0 &&& (255 : Int32)).toInt8.toInt32), (vi ((XT.ushr z0 (8 : Int32)) &&& (255 : Int32)).toInt8.toInt32)]) :: (a180, true, oString (vr a181) (vi 0)) :: (a179, true, ar "[C" .char [(vi (z1 &&& (255 : Int32)))]) :: []) rfl rfl ?_
       refine W.front 4 (D' := (a179, true, ar "[C" .char [(vi (z1 &&& (255 : Int32)))]) :: (a153, true, ar "[C" .char [(vi (z0 &&& (255 : Int32))), (vi ((XT.ushr z0 (8 : Int32)) &&& (255 : Int32)))]) :: (a200, true, oTimeRange .null .null) :: (a181, true, ar "[B" .byte [(vi (z0 &&& (255 : Int32)).toInt8.toInt32), (vi ((XT.ushr z0 (8 : Int32)) &&& (255 : Int32)).toInt8.toInt32)]) :: (a180, true, oString (vr a181) (vi 0)) :: []) rfl rfl ?_
       refine W.front 4 (D' := (a180, true, oString (vr a181) (vi 0)) :: (a179, true, ar "[C" .char [(vi (z1 &&& (255 : Int32)))]) :: (a153, true, ar "[C" .char [(vi (z0 &&& (255 : Int32))), (vi ((XT.ushr z0 (8 : Int32)) &&& (255 : Int32)))]) :: (a200, true, oTimeRange .null .null) :: (a181, true, ar "[B" .byte [(vi (z0 &&& (255 : Int32)).toInt8.toInt32), (vi ((XT.ushr z0 (8 : Int32)) &&& (255 : Int32)).toInt8.toInt32)]) :: []) rfl rfl ?_
       refine W.front 4 (D' := (a181, true, ar "[B" .byte [(vi (z0 &&& (255 : Int32)).toInt8.toInt32), (vi ((XT.ushr z0 (8 : Int32)) &&& (255 : Int32)).toInt8.toInt32)]) :: (a180, true, oString (vr a181) (vi 0)) :: (a179, true, ar "[C" .char [(vi (z1 &&& (255 : Int32)))]) :: (a153, true, ar "[C" .char [(vi (z0 &&& (255 : Int32))), (vi ((XT.ushr z0 (8 : Int32)) &&& (255 : Int32)))]) :: (a200, true, oTimeRange .null .null) :: []) rfl rfl ?_
       exact W.mono (by decide) (by decide) (K198 (.val .null) a200 .null (Or.inr ⟨_, rfl, rfl⟩) rfl)
     ·
      have ih103 := f_ne h103
      refine W.ldcT (pc := 170) 0 (vs := []) rfl at_170 (w22 hw) (wS hw) m0 tx_ (by decide) (by decide) (by decide) (fun a201 a202 => ?_)
      show W _ _ _ _ _ _ _ _ _ _ _ _ 172 _ [(vr a201)]
      refine W.astore (pc := 172) (ls' := #[iv z0, iv z1, iv z2, iv 2, iv (z0 &&& (255 : Int32)), iv ((XT.ushr z0 (8 : Int32)) &&& (255 : Int32)), iv 1, iv (z1 &&& (255 : Int32)), iv ((XT.ushr z1 (8 : Int32)) &&& (255 : Int32)), rv a153, rv a179, rv a180, iv 1, iv ((XT.ushr z2 (1 : Int32)) &&& (3 : Int32)), .val .null, rv a201, uu, uu, uu]) at_172 rfl rfl ?_
      refine W.iload (pc := 174) at_174 rfl ?_
      refine W.iconst (pc := 176) (2) at_176 (by decide) ?_
      refine W.icmpY (pc := 177) 184 at_177 (y_ne (by have := rng32 z2; have := q1; have := aushr_1 z2; have := q3; have := am_3 (XT.ushr z2 (1 : Int32)); have := q2; omega)) (by decide) ?_
      refine W.new (pc := 184) at_184 (w23 hw) (w24 hw) (w25 hw) (laTimeRange hw) (by decide) (by decide) (fun a203 => ?_)
      show W _ _ _ _ _ _ _ _ _ _ _ _ 187 _ [(vr a203)]
      refine W.dup (pc := 187) at_187 rfl ?_
      refine W.aload (pc := 188) 15 at_188 rfl rfl ?_
      refine W.aload (pc := 190) 14 at_190 rfl rfl ?_
      refine W.callI (pc := 192) (as := [(vr a201), .null]) 1 [(vr a203)] at_192 rfl (w26 hw) (w27 hw) (w25 hw) (w28 hw) (c21_init hw hs (p1 := a203) (p2 := a201) (p3 := a202)) (by decide) pd_Ljava_lang_String_Ljava_lang_String__V rfl rfl rfl rfl (by decide) (fun v D' h => ?_)
      obtain ⟨rfl, rfl⟩ := h
      show W _ _ _ _ _ _ _ _ _ _ _ _ 195 _ [(vr a203)]
      refine W.astore (pc := 195) (ls' := #[iv z0, iv z1, iv z2, iv 2, iv (z0 &&& (255 : Int32)), iv ((XT.ushr z0 (8 : Int32)) &&& (255 : Int32)), iv 1, iv (z1 &&& (255 : Int32)), iv ((XT.ushr z1 (8 : Int32)) &&& (255 : Int32)), rv a153, rv a179, rv a180, iv 1, iv ((XT.ushr z2 (1 : Int32)) &&& (3 : Int32)), .val .null, rv a201, rv a203, uu, uu]) at_195 rfl rfl ?_
      refine W.front 6 (D' := (a153, true, ar "[C" .char [(vi (z0 &&& (255 : Int32))), (vi ((XT.ushr z0 (8 : Int32)) &&& (255 : Int32)))]) :: (a203, true, oTimeRange (vr a201) .null) :: (a201, false, oString (vr a202) (vi 0)) :: (a202, false, ar "" .byte []) :: (a181, true, ar "[B" .byte [(vi (z0 &&& (255 : Int32)).toInt8.toInt32), (vi ((XT.ushr z0 (8 : Int32)) &&& (255 : Int32)).toInt8.toInt32)]) :: (a180, true, oString (vr a181) (vi 0)) :: (a179, true, ar "[C" .char [(vi (z1 &&& (255 : Int32)))]) :: []) rfl rfl ?_
      refine W.front 6 (D' := (a179, true, ar "[C" .char [(vi (z1 &&& (255 : Int32)))]) :: (a153, true, ar "[C" .char [(vi (z0 &&& (255 : Int32))), (vi ((XT.ushr z0 (8 : Int32)) &&& (255 : Int32)))]) :: (a203, true, oTimeRange (vr a201) .null) :: (a201, false, oString (vr a202) (vi 0)) :: (a202, false, ar "" .byte []) :: (a181, true, ar "[B" .byte [(vi (z0 &&& (255 : Int32)).toInt8.toInt32), (vi ((XT.ushr z0 (8 : Int32)) &&& (255 : Int32)).toInt8.toInt32)]) :: (a180, true, oString (vr a181) (vi 0)) :: []) rfl rfl ?_
      refine W.front 6 (D' := (a180, true, oString (vr a181) (vi 0)) :: (a179, true, ar "[C" .char [(vi (z1 &&& (255 : Int32)))]) :: (a153, true, ar "[C" .char [(vi (z0 &&& (255 : Int32))), (vi ((XT.ushr z0 (8 : Int32)) &&& (255 : Int32)))]) :: (a203, true, oTimeRange (vr a201) .null) :: (a201, false, oString (vr a202) (vi 0)) :: (a202, false, ar "" .byte []) :: (a181, true, ar "[B" .byte [(vi (z0 &&& (255 : Int32)).toInt8.toInt32), (vi ((XT.ushr z0 (8 : Int32)) &&& (255 : Int32)).toInt8.toInt32)]) :: []) rfl rfl ?_
      refine W.front 6 (D' := (a181, true, ar "[B" .byte [(vi (z0 &&& (255 : Int32)).toInt8.toInt32), (vi ((XT.ushr z0 (8 : Int32)) &&& (255 : Int32)).toInt8.toInt32)]) :: (a180, true, oString (vr a181) (vi 0)) :: (a179, true, ar "[C" .char [(vi (z1 &&& (255 : Int32)))]) :: (a153, true, ar "[C" .char [(vi (z0 &&& (255 : Int32))), (vi ((XT.ushr z0 (8 : Int32)) &&& (255 : Int32)))]) :: (a203, true, oTimeRange (vr a201) .null) :: (a201, false, oString (vr a202) (vi 0)) :: (a202, false, ar "" .byte []) :: []) rfl rfl ?_
      refine W.heap (fun _ _ H => H.sub ((((((((List.Sublist.refl _).cons _).cons _).cons_cons _).cons_cons _).cons_cons _).cons_cons _).cons_cons _)) ?_
      exact W.mono (by decide) (by decide) (K198 (rv a201) a203 (vr a201) (Or.inr ⟨_, rfl, rfl⟩) rfl)
   ·
    have ie74 := i_eq e74
    rw [e74]
    show W _ _ _ _ _ _ _ _ _ ((a153, true, ar "[C" .char [(vi (z0 &&& (255 : Int32))), (vi ((XT.ushr z0 (8 : Int32)) &&& (255 : Int32)))]) :: []) _ _ 80 #[iv z0, iv z1, iv z2, iv 2, iv (z0 &&& (255 : Int32)), iv ((XT.ushr z0 (8 : Int32)) &&& (255 : Int32)), iv 2, iv (z1 &&& (255 : Int32)), iv ((XT.ushr z1 (8 : Int32)) &&& (255 : Int32)), rv a153, uu, uu, uu, uu, uu, uu, uu, uu, uu] [(vi 2)]
    refine W.newarr (pc := 80) 2 (ad := "[C") (ty := .char) at_80 rfl (w0 hw) ix2 rfl (by decide) (by decide) (fun a204 => ?_)
    show W _ _ _ _ _ _ _ _ _ _ _ _ 82 _ [(vr a204)]
    refine W.astore (pc := 82) (ls' := #[iv z0, iv z1, iv z2, iv 2, iv (z0 &&& (255 : Int32)), iv ((XT.ushr z0 (8 : Int32)) &&& (255 : Int32)), iv 2, iv (z1 &&& (255 : Int32)), iv ((XT.ushr z1 (8 : Int32)) &&& (255 : Int32)), rv a153, rv a204, uu, uu, uu, uu, uu, uu, uu, uu]) at_82 rfl rfl ?_
    refine W.iload (pc := 84) at_84 rfl ?_
    refine W.iconst (pc := 86) (1) at_86 (by decide) ?_
    refine W.icmpN (pc := 87) at_87 (n_lt (by decide)) ?_
    refine W.aload (pc := 90) 10 at_90 rfl rfl ?_
    refine W.iconst (pc := 92) (0) at_92 (by decide) ?_
    refine W.iload (pc := 93) at_93 rfl ?_
    refine W.i2cK (pc := 95) (z1 &&& (255 : Int32)) at_95 (z_i2c (by have := rng32 z1; have := q255; have := am_255 z1; omega)) ?_
    refine W.castore (pc := 96) (D' := (a204, true, ar "[C" .char [(vi (z1 &&& (255 : Int32))), (vi 0)]) :: (a153, true, ar "[C" .char [(vi (z0 &&& (255 : Int32))), (vi ((XT.ushr z0 (8 : Int32)) &&& (255 : Int32)))]) :: []) 0 0 at_96 rfl ix0 (Nat.le_of_ble_eq_true rfl) (z_narC (by have := rng32 z1; have := q255; have := am_255 z1; omega)) rfl ?_
    refine W.iload (pc := 97) at_97 rfl ?_
    refine W.iconst (pc := 99) (2) at_99 (by decide) ?_
    refine W.icmpN (pc := 100) at_100 (n_lt (by decide)) ?_
    refine W.aload (pc := 103) 10 at_103 rfl rfl ?_
    refine W.iconst (pc := 105) (1) at_105 (by decide) ?_
    refine W.iload (pc := 106) at_106 rfl ?_
    refine W.i2cK (pc := 108) ((XT.ushr z1 (8 : Int32)) &&& (255 : Int32)) at_108 (z_i2c (by have := rng32 z1; have := q8; have := aushr_8 z1; have := q255; have := am_255 (XT.ushr z1 (8 : Int32)); omega)) ?_
    refine W.castore (pc := 109) (D' := (a204, true, ar "[C" .char [(vi (z1 &&& (255 : Int32))), (vi ((XT.ushr z1 (8 : Int32)) &&& (255 : Int32)))]) :: (a153, true, ar "[C" .char [(vi (z0 &&& (255 : Int32))), (vi ((XT.ushr z0 (8 : Int32)) &&& (255 : Int32)))]) :: []) 0 1 at_109 rfl ix1 (Nat.le_of_ble_eq_true rfl) (z_narC (by have := rng32 z1; have := q8; have := aushr_8 z1; have := q255; have := am_255 (XT.ushr z1 (8 : Int32)); omega)) rfl ?_
    refine W.new (pc := 110) at_110 (w1 hw) (w2 hw) (w3 hw) (laString hw) (by decide) (by decide) (fun a205 => ?_)
    show W _ _ _ _ _ _ _ _ _ _ _ _ 113 _ [(vr a205)]
    refine W.dup (pc := 113) at_113 rfl ?_
    refine W.aload (pc := 114) 9 at_114 rfl rfl ?_
    refine W.callI (pc := 116) (as := [(vr a153)]) 1 [(vr a205)] at_116 rfl (w4 hw) (w5 hw) (w3 hw) (w6 hw) (c44_init hw hs (p1 := a205) (p2 := a153) (x1 := (z0 &&& (255 : Int32))) (hx1 := (by have := rng32 z0; have := q255; have := am_255 z0; omega)) (x2 := ((XT.ushr z0 (8 : Int32)) &&& (255 : Int32))) (hx2 := (by have := rng32 z0; have := q8; have := aushr_8 z0; have := q255; have := am_255 (XT.ushr z0 (8 : Int32)); omega)) (mp2 := m1)) (by decide) pd__C_V rfl rfl rfl rfl (by decide) (fun v D' h => ?_)
    obtain ⟨a206, rfl, rfl⟩ := h
    show W _ _ _ _ _ _ _ _ _ _ _ _ 119 _ [(vr a205)]
    refine W.astore (pc := 119) (ls' := #[iv z0, iv z1, iv z2, iv 2, iv (z0 &&& (255 : Int32)), iv ((XT.ushr z0 (8 : Int32)) &&& (255 : Int32)), iv 2, iv (z1 &&& (255 : Int32)), iv ((XT.ushr z1 (8 : Int32)) &&& (255 : Int32)), rv a153, rv a204, rv a205, uu, uu, uu, uu, uu, uu, uu]) at_119 rfl rfl ?_
    refine W.iloadN (pc := 121) at_121 rfl ?_
    refine W.iconst (pc := 122) (1) at_122 (by decide) ?_
    refine W.iand (pc := 123) at_123 ?_
    refine W.if (pc := 124) 131 at_124 (by decide) (fun h105 => ?_) (fun h105 => ?_)
    ·
     have ih105 := t_eq h105
     refine W.iconst (pc := 131) (0) at_131 (by decide) ?_
     refine W.istore (pc := 132) (ls' := #[iv z0, iv z1, iv z2, iv 2, iv (z0 &&& (255 : Int32)), iv ((XT.ushr z0 (8 : Int32)) &&& (255 : Int32)), iv 2, iv (z1 &&& (255 : Int32)), iv ((XT.ushr z1 (8 : Int32)) &&& (255 : Int32)), rv a153, rv a204, rv a205, iv 0, uu, uu, uu, uu, uu, uu]) at_132 rfl ?_
     refine W.iloadN (pc := 134) at_134 rfl ?_
     refine W.iconst (pc := 135) (1) at_135 (by decide) ?_
     refine W.iushr (pc := 136) at_136 ?_
     refine W.iconst (pc := 137) (3) at_137 (by decide) ?_
     refine W.iand (pc := 138) at_138 ?_
     refine W.istore (pc := 139) (ls' := #[iv z0, iv z1, iv z2, iv 2, iv (z0 &&& (255 : Int32)), iv ((XT.ushr z0 (8 : Int32)) &&& (255 : Int32)), iv 2, iv (z1 &&& (255 : Int32)), iv ((XT.ushr z1 (8 : Int32)) &&& (255 : Int32)), rv a153, rv a204, rv a205, iv 0, iv ((XT.ushr z2 (1 : Int32)) &&& (3 : Int32)), uu, uu, uu, uu, uu]) at_139 rfl ?_
     refine W.iload (pc := 141) at_141 rfl ?_
     refine W.ifY (pc := 143) 150 at_143 (y_eq (by decide)) (by decide) ?_
     refine W.new (pc := 150) at_150 (w1 hw) (w2 hw) (w3 hw) (laString hw) (by decide) (by decide) (fun a207 => ?_)
     show W _ _ _ _ _ _ _ _ _ _ _ _ 153 _ [(vr a207)]
     refine W.dup (pc := 153) at_153 rfl ?_
     refine W.aload (pc := 154) 10 at_154 rfl rfl ?_
     refine W.callI (pc := 156) (as := [(vr a204)]) 1 [(vr a207)] at_156 rfl (w4 hw) (w5 hw) (w3 hw) (w6 hw) (c44_init hw hs (p1 := a207) (p2 := a204) (x1 := (z1 &&& (255 : Int32))) (hx1 := (by have := rng32 z1; have := q255; have := am_255 z1; omega)) (x2 := ((XT.ushr z1 (8 : Int32)) &&& (255 : Int32))) (hx2 := (by have := rng32 z1; have := q8; have := aushr_8 z1; have := q255; have := am_255 (XT.ushr z1 (8 : Int32)); omega)) (mp2 := m2)) (by decide) pd__C_V rfl rfl rfl rfl (by decide) (fun v D' h => ?_)
     obtain ⟨a208, rfl, rfl⟩ := h
     show W _ _ _ _ _ _ _ _ _ _ _ _ 159 _ [(vr a207)]
     refine W.astore (pc := 159) (ls' := #[iv z0, iv z1, iv z2, iv 2, iv (z0 &&& (255 : Int32)), iv ((XT.ushr z0 (8 : Int32)) &&& (255 : Int32)), iv 2, iv (z1 &&& (255 : Int32)), iv ((XT.ushr z1 (8 : Int32)) &&& (255 : Int32)), rv a153, rv a204, rv a205, iv 0, iv ((XT.ushr z2 (1 : Int32)) &&& (3 : Int32)), rv a207, uu, uu, uu, uu]) at_159 rfl rfl ?_
     have K213 : ∀ (t210 : Slot) (a211 : Addr) (u212 : Value), SlOk t210 → u212.isRef = true → W Z EL room_1 "com/example/chainvouch/chainvouch/chain/TimeRangeStartsAfterPinLaw" "law" code maxLocals ret (fun v _ => v = some (.int 1)) ((a208, true, ar "[B" .byte [(vi (z1 &&& (255 : Int32)).toInt8.toInt32), (vi ((XT.ushr z1 (8 : Int32)) &&& (255 : Int32)).toInt8.toInt32)]) :: (a207, true, oString (vr a208) (vi 0)) :: (a206, true, ar "[B" .byte [(vi (z0 &&& (255 : Int32)).toInt8.toInt32), (vi ((XT.ushr z0 (8 : Int32)) &&& (255 : Int32)).toInt8.toInt32)]) :: (a205, true, oString (vr a206) (vi 0)) :: (a204, true, ar "[C" .char [(vi (z1 &&& (255 : Int32))), (vi ((XT.ushr z1 (8 : Int32)) &&& (255 : Int32)))]) :: (a153, true, ar "[C" .char [(vi (z0 &&& (255 : Int32))), (vi ((XT.ushr z0 (8 : Int32)) &&& (255 : Int32)))]) :: (a211, true, oTimeRange u212 (vr a207)) :: []) 9 22 197 #[iv z0, iv z1, iv z2, iv 2, iv (z0 &&& (255 : Int32)), iv ((XT.ushr z0 (8 : Int32)) &&& (255 : Int32)), iv 2, iv (z1 &&& (255 : Int32)), iv ((XT.ushr z1 (8 : Int32)) &&& (255 : Int32)), rv a153, rv a204, rv a205, iv 0, iv ((XT.ushr z2 (1 : Int32)) &&& (3 : Int32)), rv a207, t210, rv a211, uu, uu] [] := by
      intro t210 a211 u212 ht210 hu212
      refine W.aload (pc := 197) 16 at_197 rfl rfl ?_
      refine W.aload (pc := 199) 11 at_199 rfl rfl ?_
      refine W.callV (pc := 201) (as := [(vr a205)]) 0 [] at_201 (w60 hw) (w61 hw) (w63 hw) (w63 hw) (w62 hw) (w25 hw) (w64 hw) (Hp.exa m6) (c103_startsAfter hw hs (p1 := a211) (p2 := a205) (p3 := a207) (p4 := a206) (p5 := a208) (x1 := (z0 &&& (255 : Int32)).toInt8.toInt32) (hx1 := (by have := rng32 z0; have := q255; have := am_255 z0; have := a_i2b (z0 &&& (255 : Int32)); omega)) (x2 := ((XT.ushr z0 (8 : Int32)) &&& (255 : Int32)).toInt8.toInt32) (hx2 := (by have := rng32 z0; have := q8; have := aushr_8 z0; have := q255; have := am_255 (XT.ushr z0 (8 : Int32)); have := a_i2b ((XT.ushr z0 (8 : Int32)) &&& (255 : Int32)); omega)) (x3 := (z1 &&& (255 : Int32)).toInt8.toInt32) (hx3 := (by have := rng32 z1; have := q255; have := am_255 z1; have := a_i2b (z1 &&& (255 : Int32)); omega)) (x4 := ((XT.ushr z1 (8 : Int32)) &&& (255 : Int32)).toInt8.toInt32) (hx4 := (by have := rng32 z1; have := q8; have := aushr_8 z1; have := q255; have := am_255 (XT.ushr z1 (8 : Int32)); have := a_i2b ((XT.ushr z1 (8 : Int32)) &&& (255 : Int32)); omega)) (u1 := u212) (hu1 := hu212) (mp1 := m6) (mp2 := m3) (mp3 := m1) (mp4 := m2) (mp5 := m0)) (by decide) pd_Ljava_lang_String__Z rfl rfl rfl rfl (by decide) (fun v D' h => ?_)
      rcases h with ⟨h106, h107, rfl, rfl⟩ | ⟨h108, h109, h110, rfl, rfl⟩ | ⟨h111, h112, h113, rfl, rfl⟩ | ⟨h114, h115, rfl, rfl⟩ | ⟨h116, h117, rfl, rfl⟩
      ·
       have ih106 := t_eq h106
       have ih107 := t_eq h107
       show W _ _ _ _ _ _ _ _ _ _ _ _ 204 _ [(vi 1)]
       refine W.istore (pc := 204) (ls' := #[iv z0, iv z1, iv z2, iv 2, iv (z0 &&& (255 : Int32)), iv ((XT.ushr z0 (8 : Int32)) &&& (255 : Int32)), iv 2, iv (z1 &&& (255 : Int32)), iv ((XT.ushr z1 (8 : Int32)) &&& (255 : Int32)), rv a153, rv a204, rv a205, iv 0, iv ((XT.ushr z2 (1 : Int32)) &&& (3 : Int32)), rv a207, t210, rv a211, iv 1, uu]) at_204 rfl ?_
       refine W.iload (pc := 206) at_206 rfl ?_
       refine W.ifN (pc := 208) at_208 (n_ne (by decide)) ?_
       refine W.iloadN (pc := 211) at_211 rfl ?_
       refine W.iload (pc := 212) at_212 rfl ?_
       refine W.iload (pc := 214) at_214 rfl ?_
       refine W.iload (pc := 216) at_216 rfl ?_
       refine W.iload (pc := 218) at_218 rfl ?_
       refine W.iload (pc := 220) at_220 rfl ?_
       refine W.callS (pc := 222) (as := [(vi 2), (vi (z0 &&& (255 : Int32))), (vi ((XT.ushr z0 (8 : Int32)) &&& (255 : Int32))), (vi 2), (vi (z1 &&& (255 : Int32))), (vi ((XT.ushr z1 (8 : Int32)) &&& (255 : Int32)))]) 0 [] at_222 (w65 hw) (w66 hw) (w67 hw) (w68 hw) (c109_geq hw hs (x1 := (z0 &&& (255 : Int32))) (hx1 := (by have := rng32 z0; have := q255; have := am_255 z0; have := a_i2b (z0 &&& (255 : Int32)); have := rng32 z1; have := am_255 z1; have := a_i2b (z1 &&& (255 : Int32)); omega)) (x2 := ((XT.ushr z0 (8 : Int32)) &&& (255 : Int32))) (hx2 := (by have := rng32 z0; have := q8; have := aushr_8 z0; have := q255; have := am_255 (XT.ushr z0 (8 : Int32)); have := a_i2b ((XT.ushr z0 (8 : Int32)) &&& (255 : Int32)); have := rng32 z1; have := aushr_8 z1; have := am_255 (XT.ushr z1 (8 : Int32)); have := a_i2b ((XT.ushr z1 (8 : Int32)) &&& (255 : Int32)); omega)) (x3 := (z1 &&& (255 : Int32))) (hx3 := (by have := rng32 z1; have := q255; have := am_255 z1; have := rng32 z0; have := am_255 z0; have := a_i2b (z0 &&& (255 : Int32)); have := a_i2b (z1 &&& (255 : Int32)); omega)) (x4 := ((XT.ushr z1 (8 : Int32)) &&& (255 : Int32))) (hx4 := (by have := rng32 z1; have := q8; have := aushr_8 z1; have := q255; have := am_255 (XT.ushr z1 (8 : Int32)); have := rng32 z0; have := aushr_8 z0; have := am_255 (XT.ushr z0 (8 : Int32)); have := a_i2b ((XT.ushr z0 (8 : Int32)) &&& (255 : Int32)); have := a_i2b ((XT.ushr z1 (8 : Int32)) &&& (255 : Int32)); omega))) (by decide) pd_IIIIII_Z rfl rfl rfl rfl (by decide) (fun v D' h => ?_)
       rcases h with ⟨h118, h119, rfl, rfl⟩ | ⟨h120, h121, rfl, rfl⟩ | ⟨h122, h123, rfl, rfl⟩ | ⟨h124, h125, rfl, rfl⟩
       ·
        have ih118 := t_eq h118
        exact absurd h119 (n_lt (by have := rng32 z0; have := q8; have := aushr_8 z0; have := q255; have := am_255 (XT.ushr z0 (8 : Int32)); have := rng32 z1; have := aushr_8 z1; have := am_255 (XT.ushr z1 (8 : Int32)); have := a_i2b ((XT.ushr z0 (8 : Int32)) &&& (255 : Int32)); have := a_i2b ((XT.ushr z1 (8 : Int32)) &&& (255 : Int32)); omega))
       ·
        have ih120 := t_eq h120
        have ih121 := f_lt h121
        show W _ _ _ _ _ _ _ _ _ _ _ _ 225 _ [(vi 1)]
        refine W.ifN (pc := 225) at_225 (n_eq (by decide)) ?_
        refine W.iconst (pc := 228) (1) at_228 (by decide) ?_
        refine W.goto (pc := 229) 233 at_229 (by decide) ?_
        refine W.istore (pc := 233) (ls' := #[iv z0, iv z1, iv z2, iv 2, iv (z0 &&& (255 : Int32)), iv ((XT.ushr z0 (8 : Int32)) &&& (255 : Int32)), iv 2, iv (z1 &&& (255 : Int32)), iv ((XT.ushr z1 (8 : Int32)) &&& (255 : Int32)), rv a153, rv a204, rv a205, iv 0, iv ((XT.ushr z2 (1 : Int32)) &&& (3 : Int32)), rv a207, t210, rv a211, iv 1, iv 1]) at_233 rfl ?_
        refine W.iload (pc := 235) at_235 rfl ?_
        refine W.iload (pc := 237) at_237 rfl ?_
        refine W.icmpN (pc := 239) at_239 (n_ne (by decide)) ?_
        refine W.iconst (pc := 242) (1) at_242 (by decide) ?_
        refine W.goto (pc := 243) 247 at_243 (by decide) ?_
        exact W.ireturn (pc := 247) at_247 rfl (Or.inr (Or.inl rfl)) (nw_bool (by decide)) (by decide) rfl
       ·
        exact absurd h122 (Classical.not_not.mpr (y_eq (by have := rng32 z0; have := q255; have := am_255 z0; have := rng32 z1; have := am_255 z1; have := a_i2b (z0 &&& (255 : Int32)); have := a_i2b (z1 &&& (255 : Int32)); omega)))
       ·
        exact absurd h124 (Classical.not_not.mpr (y_eq (by have := rng32 z0; have := q255; have := am_255 z0; have := rng32 z1; have := am_255 z1; have := a_i2b (z0 &&& (255 : Int32)); have := a_i2b (z1 &&& (255 : Int32)); omega)))
      ·
       have ih108 := t_eq h108
       have ih109 := f_eq h109
       have ih110 := t_lt h110
       show W _ _ _ _ _ _ _ _ _ _ _ _ 204 _ [(vi 0)]
       refine W.istore (pc := 204) (ls' := #[iv z0, iv z1, iv z2, iv 2, iv (z0 &&& (255 : Int32)), iv ((XT.ushr z0 (8 : Int32)) &&& (255 : Int32)), iv 2, iv (z1 &&& (255 : Int32)), iv ((XT.ushr z1 (8 : Int32)) &&& (255 : Int32)), rv a153, rv a204, rv a205, iv 0, iv ((XT.ushr z2 (1 : Int32)) &&& (3 : Int32)), rv a207, t210, rv a211, iv 0, uu]) at_204 rfl ?_
       refine W.iload (pc := 206) at_206 rfl ?_
       refine W.ifN (pc := 208) at_208 (n_ne (by decide)) ?_
       refine W.iloadN (pc := 211) at_211 rfl ?_
       refine W.iload (pc := 212) at_212 rfl ?_
       refine W.iload (pc := 214) at_214 rfl ?_
       refine W.iload (pc := 216) at_216 rfl ?_
       refine W.iload (pc := 218) at_218 rfl ?_
       refine W.iload (pc := 220) at_220 rfl ?_
       refine W.callS (pc := 222) (as := [(vi 2), (vi (z0 &&& (255 : Int32))), (vi ((XT.ushr z0 (8 : Int32)) &&& (255 : Int32))), (vi 2), (vi (z1 &&& (255 : Int32))), (vi ((XT.ushr z1 (8 : Int32)) &&& (255 : Int32)))]) 0 [] at_222 (w65 hw) (w66 hw) (w67 hw) (w68 hw) (c109_geq hw hs (x1 := (z0 &&& (255 : Int32))) (hx1 := (by have := rng32 z0; have := q255; have := am_255 z0; have := a_i2b (z0 &&& (255 : Int32)); have := rng32 z1; have := am_255 z1; have := a_i2b (z1 &&& (255 : Int32)); omega)) (x2 := ((XT.ushr z0 (8 : Int32)) &&& (255 : Int32))) (hx2 := (by have := rng32 z0; have := q8; have := aushr_8 z0; have := q255; have := am_255 (XT.ushr z0 (8 : Int32)); have := a_i2b ((XT.ushr z0 (8 : Int32)) &&& (255 : Int32)); have := rng32 z1; have := aushr_8 z1; have := am_255 (XT.ushr z1 (8 : Int32)); have := a_i2b ((XT.ushr z1 (8 : Int32)) &&& (255 : Int32)); have := am_255 ((XT.ushr z0 (8 : Int32)) &&& (255 : Int32)).toInt8.toInt32; have := am_255 ((XT.ushr z1 (8 : Int32)) &&& (255 : Int32)).toInt8.toInt32; have := a_sub (((XT.ushr z0 (8 : Int32)) &&& (255 : Int32)).toInt8.toInt32 &&& (255 : Int32)) (((XT.ushr z1 (8 : Int32)) &&& (255 : Int32)).toInt8.toInt32 &&& (255 : Int32)); have := q0; omega)) (x3 := (z1 &&& (255 : Int32))) (hx3 := (by have := rng32 z1; have := q255; have := am_255 z1; have := rng32 z0; have := am_255 z0; have := a_i2b (z0 &&& (255 : Int32)); have := a_i2b (z1 &&& (255 : Int32)); omega)) (x4 := ((XT.ushr z1 (8 : Int32)) &&& (255 : Int32))) (hx4 := (by have := rng32 z1; have := q8; have := aushr_8 z1; have := q255; have := am_255 (XT.ushr z1 (8 : Int32)); have := rng32 z0; have := aushr_8 z0; have := am_255 (XT.ushr z0 (8 : Int32)); have := a_i2b ((XT.ushr z0 (8 : Int32)) &&& (255 : Int32)); have := a_i2b ((XT.ushr z1 (8 : Int32)) &&& (255 : Int32)); have := am_255 ((XT.ushr z0 (8 : Int32)) &&& (255 : Int32)).toInt8.toInt32; have := am_255 ((XT.ushr z1 (8 : Int32)) &&& (255 : Int32)).toInt8.toInt32; have := a_sub (((XT.ushr z0 (8 : Int32)) &&& (255 : Int32)).toInt8.toInt32 &&& (255 : Int32)) (((XT.ushr z1 (8 : Int32)) &&& (255 : Int32)).toInt8.toInt32 &&& (255 : Int32)); have := q0; omega))) (by decide) pd_IIIIII_Z rfl rfl rfl rfl (by decide) (fun v D' h => ?_)
       rcases h with ⟨h126, h127, rfl, rfl⟩ | ⟨h128, h129, rfl, rfl⟩ | ⟨h130, h131, rfl, rfl⟩ | ⟨h132, h133, rfl, rfl⟩
       ·
        have ih126 := t_eq h126
        have ih127 := t_lt h127
        show W _ _ _ _ _ _ _ _ _ _ _ _ 225 _ [(vi 0)]
        refine W.ifY (pc := 225) 232 at_225 (y_eq (by decide)) (by decide) ?_
        refine W.iconst (pc := 232) (0) at_232 (by decide) ?_
        refine W.istore (pc := 233) (ls' := #[iv z0, iv z1, iv z2, iv 2, iv (z0 &&& (255 : Int32)), iv ((XT.ushr z0 (8 : Int32)) &&& (255 : Int32)), iv 2, iv (z1 &&& (255 : Int32)), iv ((XT.ushr z1 (8 : Int32)) &&& (255 : Int32)), rv a153, rv a204, rv a205, iv 0, iv ((XT.ushr z2 (1 : Int32)) &&& (3 : Int32)), rv a207, t210, rv a211, iv 0, iv 0]) at_233 rfl ?_
        refine W.iload (pc := 235) at_235 rfl ?_
        refine W.iload (pc := 237) at_237 rfl ?_
        refine W.icmpN (pc := 239) at_239 (n_ne (by decide)) ?_
        refine W.iconst (pc := 242) (1) at_242 (by decide) ?_
        refine W.goto (pc := 243) 247 at_243 (by decide) ?_
        exact W.ireturn (pc := 247) at_247 rfl (Or.inr (Or.inl rfl)) (nw_bool (by decide)) (by decide) rfl
       ·
        have ih128 := t_eq h128
        exact absurd h129 (Classical.not_not.mpr (y_lt (by have := rng32 z0; have := q8; have := aushr_8 z0; have := q255; have := am_255 (XT.ushr z0 (8 : Int32)); have := rng32 z1; have := aushr_8 z1; have := am_255 (XT.ushr z1 (8 : Int32)); have := a_i2b ((XT.ushr z0 (8 : Int32)) &&& (255 : Int32)); have := a_i2b ((XT.ushr z1 (8 : Int32)) &&& (255 : Int32)); have := am_255 ((XT.ushr z0 (8 : Int32)) &&& (255 : Int32)).toInt8.toInt32; have := am_255 ((XT.ushr z1 (8 : Int32)) &&& (255 : Int32)).toInt8.toInt32; have := a_sub (((XT.ushr z0 (8 : Int32)) &&& (255 : Int32)).toInt8.toInt32 &&& (255 : Int32)) (((XT.ushr z1 (8 : Int32)) &&& (255 : Int32)).toInt8.toInt32 &&& (255 : Int32)); have := q0; omega)))
       ·
        exact absurd h130 (Classical.not_not.mpr (y_eq (by have := rng32 z0; have := q255; have := am_255 z0; have := rng32 z1; have := am_255 z1; have := a_i2b (z0 &&& (255 : Int32)); have := a_i2b (z1 &&& (255 : Int32)); omega)))
       ·
        exact absurd h132 (Classical.not_not.mpr (y_eq (by have := rng32 z0; have := q255; have := am_255 z0; have := rng32 z1; have := am_255 z1; have := a_i2b (z0 &&& (255 : Int32)); have := a_i2b (z1 &&& (255 : Int32)); omega)))
      ·
       have ih111 := t_eq h111
       have ih112 := f_eq h112
       have ih113 := f_lt h113
       show W _ _ _ _ _ _ _ _ _ _ _ _ 204 _ [(vi 1)]
       refine W.istore (pc := 204) (ls' := #[iv z0, iv z1, iv z2, iv 2, iv (z0 &&& (255 : Int32)), iv ((XT.ushr z0 (8 : Int32)) &&& (255 : Int32)), iv 2, iv (z1 &&& (255 : Int32)), iv ((XT.ushr z1 (8 : Int32)) &&& (255 : Int32)), rv a153, rv a204, rv a205, iv 0, iv ((XT.ushr z2 (1 : Int32)) &&& (3 : Int32)), rv a207, t210, rv a211, iv 1, uu]) at_204 rfl ?_
       refine W.iload (pc := 206) at_206 rfl ?_
       refine W.ifN (pc := 208) at_208 (n_ne (by decide)) ?_
       refine W.iloadN (pc := 211) at_211 rfl ?_
       refine W.iload (pc := 212) at_212 rfl ?_
       refine W.iload (pc := 214) at_214 rfl ?_
       refine W.iload (pc := 216) at_216 rfl ?_
       refine W.iload (pc := 218) at_218 rfl ?_
       refine W.iload (pc := 220) at_220 rfl ?_
       refine W.callS (pc := 222) (as := [(vi 2), (vi (z0 &&& (255 : Int32))), (vi ((XT.ushr z0 (8 : Int32)) &&& (255 : Int32))), (vi 2), (vi (z1 &&& (255 : Int32))), (vi ((XT.ushr z1 (8 : Int32)) &&& (255 : Int32)))]) 0 [] at_222 (w65 hw) (w66 hw) (w67 hw) (w68 hw) (c109_geq hw hs (x1 := (z0 &&& (255 : Int32))) (hx1 := (by have := rng32 z0; have := q255; have := am_255 z0; have := a_i2b (z0 &&& (255 : Int32)); have := rng32 z1; have := am_255 z1; have := a_i2b (z1 &&& (255 : Int32)); omega)) (x2 := ((XT.ushr z0 (8 : Int32)) &&& (255 : Int32))) (hx2 := (by have := rng32 z0; have := q8; have := aushr_8 z0; have := q255; have := am_255 (XT.ushr z0 (8 : Int32)); have := a_i2b ((XT.ushr z0 (8 : Int32)) &&& (255 : Int32)); have := rng32 z1; have := aushr_8 z1; have := am_255 (XT.ushr z1 (8 : Int32)); have := a_i2b ((XT.ushr z1 (8 : Int32)) &&& (255 : Int32)); have := q0; have := am_255 ((XT.ushr z0 (8 : Int32)) &&& (255 : Int32)).toInt8.toInt32; have := am_255 ((XT.ushr z1 (8 : Int32)) &&& (255 : Int32)).toInt8.toInt32; have := a_sub (((XT.ushr z0 (8 : Int32)) &&& (255 : Int32)).toInt8.toInt32 &&& (255 : Int32)) (((XT.ushr z1 (8 : Int32)) &&& (255 : Int32)).toInt8.toInt32 &&& (255 : Int32)); omega)) (x3 := (z1 &&& (255 : Int32))) (hx3 := (by have := rng32 z1; have := q255; have := am_255 z1; have := rng32 z0; have := am_255 z0; have := a_i2b (z0 &&& (255 : Int32)); have := a_i2b (z1 &&& (255 : Int32)); omega)) (x4 := ((XT.ushr z1 (8 : Int32)) &&& (255 : Int32))) (hx4 := (by have := rng32 z1; have := q8; have := aushr_8 z1; have := q255; have := am_255 (XT.ushr z1 (8 : Int32)); have := rng32 z0; have := aushr_8 z0; have := am_255 (XT.ushr z0 (8 : Int32)); have := a_i2b ((XT.ushr z0 (8 : Int32)) &&& (255 : Int32)); have := a_i2b ((XT.ushr z1 (8 : Int32)) &&& (255 : Int32)); have := q0; have := am_255 ((XT.ushr z0 (8 : Int32)) &&& (255 : Int32)).toInt8.toInt32; have := am_255 ((XT.ushr z1 (8 : Int32)) &&& (255 : Int32)).toInt8.toInt32; have := a_sub (((XT.ushr z0 (8 : Int32)) &&& (255 : Int32)).toInt8.toInt32 &&& (255 : Int32)) (((XT.ushr z1 (8 : Int32)) &&& (255 : Int32)).toInt8.toInt32 &&& (255 : Int32)); omega))) (by decide) pd_IIIIII_Z rfl rfl rfl rfl (by decide) (fun v D' h => ?_)
       rcases h with ⟨h134, h135, rfl, rfl⟩ | ⟨h136, h137, rfl, rfl⟩ | ⟨h138, h139, rfl, rfl⟩ | ⟨h140, h141, rfl, rfl⟩
       ·
        have ih134 := t_eq h134
        exact absurd h135 (n_lt (by have := rng32 z0; have := q8; have := aushr_8 z0; have := q255; have := am_255 (XT.ushr z0 (8 : Int32)); have := rng32 z1; have := aushr_8 z1; have := am_255 (XT.ushr z1 (8 : Int32)); have := a_i2b ((XT.ushr z0 (8 : Int32)) &&& (255 : Int32)); have := a_i2b ((XT.ushr z1 (8 : Int32)) &&& (255 : Int32)); have := q0; have := am_255 ((XT.ushr z0 (8 : Int32)) &&& (255 : Int32)).toInt8.toInt32; have := am_255 ((XT.ushr z1 (8 : Int32)) &&& (255 : Int32)).toInt8.toInt32; have := a_sub (((XT.ushr z0 (8 : Int32)) &&& (255 : Int32)).toInt8.toInt32 &&& (255 : Int32)) (((XT.ushr z1 (8 : Int32)) &&& (255 : Int32)).toInt8.toInt32 &&& (255 : Int32)); omega))
       ·
        have ih136 := t_eq h136
        have ih137 := f_lt h137
        show W _ _ _ _ _ _ _ _ _ _ _ _ 225 _ [(vi 1)]
        refine W.ifN (pc := 225) at_225 (n_eq (by decide)) ?_
        refine W.iconst (pc := 228) (1) at_228 (by decide) ?_
        refine W.goto (pc := 229) 233 at_229 (by decide) ?_
        refine W.istore (pc := 233) (ls' := #[iv z0, iv z1, iv z2, iv 2, iv (z0 &&& (255 : Int32)), iv ((XT.ushr z0 (8 : Int32)) &&& (255 : Int32)), iv 2, iv (z1 &&& (255 : Int32)), iv ((XT.ushr z1 (8 : Int32)) &&& (255 : Int32)), rv a153, rv a204, rv a205, iv 0, iv ((XT.ushr z2 (1 : Int32)) &&& (3 : Int32)), rv a207, t210, rv a211, iv 1, iv 1]) at_233 rfl ?_
        refine W.iload (pc := 235) at_235 rfl ?_
        refine W.iload (pc := 237) at_237 rfl ?_
        refine W.icmpN (pc := 239) at_239 (n_ne (by decide)) ?_
        refine W.iconst (pc := 242) (1) at_242 (by decide) ?_
        refine W.goto (pc := 243) 247 at_243 (by decide) ?_
        exact W.ireturn (pc := 247) at_247 rfl (Or.inr (Or.inl rfl)) (nw_bool (by decide)) (by decide) rfl
       ·
        exact absurd h138 (Classical.not_not.mpr (y_eq (by have := rng32 z0; have := q255; have := am_255 z0; have := rng32 z1; have := am_255 z1; have := a_i2b (z0 &&& (255 : Int32)); have := a_i2b (z1 &&& (255 : Int32)); omega)))
       ·
        exact absurd h140 (Classical.not_not.mpr (y_eq (by have := rng32 z0; have := q255; have := am_255 z0; have := rng32 z1; have := am_255 z1; have := a_i2b (z0 &&& (255 : Int32)); have := a_i2b (z1 &&& (255 : Int32)); omega)))
      ·
       have ih114 := f_eq h114
       have ih115 := t_lt h115
       show W _ _ _ _ _ _ _ _ _ _ _ _ 204 _ [(vi 0)]
       refine W.istore (pc := 204) (ls' := #[iv z0, iv z1, iv z2, iv 2, iv (z0 &&& (255 : Int32)), iv ((XT.ushr z0 (8 : Int32)) &&& (255 : Int32)), iv 2, iv (z1 &&& (255 : Int32)), iv ((XT.ushr z1 (8 : Int32)) &&& (255 : Int32)), rv a153, rv a204, rv a205, iv 0, iv ((XT.ushr z2 (1 : Int32)) &&& (3 : Int32)), rv a207, t210, rv a211, iv 0, uu]) at_204 rfl ?_
       refine W.iload (pc := 206) at_206 rfl ?_
       refine W.ifN (pc := 208) at_208 (n_ne (by decide)) ?_
       refine W.iloadN (pc := 211) at_211 rfl ?_
       refine W.iload (pc := 212) at_212 rfl ?_
       refine W.iload (pc := 214) at_214 rfl ?_
       refine W.iload (pc := 216) at_216 rfl ?_
       refine W.iload (pc := 218) at_218 rfl ?_
       refine W.iload (pc := 220) at_220 rfl ?_
       refine W.callS (pc := 222) (as := [(vi 2), (vi (z0 &&& (255 : Int32))), (vi ((XT.ushr z0 (8 : Int32)) &&& (255 : Int32))), (vi 2), (vi (z1 &&& (255 : Int32))), (vi ((XT.ushr z1 (8 : Int32)) &&& (255 : Int32)))]) 0 [] at_222 (w65 hw) (w66 hw) (w67 hw) (w68 hw) (c109_geq hw hs (x1 := (z0 &&& (255 : Int32))) (hx1 := (by have := rng32 z0; have := q255; have := am_255 z0; have := a_i2b (z0 &&& (255 : Int32)); have := rng32 z1; have := am_255 z1; have := a_i2b (z1 &&& (255 : Int32)); have := am_255 (z0 &&& (255 : Int32)).toInt8.toInt32; have := am_255 (z1 &&& (255 : Int32)).toInt8.toInt32; have := a_sub ((z0 &&& (255 : Int32)).toInt8.toInt32 &&& (255 : Int32)) ((z1 &&& (255 : Int32)).toInt8.toInt32 &&& (255 : Int32)); have := q0; omega)) (x2 := ((XT.ushr z0 (8 : Int32)) &&& (255 : Int32))) (hx2 := (by have := rng32 z0; have := q8; have := aushr_8 z0; have := q255; have := am_255 (XT.ushr z0 (8 : Int32)); omega)) (x3 := (z1 &&& (255 : Int32))) (hx3 := (by have := rng32 z1; have := q255; have := am_255 z1; have := rng32 z0; have := am_255 z0; have := a_i2b (z0 &&& (255 : Int32)); have := a_i2b (z1 &&& (255 : Int32)); have := am_255 (z0 &&& (255 : Int32)).toInt8.toInt32; have := am_255 (z1 &&& (255 : Int32)).toInt8.toInt32; have := a_sub ((z0 &&& (255 : Int32)).toInt8.toInt32 &&& (255 : Int32)) ((z1 &&& (255 : Int32)).toInt8.toInt32 &&& (255 : Int32)); have := q0; omega)) (x4 := ((XT.ushr z1 (8 : Int32)) &&& (255 : Int32))) (hx4 := (by have := rng32 z1; have := q8; have := aushr_8 z1; have := q255; have := am_255 (XT.ushr z1 (8 : Int32)); omega))) (by decide) pd_IIIIII_Z rfl rfl rfl rfl (by decide) (fun v D' h => ?_)
       rcases h with ⟨h142, h143, rfl, rfl⟩ | ⟨h144, h145, rfl, rfl⟩ | ⟨h146, h147, rfl, rfl⟩ | ⟨h148, h149, rfl, rfl⟩
       ·
        exact absurd h142 (n_eq (by have := rng32 z0; have := q255; have := am_255 z0; have := rng32 z1; have := am_255 z1; have := a_i2b (z0 &&& (255 : Int32)); have := a_i2b (z1 &&& (255 : Int32)); have := am_255 (z0 &&& (255 : Int32)).toInt8.toInt32; have := am_255 (z1 &&& (255 : Int32)).toInt8.toInt32; have := a_sub ((z0 &&& (255 : Int32)).toInt8.toInt32 &&& (255 : Int32)) ((z1 &&& (255 : Int32)).toInt8.toInt32 &&& (255 : Int32)); have := q0; omega))
       ·
        exact absurd h144 (n_eq (by have := rng32 z0; have := q255; have := am_255 z0; have := rng32 z1; have := am_255 z1; have := a_i2b (z0 &&& (255 : Int32)); have := a_i2b (z1 &&& (255 : Int32)); have := am_255 (z0 &&& (255 : Int32)).toInt8.toInt32; have := am_255 (z1 &&& (255 : Int32)).toInt8.toInt32; have := a_sub ((z0 &&& (255 : Int32)).toInt8.toInt32 &&& (255 : Int32)) ((z1 &&& (255 : Int32)).toInt8.toInt32 &&& (255 : Int32)); have := q0; omega))
       ·
        have ih146 := f_eq h146
        have ih147 := t_le h147
        show W _ _ _ _ _ _ _ _ _ _ _ _ 225 _ [(vi 0)]
        refine W.ifY (pc := 225) 232 at_225 (y_eq (by decide)) (by decide) ?_
        refine W.iconst (pc := 232) (0) at_232 (by decide) ?_
        refine W.istore (pc := 233) (ls' := #[iv z0, iv z1, iv z2, iv 2, iv (z0 &&& (255 : Int32)), iv ((XT.ushr z0 (8 : Int32)) &&& (255 : Int32)), iv 2, iv (z1 &&& (255 : Int32)), iv ((XT.ushr z1 (8 : Int32)) &&& (255 : Int32)), rv a153, rv a204, rv a205, iv 0, iv ((XT.ushr z2 (1 : Int32)) &&& (3 : Int32)), rv a207, t210, rv a211, iv 0, iv 0]) at_233 rfl ?_
        refine W.iload (pc := 235) at_235 rfl ?_
        refine W.iload (pc := 237) at_237 rfl ?_
        refine W.icmpN (pc := 239) at_239 (n_ne (by decide)) ?_
        refine W.iconst (pc := 242) (1) at_242 (by decide) ?_
        refine W.goto (pc := 243) 247 at_243 (by decide) ?_
        exact W.ireturn (pc := 247) at_247 rfl (Or.inr (Or.inl rfl)) (nw_bool (by decide)) (by decide) rfl
       ·
        have ih148 := f_eq h148
        exact absurd h149 (Classical.not_not.mpr (y_le (by have := rng32 z0; have := q255; have := am_255 z0; have := rng32 z1; have := am_255 z1; have := a_i2b (z0 &&& (255 : Int32)); have := a_i2b (z1 &&& (255 : Int32)); have := am_255 (z0 &&& (255 : Int32)).toInt8.toInt32; have := am_255 (z1 &&& (255 : Int32)).toInt8.toInt32; have := a_sub ((z0 &&& (255 : Int32)).toInt8.toInt32 &&& (255 : Int32)) ((z1 &&& (255 : Int32)).toInt8.toInt32 &&& (255 : Int32)); have := q0; omega)))
      ·
       have ih116 := f_eq h116
       have ih117 := f_lt h117
       show W _ _ _ _ _ _ _ _ _ _ _ _ 204 _ [(vi 1)]
       refine W.istore (pc := 204) (ls' := #[iv z0, iv z1, iv z2, iv 2, iv (z0 &&& (255 : Int32)), iv ((XT.ushr z0 (8 : Int32)) &&& (255 : Int32)), iv 2, iv (z1 &&& (255 : Int32)), iv ((XT.ushr z1 (8 : Int32)) &&& (255 : Int32)), rv a153, rv a204, rv a205, iv 0, iv ((XT.ushr z2 (1 : Int32)) &&& (3 : Int32)), rv a207, t210, rv a211, iv 1, uu]) at_204 rfl ?_
       refine W.iload (pc := 206) at_206 rfl ?_
       refine W.ifN (pc := 208) at_208 (n_ne (by decide)) ?_
       refine W.iloadN (pc := 211) at_211 rfl ?_
       refine W.iload (pc := 212) at_212 rfl ?_
       refine W.iload (pc := 214) at_214 rfl ?_
       refine W.iload (pc := 216) at_216 rfl ?_
       refine W.iload (pc := 218) at_218 rfl ?_
       refine W.iload (pc := 220) at_220 rfl ?_
       refine W.callS (pc := 222) (as := [(vi 2), (vi (z0 &&& (255 : Int32))), (vi ((XT.ushr z0 (8 : Int32)) &&& (255 : Int32))), (vi 2), (vi (z1 &&& (255 : Int32))), (vi ((XT.ushr z1 (8 : Int32)) &&& (255 : Int32)))]) 0 [] at_222 (w65 hw) (w66 hw) (w67 hw) (w68 hw) (c109_geq hw hs (x1 := (z0 &&& (255 : Int32))) (hx1 := (by have := rng32 z0; have := q255; have := am_255 z0; have := a_i2b (z0 &&& (255 : Int32)); have := rng32 z1; have := am_255 z1; have := a_i2b (z1 &&& (255 : Int32)); have := q0; have := am_255 (z0 &&& (255 : Int32)).toInt8.toInt32; have := am_255 (z1 &&& (255 : Int32)).toInt8.toInt32; have := a_sub ((z0 &&& (255 : Int32)).toInt8.toInt32 &&& (255 : Int32)) ((z1 &&& (255 : Int32)).toInt8.toInt32 &&& (255 : Int32)); omega)) (x2 := ((XT.ushr z0 (8 : Int32)) &&& (255 : Int32))) (hx2 := (by have := rng32 z0; have := q8; have := aushr_8 z0; have := q255; have := am_255 (XT.ushr z0 (8 : Int32)); omega)) (x3 := (z1 &&& (255 : Int32))) (hx3 := (by have := rng32 z1; have := q255; have := am_255 z1; have := rng32 z0; have := am_255 z0; have := a_i2b (z0 &&& (255 : Int32)); have := a_i2b (z1 &&& (255 : Int32)); have := q0; have := am_255 (z0 &&& (255 : Int32)).toInt8.toInt32; have := am_255 (z1 &&& (255 : Int32)).toInt8.toInt32; have := a_sub ((z0 &&& (255 : Int32)).toInt8.toInt32 &&& (255 : Int32)) ((z1 &&& (255 : Int32)).toInt8.toInt32 &&& (255 : Int32)); omega)) (x4 := ((XT.ushr z1 (8 : Int32)) &&& (255 : Int32))) (hx4 := (by have := rng32 z1; have := q8; have := aushr_8 z1; have := q255; have := am_255 (XT.ushr z1 (8 : Int32)); omega))) (by decide) pd_IIIIII_Z rfl rfl rfl rfl (by decide) (fun v D' h => ?_)
       rcases h with ⟨h150, h151, rfl, rfl⟩ | ⟨h152, h153, rfl, rfl⟩ | ⟨h154, h155, rfl, rfl⟩ | ⟨h156, h157, rfl, rfl⟩
       ·
        exact absurd h150 (n_eq (by have := rng32 z0; have := q255; have := am_255 z0; have := rng32 z1; have := am_255 z1; have := a_i2b (z0 &&& (255 : Int32)); have := a_i2b (z1 &&& (255 : Int32)); have := q0; have := am_255 (z0 &&& (255 : Int32)).toInt8.toInt32; have := am_255 (z1 &&& (255 : Int32)).toInt8.toInt32; have := a_sub ((z0 &&& (255 : Int32)).toInt8.toInt32 &&& (255 : Int32)) ((z1 &&& (255 : Int32)).toInt8.toInt32 &&& (255 : Int32)); omega))
       ·
        exact absurd h152 (n_eq (by have := rng32 z0; have := q255; have := am_255 z0; have := rng32 z1; have := am_255 z1; have := a_i2b (z0 &&& (255 : Int32)); have := a_i2b (z1 &&& (255 : Int32)); have := q0; have := am_255 (z0 &&& (255 : Int32)).toInt8.toInt32; have := am_255 (z1 &&& (255 : Int32)).toInt8.toInt32; have := a_sub ((z0 &&& (255 : Int32)).toInt8.toInt32 &&& (255 : Int32)) ((z1 &&& (255 : Int32)).toInt8.toInt32 &&& (255 : Int32)); omega))
       ·
        have ih154 := f_eq h154
        exact absurd h155 (n_le (by have := rng32 z0; have := q255; have := am_255 z0; have := rng32 z1; have := am_255 z1; have := a_i2b (z0 &&& (255 : Int32)); have := a_i2b (z1 &&& (255 : Int32)); have := q0; have := am_255 (z0 &&& (255 : Int32)).toInt8.toInt32; have := am_255 (z1 &&& (255 : Int32)).toInt8.toInt32; have := a_sub ((z0 &&& (255 : Int32)).toInt8.toInt32 &&& (255 : Int32)) ((z1 &&& (255 : Int32)).toInt8.toInt32 &&& (255 : Int32)); omega))
       ·
        have ih156 := f_eq h156
        have ih157 := f_le h157
        show W _ _ _ _ _ _ _ _ _ _ _ _ 225 _ [(vi 1)]
        refine W.ifN (pc := 225) at_225 (n_eq (by decide)) ?_
        refine W.iconst (pc := 228) (1) at_228 (by decide) ?_
        refine W.goto (pc := 229) 233 at_229 (by decide) ?_
        refine W.istore (pc := 233) (ls' := #[iv z0, iv z1, iv z2, iv 2, iv (z0 &&& (255 : Int32)), iv ((XT.ushr z0 (8 : Int32)) &&& (255 : Int32)), iv 2, iv (z1 &&& (255 : Int32)), iv ((XT.ushr z1 (8 : Int32)) &&& (255 : Int32)), rv a153, rv a204, rv a205, iv 0, iv ((XT.ushr z2 (1 : Int32)) &&& (3 : Int32)), rv a207, t210, rv a211, iv 1, iv 1]) at_233 rfl ?_
        refine W.iload (pc := 235) at_235 rfl ?_
        refine W.iload (pc := 237) at_237 rfl ?_
        refine W.icmpN (pc := 239) at_239 (n_ne (by decide)) ?_
        refine W.iconst (pc := 242) (1) at_242 (by decide) ?_
        refine W.goto (pc := 243) 247 at_243 (by decide) ?_
        exact W.ireturn (pc := 247) at_247 rfl (Or.inr (Or.inl rfl)) (nw_bool (by decide)) (by decide) rfl
     refine W.aconstNull (pc := 161) at_161 ?_
     refine W.astore (pc := 162) (ls' := #[iv z0, iv z1, iv z2, iv 2, iv (z0 &&& (255 : Int32)), iv ((XT.ushr z0 (8 : Int32)) &&& (255 : Int32)), iv 2, iv (z1 &&& (255 : Int32)), iv ((XT.ushr z1 (8 : Int32)) &&& (255 : Int32)), rv a153, rv a204, rv a205, iv 0, iv ((XT.ushr z2 (1 : Int32)) &&& (3 : Int32)), rv a207, .val .null, uu, uu, uu]) at_162 rfl rfl ?_
     refine W.iload (pc := 164) at_164 rfl ?_
     refine W.iconst (pc := 166) (1) at_166 (by decide) ?_
     refine W.icmp (pc := 167) 174 at_167 (by decide) (fun h158 => ?_) (fun h158 => ?_)
     ·
      have ih158 := t_ne h158
      refine W.iload (pc := 174) at_174 rfl ?_
      refine W.iconst (pc := 176) (2) at_176 (by decide) ?_
      refine W.icmp (pc := 177) 184 at_177 (by decide) (fun h159 => ?_) (fun h159 => ?_)
      ·
       have ih159 := t_ne h159
       refine W.new (pc := 184) at_184 (w23 hw) (w24 hw) (w25 hw) (laTimeRange hw) (by decide) (by decide) (fun a214 => ?_)
       show W _ _ _ _ _ _ _ _ _ _ _ _ 187 _ [(vr a214)]
       refine W.dup (pc := 187) at_187 rfl ?_
       refine W.aload (pc := 188) 15 at_188 rfl rfl ?_
       refine W.aload (pc := 190) 14 at_190 rfl rfl ?_
       refine W.callI (pc := 192) (as := [.null, (vr a207)]) 1 [(vr a214)] at_192 rfl (w26 hw) (w27 hw) (w25 hw) (w28 hw) (c49_init hw hs (p1 := a214) (p2 := a207) (p3 := a208) (x1 := (z1 &&& (255 : Int32)).toInt8.toInt32) (hx1 := (by have := rng32 z1; have := q255; have := am_255 z1; have := a_i2b (z1 &&& (255 : Int32)); omega)) (x2 := ((XT.ushr z1 (8 : Int32)) &&& (255 : Int32)).toInt8.toInt32) (hx2 := (by have := rng32 z1; have := q8; have := aushr_8 z1; have := q255; have := am_255 (XT.ushr z1 (8 : Int32)); have := a_i2b ((XT.ushr z1 (8 : Int32)) &&& (255 : Int32)); omega))) (by decide) pd_Ljava_lang_String_Ljava_lang_String__V rfl rfl rfl rfl (by decide) (fun v D' h => ?_)
       obtain ⟨rfl, rfl⟩ := h
       show W _ _ _ _ _ _ _ _ _ _ _ _ 195 _ [(vr a214)]
       refine W.astore (pc := 195) (ls' := #[iv z0, iv z1, iv z2, iv 2, iv (z0 &&& (255 : Int32)), iv ((XT.ushr z0 (8 : Int32)) &&& (255 : Int32)), iv 2, iv (z1 &&& (255 : Int32)), iv ((XT.ushr z1 (8 : Int32)) &&& (255 : Int32)), rv a153, rv a204, rv a205, iv 0, iv ((XT.ushr z2 (1 : Int32)) &&& (3 : Int32)), rv a207, .val .null, rv a214, uu, uu]) at_195 rfl rfl ?_
       refine W.front 6 (D' := (a153, true, ar "[C" .char [(vi (z0 &&& (255 : Int32))), (vi ((XT.ushr z0 (8 : Int32)) &&& (255 : Int32)))]) :: (a214, true, oTimeRange .null (vr a207)) :: (a208, true, ar "[B" .byte [(vi (z1 &&& (255 : Int32)).toInt8.toInt32), (vi ((XT.ushr z1 (8 : Int32)) &&& (255 : Int32)).toInt8.toInt32)]) :: (a207, true, oString (vr a208) (vi 0)) :: (a206, true, ar "[B" .byte [(vi (z0 &&& (255 : Int32)).toInt8.toInt32), (vi ((XT.ushr z0 (8 : Int32)) &&& (255 : Int32)).toInt8.toInt32)]) :: (a205, true, oString (vr a206) (vi 0)) :: (a204, true, ar "[C" .char [(vi (z1 &&& (255 : Int32))), (vi ((XT.ushr z1 (8 : Int32)) &&& (255 : Int32)))]) :: []) rfl rfl ?_
       refine W.front 6 (D' := (a204, true, ar "[C" .char [(vi (z1 &&& (255 : Int32))), (vi ((XT.ushr z1 (8 : Int32)) &&& (255 : Int32)))]) :: (a153, true, ar "[C" .char [(vi (z0 &&& (255 : Int32))), (vi ((XT.ushr z0 (8 : Int32)) &&& (255 : Int32)))]) :: (a214, true, oTimeRange .null (vr a207)) :: (a208, true, ar "[B" .byte [(vi (z1 &&& (255 : Int32)).toInt8.toInt32), (vi ((XT.ushr z1 (8 : Int32)) &&& (255 : Int32)).toInt8.toInt32)]) :: (a207, true, oString (vr a208) (vi 0)) :: (a206, true, ar "[B" .byte [(vi (z0 &&& (255 : Int32)).toInt8.toInt32), (vi ((XT.ushr z0 (8 : Int32)) &&& (255 : Int32)).toInt8.toInt32)]) :: (a205, true, oString (vr a206) (vi 0)) :: []) rfl rfl ?_
       refine W.front 6 (D' := (a205, true, oString (vr a206) (vi 0)) :: (a204, true, ar "[C" .char [(vi (z1 &&& (255 : Int32))), (vi ((XT.ushr z1 (8 : Int32)) &&& (255 : Int32)))]) :: (a153, true, ar "[C" .char [(vi (z0 &&& (255 : Int32))), (vi ((XT.ushr z0 (8 : Int32)) &&& (255 : Int32)))]) :: (a214, true, oTimeRange .null (vr a207)) :: (a208, true, ar "[B" .byte [(vi (z1 &&& (255 : Int32)).toInt8.toInt32), (vi ((XT.ushr z1 (8 : Int32)) &&& (255 : Int32)).toInt8.toInt32)]) :: (a207, true, oString (vr a208) (vi 0)) :: (a206, true, ar "[B" .byte [(vi (z0 &&& (255 : Int32)).toInt8.toInt32), (vi ((XT.ushr z0 (8 : Int32)) &&& (255 : Int32)).toInt8.toInt32)]) :: []) rfl rfl ?_
       refine W.front 6 (D' := (a206, true, ar "[B" .byte [(vi (z0 &&& (255 : Int32)).toInt8.toInt32), (vi ((XT.ushr z0 (8 : Int32)) &&& (255 : Int32)).toInt8.toInt32)]) :: (a205, true, oString (vr a206) (vi 0)) :: (a204, true, ar "[C" .char [(vi (z1 &&& (255 : Int32))), (vi ((XT.ushr z1 (8 : Int32)) &&& (255 : Int32)))]) :: (a153, true, ar "[C" .char [(vi (z0 &&& (255 : Int32))), (vi ((XT.ushr z0 (8 : Int32)) &&& (255 : Int32)))]) :: (a214, true, oTimeRange .null (vr a207)) :: (a208, true, ar "[B" .byte [(vi (z1 &&& (255 : Int32)).toInt8.toInt32), (vi ((XT.ushr z1 (8 : Int32)) &&& (255 : Int32)).toInt8.toInt32)]) :: (a207, true, oString (vr a208) (vi 0)) :: []) rfl rfl ?_
       refine W.front 6 (D' := (a207, true, oString (vr a208) (vi 0)) :: (a206, true, ar "[B" .byte [(vi (z0 &&& (255 : Int32)).toInt8.toInt32), (vi ((XT.ushr z0 (8 : Int32)) &&& (255 : Int32)).toInt8.toInt32)]) :: (a205, true, oString (vr a206) (vi 0)) :: (a204, true, ar "[C" .char [(vi (z1 &&& (255 : Int32))), (vi ((XT.ushr z1 (8 : Int32)) &&& (255 : Int32)))]) :: (a153, true, ar "[C" .char [(vi (z0 &&& (255 : Int32))), (vi ((XT.ushr z0 (8 : Int32)) &&& (255 : Int32)))]) :: (a214, true, oTimeRange .null (vr a207)) :: (a208, true, ar "[B" .byte [(vi (z1 &&& (255 : Int32)).toInt8.toInt32), (vi ((XT.ushr z1 (8 : Int32)) &&& (255 : Int32)).toInt8.toInt32)]) :: []) rfl rfl ?_
       refine W.front 6 (D' := (a208, true, ar "[B" .byte [(vi (z1 &&& (255 : Int32)).toInt8.toInt32), (vi ((XT.ushr z1 (8 : Int32)) &&& (255 : Int32)).toInt8.toInt32)]) :: (a207, true, oString (vr a208) (vi 0)) :: (a206, true, ar "[B" .byte [(vi (z0 &&& (255 : Int32)).toInt8.toInt32), (vi ((XT.ushr z0 (8 : Int32)) &&& (255 : Int32)).toInt8.toInt32)]) :: (a205, true, oString (vr a206) (vi 0)) :: (a204, true, ar "[C" .char [(vi (z1 &&& (255 : Int32))), (vi ((XT.ushr z1 (8 : Int32)) &&& (255 : Int32)))]) :: (a153, true, ar "[C" .char [(vi (z0 &&& (255 : Int32))), (vi ((XT.ushr z0 (8 : Int32)) &&& (255 : Int32)))]) :: (a214, true, oTimeRange .null (vr a207)) :: []) rfl rfl ?_
       exact W.mono (by decide) (by decide) (K213 (.val .null) a214 .null (Or.inr ⟨_, rfl, rfl⟩) rfl)
      ·
       have ih159 := f_ne h159
       refine W.aload (pc := 180) 14 at_180 rfl rfl ?_
       refine W.astore (pc := 182) (ls' := #[iv z0, iv z1, iv z2, iv 2, iv (z0 &&& (255 : Int32)), iv ((XT.ushr z0 (8 : Int32)) &&& (255 : Int32)), iv 2, iv (z1 &&& (255 : Int32)), iv ((XT.ushr z1 (8 : Int32)) &&& (255 : Int32)), rv a153, rv a204, rv a205, iv 0, iv ((XT.ushr z2 (1 : Int32)) &&& (3 : Int32)), rv a207, rv a207, uu, uu, uu]) at_182 rfl rfl ?_
       refine W.new (pc := 184) at_184 (w23 hw) (w24 hw) (w25 hw) (laTimeRange hw) (by decide) (by decide) (fun a215 => ?_)
       show W _ _ _ _ _ _ _ _ _ _ _ _ 187 _ [(vr a215)]
       refine W.dup (pc := 187) at_187 rfl ?_
       refine W.aload (pc := 188) 15 at_188 rfl rfl ?_
       refine W.aload (pc := 190) 14 at_190 rfl rfl ?_
       refine W.callI (pc := 192) (as := [(vr a207), (vr a207)]) 1 [(vr a215)] at_192 rfl (w26 hw) (w27 hw) (w25 hw) (w28 hw) (c50_init hw hs (p1 := a215) (p2 := a207) (p3 := a208) (x1 := (z1 &&& (255 : Int32)).toInt8.toInt32) (hx1 := (by have := rng32 z1; have := q255; have := am_255 z1; have := a_i2b (z1 &&& (255 : Int32)); omega)) (x2 := ((XT.ushr z1 (8 : Int32)) &&& (255 : Int32)).toInt8.toInt32) (hx2 := (by have := rng32 z1; have := q8; have := aushr_8 z1; have := q255; have := am_255 (XT.ushr z1 (8 : Int32)); have := a_i2b ((XT.ushr z1 (8 : Int32)) &&& (255 : Int32)); omega)) (mp2 := m1) (mp3 := m0)) (by decide) pd_Ljava_lang_String_Ljava_lang_String__V rfl rfl rfl rfl (by decide) (fun v D' h => ?_)
       obtain ⟨rfl, rfl⟩ := h
       show W _ _ _ _ _ _ _ _ _ _ _ _ 195 _ [(vr a215)]
       refine W.astore (pc := 195) (ls' := #[iv z0, iv z1, iv z2, iv 2, iv (z0 &&& (255 : Int32)), iv ((XT.ushr z0 (8 : Int32)) &&& (255 : Int32)), iv 2, iv (z1 &&& (255 : Int32)), iv ((XT.ushr z1 (8 : Int32)) &&& (255 : Int32)), rv a153, rv a204, rv a205, iv 0, iv ((XT.ushr z2 (1 : Int32)) &&& (3 : Int32)), rv a207, rv a207, rv a215, uu, uu]) at_195 rfl rfl ?_
       refine W.front 6 (D' := (a153, true, ar "[C" .char [(vi (z0 &&& (255 : Int32))), (vi ((XT.ushr z0 (8 : Int32)) &&& (255 : Int32)))]) :: (a215, true, oTimeRange (vr a207) (vr a207)) :: (a208, true, ar "[B" .byte [(vi (z1 &&& (255 : Int32)).toInt8.toInt32), (vi ((XT.ushr z1 (8 : Int32)) &&& (255 : Int32)).toInt8.toInt32)]) :: (a207, true, oString (vr a208) (vi 0)) :: (a206, true, ar "[B" .byte [(vi (z0 &&& (255 : Int32)).toInt8.toInt32), (vi ((XT.ushr z0 (8 : Int32)) &&& (255 : Int32)).toInt8.toInt32)]) :: (a205, true, oString (vr a206) (vi 0)) :: (a204, true, ar "[C" .char [(vi (z1 &&& (255 : Int32))), (vi ((XT.ushr z1 (8 : Int32)) &&& (255 : Int32)))]) :: []) rfl rfl ?_
       refine W.front 6 (D' := (a204, true, ar "[C" .char [(vi (z1 &&& (255 : Int32))), (vi ((XT.ushr z1 (8 : Int32)) &&& (255 : Int32)))]) :: (a153, true, ar "[C" .char [(vi (z0 &&& (255 : Int32))), (vi ((XT.ushr z0 (8 : Int32)) &&& (255 : Int32)))]) :: (a215, true, oTimeRange (vr a207) (vr a207)) :: (a208, true, ar "[B" .byte [(vi (z1 &&& (255 : Int32)).toInt8.toInt32), (vi ((XT.ushr z1 (8 : Int32)) &&& (255 : Int32)).toInt8.toInt32)]) :: (a207, true, oString (vr a208) (vi 0)) :: (a206, true, ar "[B" .byte [(vi (z0 &&& (255 : Int32)).toInt8.toInt32), (vi ((XT.ushr z0 (8 : Int32)) &&& (255 : Int32)).toInt8.toInt32)]) :: (a205, true, oString (vr a206) (vi 0)) :: []) rfl rfl ?_
       refine W.front 6 (D' := (a205, true, oString (vr a206) (vi 0)) :: (a204, true, ar "[C" .char [(vi (z1 &&& (255 : Int32))), (vi ((XT.ushr z1 (8 : Int32)) &&& (255 : Int32)))]) :: (a153, true, ar "[C" .char [(vi (z0 &&& (255 : Int32))), (vi ((XT.ushr z0 (8 : Int32)) &&& (255 : Int32)))]) :: (a215, true, oTimeRange (vr a207) (vr a207)) :: (a208, true, ar "[B" .byte [(vi (z1 &&& (255 : Int32)).toInt8.toInt32), (vi ((XT.ushr z1 (8 : Int32)) &&& (255 : Int32)).toInt8.toInt32)]) :: (a207, true, oString (vr a208) (vi 0)) :: (a206, true, ar "[B" .byte [(vi (z0 &&& (255 : Int32)).toInt8.toInt32), (vi ((XT.ushr z0 (8 : Int32)) &&& (255 : Int32)).toInt8.toInt32)]) :: []) rfl rfl ?_
       refine W.front 6 (D' := (a206, true, ar "[B" .byte [(vi (z0 &&& (255 : Int32)).toInt8.toInt32), (vi ((XT.ushr z0 (8 : Int32)) &&& (255 : Int32)).toInt8.toInt32)]) :: (a205, true, oString (vr a206) (vi 0)) :: (a204, true, ar "[C" .char [(vi (z1 &&& (255 : Int32))), (vi ((XT.ushr z1 (8 : Int32)) &&& (255 : Int32)))]) :: (a153, true, ar "[C" .char [(vi (z0 &&& (255 : Int32))), (vi ((XT.ushr z0 (8 : Int32)) &&& (255 : Int32)))]) :: (a215, true, oTimeRange (vr a207) (vr a207)) :: (a208, true, ar "[B" .byte [(vi (z1 &&& (255 : Int32)).toInt8.toInt32), (vi ((XT.ushr z1 (8 : Int32)) &&& (255 : Int32)).toInt8.toInt32)]) :: (a207, true, oString (vr a208) (vi 0)) :: []) rfl rfl ?_
       refine W.front 6 (D' := (a207, true, oString (vr a208) (vi 0)) :: (a206, true, ar "[B" .byte [(vi (z0 &&& (255 : Int32)).toInt8.toInt32), (vi ((XT.ushr z0 (8 : Int32)) &&& (255 : Int32)).toInt8.toInt32)]) :: (a205, true, oString (vr a206) (vi 0)) :: (a204, true, ar "[C" .char [(vi (z1 &&& (255 : Int32))), (vi ((XT.ushr z1 (8 : Int32)) &&& (255 : Int32)))]) :: (a153, true, ar "[C" .char [(vi (z0 &&& (255 : Int32))), (vi ((XT.ushr z0 (8 : Int32)) &&& (255 : Int32)))]) :: (a215, true, oTimeRange (vr a207) (vr a207)) :: (a208, true, ar "[B" .byte [(vi (z1 &&& (255 : Int32)).toInt8.toInt32), (vi ((XT.ushr z1 (8 : Int32)) &&& (255 : Int32)).toInt8.toInt32)]) :: []) rfl rfl ?_
       refine W.front 6 (D' := (a208, true, ar "[B" .byte [(vi (z1 &&& (255 : Int32)).toInt8.toInt32), (vi ((XT.ushr z1 (8 : Int32)) &&& (255 : Int32)).toInt8.toInt32)]) :: (a207, true, oString (vr a208) (vi 0)) :: (a206, true, ar "[B" .byte [(vi (z0 &&& (255 : Int32)).toInt8.toInt32), (vi ((XT.ushr z0 (8 : Int32)) &&& (255 : Int32)).toInt8.toInt32)]) :: (a205, true, oString (vr a206) (vi 0)) :: (a204, true, ar "[C" .char [(vi (z1 &&& (255 : Int32))), (vi ((XT.ushr z1 (8 : Int32)) &&& (255 : Int32)))]) :: (a153, true, ar "[C" .char [(vi (z0 &&& (255 : Int32))), (vi ((XT.ushr z0 (8 : Int32)) &&& (255 : Int32)))]) :: (a215, true, oTimeRange (vr a207) (vr a207)) :: []) rfl rfl ?_
       exact W.mono (by decide) (by decide) (K213 (rv a207) a215 (vr a207) (Or.inr ⟨_, rfl, rfl⟩) rfl)
     ·
      have ih158 := f_ne h158
      refine W.ldcT (pc := 170) 0 (vs := []) rfl at_170 (w22 hw) (wS hw) m0 tx_ (by decide) (by decide) (by decide) (fun a216 a217 => ?_)
      show W _ _ _ _ _ _ _ _ _ _ _ _ 172 _ [(vr a216)]
      refine W.astore (pc := 172) (ls' := #[iv z0, iv z1, iv z2, iv 2, iv (z0 &&& (255 : Int32)), iv ((XT.ushr z0 (8 : Int32)) &&& (255 : Int32)), iv 2, iv (z1 &&& (255 : Int32)), iv ((XT.ushr z1 (8 : Int32)) &&& (255 : Int32)), rv a153, rv a204, rv a205, iv 0, iv ((XT.ushr z2 (1 : Int32)) &&& (3 : Int32)), rv a207, rv a216, uu, uu, uu]) at_172 rfl rfl ?_
      refine W.iload (pc := 174) at_174 rfl ?_
      refine W.iconst (pc := 176) (2) at_176 (by decide) ?_
      refine W.icmpY (pc := 177) 184 at_177 (y_ne (by have := rng32 z2; have := q1; have := aushr_1 z2; have := q3; have := am_3 (XT.ushr z2 (1 : Int32)); have := q2; omega)) (by decide) ?_
      refine W.new (pc := 184) at_184 (w23 hw) (w24 hw) (w25 hw) (laTimeRange hw) (by decide) (by decide) (fun a218 => ?_)
      show W _ _ _ _ _ _ _ _ _ _ _ _ 187 _ [(vr a218)]
      refine W.dup (pc := 187) at_187 rfl ?_
      refine W.aload (pc := 188) 15 at_188 rfl rfl ?_
      refine W.aload (pc := 190) 14 at_190 rfl rfl ?_
      refine W.callI (pc := 192) (as := [(vr a216), (vr a207)]) 1 [(vr a218)] at_192 rfl (w26 hw) (w27 hw) (w25 hw) (w28 hw) (c57_init hw hs (p1 := a218) (p2 := a216) (p3 := a207) (p4 := a217) (p5 := a208) (x1 := (z1 &&& (255 : Int32)).toInt8.toInt32) (hx1 := (by have := rng32 z1; have := q255; have := am_255 z1; have := a_i2b (z1 &&& (255 : Int32)); omega)) (x2 := ((XT.ushr z1 (8 : Int32)) &&& (255 : Int32)).toInt8.toInt32) (hx2 := (by have := rng32 z1; have := q8; have := aushr_8 z1; have := q255; have := am_255 (XT.ushr z1 (8 : Int32)); have := a_i2b ((XT.ushr z1 (8 : Int32)) &&& (255 : Int32)); omega)) (mp2 := m0) (mp3 := m3) (mp4 := m1) (mp5 := m2)) (by decide) pd_Ljava_lang_String_Ljava_lang_String__V rfl rfl rfl rfl (by decide) (fun v D' h => ?_)
      obtain ⟨rfl, rfl⟩ := h
      show W _ _ _ _ _ _ _ _ _ _ _ _ 195 _ [(vr a218)]
      refine W.astore (pc := 195) (ls' := #[iv z0, iv z1, iv z2, iv 2, iv (z0 &&& (255 : Int32)), iv ((XT.ushr z0 (8 : Int32)) &&& (255 : Int32)), iv 2, iv (z1 &&& (255 : Int32)), iv ((XT.ushr z1 (8 : Int32)) &&& (255 : Int32)), rv a153, rv a204, rv a205, iv 0, iv ((XT.ushr z2 (1 : Int32)) &&& (3 : Int32)), rv a207, rv a216, rv a218, uu, uu]) at_195 rfl rfl ?_
      refine W.front 8 (D' := (a153, true, ar "[C" .char [(vi (z0 &&& (255 : Int32))), (vi ((XT.ushr z0 (8 : Int32)) &&& (255 : Int32)))]) :: (a218, true, oTimeRange (vr a216) (vr a207)) :: (a216, false, oString (vr a217) (vi 0)) :: (a217, false, ar "" .byte []) :: (a208, true, ar "[B" .byte [(vi (z1 &&& (255 : Int32)).toInt8.toInt32), (vi ((XT.ushr z1 (8 : Int32)) &&& (255 : Int32)).toInt8.toInt32)]) :: (a207, true, oString (vr a208) (vi 0)) :: (a206, true, ar "[B" .byte [(vi (z0 &&& (255 : Int32)).toInt8.toInt32), (vi ((XT.ushr z0 (8 : Int32)) &&& (255 : Int32)).toInt8.toInt32)]) :: (a205, true, oString (vr a206) (vi 0)) :: (a204, true, ar "[C" .char [(vi (z1 &&& (255 : Int32))), (vi ((XT.ushr z1 (8 : Int32)) &&& (255 : Int32)))]) :: []) rfl rfl ?_
      refine W.front 8 (D' := (a204, true, ar "[C" .char [(vi (z1 &&& (255 : Int32))), (vi ((XT.ushr z1 (8 : Int32)) &&& (255 : Int32)))]) :: (a153, true, ar "[C" .char [(vi (z0 &&& (255 : Int32))), (vi ((XT.ushr z0 (8 : Int32)) &&& (255 : Int32)))]) :: (a218, true, oTimeRange (vr a216) (vr a207)) :: (a216, false, oString (vr a217) (vi 0)) :: (a217, false, ar "" .byte []) :: (a208, true, ar "[B" .byte [(vi (z1 &&& (255 : Int32)).toInt8.toInt32), (vi ((XT.ushr z1 (8 : Int32)) &&& (255 : Int32)).toInt8.toInt32)]) :: (a207, true, oString (vr a208) (vi 0)) :: (a206, true, ar "[B" .byte [(vi (z0 &&& (255 : Int32)).toInt8.toInt32), (vi ((XT.ushr z0 (8 : Int32)) &&& (255 : Int32)).toInt8.toInt32)]) :: (a205, true, oString (vr a206) (vi 0)) :: []) rfl rfl ?_
      refine W.front 8 (D' := (a205, true, oString (vr a206) (vi 0)) :: (a204, true, ar "[C" .char [(vi (z1 &&& (255 : Int32))), (vi ((XT.ushr z1 (8 : Int32)) &&& (255 : Int32)))]) :: (a153, true, ar "[C" .char [(vi (z0 &&& (255 : Int32))), (vi ((XT.ushr z0 (8 : Int32)) &&& (255 : Int32)))]) :: (a218, true, oTimeRange (vr a216) (vr a207)) :: (a216, false, oString (vr a217) (vi 0)) :: (a217, false, ar "" .byte []) :: (a208, true, ar "[B" .byte [(vi (z1 &&& (255 : Int32)).toInt8.toInt32), (vi ((XT.ushr z1 (8 : Int32)) &&& (255 : Int32)).toInt8.toInt32)]) :: (a207, true, oString (vr a208) (vi 0)) :: (a206, true, ar "[B" .byte [(vi (z0 &&& (255 : Int32)).toInt8.toInt32), (vi ((XT.ushr z0 (8 : Int32)) &&& (255 : Int32)).toInt8.toInt32)]) :: []) rfl rfl ?_
      refine W.front 8 (D' := (a206, true, ar "[B" .byte [(vi (z0 &&& (255 : Int32)).toInt8.toInt32), (vi ((XT.ushr z0 (8 : Int32)) &&& (255 : Int32)).toInt8.toInt32)]) :: (a205, true, oString (vr a206) (vi 0)) :: (a204, true, ar "[C" .char [(vi (z1 &&& (255 : Int32))), (vi ((XT.ushr z1 (8 : Int32)) &&& (255 : Int32)))]) :: (a153, true, ar "[C" .char [(vi (z0 &&& (255 : Int32))), (vi ((XT.ushr z0 (8 : Int32)) &&& (255 : Int32)))]) :: (a218, true, oTimeRange (vr a216) (vr a207)) :: (a216, false, oString (vr a217) (vi 0)) :: (a217, false, ar "" .byte []) :: (a208, true, ar "[B" .byte [(vi (z1 &&& (255 : Int32)).toInt8.toInt32), (vi ((XT.ushr z1 (8 : Int32)) &&& (255 : Int32)).toInt8.toInt32)]) :: (a207, true, oString (vr a208) (vi 0)) :: []) rfl rfl ?_
      refine W.front 8 (D' := (a207, true, oString (vr a208) (vi 0)) :: (a206, true, ar "[B" .byte [(vi (z0 &&& (255 : Int32)).toInt8.toInt32), (vi ((XT.ushr z0 (8 : Int32)) &&& (255 : Int32)).toInt8.toInt32)]) :: (a205, true, oString (vr a206) (vi 0)) :: (a204, true, ar "[C" .char [(vi (z1 &&& (255 : Int32))), (vi ((XT.ushr z1 (8 : Int32)) &&& (255 : Int32)))]) :: (a153, true, ar "[C" .char [(vi (z0 &&& (255 : Int32))), (vi ((XT.ushr z0 (8 : Int32)) &&& (255 : Int32)))]) :: (a218, true, oTimeRange (vr a216) (vr a207)) :: (a216, false, oString (vr a217) (vi 0)) :: (a217, false, ar "" .byte []) :: (a208, true, ar "[B" .byte [(vi (z1 &&& (255 : Int32)).toInt8.toInt32), (vi ((XT.ushr z1 (8 : Int32)) &&& (255 : Int32)).toInt8.toInt32)]) :: []) rfl rfl ?_
      refine W.front 8 (D' := (a208, true, ar "[B" .byte [(vi (z1 &&& (255 : Int32)).toInt8.toInt32), (vi ((XT.ushr z1 (8 : Int32)) &&& (255 : Int32)).toInt8.toInt32)]) :: (a207, true, oString (vr a208) (vi 0)) :: (a206, true, ar "[B" .byte [(vi (z0 &&& (255 : Int32)).toInt8.toInt32), (vi ((XT.ushr z0 (8 : Int32)) &&& (255 : Int32)).toInt8.toInt32)]) :: (a205, true, oString (vr a206) (vi 0)) :: (a204, true, ar "[C" .char [(vi (z1 &&& (255 : Int32))), (vi ((XT.ushr z1 (8 : Int32)) &&& (255 : Int32)))]) :: (a153, true, ar "[C" .char [(vi (z0 &&& (255 : Int32))), (vi ((XT.ushr z0 (8 : Int32)) &&& (255 : Int32)))]) :: (a218, true, oTimeRange (vr a216) (vr a207)) :: (a216, false, oString (vr a217) (vi 0)) :: (a217, false, ar "" .byte []) :: []) rfl rfl ?_
      refine W.heap (fun _ _ H => H.sub ((((((((((List.Sublist.refl _).cons _).cons _).cons_cons _).cons_cons _).cons_cons _).cons_cons _).cons_cons _).cons_cons _).cons_cons _)) ?_
      exact W.mono (by decide) (by decide) (K213 (rv a216) a218 (vr a216) (Or.inr ⟨_, rfl, rfl⟩) rfl)
    ·
     have ih105 := f_eq h105
     refine W.iconst (pc := 127) (1) at_127 (by decide) ?_
     refine W.goto (pc := 128) 132 at_128 (by decide) ?_
     refine W.istore (pc := 132) (ls' := #[iv z0, iv z1, iv z2, iv 2, iv (z0 &&& (255 : Int32)), iv ((XT.ushr z0 (8 : Int32)) &&& (255 : Int32)), iv 2, iv (z1 &&& (255 : Int32)), iv ((XT.ushr z1 (8 : Int32)) &&& (255 : Int32)), rv a153, rv a204, rv a205, iv 1, uu, uu, uu, uu, uu, uu]) at_132 rfl ?_
     refine W.iloadN (pc := 134) at_134 rfl ?_
     refine W.iconst (pc := 135) (1) at_135 (by decide) ?_
     refine W.iushr (pc := 136) at_136 ?_
     refine W.iconst (pc := 137) (3) at_137 (by decide) ?_
     refine W.iand (pc := 138) at_138 ?_
     refine W.istore (pc := 139) (ls' := #[iv z0, iv z1, iv z2, iv 2, iv (z0 &&& (255 : Int32)), iv ((XT.ushr z0 (8 : Int32)) &&& (255 : Int32)), iv 2, iv (z1 &&& (255 : Int32)), iv ((XT.ushr z1 (8 : Int32)) &&& (255 : Int32)), rv a153, rv a204, rv a205, iv 1, iv ((XT.ushr z2 (1 : Int32)) &&& (3 : Int32)), uu, uu, uu, uu, uu]) at_139 rfl ?_
     refine W.iload (pc := 141) at_141 rfl ?_
     refine W.ifN (pc := 143) at_143 (n_eq (by decide)) ?_
     refine W.aconstNull (pc := 146) at_146 ?_
     refine W.goto (pc := 147) 159 at_147 (by decide) ?_
     refine W.astore (pc := 159) (ls' := #[iv z0, iv z1, iv z2, iv 2, iv (z0 &&& (255 : Int32)), iv ((XT.ushr z0 (8 : Int32)) &&& (255 : Int32)), iv 2, iv (z1 &&& (255 : Int32)), iv ((XT.ushr z1 (8 : Int32)) &&& (255 : Int32)), rv a153, rv a204, rv a205, iv 1, iv ((XT.ushr z2 (1 : Int32)) &&& (3 : Int32)), .val .null, uu, uu, uu, uu]) at_159 rfl rfl ?_
     have K223 : ∀ (t220 : Slot) (a221 : Addr) (u222 : Value), SlOk t220 → u222.isRef = true → W Z EL room_1 "com/example/chainvouch/chainvouch/chain/TimeRangeStartsAfterPinLaw" "law" code maxLocals ret (fun v _ => v = some (.int 1)) ((a206, true, ar "[B" .byte [(vi (z0 &&& (255 : Int32)).toInt8.toInt32), (vi ((XT.ushr z0 (8 : Int32)) &&& (255 : Int32)).toInt8.toInt32)]) :: (a205, true, oString (vr a206) (vi 0)) :: (a204, true, ar "[C" .char [(vi (z1 &&& (255 : Int32))), (vi ((XT.ushr z1 (8 : Int32)) &&& (255 : Int32)))]) :: (a153, true, ar "[C" .char [(vi (z0 &&& (255 : Int32))), (vi ((XT.ushr z0 (8 : Int32)) &&& (255 : Int32)))]) :: (a221, true, oTimeRange u222 .null) :: []) 7 16 197 #[iv z0, iv z1, iv z2, iv 2, iv (z0 &&& (255 : Int32)), iv ((XT.ushr z0 (8 : Int32)) &&& (255 : Int32)), iv 2, iv (z1 &&& (255 : Int32)), iv ((XT.ushr z1 (8 : Int32)) &&& (255 : Int32)), rv a153, rv a204, rv a205, iv 1, iv ((XT.ushr z2 (1 : Int32)) &&& (3 : Int32)), .val .null, t220, rv a221, uu, uu] [] := by
      intro t220 a221 u222 ht220 hu222
      refine W.aload (pc := 197) 16 at_197 rfl rfl ?_
      refine W.aload (pc := 199) 11 at_199 rfl rfl ?_
      refine W.callV (pc := 201) (as := [(vr a205)]) 0 [] at_201 (w60 hw) (w61 hw) (w63 hw) (w63 hw) (w62 hw) (w25 hw) (w64 hw) (Hp.exa m4) (c95_startsAfter hw hs (p1 := a221) (p2 := a205) (p3 := a206) (x1 := (z0 &&& (255 : Int32)).toInt8.toInt32) (hx1 := (by have := rng32 z0; have := q255; have := am_255 z0; have := a_i2b (z0 &&& (255 : Int32)); omega)) (x2 := ((XT.ushr z0 (8 : Int32)) &&& (255 : Int32)).toInt8.toInt32) (hx2 := (by have := rng32 z0; have := q8; have := aushr_8 z0; have := q255; have := am_255 (XT.ushr z0 (8 : Int32)); have := a_i2b ((XT.ushr z0 (8 : Int32)) &&& (255 : Int32)); omega)) (u1 := u222) (hu1 := hu222) (mp1 := m4)) (by decide) pd_Ljava_lang_String__Z rfl rfl rfl rfl (by decide) (fun v D' h => ?_)
      obtain ⟨rfl, rfl⟩ := h
      show W _ _ _ _ _ _ _ _ _ _ _ _ 204 _ [(vi 0)]
      refine W.istore (pc := 204) (ls' := #[iv z0, iv z1, iv z2, iv 2, iv (z0 &&& (255 : Int32)), iv ((XT.ushr z0 (8 : Int32)) &&& (255 : Int32)), iv 2, iv (z1 &&& (255 : Int32)), iv ((XT.ushr z1 (8 : Int32)) &&& (255 : Int32)), rv a153, rv a204, rv a205, iv 1, iv ((XT.ushr z2 (1 : Int32)) &&& (3 : Int32)), .val .null, t220, rv a221, iv 0, uu]) at_204 rfl ?_
      refine W.iload (pc := 206) at_206 rfl ?_
      refine W.ifY (pc := 208) 232 at_208 (y_ne (by decide)) (by decide) ?_
      refine W.iconst (pc := 232) (0) at_232 (by decide) ?_
      refine W.istore (pc := 233) (ls' := #[iv z0, iv z1, iv z2, iv 2, iv (z0 &&& (255 : Int32)), iv ((XT.ushr z0 (8 : Int32)) &&& (255 : Int32)), iv 2, iv (z1 &&& (255 : Int32)), iv ((XT.ushr z1 (8 : Int32)) &&& (255 : Int32)), rv a153, rv a204, rv a205, iv 1, iv ((XT.ushr z2 (1 : Int32)) &&& (3 : Int32)), .val .null, t220, rv a221, iv 0, iv 0]) at_233 rfl ?_
      refine W.iload (pc := 235) at_235 rfl ?_
      refine W.iload (pc := 237) at_237 rfl ?_
      refine W.icmpN (pc := 239) at_239 (n_ne (by decide)) ?_
      refine W.iconst (pc := 242) (1) at_242 (by decide) ?_
      refine W.goto (pc := 243) 247 at_243 (by decide) ?_
      exact W.ireturn (pc := 247) at_247 rfl (Or.inr (Or.inl rfl)) (nw_bool (by decide)) (by decide) rfl
     refine W.aconstNull (pc := 161) at_161 ?_
     refine W.astore (pc := 162) (ls' := #[iv z0, iv z1, iv z2, iv 2, iv (z0 &&& (255 : Int32)), iv ((XT.ushr z0 (8 : Int32)) &&& (255 : Int32)), iv 2, iv (z1 &&& (255 : Int32)), iv ((XT.ushr z1 (8 : Int32)) &&& (255 : Int32)), rv a153, rv a204, rv a205, iv 1, iv ((XT.ushr z2 (1 : Int32)) &&& (3 : Int32)), .val .null, .val .null, uu, uu, uu]) at_162 rfl rfl ?_
     refine W.iload (pc := 164) at_164 rfl ?_
     refine W.iconst (pc := 166) (1) at_166 (by decide) ?_
     refine W.icmp (pc := 167) 174 at_167 (by decide) (fun h160 => ?_) (fun h160 => ?_)
     ·
      have ih160 := t_ne h160
      refine W.iload (pc := 174) at_174 rfl ?_
      refine W.iconst (pc := 176) (2) at_176 (by decide) ?_
      refine W.icmp (pc := 177) 184 at_177 (by decide) (fun h161 => ?_) (fun h161 => ?_)
      ·
       have ih161 := t_ne h161
       refine W.new (pc := 184) at_184 (w23 hw) (w24 hw) (w25 hw) (laTimeRange hw) (by decide) (by decide) (fun a224 => ?_)
       show W _ _ _ _ _ _ _ _ _ _ _ _ 187 _ [(vr a224)]
       refine W.dup (pc := 187) at_187 rfl ?_
       refine W.aload (pc := 188) 15 at_188 rfl rfl ?_
       refine W.aload (pc := 190) 14 at_190 rfl rfl ?_
       refine W.callI (pc := 192) (as := [.null, .null]) 1 [(vr a224)] at_192 rfl (w26 hw) (w27 hw) (w25 hw) (w28 hw) (c20_init hw hs (p1 := a224)) (by decide) pd_Ljava_lang_String_Ljava_lang_String__V rfl rfl rfl rfl (by decide) (fun v D' h => ?_)
       obtain ⟨rfl, rfl⟩ := h
       show W _ _ _ _ _ _ _ _ _ _ _ _ 195 _ [(vr a224)]
       refine W.astore (pc := 195) (ls' := #[iv z0, iv z1, iv z2, iv 2, iv (z0 &&& (255 : Int32)), iv ((XT.ushr z0 (8 : Int32)) &&& (255 : Int32)), iv 2, iv (z1 &&& (255 : Int32)), iv ((XT.ushr z1 (8 : Int32)) &&& (255 : Int32)), rv a153, rv a204, rv a205, iv 1, iv ((XT.ushr z2 (1 : Int32)) &&& (3 : Int32)), .val .null, .val .null, rv a224, uu, uu]) at_195 rfl rfl ?_
       refine W.front 4 (D' := (a153, true, ar "[C" .char [(vi (z0 &&& (255 : Int32))), (vi ((XT.ushr z0 (8 : Int32)) &&& (255 : Int32)))]) :: (a224, true, oTimeRange .null .null) :: (a206, true, ar "[B" .byte [(vi (z0 &&& (255 : Int32)).toInt8.toInt32), (vi ((XT.ushr z0 (8 : Int32)) &&& (255 : Int32)).toInt8.toInt32)]) :: (a205, true, oString (vr a206) (vi 0)) :: (a204, true, ar "[C" .char [(vi (z1 &&& (255 : Int32))), (vi ((XT.ushr z1 (8 : Int32)) &&& (255 : Int32)))]) :: []) rfl rfl ?_
       refine W.front 4 (D' := (a204, true, ar "[C" .char [(vi (z1 &&& (255 : Int32))), (vi ((XT.ushr z1 (8 : Int32)) &&& (255 : Int32)))]) :: (a153, true, ar "[C" .char [(vi (z0 &&& (255 : Int32))), (vi ((XT.ushr z0 (8 : Int32)) &&& (255 : Int32)))]) :: (a224, true, oTimeRange .null .null) :: (a206, true, ar "[B" .byte [(vi (z0 &&& (255 : Int32)).toInt8.toInt32), (vi ((XT.ushr z0 (8 : Int32)) &&& (255 : Int32)).toInt8.toInt32)]) :: (a205, true, oString (vr a206) (vi 0)) :: []) rfl rfl ?_
       refine W.front 4 (D' := (a205, true, oString (vr a206) (vi 0)) :: (a204, true, ar "[C" .char [(vi (z1 &&& (255 : Int32))), (vi ((XT.ushr z1 (8 : Int32)) &&& (255 : Int32)))]) :: (a153, true, ar "[C" .char [(vi (z0 &&& (255 : Int32))), (vi ((XT.ushr z0 (8 : Int32)) &&& (255 : Int32)))]) :: (a224, true, oTimeRange .null .null) :: (a206, true, ar "[B" .byte [(vi (z0 &&& (255 : Int32)).toInt8.toInt32), (vi ((XT.ushr z0 (8 : Int32)) &&& (255 : Int32)).toInt8.toInt32)]) :: []) rfl rfl ?_
       refine W.front 4 (D' := (a206, true, ar "[B" .byte [(vi (z0 &&& (255 : Int32)).toInt8.toInt32), (vi ((XT.ushr z0 (8 : Int32)) &&& (255 : Int32)).toInt8.toInt32)]) :: (a205, true, oString (vr a206) (vi 0)) :: (a204, true, ar "[C" .char [(vi (z1 &&& (255 : Int32))), (vi ((XT.ushr z1 (8 : Int32)) &&& (255 : Int32)))]) :: (a153, true, ar "[C" .char [(vi (z0 &&& (255 : Int32))), (vi ((XT.ushr z0 (8 : Int32)) &&& (255 : Int32)))]) :: (a224, true, oTimeRange .null .null) :: []) rfl rfl ?_
       exact W.mono (by decide) (by decide) (K223 (.val .null) a224 .null (Or.inr ⟨_, rfl, rfl⟩) rfl)
      ·
       have ih161 := f_ne h161
       refine W.aload (pc := 180) 14 at_180 rfl rfl ?_
       refine W.astore (pc := 182) (ls' := #[iv z0, iv z1, iv z2, iv 2, iv (z0 &&& (255 : Int32)), iv ((XT.ushr z0 (8 : Int32)) &&& (255 : Int32)), iv 2, iv (z1 &&& (255 : Int32)), iv ((XT.ushr z1 (8 : Int32)) &&& (255 : Int32)), rv a153, rv a204, rv a205, iv 1, iv ((XT.ushr z2 (1 : Int32)) &&& (3 : Int32)), .val .null, .val .null, uu, uu, uu]) at_182 rfl rfl ?_
       refine W.new (pc := 184) at_184 (w23 hw) (w24 hw) (w25 hw) (laTimeRange hw) (by decide) (by decide) (fun a225 => ?_)
       show W _ _ _ _ _ _ _ _ _ _ _ _ 187 _ [(vr a225)]
       refine W.dup (pc := 187) at_187 rfl ?_
       refine W.aload (pc := 188) 15 at_188 rfl rfl ?_
       refine W.aload (pc := 190) 14 at_190 rfl rfl ?_
       refine W.callI (pc := 192) (as := [.null, .null]) 1 [(vr a225)] at_192 rfl (w26 hw) (w27 hw) (w25 hw) (w28 hw) (c20_init hw hs (p1 := a225)) (by decide) pd_Ljava_lang_String_Ljava_lang_String__V rfl rfl rfl rfl (by decide) (fun v D' h => ?_)
       obtain ⟨rfl, rfl⟩ := h
       show W _ _ _ _ _ _ _ _ _ _ _ _ 195 _ [(vr a225)]
       refine W.astore (pc := 195) (ls' := #[iv z0, iv z1, iv z2, iv 2, iv (z0 &&& (255 : Int32)), iv ((XT.ushr z0 (8 : Int32)) &&& (255 : Int32)), iv 2, iv (z1 &&& (255 : Int32)), iv ((XT.ushr z1 (8 : Int32)) &&& (255 : Int32)), rv a153, rv a204, rv a205, iv 1, iv ((XT.ushr z2 (1 : Int32)) &&& (3 : Int32)), .val .null, .val .null, rv a225, uu, uu]) at_195 rfl rfl ?_
       refine W.front 4 (D' := (a153, true, ar "[C" .char [(vi (z0 &&& (255 : Int32))), (vi ((XT.ushr z0 (8 : Int32)) &&& (255 : Int32)))]) :: (a225, true, oTimeRange .null .null) :: (a206, true, ar "[B" .byte [(vi (z0 &&& (255 : Int32)).toInt8.toInt32), (vi ((XT.ushr z0 (8 : Int32)) &&& (255 : Int32)).toInt8.toInt32)]) :: (a205, true, oString (vr a206) (vi 0)) :: (a204, true, ar "[C" .char [(vi (z1 &&& (255 : Int32))), (vi ((XT.ushr z1 (8 : Int32)) &&& (255 : Int32)))]) :: []) rfl rfl ?_
       refine W.front 4 (D' := (a204, true, ar "[C" .char [(vi (z1 &&& (255 : Int32))), (vi ((XT.ushr z1 (8 : Int32)) &&& (255 : Int32)))]) :: (a153, true, ar "[C" .char [(vi (z0 &&& (255 : Int32))), (vi ((XT.ushr z0 (8 : Int32)) &&& (255 : Int32)))]) :: (a225, true, oTimeRange .null .null) :: (a206, true, ar "[B" .byte [(vi (z0 &&& (255 : Int32)).toInt8.toInt32), (vi ((XT.ushr z0 (8 : Int32)) &&& (255 : Int32)).toInt8.toInt32)]) :: (a205, true, oString (vr a206) (vi 0)) :: []) rfl rfl ?_
       refine W.front 4 (D' := (a205, true, oString (vr a206) (vi 0)) :: (a204, true, ar "[C" .char [(vi (z1 &&& (255 : Int32))), (vi ((XT.ushr z1 (8 : Int32)) &&& (255 : Int32)))]) :: (a153, true, ar "[C" .char [(vi (z0 &&& (255 : Int32))), (vi ((XT.ushr z0 (8 : Int32)) &&& (255 : Int32)))]) :: (a225, true, oTimeRange .null .null) :: (a206, true, ar "[B" .byte [(vi (z0 &&& (255 : Int32)).toInt8.toInt32), (vi ((XT.ushr z0 (8 : Int32)) &&& (255 : Int32)).toInt8.toInt32)]) :: []) rfl rfl ?_
       refine W.front 4 (D' := (a206, true, ar "[B" .byte [(vi (z0 &&& (255 : Int32)).toInt8.toInt32), (vi ((XT.ushr z0 (8 : Int32)) &&& (255 : Int32)).toInt8.toInt32)]) :: (a205, true, oString (vr a206) (vi 0)) :: (a204, true, ar "[C" .char [(vi (z1 &&& (255 : Int32))), (vi ((XT.ushr z1 (8 : Int32)) &&& (255 : Int32)))]) :: (a153, true, ar "[C" .char [(vi (z0 &&& (255 : Int32))), (vi ((XT.ushr z0 (8 : Int32)) &&& (255 : Int32)))]) :: (a225, true, oTimeRange .null .null) :: []) rfl rfl ?_
       exact W.mono (by decide) (by decide) (K223 (.val .null) a225 .null (Or.inr ⟨_, rfl, rfl⟩) rfl)
     ·
      have ih160 := f_ne h160
      refine W.ldcT (pc := 170) 0 (vs := []) rfl at_170 (w22 hw) (wS hw) m0 tx_ (by decide) (by decide) (by decide) (fun a226 a227 => ?_)
      show W _ _ _ _ _ _ _ _ _ _ _ _ 172 _ [(vr a226)]
      refine W.astore (pc := 172) (ls' := #[iv z0, iv z1, iv z2, iv 2, iv (z0 &&& (255 : Int32)), iv ((XT.ushr z0 (8 : Int32)) &&& (255 : Int32)), iv 2, iv (z1 &&& (255 : Int32)), iv ((XT.ushr z1 (8 : Int32)) &&& (255 : Int32)), rv a153, rv a204, rv a205, iv 1, iv ((XT.ushr z2 (1 : Int32)) &&& (3 : Int32)), .val .null, rv a226, uu, uu, uu]) at_172 rfl rfl ?_
      refine W.iload (pc := 174) at_174 rfl ?_
      refine W.iconst (pc := 176) (2) at_176 (by decide) ?_
      refine W.icmpY (pc := 177) 184 at_177 (y_ne (by have := rng32 z2; have := q1; have := aushr_1 z2; have := q3; have := am_3 (XT.ushr z2 (1 : Int32)); have := q2; omega)) (by decide) ?_
      refine W.new (pc := 184) at_184 (w23 hw) (w24 hw) (w25 hw) (laTimeRange hw) (by decide) (by decide) (fun a228 => ?_)
      show W _ _ _ _ _ _ _ _ _ _ _ _ 187 _ [(vr a228)]
      refine W.dup (pc := 187) at_187 rfl ?_
      refine W.aload (pc := 188) 15 at_188 rfl rfl ?_
      refine W.aload (pc := 190) 14 at_190 rfl rfl ?_
      refine W.callI (pc := 192) (as := [(vr a226), .null]) 1 [(vr a228)] at_192 rfl (w26 hw) (w27 hw) (w25 hw) (w28 hw) (c21_init hw hs (p1 := a228) (p2 := a226) (p3 := a227)) (by decide) pd_Ljava_lang_String_Ljava_lang_String__V rfl rfl rfl rfl (by decide) (fun v D' h => ?_)
      obtain ⟨rfl, rfl⟩ := h
      show W _ _ _ _ _ _ _ _ _ _ _ _ 195 _ [(vr a228)]
      refine W.astore (pc := 195) (ls' := #[iv z0, iv z1, iv z2, iv 2, iv (z0 &&& (255 : Int32)), iv ((XT.ushr z0 (8 : Int32)) &&& (255 : Int32)), iv 2, iv (z1 &&& (255 : Int32)), iv ((XT.ushr z1 (8 : Int32)) &&& (255 : Int32)), rv a153, rv a204, rv a205, iv 1, iv ((XT.ushr z2 (1 : Int32)) &&& (3 : Int32)), .val .null, rv a226, rv a228, uu, uu]) at_195 rfl rfl ?_
      refine W.front 6 (D' := (a153, true, ar "[C" .char [(vi (z0 &&& (255 : Int32))), (vi ((XT.ushr z0 (8 : Int32)) &&& (255 : Int32)))]) :: (a228, true, oTimeRange (vr a226) .null) :: (a226, false, oString (vr a227) (vi 0)) :: (a227, false, ar "" .byte []) :: (a206, true, ar "[B" .byte [(vi (z0 &&& (255 : Int32)).toInt8.toInt32), (vi ((XT.ushr z0 (8 : Int32)) &&& (255 : Int32)).toInt8.toInt32)]) :: (a205, true, oString (vr a206) (vi 0)) :: (a204, true, ar "[C" .char [(vi (z1 &&& (255 : Int32))), (vi ((XT.ushr z1 (8 : Int32)) &&& (255 : Int32)))]) :: []) rfl rfl ?_
      refine W.front 6 (D' := (a204, true, ar "[C" .char [(vi (z1 &&& (255 : Int32))), (vi ((XT.ushr z1 (8 : Int32)) &&& (255 : Int32)))]) :: (a153, true, ar "[C" .char [(vi (z0 &&& (255 : Int32))), (vi ((XT.ushr z0 (8 : Int32)) &&& (255 : Int32)))]) :: (a228, true, oTimeRange (vr a226) .null) :: (a226, false, oString (vr a227) (vi 0)) :: (a227, false, ar "" .byte []) :: (a206, true, ar "[B" .byte [(vi (z0 &&& (255 : Int32)).toInt8.toInt32), (vi ((XT.ushr z0 (8 : Int32)) &&& (255 : Int32)).toInt8.toInt32)]) :: (a205, true, oString (vr a206) (vi 0)) :: []) rfl rfl ?_
      refine W.front 6 (D' := (a205, true, oString (vr a206) (vi 0)) :: (a204, true, ar "[C" .char [(vi (z1 &&& (255 : Int32))), (vi ((XT.ushr z1 (8 : Int32)) &&& (255 : Int32)))]) :: (a153, true, ar "[C" .char [(vi (z0 &&& (255 : Int32))), (vi ((XT.ushr z0 (8 : Int32)) &&& (255 : Int32)))]) :: (a228, true, oTimeRange (vr a226) .null) :: (a226, false, oString (vr a227) (vi 0)) :: (a227, false, ar "" .byte []) :: (a206, true, ar "[B" .byte [(vi (z0 &&& (255 : Int32)).toInt8.toInt32), (vi ((XT.ushr z0 (8 : Int32)) &&& (255 : Int32)).toInt8.toInt32)]) :: []) rfl rfl ?_
      refine W.front 6 (D' := (a206, true, ar "[B" .byte [(vi (z0 &&& (255 : Int32)).toInt8.toInt32), (vi ((XT.ushr z0 (8 : Int32)) &&& (255 : Int32)).toInt8.toInt32)]) :: (a205, true, oString (vr a206) (vi 0)) :: (a204, true, ar "[C" .char [(vi (z1 &&& (255 : Int32))), (vi ((XT.ushr z1 (8 : Int32)) &&& (255 : Int32)))]) :: (a153, true, ar "[C" .char [(vi (z0 &&& (255 : Int32))), (vi ((XT.ushr z0 (8 : Int32)) &&& (255 : Int32)))]) :: (a228, true, oTimeRange (vr a226) .null) :: (a226, false, oString (vr a227) (vi 0)) :: (a227, false, ar "" .byte []) :: []) rfl rfl ?_
      refine W.heap (fun _ _ H => H.sub ((((((((List.Sublist.refl _).cons _).cons _).cons_cons _).cons_cons _).cons_cons _).cons_cons _).cons_cons _)) ?_
      exact W.mono (by decide) (by decide) (K223 (rv a226) a228 (vr a226) (Or.inr ⟨_, rfl, rfl⟩) rfl)
set_option maxRecDepth 65536 in
set_option maxHeartbeats 4000000 in
theorem comes_1 {Post : Tables → Env → Array Value → State → Outcome → State → Prop} (hpost : ∀ tb e args s v u, (limb_1_1.after args s (.returned v) u = true ∧ limb_1_2.after args s (.returned v) u = true ∧ True) → Jvm.D.FramedW s (.returned v) u (Jvm.fieldLocs frame_1_writes args s ++ Jvm.arrayLocs frame_1_arrays args s ++ Jvm.staticLocs frame_1_statics s) 32 2176 → Post tb e args s (.returned v) u) :
    ArmFor flags0 classFile x code maxLocals ret World_1 tables_1 room_1 Calls_1 rest_1 Pre_1 Post := by
  intro l hfl _ _ p e ha hc hk s m args below hf hA hF happ hP
  obtain ⟨hcalls, hrest, hpre⟩ := hP
  obtain ⟨-, -, -, hnamed, -, -, -, hat⟩ := (Spec.applies_iff hf).mp happ
  obtain ⟨hg, hn⟩ := and_e (Cond.before_iff.mp (show (Jvm.Cond.and given_1 narrow_1).before args s = true from hpre))
  obtain ⟨hcount, g0⟩ := and_e hg
  obtain ⟨w0, w1, w2, rfl⟩ : ∃ w0 w1 w2 : Value, args = #[w0, w1, w2] := by
    have hs : args.size = 3 := by simpa [Cond.value, given_1] using hcount
    obtain ⟨L⟩ := args
    match L, hs with
    | [w0, w1, w2], _ => exact ⟨w0, w1, w2, rfl⟩
  have hw := fun d (hd : d ∈ tables_1) => atoms_spec (ws := Jvm.Cond.code x code maxLocals ret :: tables_1) hat d (List.mem_cons_of_mem _ hd)
  have hsets := (atoms_of jdkStatics_1 (show (jdkStatics_1.foldr Jvm.Cond.and restOwn_1).before _ s = true from by rw [← rest_1_c_eq]; exact hrest)).1
  obtain ⟨k0, g1⟩ := and_e g0
  obtain ⟨k1, g2⟩ := and_e g1
  have k2 := g2
  obtain ⟨z0, y0⟩ := is_v k0
  obtain rfl : w0 = (.int z0) := Option.some.inj y0
  obtain ⟨z1, y1⟩ := is_v k1
  obtain rfl : w1 = (.int z1) := Option.some.inj y1
  obtain ⟨z2, y2⟩ := is_v k2
  obtain rfl : w2 = (.int z2) := Option.some.inj y2
  have n0 := hn
  have hSF : SF s := ⟨sf_int (hsets _ (List.mem_of_getElem? (i := 0) rfl)) (hsets _ (List.mem_of_getElem? (i := 1) rfl)), sf_nz (hsets _ (List.mem_of_getElem? (i := 1) rfl)) (hsets _ (List.mem_of_getElem? (i := 2) rfl)), trivial⟩
  have hE : EW s _ EL.2 := (EW.cons (w22 hw) (by decide) (EW.cons (w14 hw) (by decide) EW.nil))
  have hCH : CHv s EL.2 s.vm s.heap := CHv.start hE (fun q hq => hcalls.1 q hq) (hsets _ (List.mem_of_getElem? (i := 2) rfl)) (w15 hw) (w2 hw)
  have hHp := Hp.start hCH
  obtain ⟨nn, o, q1, q2, q3, v, L, rfl, N, ⟨D', -, rfl⟩, hq, hWH⟩ := lawW (Z := s) hw hSF z0 z1 z2 ⟨⟨_, hE⟩, by decide⟩ l tables_1 p e ha hc hk s m _ below hf ((Spec.applies_iff_loose hf).mp happ).1 ⟨rfl, State.Warmed39.refl s, hHp⟩ trivial
  exact ⟨nn, _, q1, q2, q3, hpost _ _ _ _ _ _ ⟨Cond.after_iff.mpr rfl, Cond.after_iff.mpr (eq_i res_at (Term.int_eval (1)) rfl), trivial⟩ ⟨hq.1, hq.2.1, hq.2.2.1, (hq.2.2.2.sift fun y hy => Or.inr (N y hy)).mono (by decide) (by decide)⟩⟩
theorem main_1_1 : Claimed_1_1 := comes_1 fun _ _ _ _ _ _ h hF => ⟨h.1, hF⟩
theorem main_1_2 : Claimed_1_2 := comes_1 fun _ _ _ _ _ _ h hF => ⟨h.2.1, hF⟩
end Jvm.Pilot.@@N@@
namespace Jvm.Pilot.@@N@@
open Jvm Jvm.ClassFile Sem Op Lib Jvm.Free Jvm.Stand Jvm.Pilot.@@N@@.Jvm.D
/-! MADE BY PROGRAM (witnessworld.py) out of the Statement's table words and the real class files: 21 classes; the members and pool entries that the words name. The judged class is class 1, her method 1. -/
namespace start1
open Jvm.ClassFile
def u (s : String) : CpInfo := .utf8 (stringToUtf16 s)
/-- a pool by its gaps: so many unusable entries, then the entry; so many at the end -/
def gap : Nat → List CpInfo → List CpInfo
  | 0, r => r
  | n + 1, r => .unusable :: gap n r
def poolList (es : List (Nat × CpInfo)) (last : Nat) : List CpInfo := es.foldr (fun e r => gap e.1 (e.2 :: r)) (gap last [])
def pool (es : List (Nat × CpInfo)) (last : Nat) : Array CpInfo := ⟨poolList es last⟩
def fileOf (pool : Array CpInfo) (this : Nat) (attrs : Array Attribute := #[]) (ms : Array MethodInfo := #[]) (fl : Nat := 33) (sup : Nat := 0) (ifs : Array Nat := #[]) (fds : Array FieldInfo := #[]) : ClassFile where
  minorVersion := 0
  majorVersion := 65
  constantPool := pool
  accessFlags := fl
  thisClass := this
  superClass := sup
  interfaces := ifs
  fields := fds
  methods := ms
  attributes := attrs
def plain (name : String) (sup : Option ClassId) : Class where
  name := name
  kind := .ordinary
  loader := none
  accessFlags := 33
  super := sup
  interfaces := #[]
  cf := none
  fields := #[]
  methods := #[]
  instanceTypes := #[]
  staticTypes := #[]
  resolved := #[]
  callSites := []
  init := .initialized
  statics := none
  mirror := none

def pool0 : Array CpInfo := pool [(5, u "<init>"), (0, u "()V"), (1, .class_ 10), (1, u "java/lang/Object")] 113

def k0c0 : Code := { maxStack := 0, maxLocals := 1, code := object_method_1_code, exceptionTable := #[], attributes := #[] }
def k0m0 : Method := { name := "<init>", desc := "()V", sig := { parameters := [], returnType := none }, accessFlags := 1, code := some k0c0 }
/-- java/lang/Object -/
def k0 : Class := { plain "java/lang/Object" none with
  accessFlags := 33
  interfaces := #[]
  cf := some (fileOf pool0 8 #[] #[{ accessFlags := 1, nameIndex := 5, descriptorIndex := 6, attributes := #[] }] 33 0 #[] #[])
  fields := #[]
  methods := #[k0m0]
  instanceTypes := #[]
  staticTypes := #[]
  resolved := Array.replicate 124 none
  statics := none }

def pool1 : Array CpInfo := pool [(2, .class_ 4), (1, u "java/lang/Object"), (0, u "<init>"), (0, u "()V"), (0, .class_ 8), (0, u "java/lang/String"), (0, .methodref 7 10), (0, .nameAndType 5 11), (0, u "([C)V"), (0, .string 13), (0, u ""), (0, .class_ 15), (0, u "com/example/chainvouch/chainvouch/chain/TimeRange"), (0, .methodref 14 17), (0, .nameAndType 5 18), (0, u "(Ljava/lang/String;Ljava/lang/String;)V"), (0, .methodref 14 20), (0, .nameAndType 21 22), (0, u "startsAfter"), (0, u "(Ljava/lang/String;)Z"), (0, .methodref 24 25), (0, .class_ 26), (0, .nameAndType 27 28), (0, u "com/example/chainvouch/chainvouch/chain/TimeRangeStartsAfterPinLaw"), (0, u "geq"), (0, u "(IIIIII)Z"), (2, u "law"), (0, u "(III)Z")] 5

def k1m0 : Method := { name := "<init>", desc := "()V", sig := { parameters := [], returnType := none }, accessFlags := 1, code := none }
def k1c1 : Code := { maxStack := 6, maxLocals := 19, code := code, exceptionTable := #[], attributes := #[] }
def k1m1 : Method := { name := "law", desc := "(III)Z", sig := { parameters := [.int, .int, .int], returnType := some .boolean }, accessFlags := 9, code := some k1c1 }
def k1c2 : Code := { maxStack := 2, maxLocals := 6, code := method_3_code, exceptionTable := #[], attributes := #[] }
def k1m2 : Method := { name := "geq", desc := "(IIIIII)Z", sig := { parameters := [.int, .int, .int, .int, .int, .int], returnType := some .boolean }, accessFlags := 10, code := some k1c2 }
/-- com/example/chainvouch/chainvouch/chain/TimeRangeStartsAfterPinLaw -/
def k1 : Class := { plain "com/example/chainvouch/chainvouch/chain/TimeRangeStartsAfterPinLaw" (some 0) with
  accessFlags := 49
  interfaces := #[]
  cf := some (fileOf pool1 24 #[] #[{ accessFlags := 1, nameIndex := 5, descriptorIndex := 6, attributes := #[] }, { accessFlags := 9, nameIndex := 31, descriptorIndex := 32, attributes := #[] }, { accessFlags := 10, nameIndex := 27, descriptorIndex := 28, attributes := #[] }] 49 2 #[] #[])
  fields := #[]
  methods := #[k1m0, k1m1, k1m2]
  instanceTypes := #[]
  staticTypes := #[]
  resolved := Array.replicate 38 none
  statics := none }

def pool2 : Array CpInfo := pool [(1, .class_ 2), (0, u "java/io/Serializable"), (0, .class_ 4), (0, u "java/lang/Object")] 2

/-- java/io/Serializable -/
def k2 : Class := { plain "java/io/Serializable" (some 0) with
  accessFlags := 1537
  interfaces := #[]
  cf := some (fileOf pool2 1 #[] #[] 1537 3 #[] #[])
  fields := #[]
  methods := #[]
  instanceTypes := #[]
  staticTypes := #[]
  resolved := Array.replicate 7 none
  statics := none }

def pool3 : Array CpInfo := pool [(1, .class_ 2), (0, u "java/lang/Comparable"), (0, .class_ 4), (0, u "java/lang/Object")] 7

/-- java/lang/Comparable -/
def k3 : Class := { plain "java/lang/Comparable" (some 0) with
  accessFlags := 1537
  interfaces := #[]
  cf := some (fileOf pool3 1 #[] #[] 1537 3 #[] #[])
  fields := #[]
  methods := #[]
  instanceTypes := #[]
  staticTypes := #[]
  resolved := Array.replicate 12 none
  statics := none }

def pool4 : Array CpInfo := pool [(2, .class_ 4), (1, u "java/lang/CharSequence"), (42, .class_ 48), (0, u "java/lang/CharSequence$1CodePointIterator"), (10, .class_ 60), (0, u "java/lang/CharSequence$1CharIterator"), (5, .class_ 67), (0, u "java/lang/Object")] 63

/-- java/lang/CharSequence -/
def k4 : Class := { plain "java/lang/CharSequence" (some 0) with
  accessFlags := 1537
  interfaces := #[]
  cf := some (fileOf pool4 2 #[.nestMembers #[47, 59]] #[] 1537 66 #[] #[])
  fields := #[]
  methods := #[]
  instanceTypes := #[]
  staticTypes := #[]
  resolved := Array.replicate 131 none
  statics := none }

def pool5 : Array CpInfo := pool [(1, .class_ 2), (0, u "java/lang/constant/Constable"), (0, .class_ 4), (0, u "java/lang/Object")] 6

/-- java/lang/constant/Constable -/
def k5 : Class := { plain "java/lang/constant/Constable" (some 0) with
  accessFlags := 1537
  interfaces := #[]
  cf := some (fileOf pool5 1 #[] #[] 1537 3 #[] #[])
  fields := #[]
  methods := #[]
  instanceTypes := #[]
  staticTypes := #[]
  resolved := Array.replicate 11 none
  statics := none }

def pool6 : Array CpInfo := pool [(1, .class_ 2), (0, u "java/lang/constant/ConstantDesc"), (0, .class_ 4), (0, u "java/lang/Object")] 32

/-- java/lang/constant/ConstantDesc -/
def k6 : Class := { plain "java/lang/constant/ConstantDesc" (some 0) with
  accessFlags := 1537
  interfaces := #[]
  cf := some (fileOf pool6 1 #[] #[] 1537 3 #[] #[])
  fields := #[]
  methods := #[]
  instanceTypes := #[]
  staticTypes := #[]
  resolved := Array.replicate 37 none
  statics := none }

def pool7 : Array CpInfo := pool [(1, .methodref 2 3), (0, .class_ 4), (0, .nameAndType 5 6), (0, u "java/lang/Object"), (0, u "<init>"), (0, u "()V"), (0, .string 8), (0, u ""), (0, .fieldref 10 11), (0, .class_ 12), (0, .nameAndType 13 14), (0, u "java/lang/String"), (0, u "value"), (0, u "[B"), (0, .fieldref 10 16), (0, .nameAndType 17 18), (0, u "coder"), (0, u "B"), (2, u "hash"), (0, u "I"), (2, u "hashIsZero"), (0, u "Z"), (0, .methodref 10 28), (0, .nameAndType 5 29), (0, u "([CIILjava/lang/Void;)V"), (8, .fieldref 10 39), (0, .nameAndType 40 26), (0, u "COMPACT_STRINGS"), (1, .class_ 44), (1, u "java/lang/StringUTF16"), (0, u "compress"), (1, .methodref 42 48), (0, .nameAndType 49 50), (0, u "coderFromArrayLen"), (0, u "([BI)B"), (56, .class_ 109), (1, u "java/lang/StringLatin1"), (67, .methodref 42 178), (0, .nameAndType 45 179), (0, u "([CII)[B"), (155, .methodref 10 336), (0, .nameAndType 17 337), (0, u "()B"), (237, .class_ 576), (0, u "java/lang/CharSequence"), (9, .methodref 107 587), (0, .nameAndType 588 589), (0, u "compareTo"), (0, u "([B[B)I"), (9, u "CASE_INSENSITIVE_ORDER"), (0, u "Ljava/util/Comparator;"), (112, u "(Ljava/lang/String;)I"), (296, u "([C)V"), (90, u "serialPersistentFields"), (0, u "[Ljava/io/ObjectStreamField;"), (0, .class_ 1104), (0, u "java/lang/String$CaseInsensitiveComparator"), (1, .class_ 1107), (0, u "java/io/Serializable"), (0, .class_ 1109), (0, u "java/lang/Comparable"), (0, .class_ 1111), (0, u "java/lang/constant/Constable"), (0, .class_ 1113), (0, u "java/lang/constant/ConstantDesc"), (2, u "serialVersionUID"), (0, u "J"), (3, u "REPL"), (0, u "C"), (2, u "LATIN1"), (1, u "UTF16")] 323

def k7m0 : Method := { name := "<init>", desc := "()V", sig := { parameters := [], returnType := none }, accessFlags := 1, code := none }
def k7c1 : Code := { maxStack := 5, maxLocals := 2, code := jdk_42_method_3_code, exceptionTable := #[], attributes := #[] }
def k7m1 : Method := { name := "<init>", desc := "([C)V", sig := { parameters := [(.array .char)], returnType := none }, accessFlags := 1, code := some k7c1 }
def k7c2 : Code := { maxStack := 2, maxLocals := 5, code := jdk_42_method_71_code, exceptionTable := #[], attributes := #[] }
def k7m2 : Method := { name := "compareTo", desc := "(Ljava/lang/String;)I", sig := { parameters := [(.object "java/lang/String")], returnType := some .int }, accessFlags := 1, code := some k7c2 }
def k7c3 : Code := { maxStack := 4, maxLocals := 6, code := jdk_42_method_149_code, exceptionTable := #[], attributes := #[] }
def k7m3 : Method := { name := "<init>", desc := "([CIILjava/lang/Void;)V", sig := { parameters := [(.array .char), .int, .int, (.object "java/lang/Void")], returnType := none }, accessFlags := 2, code := some k7c3 }
def k7c4 : Code := { maxStack := 1, maxLocals := 1, code := jdk_42_method_152_code, exceptionTable := #[], attributes := #[] }
def k7m4 : Method := { name := "coder", desc := "()B", sig := { parameters := [], returnType := some .byte }, accessFlags := 0, code := some k7c4 }
/-- java/lang/String -/
def k7 : Class := { plain "java/lang/String" (some 0) with
  accessFlags := 49
  interfaces := #[2, 3, 4, 5, 6]
  cf := some (fileOf pool7 10 #[.nestMembers #[1103]] #[{ accessFlags := 1, nameIndex := 5, descriptorIndex := 6, attributes := #[] }, { accessFlags := 1, nameIndex := 5, descriptorIndex := 1010, attributes := #[] }, { accessFlags := 1, nameIndex := 588, descriptorIndex := 713, attributes := #[] }, { accessFlags := 2, nameIndex := 5, descriptorIndex := 29, attributes := #[] }, { accessFlags := 0, nameIndex := 17, descriptorIndex := 337, attributes := #[] }] 49 2 #[1106, 1108, 575, 1110, 1112] #[{ accessFlags := 18, nameIndex := 13, descriptorIndex := 14, attributes := #[] }, { accessFlags := 18, nameIndex := 17, descriptorIndex := 18, attributes := #[] }, { accessFlags := 2, nameIndex := 21, descriptorIndex := 22, attributes := #[] }, { accessFlags := 2, nameIndex := 25, descriptorIndex := 26, attributes := #[] }, { accessFlags := 26, nameIndex := 1116, descriptorIndex := 1117, attributes := #[] }, { accessFlags := 24, nameIndex := 40, descriptorIndex := 26, attributes := #[] }, { accessFlags := 26, nameIndex := 1101, descriptorIndex := 1102, attributes := #[] }, { accessFlags := 26, nameIndex := 1121, descriptorIndex := 1122, attributes := #[] }, { accessFlags := 25, nameIndex := 599, descriptorIndex := 600, attributes := #[] }, { accessFlags := 24, nameIndex := 1125, descriptorIndex := 18, attributes := #[] }, { accessFlags := 24, nameIndex := 1127, descriptorIndex := 18, attributes := #[] }])
  fields := #[{ name := "value", type := (.array .byte), accessFlags := 18, slot := 0, constantValue := 0 }, { name := "coder", type := .byte, accessFlags := 18, slot := 1, constantValue := 0 }, { name := "hash", type := .int, accessFlags := 2, slot := 2, constantValue := 0 }, { name := "hashIsZero", type := .boolean, accessFlags := 2, slot := 3, constantValue := 0 }, { name := "serialVersionUID", type := .long, accessFlags := 26, slot := 0, constantValue := 0 }, { name := "COMPACT_STRINGS", type := .boolean, accessFlags := 24, slot := 1, constantValue := 0 }, { name := "serialPersistentFields", type := (.array (.object "java/io/ObjectStreamField")), accessFlags := 26, slot := 2, constantValue := 0 }, { name := "REPL", type := .char, accessFlags := 26, slot := 3, constantValue := 0 }, { name := "CASE_INSENSITIVE_ORDER", type := (.object "java/util/Comparator"), accessFlags := 25, slot := 4, constantValue := 0 }, { name := "LATIN1", type := .byte, accessFlags := 24, slot := 5, constantValue := 0 }, { name := "UTF16", type := .byte, accessFlags := 24, slot := 6, constantValue := 0 }]
  methods := #[k7m0, k7m1, k7m2, k7m3, k7m4]
  instanceTypes := #[(.array .byte), .byte, .int, .boolean]
  staticTypes := #[.long, .boolean, (.array (.object "java/io/ObjectStreamField")), .char, (.object "java/util/Comparator"), .byte, .byte]
  resolved := Array.replicate 1451 none
  statics := some 0 }

def pool8 : Array CpInfo := pool [(1, .methodref 2 3), (0, .class_ 4), (0, .nameAndType 5 6), (0, u "java/lang/Object"), (0, u "<init>"), (0, u "()V"), (0, .methodref 8 9), (0, .class_ 10), (0, .nameAndType 11 12), (0, u "java/lang/String"), (0, u "compareTo"), (0, u "(Ljava/lang/String;)I"), (9, .fieldref 23 24), (0, .class_ 25), (0, .nameAndType 26 27), (0, u "com/example/chainvouch/chainvouch/chain/TimeRange"), (0, u "start"), (0, u "Ljava/lang/String;"), (0, .fieldref 23 29), (0, .nameAndType 30 27), (0, u "end"), (7, u "(Ljava/lang/String;)Z"), (2, u "startsAfter"), (0, u "(Ljava/lang/String;Ljava/lang/String;)V")] 22

def k8c0 : Code := { maxStack := 4, maxLocals := 3, code := prog_15_method_1_code, exceptionTable := #[], attributes := #[] }
def k8m0 : Method := { name := "<init>", desc := "(Ljava/lang/String;Ljava/lang/String;)V", sig := { parameters := [(.object "java/lang/String"), (.object "java/lang/String")], returnType := none }, accessFlags := 1, code := some k8c0 }
def k8c1 : Code := { maxStack := 2, maxLocals := 2, code := prog_15_method_3_code, exceptionTable := #[], attributes := #[] }
def k8m1 : Method := { name := "startsAfter", desc := "(Ljava/lang/String;)Z", sig := { parameters := [(.object "java/lang/String")], returnType := some .boolean }, accessFlags := 0, code := some k8c1 }
/-- com/example/chainvouch/chainvouch/chain/TimeRange -/
def k8 : Class := { plain "com/example/chainvouch/chainvouch/chain/TimeRange" (some 0) with
  accessFlags := 49
  interfaces := #[]
  cf := some (fileOf pool8 23 #[] #[{ accessFlags := 1, nameIndex := 5, descriptorIndex := 42, attributes := #[] }, { accessFlags := 0, nameIndex := 41, descriptorIndex := 38, attributes := #[] }] 49 2 #[] #[{ accessFlags := 18, nameIndex := 26, descriptorIndex := 27, attributes := #[] }, { accessFlags := 18, nameIndex := 30, descriptorIndex := 27, attributes := #[] }])
  fields := #[{ name := "start", type := (.object "java/lang/String"), accessFlags := 18, slot := 0, constantValue := 0 }, { name := "end", type := (.object "java/lang/String"), accessFlags := 18, slot := 1, constantValue := 0 }]
  methods := #[k8m0, k8m1]
  instanceTypes := #[(.object "java/lang/String"), (.object "java/lang/String")]
  staticTypes := #[]
  resolved := Array.replicate 65 none
  statics := none }

def pool9 : Array CpInfo := pool [(4, .class_ 6), (1, u "java/lang/Object"), (0, u "<init>"), (0, u "()V"), (5, .class_ 16), (1, u "java/lang/StringLatin1"), (17, .methodref 14 35), (0, .nameAndType 36 37), (0, u "compareTo"), (0, u "([B[BII)I"), (0, .methodref 39 40), (0, .class_ 41), (0, .nameAndType 42 43), (0, u "java/lang/Math"), (0, u "min"), (0, u "(II)I"), (0, .methodref 45 46), (0, .class_ 47), (0, .nameAndType 48 49), (0, u "jdk/internal/util/ArraysSupport"), (0, u "mismatch"), (0, u "([B[BI)I"), (0, .methodref 14 51), (0, .nameAndType 52 53), (0, u "getChar"), (0, u "([BI)C"), (67, u "$assertionsDisabled"), (0, u "Z"), (98, .class_ 223), (1, u "java/lang/StringLatin1$LinesSpliterator"), (63, u "([B[B)I"), (102, .class_ 391), (0, u "java/lang/StringLatin1$CharsSpliterator")] 3

def k9m0 : Method := { name := "<init>", desc := "()V", sig := { parameters := [], returnType := none }, accessFlags := 0, code := none }
def k9c1 : Code := { maxStack := 4, maxLocals := 4, code := jdk_43_method_14_code, exceptionTable := #[], attributes := #[] }
def k9m1 : Method := { name := "compareTo", desc := "([B[B)I", sig := { parameters := [(.array .byte), (.array .byte)], returnType := some .int }, accessFlags := 9, code := some k9c1 }
def k9c2 : Code := { maxStack := 3, maxLocals := 6, code := jdk_43_method_15_code, exceptionTable := #[], attributes := #[] }
def k9m2 : Method := { name := "compareTo", desc := "([B[BII)I", sig := { parameters := [(.array .byte), (.array .byte), .int, .int], returnType := some .int }, accessFlags := 9, code := some k9c2 }
def k9c3 : Code := { maxStack := 2, maxLocals := 2, code := jdk_43_method_44_code, exceptionTable := #[], attributes := #[] }
def k9m3 : Method := { name := "getChar", desc := "([BI)C", sig := { parameters := [(.array .byte), .int], returnType := some .char }, accessFlags := 9, code := some k9c3 }
/-- java/lang/StringLatin1 -/
def k9 : Class := { plain "java/lang/StringLatin1" (some 0) with
  accessFlags := 48
  interfaces := #[]
  cf := some (fileOf pool9 14 #[.nestMembers #[390, 221]] #[{ accessFlags := 0, nameIndex := 7, descriptorIndex := 8, attributes := #[] }, { accessFlags := 9, nameIndex := 36, descriptorIndex := 287, attributes := #[] }, { accessFlags := 9, nameIndex := 36, descriptorIndex := 37, attributes := #[] }, { accessFlags := 9, nameIndex := 52, descriptorIndex := 53, attributes := #[] }] 48 4 #[] #[{ accessFlags := 4120, nameIndex := 121, descriptorIndex := 122, attributes := #[] }])
  fields := #[{ name := "$assertionsDisabled", type := .boolean, accessFlags := 4120, slot := 0, constantValue := 0 }]
  methods := #[k9m0, k9m1, k9m2, k9m3]
  instanceTypes := #[]
  staticTypes := #[.boolean]
  resolved := Array.replicate 395 none
  statics := none }

def pool10 : Array CpInfo := pool [(1, .class_ 2), (0, u "java/lang/Math"), (1, .class_ 6), (1, u "java/lang/Object"), (0, u "<init>"), (0, u "()V"), (89, .class_ 100), (1, u "java/lang/Math$RandomNumberGeneratorHolder"), (71, u "negativeZeroFloatBits"), (0, u "J"), (2, u "negativeZeroDoubleBits"), (24, u "min"), (43, u "$assertionsDisabled"), (0, u "Z"), (88, u "(II)I"), (2, u "twoToTheDoubleScaleDown"), (0, u "D"), (4, u "twoToTheDoubleScaleUp"), (9, u "E"), (3, u "PI"), (2, u "TAU"), (2, u "DEGREES_TO_RADIANS"), (0, u "RADIANS_TO_DEGREES")] 94

def k10m0 : Method := { name := "<init>", desc := "()V", sig := { parameters := [], returnType := none }, accessFlags := 2, code := none }
def k10c1 : Code := { maxStack := 2, maxLocals := 2, code := jdk_29_method_69_code, exceptionTable := #[], attributes := #[] }
def k10m1 : Method := { name := "min", desc := "(II)I", sig := { parameters := [.int, .int], returnType := some .int }, accessFlags := 9, code := some k10c1 }
/-- java/lang/Math -/
def k10 : Class := { plain "java/lang/Math" (some 0) with
  accessFlags := 49
  interfaces := #[]
  cf := some (fileOf pool10 1 #[.nestMembers #[98]] #[{ accessFlags := 2, nameIndex := 7, descriptorIndex := 8, attributes := #[] }, { accessFlags := 9, nameIndex := 201, descriptorIndex := 335, attributes := #[] }] 49 4 #[] #[{ accessFlags := 25, nameIndex := 354, descriptorIndex := 339, attributes := #[] }, { accessFlags := 25, nameIndex := 358, descriptorIndex := 339, attributes := #[] }, { accessFlags := 25, nameIndex := 361, descriptorIndex := 339, attributes := #[] }, { accessFlags := 26, nameIndex := 364, descriptorIndex := 339, attributes := #[] }, { accessFlags := 26, nameIndex := 365, descriptorIndex := 339, attributes := #[] }, { accessFlags := 26, nameIndex := 172, descriptorIndex := 173, attributes := #[] }, { accessFlags := 26, nameIndex := 176, descriptorIndex := 173, attributes := #[] }, { accessFlags := 8, nameIndex := 344, descriptorIndex := 339, attributes := #[] }, { accessFlags := 8, nameIndex := 338, descriptorIndex := 339, attributes := #[] }, { accessFlags := 4120, nameIndex := 245, descriptorIndex := 246, attributes := #[] }])
  fields := #[{ name := "E", type := .double, accessFlags := 25, slot := 0, constantValue := 0 }, { name := "PI", type := .double, accessFlags := 25, slot := 1, constantValue := 0 }, { name := "TAU", type := .double, accessFlags := 25, slot := 2, constantValue := 0 }, { name := "DEGREES_TO_RADIANS", type := .double, accessFlags := 26, slot := 3, constantValue := 0 }, { name := "RADIANS_TO_DEGREES", type := .double, accessFlags := 26, slot := 4, constantValue := 0 }, { name := "negativeZeroFloatBits", type := .long, accessFlags := 26, slot := 5, constantValue := 0 }, { name := "negativeZeroDoubleBits", type := .long, accessFlags := 26, slot := 6, constantValue := 0 }, { name := "twoToTheDoubleScaleUp", type := .double, accessFlags := 8, slot := 7, constantValue := 0 }, { name := "twoToTheDoubleScaleDown", type := .double, accessFlags := 8, slot := 8, constantValue := 0 }, { name := "$assertionsDisabled", type := .boolean, accessFlags := 4120, slot := 9, constantValue := 0 }]
  methods := #[k10m0, k10m1]
  instanceTypes := #[]
  staticTypes := #[.double, .double, .double, .double, .double, .long, .long, .double, .double, .boolean]
  resolved := Array.replicate 460 none
  statics := none }

def pool11 : Array CpInfo := pool [(9, u "<init>"), (6, .class_ 18), (1, u "java/lang/Object"), (0, u "()V"), (1, .class_ 23), (1, u "jdk/internal/util/ArraysSupport"), (0, u "LOG2_ARRAY_LONG_INDEX_SCALE"), (0, u "I"), (2, u "U"), (0, u "Ljdk/internal/misc/Unsafe;"), (8, u "BIG_ENDIAN"), (0, u "Z"), (8, u "LOG2_BYTE_BIT_SIZE"), (4, u "LOG2_ARRAY_INT_INDEX_SCALE"), (54, u "JLA"), (0, u "Ljdk/internal/access/JavaLangAccess;"), (11, u "LOG2_ARRAY_BOOLEAN_INDEX_SCALE"), (9, u "LOG2_ARRAY_BYTE_INDEX_SCALE"), (5, u "LOG2_ARRAY_CHAR_INDEX_SCALE"), (5, u "LOG2_ARRAY_SHORT_INDEX_SCALE"), (5, u "mismatch"), (12, u "LOG2_ARRAY_FLOAT_INDEX_SCALE"), (24, u "LOG2_ARRAY_DOUBLE_INDEX_SCALE"), (89, u "T_BOOLEAN"), (2, u "T_CHAR"), (1, u "T_FLOAT"), (1, u "T_DOUBLE"), (1, u "T_BYTE"), (1, u "T_SHORT"), (1, u "T_INT"), (1, u "T_LONG"), (1, u "SOFT_MAX_ARRAY_LENGTH"), (41, u "([B[BI)I")] 41

def k11m0 : Method := { name := "<init>", desc := "()V", sig := { parameters := [], returnType := none }, accessFlags := 2, code := none }
def k11c1 : Code := { maxStack := 8, maxLocals := 4, code := jdk_48_method_13_code, exceptionTable := #[], attributes := #[] }
def k11m1 : Method := { name := "mismatch", desc := "([B[BI)I", sig := { parameters := [(.array .byte), (.array .byte), .int], returnType := some .int }, accessFlags := 9, code := some k11c1 }
/-- jdk/internal/util/ArraysSupport -/
def k11 : Class := { plain "jdk/internal/util/ArraysSupport" (some 0) with
  accessFlags := 33
  interfaces := #[]
  cf := some (fileOf pool11 21 #[] #[{ accessFlags := 2, nameIndex := 9, descriptorIndex := 19, attributes := #[] }, { accessFlags := 9, nameIndex := 149, descriptorIndex := 336, attributes := #[] }] 33 16 #[] #[{ accessFlags := 24, nameIndex := 28, descriptorIndex := 29, attributes := #[] }, { accessFlags := 26, nameIndex := 38, descriptorIndex := 39, attributes := #[] }, { accessFlags := 25, nameIndex := 121, descriptorIndex := 25, attributes := #[] }, { accessFlags := 25, nameIndex := 131, descriptorIndex := 25, attributes := #[] }, { accessFlags := 25, nameIndex := 137, descriptorIndex := 25, attributes := #[] }, { accessFlags := 25, nameIndex := 143, descriptorIndex := 25, attributes := #[] }, { accessFlags := 25, nameIndex := 53, descriptorIndex := 25, attributes := #[] }, { accessFlags := 25, nameIndex := 24, descriptorIndex := 25, attributes := #[] }, { accessFlags := 25, nameIndex := 162, descriptorIndex := 25, attributes := #[] }, { accessFlags := 25, nameIndex := 187, descriptorIndex := 25, attributes := #[] }, { accessFlags := 26, nameIndex := 48, descriptorIndex := 25, attributes := #[] }, { accessFlags := 25, nameIndex := 277, descriptorIndex := 25, attributes := #[] }, { accessFlags := 25, nameIndex := 280, descriptorIndex := 25, attributes := #[] }, { accessFlags := 25, nameIndex := 282, descriptorIndex := 25, attributes := #[] }, { accessFlags := 25, nameIndex := 284, descriptorIndex := 25, attributes := #[] }, { accessFlags := 25, nameIndex := 286, descriptorIndex := 25, attributes := #[] }, { accessFlags := 25, nameIndex := 288, descriptorIndex := 25, attributes := #[] }, { accessFlags := 25, nameIndex := 290, descriptorIndex := 25, attributes := #[] }, { accessFlags := 25, nameIndex := 292, descriptorIndex := 25, attributes := #[] }, { accessFlags := 26, nameIndex := 108, descriptorIndex := 109, attributes := #[] }, { accessFlags := 25, nameIndex := 294, descriptorIndex := 25, attributes := #[] }])
  fields := #[{ name := "U", type := (.object "jdk/internal/misc/Unsafe"), accessFlags := 24, slot := 0, constantValue := 0 }, { name := "BIG_ENDIAN", type := .boolean, accessFlags := 26, slot := 1, constantValue := 0 }, { name := "LOG2_ARRAY_BOOLEAN_INDEX_SCALE", type := .int, accessFlags := 25, slot := 2, constantValue := 0 }, { name := "LOG2_ARRAY_BYTE_INDEX_SCALE", type := .int, accessFlags := 25, slot := 3, constantValue := 0 }, { name := "LOG2_ARRAY_CHAR_INDEX_SCALE", type := .int, accessFlags := 25, slot := 4, constantValue := 0 }, { name := "LOG2_ARRAY_SHORT_INDEX_SCALE", type := .int, accessFlags := 25, slot := 5, constantValue := 0 }, { name := "LOG2_ARRAY_INT_INDEX_SCALE", type := .int, accessFlags := 25, slot := 6, constantValue := 0 }, { name := "LOG2_ARRAY_LONG_INDEX_SCALE", type := .int, accessFlags := 25, slot := 7, constantValue := 0 }, { name := "LOG2_ARRAY_FLOAT_INDEX_SCALE", type := .int, accessFlags := 25, slot := 8, constantValue := 0 }, { name := "LOG2_ARRAY_DOUBLE_INDEX_SCALE", type := .int, accessFlags := 25, slot := 9, constantValue := 0 }, { name := "LOG2_BYTE_BIT_SIZE", type := .int, accessFlags := 26, slot := 10, constantValue := 0 }, { name := "T_BOOLEAN", type := .int, accessFlags := 25, slot := 11, constantValue := 0 }, { name := "T_CHAR", type := .int, accessFlags := 25, slot := 12, constantValue := 0 }, { name := "T_FLOAT", type := .int, accessFlags := 25, slot := 13, constantValue := 0 }, { name := "T_DOUBLE", type := .int, accessFlags := 25, slot := 14, constantValue := 0 }, { name := "T_BYTE", type := .int, accessFlags := 25, slot := 15, constantValue := 0 }, { name := "T_SHORT", type := .int, accessFlags := 25, slot := 16, constantValue := 0 }, { name := "T_INT", type := .int, accessFlags := 25, slot := 17, constantValue := 0 }, { name := "T_LONG", type := .int, accessFlags := 25, slot := 18, constantValue := 0 }, { name := "JLA", type := (.object "jdk/internal/access/JavaLangAccess"), accessFlags := 26, slot := 19, constantValue := 0 }, { name := "SOFT_MAX_ARRAY_LENGTH", type := .int, accessFlags := 25, slot := 20, constantValue := 0 }]
  methods := #[k11m0, k11m1]
  instanceTypes := #[]
  staticTypes := #[(.object "jdk/internal/misc/Unsafe"), .boolean, .int, .int, .int, .int, .int, .int, .int, .int, .int, .int, .int, .int, .int, .int, .int, .int, .int, (.object "jdk/internal/access/JavaLangAccess"), .int]
  resolved := Array.replicate 378 none
  statics := none }

def pool12 : Array CpInfo := pool [(6, .class_ 8), (1, u "java/lang/Object"), (0, u "<init>"), (0, u "()V"), (1, .class_ 14), (1, u "java/lang/StringUTF16"), (31, u "$assertionsDisabled"), (0, u "Z"), (13, u "HI_BYTE_SHIFT"), (0, u "I"), (2, u "LO_BYTE_SHIFT"), (49, .methodref 12 116), (0, .nameAndType 117 118), (0, u "compress"), (0, u "([CI[BII)I"), (3, u "([CII)[B"), (138, u "coderFromArrayLen"), (0, u "([BI)B"), (106, .class_ 371), (1, u "java/lang/StringUTF16$LinesSpliterator"), (58, u "MAX_LENGTH"), (196, .class_ 628), (0, u "java/lang/StringUTF16$CodePointsSpliterator"), (0, .class_ 630), (0, u "java/lang/StringUTF16$CharsSpliterator")] 4

def k12m0 : Method := { name := "<init>", desc := "()V", sig := { parameters := [], returnType := none }, accessFlags := 0, code := none }
def k12c1 : Code := { maxStack := 2, maxLocals := 2, code := jdk_52_method_15_code, exceptionTable := #[], attributes := #[] }
def k12m1 : Method := { name := "coderFromArrayLen", desc := "([BI)B", sig := { parameters := [(.array .byte), .int], returnType := some .byte }, accessFlags := 8, code := some k12c1 }
def k12c2 : Code := { maxStack := 5, maxLocals := 6, code := jdk_52_method_16_code, exceptionTable := #[], attributes := #[] }
def k12m2 : Method := { name := "compress", desc := "([CII)[B", sig := { parameters := [(.array .char), .int, .int], returnType := some (.array .byte) }, accessFlags := 9, code := some k12c2 }
def k12c3 : Code := { maxStack := 3, maxLocals := 7, code := jdk_52_method_21_code, exceptionTable := #[], attributes := #[] }
def k12m3 : Method := { name := "compress", desc := "([CI[BII)I", sig := { parameters := [(.array .char), .int, (.array .byte), .int, .int], returnType := some .int }, accessFlags := 9, code := some k12c3 }
/-- java/lang/StringUTF16 -/
def k12 : Class := { plain "java/lang/StringUTF16" (some 0) with
  accessFlags := 48
  interfaces := #[]
  cf := some (fileOf pool12 12 #[.nestMembers #[627, 629, 369]] #[{ accessFlags := 0, nameIndex := 9, descriptorIndex := 10, attributes := #[] }, { accessFlags := 8, nameIndex := 261, descriptorIndex := 262, attributes := #[] }, { accessFlags := 9, nameIndex := 117, descriptorIndex := 122, attributes := #[] }, { accessFlags := 9, nameIndex := 117, descriptorIndex := 118, attributes := #[] }] 48 6 #[] #[{ accessFlags := 26, nameIndex := 61, descriptorIndex := 62, attributes := #[] }, { accessFlags := 26, nameIndex := 65, descriptorIndex := 62, attributes := #[] }, { accessFlags := 24, nameIndex := 430, descriptorIndex := 62, attributes := #[] }, { accessFlags := 4120, nameIndex := 46, descriptorIndex := 47, attributes := #[] }])
  fields := #[{ name := "HI_BYTE_SHIFT", type := .int, accessFlags := 26, slot := 0, constantValue := 0 }, { name := "LO_BYTE_SHIFT", type := .int, accessFlags := 26, slot := 1, constantValue := 0 }, { name := "MAX_LENGTH", type := .int, accessFlags := 24, slot := 2, constantValue := 0 }, { name := "$assertionsDisabled", type := .boolean, accessFlags := 4120, slot := 3, constantValue := 0 }]
  methods := #[k12m0, k12m1, k12m2, k12m3]
  instanceTypes := #[]
  staticTypes := #[.int, .int, .int, .boolean]
  resolved := Array.replicate 635 none
  statics := none }

def pool13 : Array CpInfo := pool [(2, .class_ 4), (1, u "java/lang/Object"), (0, u "<init>"), (0, u "()V"), (17, .class_ 26), (1, u "jdk/internal/util/Preconditions"), (28, .class_ 56), (0, u "jdk/internal/util/Preconditions$4"), (57, .class_ 115), (0, u "jdk/internal/util/Preconditions$1"), (7, u "SIOOBE_FORMATTER"), (0, u "Ljava/util/function/BiFunction;"), (0, .class_ 126), (0, u "jdk/internal/util/Preconditions$2"), (3, u "AIOOBE_FORMATTER"), (0, .class_ 132), (0, u "jdk/internal/util/Preconditions$3"), (3, u "IOOBE_FORMATTER")] 57

def k13m0 : Method := { name := "<init>", desc := "()V", sig := { parameters := [], returnType := none }, accessFlags := 1, code := none }
/-- jdk/internal/util/Preconditions -/
def k13 : Class := { plain "jdk/internal/util/Preconditions" (some 0) with
  accessFlags := 33
  interfaces := #[]
  cf := some (fileOf pool13 24 #[.nestMembers #[55, 131, 125, 114]] #[{ accessFlags := 1, nameIndex := 5, descriptorIndex := 6, attributes := #[] }] 33 2 #[] #[{ accessFlags := 25, nameIndex := 123, descriptorIndex := 124, attributes := #[] }, { accessFlags := 25, nameIndex := 130, descriptorIndex := 124, attributes := #[] }, { accessFlags := 25, nameIndex := 136, descriptorIndex := 124, attributes := #[] }])
  fields := #[{ name := "SIOOBE_FORMATTER", type := (.object "java/util/function/BiFunction"), accessFlags := 25, slot := 0, constantValue := 0 }, { name := "AIOOBE_FORMATTER", type := (.object "java/util/function/BiFunction"), accessFlags := 25, slot := 1, constantValue := 0 }, { name := "IOOBE_FORMATTER", type := (.object "java/util/function/BiFunction"), accessFlags := 25, slot := 2, constantValue := 0 }]
  methods := #[k13m0]
  instanceTypes := #[]
  staticTypes := #[(.object "java/util/function/BiFunction"), (.object "java/util/function/BiFunction"), (.object "java/util/function/BiFunction")]
  resolved := Array.replicate 194 none
  statics := some 1 }

def pool14 : Array CpInfo := pool [(1, u "java/lang/Cloneable"), (0, .class_ 1), (0, u "java/lang/Object"), (0, .class_ 3)] 3

/-- java/lang/Cloneable -/
def k14 : Class := { plain "java/lang/Cloneable" (some 0) with
  accessFlags := 1537
  interfaces := #[]
  cf := some (fileOf pool14 2 #[] #[] 1537 4 #[] #[])
  fields := #[]
  methods := #[]
  instanceTypes := #[]
  staticTypes := #[]
  resolved := Array.replicate 8 none
  statics := none }

/-- the primitive byte -/
def k15 : Class := { plain "byte" none with kind := .primitive 'B', accessFlags := 0x411 }
/-- [B -/
def k16 : Class := { plain "[B" (some 0) with kind := .array 15 .byte, interfaces := #[14, 2], accessFlags := 1041 }

/-- the primitive char -/
def k17 : Class := { plain "char" none with kind := .primitive 'C', accessFlags := 0x411 }
/-- [C -/
def k18 : Class := { plain "[C" (some 0) with kind := .array 17 .char, interfaces := #[14, 2], accessFlags := 1041 }

/-- the primitive int -/
def k19 : Class := { plain "int" none with kind := .primitive 'I', accessFlags := 0x411 }
/-- [I -/
def k20 : Class := { plain "[I" (some 0) with kind := .array 19 .int, interfaces := #[14, 2], accessFlags := 1041 }

def heap : Heap := #[{ cls := 7, slots := #[.long 0, .int 1, .null, .int 0, .null, .int 0, .int 0], vm := .statics 7 },
  { cls := 13, slots := #[.null, .null, .null], vm := .statics 13 }]
def classes : Array Class := #[k0, k1, k2, k3, k4, k5, k6, k7, k8, k9, k10, k11, k12, k13, k14, k15, k16, k17, k18, k19, k20]
def interned : List (Array UInt16 × Addr) := []
def slotsUsed : Nat := 10
def theMethod : MethodId := ⟨1, 1⟩
def args0 : Array Value := #[.int 131072, .int 65536, .int 2]
def aboutOver (below : List Frame) : State where
  vm := { classes := classes, interned := interned.toArray }
  heap := heap
  slotsUsed := slotsUsed
  threads := #[{ frames := .invoking theMethod args0 :: below }]
def below0 : List Frame := [.native { method := ⟨0, 0⟩, args := #[] }]
def about1 : State := aboutOver below0
def p0 : Program := .bare "" "" ""
def e0 : Env := launch0.env 0 0 0
theorem w_frames : about1.frames = Frame.invoking theMethod args0 :: below0 := rfl
set_option maxRecDepth 65536 in
theorem w_args : argsFit about1.vm theMethod args0 = true := by decide +kernel
set_option maxRecDepth 65536 in
theorem w_heap : heapFits about1 = true := by decide +kernel
set_option maxRecDepth 65536 in
theorem w_runnable : about1.curStatus? = some .runnable := by decide +kernel
set_option maxRecDepth 65536 in
theorem w_alone : about1.alone = true := by decide +kernel
set_option maxRecDepth 65536 in
theorem w_named : about1.methodNamed? x = some theMethod := by decide +kernel
set_option maxRecDepth 65536 in
theorem w_hears : about1.hears theMethod below0 = true := by decide +kernel
set_option maxRecDepth 65536 in
theorem w_ripe : about1.ripe theMethod args0 below0 = true := by decide +kernel
theorem w_running : about1.status = .running := rfl
set_option maxRecDepth 65536 in
theorem w_room : about1.hasRoom e0.platform room_1 = true :=
  launch0.hasRoom_least _ room_1 (by decide +kernel) (by decide +kernel) (by decide +kernel) (by decide +kernel) (by decide +kernel) (by decide +kernel)
theorem allAtoms_all (ts : List Jvm.Cond) (a : Array Jvm.Value) (st : Jvm.State) : (allAtoms ts).before a st = ts.all (fun c => c.before a st) := by
  induction ts with
  | nil => rfl
  | cons c t ih =>
    show (Jvm.Cond.and c (allAtoms t)).before a st = _
    rw [Jvm.Cond.before_and, ih, List.all_cons]
def words1 : List Jvm.Cond := Jvm.Cond.code x code maxLocals ret :: tables_1
/-- a 'code' word, met by the world's own term for the bytes: nothing is compared byte by byte -/
theorem code_word {y : MethodName} {bytes : ByteArray} {mx : Nat} {rt : Option FieldType} {a : Array Value} {s : State} {m : MethodId} {meth : Method} {c : Code} (h1 : s.methodNamed? y = some m) (h2 : s.vm.method? m = some meth) (h3 : meth.code = some c) (h4 : c.code = bytes)
    (h5 : (c.maxLocals == mx && c.exceptionTable.isEmpty && decide (c.maxStack ≤ mostOperands) && decide (meth.sig.returnType = rt) && !meth.locks && decide (parseMethodDescriptor y.desc = some meth.sig)) = true) : (Jvm.Cond.code y bytes mx rt).before a s = true := by
  simp only [Bool.and_eq_true, beq_iff_eq, Bool.not_eq_true', decide_eq_true_eq] at h5
  obtain ⟨⟨⟨⟨⟨g1, g2⟩, g3⟩, g4⟩, g5⟩, g6⟩ := h5
  simp [Cond.before, Cond.holds, Cond.value, h1, h2, h3, h4, g1, g2, g3, g4, g5, g6]
def isCode : Jvm.Cond → Bool
  | .code _ _ _ _ => true
  | _ => false
theorem all_split {L : List Jvm.Cond} {P : Jvm.Cond → Bool} (h1 : L.all (fun c => isCode c || P c) = true) (h2 : ∀ c ∈ L.filter isCode, P c = true) : L.all P = true := by
  refine List.all_eq_true.mpr fun c hc => ?_
  have h := List.all_eq_true.mp h1 c hc
  rcases Bool.eq_false_or_eq_true (isCode c) with hi | hi
  · exact h2 c (List.mem_filter.mpr ⟨hc, hi⟩)
  · simpa [hi] using h
set_option maxRecDepth 65536 in
theorem w_c0 : (Jvm.Cond.code x code maxLocals ret).before args0 about1 = true := code_word (m := ⟨1, 1⟩) (meth := k1m1) (c := k1c1) (by decide +kernel) rfl rfl rfl (by decide +kernel)
set_option maxRecDepth 65536 in
theorem w_c1 : (Jvm.Cond.code ({ cls := "java/lang/String", name := "<init>", desc := "([C)V" } : Jvm.MethodName) jdk_42_method_3_code (2 : Nat) (Option.none : Option Jvm.ClassFile.FieldType)).before args0 about1 = true := code_word (m := ⟨7, 1⟩) (meth := k7m1) (c := k7c1) (by decide +kernel) rfl rfl rfl (by decide +kernel)
set_option maxRecDepth 65536 in
theorem w_c2 : (Jvm.Cond.code ({ cls := "java/lang/String", name := "<init>", desc := "([CIILjava/lang/Void;)V" } : Jvm.MethodName) jdk_42_method_149_code (6 : Nat) (Option.none : Option Jvm.ClassFile.FieldType)).before args0 about1 = true := code_word (m := ⟨7, 3⟩) (meth := k7m3) (c := k7c3) (by decide +kernel) rfl rfl rfl (by decide +kernel)
set_option maxRecDepth 65536 in
theorem w_c3 : (Jvm.Cond.code ({ cls := "java/lang/Object", name := "<init>", desc := "()V" } : Jvm.MethodName) object_method_1_code (1 : Nat) (Option.none : Option Jvm.ClassFile.FieldType)).before args0 about1 = true := code_word (m := ⟨0, 0⟩) (meth := k0m0) (c := k0c0) (by decide +kernel) rfl rfl rfl (by decide +kernel)
set_option maxRecDepth 65536 in
theorem w_c4 : (Jvm.Cond.code ({ cls := "com/example/chainvouch/chainvouch/chain/TimeRange", name := "<init>", desc := "(Ljava/lang/String;Ljava/lang/String;)V" } : Jvm.MethodName) prog_15_method_1_code (3 : Nat) (Option.none : Option Jvm.ClassFile.FieldType)).before args0 about1 = true := code_word (m := ⟨8, 0⟩) (meth := k8m0) (c := k8c0) (by decide +kernel) rfl rfl rfl (by decide +kernel)
set_option maxRecDepth 65536 in
theorem w_c5 : (Jvm.Cond.code ({ cls := "java/lang/String", name := "compareTo", desc := "(Ljava/lang/String;)I" } : Jvm.MethodName) jdk_42_method_71_code (5 : Nat) (Option.some Jvm.ClassFile.FieldType.int)).before args0 about1 = true := code_word (m := ⟨7, 2⟩) (meth := k7m2) (c := k7c2) (by decide +kernel) rfl rfl rfl (by decide +kernel)
set_option maxRecDepth 65536 in
theorem w_c6 : (Jvm.Cond.code ({ cls := "java/lang/String", name := "coder", desc := "()B" } : Jvm.MethodName) jdk_42_method_152_code (1 : Nat) (Option.some Jvm.ClassFile.FieldType.byte)).before args0 about1 = true := code_word (m := ⟨7, 4⟩) (meth := k7m4) (c := k7c4) (by decide +kernel) rfl rfl rfl (by decide +kernel)
set_option maxRecDepth 65536 in
theorem w_c7 : (Jvm.Cond.code ({ cls := "java/lang/StringLatin1", name := "compareTo", desc := "([B[B)I" } : Jvm.MethodName) jdk_43_method_14_code (4 : Nat) (Option.some Jvm.ClassFile.FieldType.int)).before args0 about1 = true := code_word (m := ⟨9, 1⟩) (meth := k9m1) (c := k9c1) (by decide +kernel) rfl rfl rfl (by decide +kernel)
set_option maxRecDepth 65536 in
theorem w_c8 : (Jvm.Cond.code ({ cls := "java/lang/StringLatin1", name := "compareTo", desc := "([B[BII)I" } : Jvm.MethodName) jdk_43_method_15_code (6 : Nat) (Option.some Jvm.ClassFile.FieldType.int)).before args0 about1 = true := code_word (m := ⟨9, 2⟩) (meth := k9m2) (c := k9c2) (by decide +kernel) rfl rfl rfl (by decide +kernel)
set_option maxRecDepth 65536 in
theorem w_c9 : (Jvm.Cond.code ({ cls := "java/lang/Math", name := "min", desc := "(II)I" } : Jvm.MethodName) jdk_29_method_69_code (2 : Nat) (Option.some Jvm.ClassFile.FieldType.int)).before args0 about1 = true := code_word (m := ⟨10, 1⟩) (meth := k10m1) (c := k10c1) (by decide +kernel) rfl rfl rfl (by decide +kernel)
set_option maxRecDepth 65536 in
theorem w_c10 : (Jvm.Cond.code ({ cls := "jdk/internal/util/ArraysSupport", name := "mismatch", desc := "([B[BI)I" } : Jvm.MethodName) jdk_48_method_13_code (4 : Nat) (Option.some Jvm.ClassFile.FieldType.int)).before args0 about1 = true := code_word (m := ⟨11, 1⟩) (meth := k11m1) (c := k11c1) (by decide +kernel) rfl rfl rfl (by decide +kernel)
set_option maxRecDepth 65536 in
theorem w_c11 : (Jvm.Cond.code ({ cls := "com/example/chainvouch/chainvouch/chain/TimeRange", name := "startsAfter", desc := "(Ljava/lang/String;)Z" } : Jvm.MethodName) prog_15_method_3_code (2 : Nat) (Option.some Jvm.ClassFile.FieldType.boolean)).before args0 about1 = true := code_word (m := ⟨8, 1⟩) (meth := k8m1) (c := k8c1) (by decide +kernel) rfl rfl rfl (by decide +kernel)
set_option maxRecDepth 65536 in
theorem w_c12 : (Jvm.Cond.code ({ cls := "com/example/chainvouch/chainvouch/chain/TimeRangeStartsAfterPinLaw", name := "geq", desc := "(IIIIII)Z" } : Jvm.MethodName) method_3_code (6 : Nat) (Option.some Jvm.ClassFile.FieldType.boolean)).before args0 about1 = true := code_word (m := ⟨1, 2⟩) (meth := k1m2) (c := k1c2) (by decide +kernel) rfl rfl rfl (by decide +kernel)
set_option maxRecDepth 65536 in
theorem w_c13 : (Jvm.Cond.code ({ cls := "java/lang/StringUTF16", name := "compress", desc := "([CII)[B" } : Jvm.MethodName) jdk_52_method_16_code (6 : Nat) (Option.some (Jvm.ClassFile.FieldType.array Jvm.ClassFile.FieldType.byte))).before args0 about1 = true := code_word (m := ⟨12, 2⟩) (meth := k12m2) (c := k12c2) (by decide +kernel) rfl rfl rfl (by decide +kernel)
set_option maxRecDepth 65536 in
theorem w_c14 : (Jvm.Cond.code ({ cls := "java/lang/StringUTF16", name := "compress", desc := "([CI[BII)I" } : Jvm.MethodName) jdk_52_method_21_code (7 : Nat) (Option.some Jvm.ClassFile.FieldType.int)).before args0 about1 = true := code_word (m := ⟨12, 3⟩) (meth := k12m3) (c := k12c3) (by decide +kernel) rfl rfl rfl (by decide +kernel)
set_option maxRecDepth 65536 in
theorem w_c15 : (Jvm.Cond.code ({ cls := "java/lang/StringUTF16", name := "coderFromArrayLen", desc := "([BI)B" } : Jvm.MethodName) jdk_52_method_15_code (2 : Nat) (Option.some Jvm.ClassFile.FieldType.byte)).before args0 about1 = true := code_word (m := ⟨12, 1⟩) (meth := k12m1) (c := k12c1) (by decide +kernel) rfl rfl rfl (by decide +kernel)
set_option maxRecDepth 65536 in
theorem w_c16 : (Jvm.Cond.code ({ cls := "java/lang/StringLatin1", name := "getChar", desc := "([BI)C" } : Jvm.MethodName) jdk_43_method_44_code (2 : Nat) (Option.some Jvm.ClassFile.FieldType.char)).before args0 about1 = true := code_word (m := ⟨9, 3⟩) (meth := k9m3) (c := k9c3) (by decide +kernel) rfl rfl rfl (by decide +kernel)
def codes1 : List Jvm.Cond := [Jvm.Cond.code x code maxLocals ret, Jvm.Cond.code ({ cls := "java/lang/String", name := "<init>", desc := "([C)V" } : Jvm.MethodName) jdk_42_method_3_code (2 : Nat) (Option.none : Option Jvm.ClassFile.FieldType), Jvm.Cond.code ({ cls := "java/lang/String", name := "<init>", desc := "([CIILjava/lang/Void;)V" } : Jvm.MethodName) jdk_42_method_149_code (6 : Nat) (Option.none : Option Jvm.ClassFile.FieldType), Jvm.Cond.code ({ cls := "java/lang/Object", name := "<init>", desc := "()V" } : Jvm.MethodName) object_method_1_code (1 : Nat) (Option.none : Option Jvm.ClassFile.FieldType), Jvm.Cond.code ({ cls := "com/example/chainvouch/chainvouch/chain/TimeRange", name := "<init>", desc := "(Ljava/lang/String;Ljava/lang/String;)V" } : Jvm.MethodName) prog_15_method_1_code (3 : Nat) (Option.none : Option Jvm.ClassFile.FieldType), Jvm.Cond.code ({ cls := "java/lang/String", name := "compareTo", desc := "(Ljava/lang/String;)I" } : Jvm.MethodName) jdk_42_method_71_code (5 : Nat) (Option.some Jvm.ClassFile.FieldType.int), Jvm.Cond.code ({ cls := "java/lang/String", name := "coder", desc := "()B" } : Jvm.MethodName) jdk_42_method_152_code (1 : Nat) (Option.some Jvm.ClassFile.FieldType.byte), Jvm.Cond.code ({ cls := "java/lang/StringLatin1", name := "compareTo", desc := "([B[B)I" } : Jvm.MethodName) jdk_43_method_14_code (4 : Nat) (Option.some Jvm.ClassFile.FieldType.int), Jvm.Cond.code ({ cls := "java/lang/StringLatin1", name := "compareTo", desc := "([B[BII)I" } : Jvm.MethodName) jdk_43_method_15_code (6 : Nat) (Option.some Jvm.ClassFile.FieldType.int), Jvm.Cond.code ({ cls := "java/lang/Math", name := "min", desc := "(II)I" } : Jvm.MethodName) jdk_29_method_69_code (2 : Nat) (Option.some Jvm.ClassFile.FieldType.int), Jvm.Cond.code ({ cls := "jdk/internal/util/ArraysSupport", name := "mismatch", desc := "([B[BI)I" } : Jvm.MethodName) jdk_48_method_13_code (4 : Nat) (Option.some Jvm.ClassFile.FieldType.int), Jvm.Cond.code ({ cls := "com/example/chainvouch/chainvouch/chain/TimeRange", name := "startsAfter", desc := "(Ljava/lang/String;)Z" } : Jvm.MethodName) prog_15_method_3_code (2 : Nat) (Option.some Jvm.ClassFile.FieldType.boolean), Jvm.Cond.code ({ cls := "com/example/chainvouch/chainvouch/chain/TimeRangeStartsAfterPinLaw", name := "geq", desc := "(IIIIII)Z" } : Jvm.MethodName) method_3_code (6 : Nat) (Option.some Jvm.ClassFile.FieldType.boolean), Jvm.Cond.code ({ cls := "java/lang/StringUTF16", name := "compress", desc := "([CII)[B" } : Jvm.MethodName) jdk_52_method_16_code (6 : Nat) (Option.some (Jvm.ClassFile.FieldType.array Jvm.ClassFile.FieldType.byte)), Jvm.Cond.code ({ cls := "java/lang/StringUTF16", name := "compress", desc := "([CI[BII)I" } : Jvm.MethodName) jdk_52_method_21_code (7 : Nat) (Option.some Jvm.ClassFile.FieldType.int), Jvm.Cond.code ({ cls := "java/lang/StringUTF16", name := "coderFromArrayLen", desc := "([BI)B" } : Jvm.MethodName) jdk_52_method_15_code (2 : Nat) (Option.some Jvm.ClassFile.FieldType.byte), Jvm.Cond.code ({ cls := "java/lang/StringLatin1", name := "getChar", desc := "([BI)C" } : Jvm.MethodName) jdk_43_method_44_code (2 : Nat) (Option.some Jvm.ClassFile.FieldType.char)]
set_option maxRecDepth 65536 in
theorem codes_eq : words1.filter isCode = codes1 := rfl
theorem w_codes : ∀ c ∈ words1.filter isCode, c.before args0 about1 = true := by
  rw [codes_eq]
  intro c hc
  simp only [codes1, List.mem_cons, List.not_mem_nil, or_false] at hc
  rcases hc with rfl | rfl | rfl | rfl | rfl | rfl | rfl | rfl | rfl | rfl | rfl | rfl | rfl | rfl | rfl | rfl | rfl
  · exact w_c0
  · exact w_c1
  · exact w_c2
  · exact w_c3
  · exact w_c4
  · exact w_c5
  · exact w_c6
  · exact w_c7
  · exact w_c8
  · exact w_c9
  · exact w_c10
  · exact w_c11
  · exact w_c12
  · exact w_c13
  · exact w_c14
  · exact w_c15
  · exact w_c16
set_option maxRecDepth 65536 in
theorem w_t1 : (words1.take 24).all (fun c => isCode c || c.before args0 about1) = true := by decide +kernel
set_option maxRecDepth 65536 in
theorem w_t2 : ((words1.drop 24).take 24).all (fun c => isCode c || c.before args0 about1) = true := by decide +kernel
set_option maxRecDepth 65536 in
theorem w_t3 : (((words1.drop 24).drop 24).take 24).all (fun c => isCode c || c.before args0 about1) = true := by decide +kernel
set_option maxRecDepth 65536 in
theorem w_t4 : (((words1.drop 24).drop 24).drop 24).all (fun c => isCode c || c.before args0 about1) = true := by decide +kernel
theorem w_tables : (allAtoms (Jvm.Cond.code x code maxLocals ret :: tables_1)).before args0 about1 = true := by
  rw [allAtoms_all]
  show words1.all (fun c => c.before args0 about1) = true
  refine all_split ?_ w_codes
  rw [← List.take_append_drop 24 words1, List.all_append, w_t1, ← List.take_append_drop 24 (words1.drop 24), List.all_append, w_t2, ← List.take_append_drop 24 ((words1.drop 24).drop 24), List.all_append, w_t3, w_t4]
  rfl
set_option maxRecDepth 65536 in
theorem w_rest : rest_1_c.before args0 about1 = true := by decide +kernel
set_option maxRecDepth 65536 in
theorem w_case : (Jvm.Cond.and given_1 narrow_1).before args0 about1 = true := by decide +kernel
set_option maxRecDepth 65536 in
theorem w_consts : constsHeld consts_1 about1 := Jvm.Lit.constsHeldB_iff.mp (by decide +kernel)
theorem w_applies : (headSpec (Jvm.Cond.code x code maxLocals ret :: tables_1) room_1).applies x e0.platform about1 = true :=
  (Spec.applies_iff w_frames).mpr ⟨w_running, w_runnable, w_alone, w_named, w_hears, w_ripe, w_room, w_tables⟩
theorem atStart : AtStart classFile x code maxLocals ret World_1 tables_1 room_1 Calls_1 rest_1 Pre_1 launch0 p0 e0 about1 theMethod args0 below0 :=
  ⟨lists_1, trivial, launch0.admits_env _ _ _, launch0.least_env, fairChoices_fair.cas, fairChoices_fair.clock, w_frames, w_args, w_heap, w_applies, ⟨w_consts, trivial⟩, w_rest, w_case⟩
end start1
theorem witness_1 : WitnessClaimed_1 := ⟨start1.p0, start1.e0, start1.about1, start1.theMethod, start1.args0, start1.below0, start1.atStart⟩
end Jvm.Pilot.@@N@@
