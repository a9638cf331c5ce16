import JvmDerived
import JvmDerived.Pilot.@@N@@Statement
import JvmDerived.Pilot.@@N@@Code
set_option linter.unusedVariables false
set_option linter.unusedSimpArgs false
namespace Jvm.Wk
open Jvm Jvm.ClassFile Sem Op Lib Bundle Jvm.Free Jvm.Stand Jvm.LawKit Jvm.RoadKit
abbrev Fd : Type := String × String × String × Value
abbrev Desc : Type := (String × List Fd) ⊕ (String × FieldType × List Value)
abbrev Ent : Type := Addr × Bool × Desc
def sl (Z : State) (f : Fd) : Nat := Jvm.RoadKit.slotOf Z f.1 f.2.1 f.2.2.1
def Dist (Z : State) : Desc → Prop
  | .inl (_, fs) => (fs.map (sl Z)).Pairwise (fun x y => x ≠ y)
  | .inr _ => True
def Sat (Z : State) (h : Heap) (a : Addr) : Desc → Prop
  | .inl (C, fs) => Exa Z h a C ∧ ∀ f ∈ fs, Fld Z h a f.1 f.2.1 f.2.2.1 f.2.2.2
  | .inr (ad, ty, vs) => ∃ c : Cell, Arr Z h a c ty ∧ c.slots = vs.toArray ∧ vs.length < 2147483648 ∧ (∀ v ∈ vs, fits ty v = true) ∧ (ad ≠ "" → Exa Z h a ad)
def Apart (x y : Ent) : Prop := (x.2.1 = true ∨ y.2.1 = true) → x.1 ≠ y.1
def Hp (Z : State) (EL : Bool × List (String × Nat)) (D : List Ent) (vm : Vm) (h : Heap) : Prop :=
  Ext Z.heap h ∧ CHv Z EL.2 vm h ∧ (∀ x ∈ D, Sat Z h x.1 x.2.2 ∧ (x.2.1 = true → Z.heap.size ≤ x.1 ∧ Safe Z EL.2 vm h x.1 ∧ Dist Z x.2.2)) ∧ D.Pairwise Apart
section Facts
variable {Z : State} {EL : Bool × List (String × Nat)} {D D' : List Ent} {vm vm1 : Vm} {h h' : Heap} {a b : Addr} {d d' : Desc} {s1 : Nat} {v : Value} {x y : Ent}
theorem Sat.ext (E : Ext h h') (S : Sat Z h a d) : Sat Z h' a d := by
  match d, S with
  | .inl (C, fs), S => exact ⟨S.1.ext E, fun f hf => (S.2 f hf).ext E⟩
  | .inr (ad, ty, vs), S => obtain ⟨c, A, r1, r2, r3, r4⟩ := S; exact ⟨c, A.ext E, r1, r2, r3, fun q => (r4 q).ext E⟩
theorem Sat.keep {ws : List Addr} (K : Keep h h' ws) (q : a ∉ ws) (S : Sat Z h a d) : Sat Z h' a d := by
  match d, S with
  | .inl (C, fs), S => exact ⟨S.1.keep K, fun f hf => (S.2 f hf).keep K q⟩
  | .inr (ad, ty, vs), S => obtain ⟨c, A, r1, r2, r3, r4⟩ := S; exact ⟨c, ⟨K.2.1 _ _ A.1 q, A.2⟩, r1, r2, r3, fun q => (r4 q).keep K⟩
theorem Sat.lt (S : Sat Z h a d) : a < h.size := by
  match d, S with
  | .inl (C, fs), S => exact S.1.lt
  | .inr (ad, ty, vs), S => obtain ⟨c, A, -⟩ := S; exact A.lt
theorem Apart.symm (q : Apart x y) : Apart y x := fun r e => q r.symm e.symm
theorem Hp.perm (P : D.Perm D') (H : Hp Z EL D vm h) : Hp Z EL D' vm h :=
  ⟨H.1, H.2.1, fun x hx => H.2.2.1 x (P.mem_iff.mpr hx), (P.pairwise_iff (fun q => Apart.symm q)).mp H.2.2.2⟩
theorem perm_front {α : Type} : ∀ (D : List α) (i : Nat) (x : α), D[i]? = some x → D.Perm (x :: D.eraseIdx i)
  | [], _, _, q => by simp at q
  | y :: D, 0, x, q => by simp at q; subst q; exact List.Perm.refl _
  | y :: D, i + 1, x, q => by
    have q' : D[i]? = some x := by simpa using q
    exact ((perm_front D i x q').cons y).trans (List.Perm.swap x y _)
theorem perm_set {α : Type} : ∀ (D : List α) (i : Nat) (x x' : α), D[i]? = some x → (D.set i x').Perm (x' :: D.eraseIdx i)
  | [], _, _, _, q => by simp at q
  | y :: D, 0, x, x', q => List.Perm.refl _
  | y :: D, i + 1, x, x', q => by
    have q' : D[i]? = some x := by simpa using q
    exact ((perm_set D i x x' q').cons y).trans (List.Perm.swap x' y _)
theorem Hp.new (H : Hp Z EL D vm h) (E : Ext h h') (S : Sat Z h' h.size d) (dd : Dist Z d) : Hp Z EL ((h.size, true, d) :: D) vm h' := by
  obtain ⟨h1, h2, h3, h4⟩ := H
  refine ⟨⟨Nat.le_trans h1.1 E.1, fun a c q => E.2 _ _ (h1.2 _ _ q)⟩, h2.ext E, fun x hx => ?_, List.pairwise_cons.mpr ⟨fun y hy _ => ?_, h4⟩⟩
  · rcases List.mem_cons.mp hx with rfl | hx
    · exact ⟨S, fun _ => ⟨h1.1, Safe.ext E h2 (Safe.new (Nat.le_refl _)), dd⟩⟩
    · exact ⟨(h3 x hx).1.ext E, fun w => ⟨((h3 x hx).2 w).1, Safe.ext E h2 ((h3 x hx).2 w).2.1, ((h3 x hx).2 w).2.2⟩⟩
  · have := (h3 y hy).1.lt
    exact fun e => by rw [← e] at this; exact Nat.lt_irrefl _ this
theorem Hp.keepHead (H : Hp Z EL ((a, true, d) :: D) vm h) (K : Keep h h' [a]) (S : Sat Z h' a d') (dd : Dist Z d') : Hp Z EL ((a, true, d') :: D) vm h' := by
  obtain ⟨h1, h2, h3, h4⟩ := H
  obtain ⟨g1, g2, -⟩ := (h3 _ (List.mem_cons_self ..)).2 rfl
  have hs : ∀ x ∈ [a], Safe Z EL.2 vm h x := fun x hx => by cases List.mem_singleton.mp hx; exact g2
  obtain ⟨p1, p2⟩ := List.pairwise_cons.mp h4
  refine ⟨⟨Nat.le_trans h1.1 K.1, fun b c q => K.2.1 _ _ (h1.2 _ _ q) fun z => ?_⟩, h2.keep K hs, fun x hx => ?_, List.pairwise_cons.mpr ⟨fun y hy r => p1 y hy (Or.inl rfl), p2⟩⟩
  · cases List.mem_singleton.mp z
    exact Nat.lt_irrefl _ (Nat.lt_of_lt_of_le (Array.getElem?_eq_some_iff.mp q).1 g1)
  · rcases List.mem_cons.mp hx with rfl | hx
    · exact ⟨S, fun _ => ⟨g1, Safe.keep K hs h2 g2, dd⟩⟩
    · have ne : x.1 ∉ [a] := fun z => p1 x hx (Or.inl rfl) (List.mem_singleton.mp z).symm
      have hx' := h3 x (List.mem_cons_of_mem _ hx)
      exact ⟨hx'.1.keep K ne, fun w => ⟨(hx'.2 w).1, Safe.keep K hs h2 (hx'.2 w).2.1, (hx'.2 w).2.2⟩⟩
theorem Hp.keepSet {i : Nat} (H : Hp Z EL D vm h) (hi : D[i]? = some (a, true, d)) (K : Keep h h' [a]) (S : Sat Z h' a d') (dd : Dist Z d') : Hp Z EL (D.set i (a, true, d')) vm h' :=
  ((H.perm (perm_front D i _ hi)).keepHead K S dd).perm (perm_set D i _ _ hi).symm
theorem Hp.toVm (H : Hp Z EL D vm h) (C : CHr Z EL.2 vm h vm1 h) : Hp Z EL D vm1 h :=
  ⟨H.1, C.1, fun x hx => ⟨(H.2.2.1 x hx).1, fun w => ⟨((H.2.2.1 x hx).2 w).1, C.safe (H.2.2.1 x hx).1.lt ((H.2.2.1 x hx).2 w).2.1, ((H.2.2.1 x hx).2 w).2.2⟩⟩, H.2.2.2⟩
theorem Hp.grown (H : Hp Z EL D vm h) (E : Ext h h') (C : CHr Z EL.2 vm h vm1 h') : Hp Z EL D vm1 h' :=
  ⟨⟨Nat.le_trans H.1.1 E.1, fun a c q => E.2 _ _ (H.1.2 _ _ q)⟩, C.1, fun x hx => ⟨(H.2.2.1 x hx).1.ext E, fun w => ⟨((H.2.2.1 x hx).2 w).1, C.safe (H.2.2.1 x hx).1.lt ((H.2.2.1 x hx).2 w).2.1, ((H.2.2.1 x hx).2 w).2.2⟩⟩, H.2.2.2⟩
end Facts
def Idx (j : Int32) (i : Nat) : Prop := ¬ j < 0 ∧ j.toNatClampNeg = i
theorem Idx.toInt {j : Int32} {i : Nat} (q : Idx j i) : j.toInt = i := by
  have h1 : ¬ j.toInt < 0 := fun r => q.1 (by rw [Int32.lt_iff_toInt_lt]; exact r)
  have h2 := q.2
  simp only [Int32.toNatClampNeg] at h2
  omega
end Jvm.Wk
namespace Jvm.Wk
open Jvm Jvm.ClassFile Sem Op Lib Bundle Jvm.Free Jvm.Stand Jvm.LawKit Jvm.RoadKit
def ELok (Z : State) (EL : Bool × List (String × Nat)) : Prop := (∃ a0, EW Z a0 EL.2) ∧ (EL.1 = true → EL.2 = [])
def Res (Z : State) (EL : Bool × List (String × Nat)) (Q : Option Value → List Ent → Prop) (R : Room) (s : State) (o : Outcome) (t : State) : Prop :=
  ∃ v L, o = .returned v ∧ Fr Z.heap.size L ∧ (∃ D', Hp Z EL D' t.vm t.heap ∧ Q v D') ∧ ReturnedEndW s o t L R.cells R.slots ∧ (EL.1 = true → s.WarmedH t.vm)
def Here (Z : State) (EL : Bool × List (String × Nat)) (R : Room) (own nm : String) (bytes : ByteArray) (ml : Nat) (ret : Option FieldType) (D : List Ent) (k n : Nat)
    (p : Program) (l : Launch) (e : Env) (s : State) (m : MethodId) (args : Array Value) (below : List Frame) (meth : Method) (c : Code) (T : State) (vm0 : Vm) (k0 : Nat) (locs : List Loc) (cells slots : Nat) : Prop :=
  Stand p l e R (s.setVm vm0) m args below meth c T locs cells slots ∧ s.Since vm0 k0 ∧ k0 ≤ T.heap.size ∧ p.tables.exec = Jvm.exec ∧ c.code = bytes ∧ c.maxLocals = ml ∧ vm0.findClass own = some m.cls ∧ Z.Warmed39 vm0 ∧
    meth.sig.returnType = ret ∧ meth.locks = false ∧ meth.name = nm ∧ Fr Z.heap.size locs ∧ Hp Z EL D vm0 T.heap ∧ cells ≤ k ∧ slots ≤ n ∧ ELok Z EL ∧ (EL.1 = true → vm0 = s.vm)
def W (Z : State) (EL : Bool × List (String × Nat)) (R : Room) (own nm : String) (bytes : ByteArray) (ml : Nat) (ret : Option FieldType) (Q : Option Value → List Ent → Prop) (D : List Ent) (k n : Nat) (pc : Nat) (ls : Array Slot) (st : List Value) : Prop :=
  ∀ p l e s m args below meth c T vm0 k0 locs cells slots, Here Z EL R own nm bytes ml ret D k n p l e s m args below meth c T vm0 k0 locs cells slots →
    ∃ s₂ o, Steps p.tables e below (T.setTop (mkF m pc ls st)) s₂ ∧ s₂.status = .running ∧ Ended s₂ below o ∧ Res Z EL Q R s o s₂
def Con (Z : State) (EL : Bool × List (String × Nat)) (y : MethodName) (bytes : ByteArray) (maxL : Nat) (ret : Option FieldType) (rm : Room) (as : List Value) (D : List Ent) (Q : Option Value → List Ent → Prop) : Prop :=
  ELok Z EL → ∀ (l : Launch) (ws : List Cond), MetFree l y (head1 (Cond.code y bytes maxL ret :: ws) rm) (fun a U => a = as.toArray ∧ Z.Warmed39 U.vm ∧ Hp Z EL D U.vm U.heap) (fun _ _ _ _ _ => True) (fun _ U o U' => Res Z EL Q rm U o U')
theorem ld0 : Jvm.Sym.laidSlots [] = [] := rfl
theorem ld1 {v : Value} {vs : List Value} {L : List Slot} (h : v.category = 1) (e : Jvm.Sym.laidSlots vs = L) : Jvm.Sym.laidSlots (v :: vs) = .val v :: L := by simp [Jvm.Sym.laidSlots, h, e]
theorem hent_of {as : List Value} {L : List Slot} {ml : Nat} {ls : Array Slot} (e : Jvm.Sym.laidSlots as = L) (h : L ++ List.replicate (ml - L.length) .unset = ls.toList) : Jvm.Sym.laidSlots as ++ List.replicate (ml - (Jvm.Sym.laidSlots as).length) .unset = ls.toList := by rw [e]; exact h
section Walk
variable {Z : State} {EL : Bool × List (String × Nat)} {R : Room} {own nm : String} {bytes : ByteArray} {ml : Nat} {ret : Option FieldType} {Q : Option Value → List Ent → Prop} {D D' : List Ent} {k n pc : Nat} {ls ls' : Array Slot} {st : List Value} {a0 : Array Value}
theorem Con.of {y : MethodName} {as : List Value} (hpl : plainFor y = true) (hent : Jvm.Sym.laidSlots as ++ List.replicate (ml - (Jvm.Sym.laidSlots as).length) .unset = ls.toList) (hW : W Z EL R y.cls y.name bytes ml ret Q D 0 0 0 ls []) : Con Z EL y bytes ml ret R as D Q := by
  intro hE l ws
  refine MetFree.of_bodySF hpl hisR ?_
  intro p e s m args below meth c s₁ Bd hml0 hP hK
  obtain ⟨rfl, hZ, hh⟩ := hP
  have X0 : Stand p l e R s m as.toArray below meth c s₁ [] 0 0 := Stand.of_body Bd
  have e0 : s₁.heap = s.heap := by rw [Bd.state]; rfl
  have hown : s.vm.findClass y.cls = some m.cls := findClass_of_methodNamed Bd.named
  have hnm := (name_of_methodNamed Bd.named Bd.method).1
  obtain ⟨s₂, o, h1, r⟩ := hW p l e s m as.toArray below meth c s₁ s.vm 0 [] 0 0
    ⟨X0, (State.WarmedH.refl s).since 0, Nat.zero_le _, Bd.exec, Bd.bytes, hml0, hown, hZ, Bd.returns, Bd.notSynchronized, hnm, Fr.nil _, by rw [e0]; exact hh, Nat.le_refl _, Nat.le_refl _, hE, fun _ => rfl⟩
  exact ⟨s₂, o, (XT.entry (by simpa using hent)).trans h1, r⟩
theorem W.pure {pc' : Nat} {st' : List Value} (H : ∀ {p : Program} {e : Env} {below : List Frame} {T target : State} {m : MethodId} {c : Code}, At T m c below → p.tables.exec = Jvm.exec → c.code = bytes → Steps p.tables e below (T.setTop (mkF m pc' ls' st')) target → Steps p.tables e below (T.setTop (mkF m pc ls st)) target)
    (next : W Z EL R own nm bytes ml ret Q D k n pc' ls' st') : W Z EL R own nm bytes ml ret Q D k n pc ls st := by
  intro p l e s m args below meth c T vm0 k0 locs cells slots A
  obtain ⟨s₂, o, h1, r⟩ := next p l e s m args below meth c T vm0 k0 locs cells slots A
  exact ⟨s₂, o, H A.1.here A.2.2.2.1 A.2.2.2.2.1 h1, r⟩
theorem W.mono {k' n' : Nat} (hk : k ≤ k') (hn : n ≤ n') (next : W Z EL R own nm bytes ml ret Q D k' n' pc ls st) : W Z EL R own nm bytes ml ret Q D k n pc ls st := by
  intro p l e s m args below meth c T vm0 k0 locs cells slots A
  obtain ⟨X, hS, hk0, hx, hby, hml, hown, hZ, r1, r2, r3, hN, hH, hc, hl, hE, hNI⟩ := A
  exact next p l e s m args below meth c T vm0 k0 locs cells slots ⟨X, hS, hk0, hx, hby, hml, hown, hZ, r1, r2, r3, hN, hH, Nat.le_trans hc hk, Nat.le_trans hl hn, hE, hNI⟩
theorem W.heap (H : ∀ vm h, Hp Z EL D vm h → Hp Z EL D' vm h) (next : W Z EL R own nm bytes ml ret Q D' k n pc ls st) : W Z EL R own nm bytes ml ret Q D k n pc ls st := by
  intro p l e s m args below meth c T vm0 k0 locs cells slots A
  obtain ⟨X, hS, hk0, hx, hby, hml, hown, hZ, r1, r2, r3, hN, hH, hc, hl, hE, hNI⟩ := A
  exact next p l e s m args below meth c T vm0 k0 locs cells slots ⟨X, hS, hk0, hx, hby, hml, hown, hZ, r1, r2, r3, hN, H _ _ hH, hc, hl, hE, hNI⟩
theorem W.perm (P : D.Perm D') (next : W Z EL R own nm bytes ml ret Q D' k n pc ls st) : W Z EL R own nm bytes ml ret Q D k n pc ls st := W.heap (fun _ _ H => H.perm P) next
theorem W.aload (i : Nat) {v : Value} (hd : decode bytes pc = .ok (.aload i, 2)) (hl : ls[i]? = some (.val v)) (hv : v.isRef = true) (next : W Z EL R own nm bytes ml ret Q D k n (pc + 2) ls (v :: st)) : W Z EL R own nm bytes ml ret Q D k n pc ls st :=
  W.pure (fun h hx hc hr => XS.aload (g := mkF _ pc ls st) h hx rfl (hb hc hd) hl hv hr) next
theorem W.aloadN {i : Fin 4} {v : Value} (hd : decode bytes pc = .ok (.aload_n i, 1)) (hl : ls[i.val]? = some (.val v)) (hv : v.isRef = true) (next : W Z EL R own nm bytes ml ret Q D k n (pc + 1) ls (v :: st)) : W Z EL R own nm bytes ml ret Q D k n pc ls st :=
  W.pure (fun h hx hc hr => XS.aloadN (g := mkF _ pc ls st) h hx rfl (hb hc hd) hl hv hr) next
theorem W.iload {i : Nat} {v : Int32} (hd : decode bytes pc = .ok (.iload i, 2)) (hl : ls[i]? = some (.val (.int v))) (next : W Z EL R own nm bytes ml ret Q D k n (pc + 2) ls (.int v :: st)) : W Z EL R own nm bytes ml ret Q D k n pc ls st :=
  W.pure (fun h hx hc hr => XS.iload (g := mkF _ pc ls st) h hx rfl (hb hc hd) hl hr) next
theorem W.iloadN {i : Fin 4} {v : Int32} (hd : decode bytes pc = .ok (.iload_n i, 1)) (hl : ls[i.val]? = some (.val (.int v))) (next : W Z EL R own nm bytes ml ret Q D k n (pc + 1) ls (.int v :: st)) : W Z EL R own nm bytes ml ret Q D k n pc ls st :=
  W.pure (fun h hx hc hr => XS.iloadN (g := mkF _ pc ls st) h hx rfl (hb hc hd) hl hr) next
theorem W.lload {i : Nat} {v : Int64} (hd : decode bytes pc = .ok (.lload i, 2)) (hl : ls[i]? = some (.val (.long v))) (next : W Z EL R own nm bytes ml ret Q D k n (pc + 2) ls (.long v :: st)) : W Z EL R own nm bytes ml ret Q D k n pc ls st :=
  W.pure (fun h hx hc hr => XT.lload (g := mkF _ pc ls st) h hx rfl (hb hc hd) hl hr) next
theorem W.lloadN {i : Fin 4} {v : Int64} (hd : decode bytes pc = .ok (.lload_n i, 1)) (hl : ls[i.val]? = some (.val (.long v))) (next : W Z EL R own nm bytes ml ret Q D k n (pc + 1) ls (.long v :: st)) : W Z EL R own nm bytes ml ret Q D k n pc ls st :=
  W.pure (fun h hx hc hr => XT.lloadN (g := mkF _ pc ls st) h hx rfl (hb hc hd) hl hr) next
theorem W.astore {i : Nat} {v : Value} (hd : decode bytes pc = .ok (.astore i, 2)) (hv : v.isRef = true) (hl : storeLocals ls i v = some ls') (next : W Z EL R own nm bytes ml ret Q D k n (pc + 2) ls' st) : W Z EL R own nm bytes ml ret Q D k n pc ls (v :: st) :=
  W.pure (fun h hx hc hr => XS.astore (g := mkF _ pc ls (v :: st)) h hx rfl (hb hc hd) rfl hv hl hr) next
theorem W.astoreN {i : Fin 4} {v : Value} (hd : decode bytes pc = .ok (.astore_n i, 1)) (hv : v.isRef = true) (hl : storeLocals ls i.val v = some ls') (next : W Z EL R own nm bytes ml ret Q D k n (pc + 1) ls' st) : W Z EL R own nm bytes ml ret Q D k n pc ls (v :: st) :=
  W.pure (fun h hx hc hr => XS.astoreN (g := mkF _ pc ls (v :: st)) h hx rfl (hb hc hd) rfl hv hl hr) next
theorem W.istore {i : Nat} {v : Int32} (hd : decode bytes pc = .ok (.istore i, 2)) (hl : storeLocals ls i (.int v) = some ls') (next : W Z EL R own nm bytes ml ret Q D k n (pc + 2) ls' st) : W Z EL R own nm bytes ml ret Q D k n pc ls (.int v :: st) :=
  W.pure (fun h hx hc hr => XS.istore (g := mkF _ pc ls (.int v :: st)) h hx rfl (hb hc hd) rfl hl hr) next
theorem W.istoreN {i : Fin 4} {v : Int32} (hd : decode bytes pc = .ok (.istore_n i, 1)) (hl : storeLocals ls i.val (.int v) = some ls') (next : W Z EL R own nm bytes ml ret Q D k n (pc + 1) ls' st) : W Z EL R own nm bytes ml ret Q D k n pc ls (.int v :: st) :=
  W.pure (fun h hx hc hr => XS.istoreN (g := mkF _ pc ls (.int v :: st)) h hx rfl (hb hc hd) rfl hl hr) next
theorem W.lstore {i : Nat} {v : Int64} (hd : decode bytes pc = .ok (.lstore i, 2)) (hl : storeLocals ls i (.long v) = some ls') (next : W Z EL R own nm bytes ml ret Q D k n (pc + 2) ls' st) : W Z EL R own nm bytes ml ret Q D k n pc ls (.long v :: st) :=
  W.pure (fun h hx hc hr => XT.lstore (g := mkF _ pc ls (.long v :: st)) h hx rfl (hb hc hd) rfl hl hr) next
theorem W.iconst {i : Int} (v : Int32) (hd : decode bytes pc = .ok (.iconst i, 1)) (hv : Int32.ofInt i = v) (next : W Z EL R own nm bytes ml ret Q D k n (pc + 1) ls (.int v :: st)) : W Z EL R own nm bytes ml ret Q D k n pc ls st :=
  W.pure (fun h hx hc hr => XT.iconstV (g := mkF _ pc ls st) h hx rfl v (hb hc hd) hv hr) next
theorem W.bipush {i : Int} (v : Int32) (hd : decode bytes pc = .ok (.bipush i, 2)) (hv : (Int8.ofInt i).toInt32 = v) (next : W Z EL R own nm bytes ml ret Q D k n (pc + 2) ls (.int v :: st)) : W Z EL R own nm bytes ml ret Q D k n pc ls st :=
  W.pure (fun h hx hc hr => XT.bipushV (g := mkF _ pc ls st) h hx rfl v (hb hc hd) hv hr) next
theorem W.sipush {i : Int} (v : Int32) (hd : decode bytes pc = .ok (.sipush i, 3)) (hv : (Int16.ofInt i).toInt32 = v) (next : W Z EL R own nm bytes ml ret Q D k n (pc + 3) ls (.int v :: st)) : W Z EL R own nm bytes ml ret Q D k n pc ls st :=
  W.pure (fun h hx hc hr => XT.sipushV (g := mkF _ pc ls st) h hx rfl v (hb hc hd) hv hr) next
theorem W.lconst {i : Fin 2} (v : Int64) (hd : decode bytes pc = .ok (.lconst i, 1)) (hv : Int64.ofNat i = v) (next : W Z EL R own nm bytes ml ret Q D k n (pc + 1) ls (.long v :: st)) : W Z EL R own nm bytes ml ret Q D k n pc ls st :=
  W.pure (fun h hx hc hr => XT.lconstV (g := mkF _ pc ls st) h hx rfl v (hb hc hd) hv hr) next
theorem W.aconstNull (hd : decode bytes pc = .ok (.aconst_null, 1)) (next : W Z EL R own nm bytes ml ret Q D k n (pc + 1) ls (.null :: st)) : W Z EL R own nm bytes ml ret Q D k n pc ls st :=
  W.pure (fun h hx hc hr => XS.aconstNull (g := mkF _ pc ls st) h hx rfl (hb hc hd) hr) next
theorem W.iinc {i : Nat} {cst : Int} {x : Int32} (v : Int32) (hd : decode bytes pc = .ok (.iinc i cst, 3)) (hv : Int32.ofInt cst = v) (hl : ls[i]? = some (.val (.int x))) (hl' : storeLocals ls i (.int (x + v)) = some ls') (next : W Z EL R own nm bytes ml ret Q D k n (pc + 3) ls' st) : W Z EL R own nm bytes ml ret Q D k n pc ls st :=
  W.pure (fun h hx hc hr => XT.iincV (g := mkF _ pc ls st) h hx rfl v (hb hc hd) hv hl hl' hr) next
theorem W.popv {x : Value} (hd : decode bytes pc = .ok (.pop, 1)) (hc1 : x.category = 1) (next : W Z EL R own nm bytes ml ret Q D k n (pc + 1) ls st) : W Z EL R own nm bytes ml ret Q D k n pc ls (x :: st) :=
  W.pure (fun h hx hc hr => XT.pop (g := mkF _ pc ls (x :: st)) h hx rfl (hb hc hd) rfl hc1 hr) next
theorem W.dup {x : Value} (hd : decode bytes pc = .ok (.dup, 1)) (hc1 : x.category = 1) (next : W Z EL R own nm bytes ml ret Q D k n (pc + 1) ls (x :: x :: st)) : W Z EL R own nm bytes ml ret Q D k n pc ls (x :: st) :=
  W.pure (fun h hx hc hr => XS.dup (g := mkF _ pc ls (x :: st)) h hx rfl (hb hc hd) rfl hc1 hr) next
theorem W.isub {x y : Int32} (hd : decode bytes pc = .ok (.isub, 1)) (next : W Z EL R own nm bytes ml ret Q D k n (pc + 1) ls (.int (x - y) :: st)) : W Z EL R own nm bytes ml ret Q D k n pc ls (.int y :: .int x :: st) :=
  W.pure (fun h hx hc hr => XS.isub (g := mkF _ pc ls (.int y :: .int x :: st)) h hx rfl (hb hc hd) rfl hr) next
theorem W.iand {x y : Int32} (hd : decode bytes pc = .ok (.iand, 1)) (next : W Z EL R own nm bytes ml ret Q D k n (pc + 1) ls (.int (x &&& y) :: st)) : W Z EL R own nm bytes ml ret Q D k n pc ls (.int y :: .int x :: st) :=
  W.pure (fun h hx hc hr => XS.iand (g := mkF _ pc ls (.int y :: .int x :: st)) h hx rfl (hb hc hd) rfl hr) next
theorem W.ishr {x y : Int32} (hd : decode bytes pc = .ok (.ishr, 1)) (next : W Z EL R own nm bytes ml ret Q D k n (pc + 1) ls (.int (x >>> (y &&& 31)) :: st)) : W Z EL R own nm bytes ml ret Q D k n pc ls (.int y :: .int x :: st) :=
  W.pure (fun h hx hc hr => XT.ishr (g := mkF _ pc ls (.int y :: .int x :: st)) h hx rfl (hb hc hd) rfl hr) next
theorem W.iushr {x y : Int32} (hd : decode bytes pc = .ok (.iushr, 1)) (next : W Z EL R own nm bytes ml ret Q D k n (pc + 1) ls (.int (XT.ushr x y) :: st)) : W Z EL R own nm bytes ml ret Q D k n pc ls (.int y :: .int x :: st) :=
  W.pure (fun h hx hc hr => XT.iushr (g := mkF _ pc ls (.int y :: .int x :: st)) h hx rfl (hb hc hd) rfl hr) next
theorem W.land {x y : Int64} (hd : decode bytes pc = .ok (.land, 1)) (next : W Z EL R own nm bytes ml ret Q D k n (pc + 1) ls (.long (x &&& y) :: st)) : W Z EL R own nm bytes ml ret Q D k n pc ls (.long y :: .long x :: st) :=
  W.pure (fun h hx hc hr => XT.land (g := mkF _ pc ls (.long y :: .long x :: st)) h hx rfl (hb hc hd) rfl hr) next
theorem W.lcmp {x y : Int64} (hd : decode bytes pc = .ok (.lcmp, 1)) (next : W Z EL R own nm bytes ml ret Q D k n (pc + 1) ls (.int (XT.cmpL x y) :: st)) : W Z EL R own nm bytes ml ret Q D k n pc ls (.long y :: .long x :: st) :=
  W.pure (fun h hx hc hr => XT.lcmp (g := mkF _ pc ls (.long y :: .long x :: st)) h hx rfl (hb hc hd) rfl hr) next
theorem W.i2b {x : Int32} (hd : decode bytes pc = .ok (.i2b, 1)) (next : W Z EL R own nm bytes ml ret Q D k n (pc + 1) ls (.int x.toInt8.toInt32 :: st)) : W Z EL R own nm bytes ml ret Q D k n pc ls (.int x :: st) :=
  W.pure (fun h hx hc hr => XT.i2b (g := mkF _ pc ls (.int x :: st)) h hx rfl (hb hc hd) rfl hr) next
theorem W.i2c {x : Int32} (hd : decode bytes pc = .ok (.i2c, 1)) (next : W Z EL R own nm bytes ml ret Q D k n (pc + 1) ls (.int x.toUInt32.toUInt16.toUInt32.toInt32 :: st)) : W Z EL R own nm bytes ml ret Q D k n pc ls (.int x :: st) :=
  W.pure (fun h hx hc hr => XT.i2c (g := mkF _ pc ls (.int x :: st)) h hx rfl (hb hc hd) rfl hr) next
theorem W.goto (pc' : Nat) {o : Int} (hd : decode bytes pc = .ok (.goto o, 3)) (ho : 0 ≤ (pc : Int) + o ∧ ((pc : Int) + o).toNat = pc') (next : W Z EL R own nm bytes ml ret Q D k n pc' ls st) : W Z EL R own nm bytes ml ret Q D k n pc ls st :=
  W.pure (fun h hx hc hr => XS.goto (g := mkF _ pc ls st) h hx rfl rfl (hb hc hd) ho.1 ho.2 hr) next
def Cd : ClassFile.Cond → Int32 → Int32 → Prop
  | .eq, x, y => x = y
  | .ne, x, y => ¬ x = y
  | .lt, x, y => x < y
  | .ge, x, y => ¬ x < y
  | .gt, x, y => y < x
  | .le, x, y => ¬ y < x
theorem Cd.yes {cd : ClassFile.Cond} {x y : Int32} (q : Cd cd x y) : if_icmp.holds cd x y = true := by
  cases cd <;> first | exact (teq q).1 | exact (feq q).2 | exact (tlt q).1 | exact (flt q).2.1 | exact (tlt q).2.2.1 | exact (flt q).2.2.2
theorem Cd.no {cd : ClassFile.Cond} {x y : Int32} (q : ¬ Cd cd x y) : if_icmp.holds cd x y = false := by
  cases cd <;> first | exact (feq q).1 | exact (teq (Classical.not_not.mp q)).2 | exact (flt q).1 | exact (tlt (Classical.not_not.mp q)).2.1 | exact (flt q).2.2.1 | exact (tlt (Classical.not_not.mp q)).2.2.2
theorem W.icmpY (pc' : Nat) {cd : ClassFile.Cond} {x y : Int32} {o : Int} (hd : decode bytes pc = .ok (.if_icmp cd o, 3)) (q : Cd cd x y) (ho : 0 ≤ (pc : Int) + o ∧ ((pc : Int) + o).toNat = pc') (next : W Z EL R own nm bytes ml ret Q D k n pc' ls st) : W Z EL R own nm bytes ml ret Q D k n pc ls (.int y :: .int x :: st) :=
  W.pure (fun h hx hc hr => XS.icmpYes (g := mkF _ pc ls (.int y :: .int x :: st)) h hx rfl rfl (hb hc hd) rfl q.yes ho.1 ho.2 hr) next
theorem W.icmpN {cd : ClassFile.Cond} {x y : Int32} {o : Int} (hd : decode bytes pc = .ok (.if_icmp cd o, 3)) (q : ¬ Cd cd x y) (next : W Z EL R own nm bytes ml ret Q D k n (pc + 3) ls st) : W Z EL R own nm bytes ml ret Q D k n pc ls (.int y :: .int x :: st) :=
  W.pure (fun h hx hc hr => XS.icmpNo (g := mkF _ pc ls (.int y :: .int x :: st)) h hx rfl (hb hc hd) rfl (Cd.no q) hr) next
theorem W.ifY (pc' : Nat) {cd : ClassFile.Cond} {x : Int32} {o : Int} (hd : decode bytes pc = .ok (.ifCond cd o, 3)) (q : Cd cd x 0) (ho : 0 ≤ (pc : Int) + o ∧ ((pc : Int) + o).toNat = pc') (next : W Z EL R own nm bytes ml ret Q D k n pc' ls st) : W Z EL R own nm bytes ml ret Q D k n pc ls (.int x :: st) :=
  W.pure (fun h hx hc hr => XS.ifYes (g := mkF _ pc ls (.int x :: st)) h hx rfl rfl (hb hc hd) rfl ((if0 _ _).trans q.yes) ho.1 ho.2 hr) next
theorem W.ifN {cd : ClassFile.Cond} {x : Int32} {o : Int} (hd : decode bytes pc = .ok (.ifCond cd o, 3)) (q : ¬ Cd cd x 0) (next : W Z EL R own nm bytes ml ret Q D k n (pc + 3) ls st) : W Z EL R own nm bytes ml ret Q D k n pc ls (.int x :: st) :=
  W.pure (fun h hx hc hr => XS.ifNo (g := mkF _ pc ls (.int x :: st)) h hx rfl (hb hc hd) rfl ((if0 _ _).trans (Cd.no q)) hr) next
theorem W.if (pc' : Nat) {cd : ClassFile.Cond} {x : Int32} {o : Int} (hd : decode bytes pc = .ok (.ifCond cd o, 3)) (ho : 0 ≤ (pc : Int) + o ∧ ((pc : Int) + o).toNat = pc') (nextY : Cd cd x 0 → W Z EL R own nm bytes ml ret Q D k n pc' ls st) (nextN : ¬ Cd cd x 0 → W Z EL R own nm bytes ml ret Q D k n (pc + 3) ls st) : W Z EL R own nm bytes ml ret Q D k n pc ls (.int x :: st) := by
  by_cases q : Cd cd x 0
  · exact W.ifY pc' hd q ho (nextY q)
  · exact W.ifN hd q (nextN q)
theorem W.ifnullY (pc' : Nat) {o : Int} (hd : decode bytes pc = .ok (.ifnull o, 3)) (ho : 0 ≤ (pc : Int) + o ∧ ((pc : Int) + o).toNat = pc') (next : W Z EL R own nm bytes ml ret Q D k n pc' ls st) : W Z EL R own nm bytes ml ret Q D k n pc ls (.null :: st) :=
  W.pure (fun h hx hc hr => XS.ifnullYes (g := mkF _ pc ls (.null :: st)) h hx rfl rfl (hb hc hd) rfl ho.1 ho.2 hr) next
theorem W.ifnullN {o : Int} {a : Addr} (hd : decode bytes pc = .ok (.ifnull o, 3)) (next : W Z EL R own nm bytes ml ret Q D k n (pc + 3) ls st) : W Z EL R own nm bytes ml ret Q D k n pc ls (.ref a :: st) :=
  W.pure (fun h hx hc hr => XS.ifnullNo (g := mkF _ pc ls (.ref a :: st)) h hx rfl (hb hc hd) rfl hr) next
theorem W.ifnonnullY (pc' : Nat) {o : Int} {a : Addr} (hd : decode bytes pc = .ok (.ifnonnull o, 3)) (ho : 0 ≤ (pc : Int) + o ∧ ((pc : Int) + o).toNat = pc') (next : W Z EL R own nm bytes ml ret Q D k n pc' ls st) : W Z EL R own nm bytes ml ret Q D k n pc ls (.ref a :: st) :=
  W.pure (fun h hx hc hr => XT.ifnonnullYes (g := mkF _ pc ls (.ref a :: st)) h hx rfl rfl (hb hc hd) rfl ho.1 ho.2 hr) next
def Ca : ClassFile.ACond → Value → Value → Prop
  | .eq, x, y => x = y
  | .ne, x, y => ¬ x = y
theorem Ca.yes {cd : ClassFile.ACond} {x y : Value} (q : Ca cd x y) : XT.acmp cd x y = true := by
  cases cd
  · exact XT.aa_eq_t q
  · exact XT.aa_ne_t q
theorem Ca.no {cd : ClassFile.ACond} {x y : Value} (q : ¬ Ca cd x y) : XT.acmp cd x y = false := by
  cases cd
  · exact XT.aa_eq_f q
  · exact XT.aa_ne_f (Classical.not_not.mp q)
theorem W.acmpY (pc' : Nat) {cd : ClassFile.ACond} {x y : Value} {o : Int} (hd : decode bytes pc = .ok (.if_acmp cd o, 3)) (hx1 : x.isRef = true) (hy1 : y.isRef = true) (q : Ca cd x y) (ho : 0 ≤ (pc : Int) + o ∧ ((pc : Int) + o).toNat = pc') (next : W Z EL R own nm bytes ml ret Q D k n pc' ls st) : W Z EL R own nm bytes ml ret Q D k n pc ls (y :: x :: st) :=
  W.pure (fun h hx hc hr => XT.acmpYes (g := mkF _ pc ls (y :: x :: st)) h hx rfl rfl (hb hc hd) rfl hx1 hy1 q.yes ho.1 ho.2 hr) next
theorem W.acmpN {cd : ClassFile.ACond} {x y : Value} {o : Int} (hd : decode bytes pc = .ok (.if_acmp cd o, 3)) (hx1 : x.isRef = true) (hy1 : y.isRef = true) (q : ¬ Ca cd x y) (next : W Z EL R own nm bytes ml ret Q D k n (pc + 3) ls st) : W Z EL R own nm bytes ml ret Q D k n pc ls (y :: x :: st) :=
  W.pure (fun h hx hc hr => XT.acmpNo (g := mkF _ pc ls (y :: x :: st)) h hx rfl (hb hc hd) rfl hx1 hy1 (Ca.no q) hr) next
theorem W.acmp (pc' : Nat) {cd : ClassFile.ACond} {x y : Value} {o : Int} (hd : decode bytes pc = .ok (.if_acmp cd o, 3)) (hx1 : x.isRef = true) (hy1 : y.isRef = true) (ho : 0 ≤ (pc : Int) + o ∧ ((pc : Int) + o).toNat = pc') (nextY : Ca cd x y → W Z EL R own nm bytes ml ret Q D k n pc' ls st) (nextN : ¬ Ca cd x y → W Z EL R own nm bytes ml ret Q D k n (pc + 3) ls st) : W Z EL R own nm bytes ml ret Q D k n pc ls (y :: x :: st) := by
  by_cases q : Ca cd x y
  · exact W.acmpY pc' hd hx1 hy1 q ho (nextY q)
  · exact W.acmpN hd hx1 hy1 q (nextN q)
end Walk
end Jvm.Wk
namespace Jvm.Wk
open Jvm Jvm.ClassFile Sem Op Lib Bundle Jvm.Free Jvm.Stand Jvm.LawKit Jvm.RoadKit
section Walk
variable {Z : State} {EL : Bool × List (String × Nat)} {R : Room} {own nm : String} {bytes : ByteArray} {ml : Nat} {ret : Option FieldType} {Q : Option Value → List Ent → Prop} {D D' : List Ent} {k n pc : Nat} {ls ls' : Array Slot} {st : List Value} {a0 : Array Value}
theorem W.still {pc' : Nat} {st' : List Value}
    (H : ∀ {p : Program} {l : Launch} {e : Env} {s : State} {m : MethodId} {args : Array Value} {below : List Frame} {meth : Method} {c : Code} {T : State} {locs : List Loc} {cells slots : Nat}, Stand p l e R s m args below meth c T locs cells slots → p.tables.exec = Jvm.exec → c.code = bytes → c.maxLocals = ml → s.vm.findClass own = some m.cls → Z.Warmed39 s.vm → (∃ vm, Hp Z EL D vm T.heap) →
      ∃ T', Stand p l e R s m args below meth c T' locs cells slots ∧ T'.heap = T.heap ∧ ∀ target, Steps p.tables e below (T'.setTop (mkF m pc' ls' st')) target → Steps p.tables e below (T.setTop (mkF m pc ls st)) target)
    (next : W Z EL R own nm bytes ml ret Q D k n pc' ls' st') : W Z EL R own nm bytes ml ret Q D k n pc ls st := by
  intro p l e s m args below meth c T vm0 k0 locs cells slots A
  obtain ⟨X, hS, hk0, hx, hby, hml, hown, hZ, r1, r2, r3, hN, hH, hc, hl, hE, hNI⟩ := A
  obtain ⟨T', X', e', stp⟩ := H X hx hby hml hown hZ ⟨_, hH⟩
  obtain ⟨s₂, o, h1, r⟩ := next p l e s m args below meth c T' vm0 k0 locs cells slots ⟨X', hS, by rw [e']; exact hk0, hx, hby, hml, hown, hZ, r1, r2, r3, hN, by rw [e']; exact hH, hc, hl, hE, hNI⟩
  exact ⟨s₂, o, stp _ h1, r⟩
theorem W.getf {a : Addr} {b : Bool} {C O f d R0 : String} {fs : List Fd} {v : Value} {idx : Nat} (hd : decode bytes pc = .ok (.getfield idx, 3)) (w : (Cond.fieldLink own idx R0 f d).before a0 Z = true) (via : Via Z R0 O f d) (hm : (a, b, .inl (C, fs)) ∈ D) (hf : (O, f, d, v) ∈ fs)
    (next : W Z EL R own nm bytes ml ret Q D k n (pc + 3) ls (v :: st)) : W Z EL R own nm bytes ml ret Q D k n pc ls (.ref a :: st) :=
  W.still (fun X hx hby hml hown hZ hH => by
    obtain ⟨vm, hH⟩ := hH
    exact getF (host := "") X hx hZ hown (Or.inl w) via rfl ((hH.2.2.1 _ hm).1.2 _ hf) (g := mkF _ pc ls (.ref a :: st)) rfl rfl (hb hby hd)) next
theorem W.gets {O f d R0 : String} {v : Value} {idx : Nat} (hd : decode bytes pc = .ok (.getstatic idx, 3)) (w : (Cond.fieldLink own idx R0 f d).before a0 Z = true) (via : Via Z R0 O f d) (F : Sta Z Z.heap O f d v)
    (next : W Z EL R own nm bytes ml ret Q D k n (pc + 3) ls (v :: st)) : W Z EL R own nm bytes ml ret Q D k n pc ls st :=
  W.still (fun X hx hby hml hown hZ hH => by
    obtain ⟨vm, hH⟩ := hH
    exact getS (host := "") X hx hZ hown w via rfl (F.ext hH.1) (g := mkF _ pc ls st) rfl (hb hby hd)) next
theorem W.alen {a : Addr} {b : Bool} {ad : String} {ty : FieldType} {vs : List Value} (z : Int32) (hd : decode bytes pc = .ok (.arraylength, 1)) (hm : (a, b, .inr (ad, ty, vs)) ∈ D) (hz : Nat.toInt32 vs.length = z)
    (next : W Z EL R own nm bytes ml ret Q D k n (pc + 1) ls (.int z :: st)) : W Z EL R own nm bytes ml ret Q D k n pc ls (.ref a :: st) :=
  W.still (fun X hx hby hml hown hZ hH => by
    obtain ⟨vm, hH⟩ := hH
    obtain ⟨c, A, r1, -⟩ := (hH.2.2.1 _ hm).1
    refine ⟨_, X, rfl, fun target ht => ?_⟩
    refine X.arraylength hx A.1 (State.isArrayOf_alike hZ.alike A.2.1) (g := mkF _ pc ls (.ref a :: st)) rfl rfl (hb hby hd) target ?_
    rw [r1]
    have : vs.toArray.size = vs.length := by simp
    rw [this, hz]; exact ht) next
theorem idx_in' {j : Int32} {i : Nat} {vs : List Value} {c : Cell} (r1 : c.slots = vs.toArray) (hj : Idx j i) (hi : i < vs.length) : ¬ (j < 0 ∨ c.slots.size ≤ j.toNatClampNeg) := by
  rw [r1, hj.2]; rintro (q | q)
  · exact hj.1 q
  · simp at q; omega
theorem idx_at' {j : Int32} {i : Nat} {vs : List Value} {c : Cell} {v : Value} (r1 : c.slots = vs.toArray) (hj : Idx j i) (hv : vs[i]? = some v) : c.slots[j.toNatClampNeg]? = some v := by
  rw [r1, hj.2]; simpa using hv
theorem lt_of_at {vs : List Value} {i : Nat} {v : Value} (hv : vs[i]? = some v) : i < vs.length := (List.getElem?_eq_some_iff.mp hv).1
theorem W.caload {a : Addr} {b : Bool} {ad : String} {vs : List Value} {j : Int32} (i : Nat) {v : Value} (hd : decode bytes pc = .ok (.caload, 1)) (hm : (a, b, .inr (ad, .char, vs)) ∈ D) (hj : Idx j i) (hv : vs[i]? = some v)
    (next : W Z EL R own nm bytes ml ret Q D k n (pc + 1) ls (v :: st)) : W Z EL R own nm bytes ml ret Q D k n pc ls (.int j :: .ref a :: st) :=
  W.still (fun X hx hby hml hown hZ hH => by
    obtain ⟨vm, hH⟩ := hH
    obtain ⟨c, A, r1, -⟩ := (hH.2.2.1 _ hm).1
    exact ⟨_, X, rfl, fun target ht => X.caload hx A.1 (State.isArrayOf_alike hZ.alike A.2.1) A.2.2 (idx_in' r1 hj (lt_of_at hv)) (idx_at' r1 hj hv) (g := mkF _ pc ls (.int j :: .ref a :: st)) rfl rfl (hb hby hd) target ht⟩) next
theorem W.baload {a : Addr} {b : Bool} {ad : String} {vs : List Value} {j : Int32} (i : Nat) {v : Value} (hd : decode bytes pc = .ok (.baload, 1)) (hm : (a, b, .inr (ad, .byte, vs)) ∈ D) (hj : Idx j i) (hv : vs[i]? = some v)
    (next : W Z EL R own nm bytes ml ret Q D k n (pc + 1) ls (v :: st)) : W Z EL R own nm bytes ml ret Q D k n pc ls (.int j :: .ref a :: st) :=
  W.still (fun X hx hby hml hown hZ hH => by
    obtain ⟨vm, hH⟩ := hH
    obtain ⟨c, A, r1, -⟩ := (hH.2.2.1 _ hm).1
    exact ⟨_, X, rfl, fun target ht => X.baloadBytes hx A.1 (State.isArrayOf_alike hZ.alike A.2.1) A.2.2 (idx_in' r1 hj (lt_of_at hv)) (idx_at' r1 hj hv) (g := mkF _ pc ls (.int j :: .ref a :: st)) rfl rfl (hb hby hd) target ht⟩) next
theorem W.ldcI {idx : Nat} {v : Int32} (hd : decode bytes pc = .ok (.ldc idx, 2)) (w : (Cond.constant own idx v).before a0 Z = true) (next : W Z EL R own nm bytes ml ret Q D k n (pc + 2) ls (.int v :: st)) : W Z EL R own nm bytes ml ret Q D k n pc ls st :=
  W.still (fun X hx hby hml hown hZ hH => ⟨_, X, rfl, fun target ht => X.ldcI hx hown (mvT hZ w) (g := mkF _ pc ls st) rfl (hb hby hd) ht⟩) next
theorem W.ldc2J {idx : Nat} {v : Int64} (hd : decode bytes pc = .ok (.ldc2_w idx, 3)) (w : (Cond.constantLong own idx v).before a0 Z = true) (next : W Z EL R own nm bytes ml ret Q D k n (pc + 3) ls (.long v :: st)) : W Z EL R own nm bytes ml ret Q D k n pc ls st :=
  W.still (fun X hx hby hml hown hZ hH => ⟨_, X, rfl, fun target ht => X.ldc2J hx hown (mvT hZ w) (g := mkF _ pc ls st) rfl (hb hby hd) ht⟩) next
theorem Hp.exa {D : List Ent} {a : Addr} {b : Bool} {C : String} {fs : List Fd} (hm : (a, b, .inl (C, fs)) ∈ D) : ∀ vm h, Hp Z EL D vm h → Exa Z h a C := fun _ _ H => (H.2.2.1 _ hm).1.1
theorem W.initO {a : Addr} {idx : Nat} (Wt : Nat) (hd : decode bytes pc = .ok (.invokespecial idx, 3)) (w1 : (Cond.methodLink own idx Lib.objectInit).before a0 Z = true) (w2 : (Cond.instanceMethod Lib.objectInit).before a0 Z = true) (w3 : (Cond.code Lib.objectInit ⟨#[0xb1]⟩ 1 none).before a0 Z = true)
    (hls : ls.size = ml) (hW : (st.map fun v => v.category).sum = Wt) (hr : 1 ≤ R.frames ∧ Wt + 12 ≤ R.locals) (next : W Z EL R own nm bytes ml ret Q D k n (pc + 3) ls st) : W Z EL R own nm bytes ml ret Q D k n pc ls (.ref a :: st) :=
  W.still (fun X hx hby hml hown hZ hH => Jvm.RoadKit.initO X hx hZ hown w1 w2 w3 rfl (g := mkF _ pc ls (.ref a :: st)) rfl (by rw [hml]; exact hls) rfl (hb hby hd) hr.1 (W := Wt) (by show 2 * 0 + _ ≤ _; omega) hr.2) next
def LaidAll (Z : State) (a0 : Array Value) (C : String) : List Fd → Prop
  | [] => True
  | f :: r => (Laid Z a0 C f.1 f.2.1 f.2.2.1 ∧ ∃ ty, parseFieldDescriptor f.2.2.1 = some ty ∧ f.2.2.2 = defaultValue ty) ∧ LaidAll Z a0 C r
theorem LaidAll.mem {C : String} : ∀ {fs : List Fd}, LaidAll Z a0 C fs → ∀ f ∈ fs, Laid Z a0 C f.1 f.2.1 f.2.2.1 ∧ ∃ ty, parseFieldDescriptor f.2.2.1 = some ty ∧ f.2.2.2 = defaultValue ty
  | [], _, _, q => nomatch q
  | f :: r, L, g, q => by
    rcases List.mem_cons.mp q with rfl | q
    · exact L.1
    · exact LaidAll.mem L.2 g q
theorem LaidAll.dist {C : String} : ∀ {fs : List Fd}, LaidAll Z a0 C fs → (fs.map (·.2.1)).Pairwise (fun x y => x ≠ y) → (fs.map (sl Z)).Pairwise (fun x y => x ≠ y)
  | [], _, _ => List.Pairwise.nil
  | f :: r, L, N => by
    obtain ⟨n1, n2⟩ := List.pairwise_cons.mp N
    refine List.pairwise_cons.mpr ⟨fun y hy => ?_, LaidAll.dist L.2 n2⟩
    obtain ⟨g, hg, rfl⟩ := List.mem_map.mp hy
    obtain ⟨l1, t1, q1, -⟩ := L.1
    obtain ⟨l2, t2, q2, -⟩ := LaidAll.mem L.2 g hg
    exact slot_ne l1 l2 (n1 _ (List.mem_map.mpr ⟨g, hg, rfl⟩)) q1 q2
theorem W.new {C : String} {idx nn : Nat} {fs : List Fd} (hd : decode bytes pc = .ok (.new idx, 3)) (w : (Cond.classLink own idx C).before a0 Z = true) (wi : (Cond.instantiable C nn).before a0 Z = true) (wz : (Cond.initialized C).before a0 Z = true)
    (hfs : LaidAll Z a0 C fs) (hnm : (fs.map (·.2.1)).Pairwise (fun x y => x ≠ y)) (hr : k + 1 ≤ R.cells ∧ n + nn ≤ R.slots) (next : ∀ a, W Z EL R own nm bytes ml ret Q ((a, true, .inl (C, fs)) :: D) (k + 1) (n + nn) (pc + 3) ls (.ref a :: st)) : W Z EL R own nm bytes ml ret Q D k n pc ls st := by
  intro p l e s m args below meth c T vm0 k0 locs cells slots A
  obtain ⟨X, hS, hk0, hx, hby, hml, hown, hZ, r1, r2, r3, hN, hH, hc, hl, hE, hNI⟩ := A
  obtain ⟨T', h', X', e', E, A2, D2, -, stp⟩ := newO X hx hZ hown w wi wz rfl (g := mkF m pc ls st) rfl (hb hby hd) (by omega) (by omega)
  have H' : Hp Z EL ((T.heap.size, true, .inl (C, fs)) :: D) vm0 h' := hH.new E ⟨A2, fun f hf => by
    obtain ⟨l1, ty, q1, q2⟩ := hfs.mem f hf
    rw [q2]; exact D2 l1 q1⟩ (hfs.dist hnm)
  obtain ⟨s₂, o, h1, r⟩ := next T.heap.size p l e s m args below meth c T' vm0 k0 locs (cells + 1) (slots + nn) ⟨X', hS, by rw [e']; exact Nat.le_trans hk0 E.1, hx, hby, hml, hown, hZ, r1, r2, r3, hN, by rw [e']; exact H', by omega, by omega, hE, hNI⟩
  exact ⟨s₂, o, stp _ h1, r⟩
theorem fits_default (ty : FieldType) : fits ty (defaultValue ty) = true := by cases ty <;> rfl
theorem W.newarr {aty : ArrayType} {z : Int32} (N : Nat) {ad : String} {ty : FieldType} (hd : decode bytes pc = .ok (.newarray aty, 2)) (hty : newarray.typeOf aty = ty) (w : (Cond.arrayClass ty).before a0 Z = true) (hz : Idx z N) (had : "[" ++ ty.toString = ad) (hb8 : N * 8 ≤ 536870912) (hr : k + 1 ≤ R.cells ∧ n + N ≤ R.slots)
    (next : ∀ a, W Z EL R own nm bytes ml ret Q ((a, true, .inr (ad, ty, List.replicate N (defaultValue ty))) :: D) (k + 1) (n + N) (pc + 2) ls (.ref a :: st)) : W Z EL R own nm bytes ml ret Q D k n pc ls (.int z :: st) := by
  intro p l e s m args below meth c T vm0 k0 locs cells slots A
  subst hty
  obtain ⟨X, hS, hk0, hx, hby, hml, hown, hZ, r1, r2, r3, hN, hH, hc, hl, hE, hNI⟩ := A
  obtain ⟨T', h', cA, X', e', E, A2, E2, stp⟩ := newPE X hx hZ w rfl (g := mkF m pc ls (.int z :: st)) rfl (hb hby hd) rfl hz.1 (cap := N) (by rw [hz.2]; exact Nat.le_refl _) hb8 (by omega) (by omega) had
  have H' : Hp Z EL ((T.heap.size, true, .inr (ad, newarray.typeOf aty, List.replicate N (defaultValue (newarray.typeOf aty)))) :: D) vm0 h' := hH.new E ⟨_, A2, by simp [newA, hz.2], by simp; omega, fun v hv => by rw [(List.mem_replicate.mp hv).2]; exact fits_default _, fun _ => E2⟩ trivial
  obtain ⟨s₂, o, h1, r⟩ := next T.heap.size p l e s m args below meth c T' vm0 k0 locs (cells + 1) (slots + N) ⟨X', hS, by rw [e']; exact Nat.le_trans hk0 E.1, hx, hby, hml, hown, hZ, r1, r2, r3, hN, by rw [e']; exact H', by omega, by omega, hE, hNI⟩
  exact ⟨s₂, o, stp _ h1, r⟩
theorem pw_ne {l : List Nat} (P : l.Pairwise (fun x y => x ≠ y)) {i j : Nat} {x y : Nat} (hij : i ≠ j) (hi : l[i]? = some x) (hj : l[j]? = some y) : x ≠ y := by
  obtain ⟨i1, rfl⟩ := List.getElem?_eq_some_iff.mp hi
  obtain ⟨j1, rfl⟩ := List.getElem?_eq_some_iff.mp hj
  rw [List.pairwise_iff_getElem] at P
  rcases Nat.lt_or_gt_of_ne hij with q | q
  · exact P i j i1 j1 q
  · exact (P j i j1 i1 q).symm
theorem set_map_sl {fs : List Fd} {j : Nat} {f g : Fd} (hj : fs[j]? = some f) (e : sl Z g = sl Z f) : (fs.set j g).map (sl Z) = fs.map (sl Z) := by
  rw [List.map_set, e]
  apply List.ext_getElem?
  intro i
  rw [List.getElem?_set]
  split
  · rename_i q; subst q
    rw [List.getElem?_map, hj]
    have := (List.getElem?_eq_some_iff.mp hj).1
    simp [this]
  · rfl
theorem Sat.put {h h' : Heap} {a : Addr} {C O f d : String} {fs : List Fd} {j : Nat} {old v : Value} (S : Sat Z h a (.inl (C, fs))) (hD : Dist Z (.inl (C, fs))) (hj : fs[j]? = some (O, f, d, old)) (Wr1 : Wr h h' a (Jvm.RoadKit.slotOf Z O f d) v) : Sat Z h' a (.inl (C, fs.set j (O, f, d, v))) := by
  refine ⟨S.1.wr Wr1, fun g hg => ?_⟩
  obtain ⟨i, hi⟩ := List.mem_iff_getElem?.mp hg
  rw [List.getElem?_set] at hi
  split at hi
  · rename_i q; subst q
    split at hi
    · cases hi; exact (S.2 _ (List.mem_of_getElem? hj)).same Wr1
    · cases hi
  · rename_i q
    refine (S.2 g (List.mem_of_getElem? hi)).other Wr1 (Or.inr ?_)
    exact pw_ne hD (Ne.symm q) (x := sl Z g) (y := sl Z (O, f, d, old)) (by rw [List.getElem?_map, hi]; rfl) (by rw [List.getElem?_map, hj]; rfl)
theorem W.putf {a : Addr} {C O f d R0 : String} {fs : List Fd} {old v : Value} {idx kk : Nat} {ty : FieldType} (i j : Nat) (hd : decode bytes pc = .ok (.putfield idx, 3)) (w : (Cond.fieldLink own idx R0 f d).before a0 Z = true) (via : Via Z R0 O f d)
    (hi : D[i]? = some (a, true, .inl (C, fs))) (hj : fs[j]? = some (O, f, d, old)) (L : (Cond.lays C O f d).before a0 Z = true ∨ ((Cond.laysFinal C O f d).before a0 Z = true ∧ own = O ∧ nm = "<init>")) (wi : (Cond.instantiable C kk).before a0 Z = true)
    (hty : parseFieldDescriptor d = some ty) (hn : narrow ty v = v) (hf : fits ty v = true) (hD : D.set i (a, true, .inl (C, fs.set j (O, f, d, v))) = D')
    (next : W Z EL R own nm bytes ml ret Q D' k n (pc + 3) ls st) : W Z EL R own nm bytes ml ret Q D k n pc ls (v :: .ref a :: st) := by
  intro p l e s m args below meth c T vm0 k0 locs cells slots A
  obtain ⟨X, hS, hk0, hx, hby, hml, hown, hZ, r1, r2, r3, hN, hH, hc, hl, hE, hNI⟩ := A
  subst hD
  obtain ⟨S, g⟩ := hH.2.2.1 _ (List.mem_of_getElem? hi)
  obtain ⟨T', h', X', e', W1, stp⟩ := putF (host := "") X hx hZ hown (Or.inl w) via rfl (S.2 _ (List.mem_of_getElem? hj)) S.1 (L.imp id fun q => ⟨q.1, q.2.1, r3.trans q.2.2⟩) wi hty hn hf (g := mkF m pc ls (v :: .ref a :: st)) rfl rfl (hb hby hd)
  obtain ⟨g1, g2, g3⟩ := g rfl
  have H' := hH.keepSet (d' := .inl (C, fs.set j (O, f, d, v))) hi (Keep.of_wr W1) (Sat.put S g3 hj W1) (by show List.Pairwise _ _; rw [set_map_sl (Z := Z) (g := (O, f, d, v)) hj rfl]; exact g3)
  obtain ⟨s₂, o, q1, r⟩ := next p l e s m args below meth c T' vm0 k0 _ cells slots ⟨X', hS, by rw [e', W1.size]; exact hk0, hx, hby, hml, hown, hZ, r1, r2, r3, Fr.snoc X' hN g1, by rw [e']; exact H', hc, hl, hE, hNI⟩
  exact ⟨s₂, o, stp _ q1, r⟩
theorem Sat.store {h h' : Heap} {a : Addr} {ad : String} {ty : FieldType} {vs : List Value} {i : Nat} {v : Value} (S : Sat Z h a (.inr (ad, ty, vs))) (hv : fits ty v = true) (W1 : Wr h h' a i v) : Sat Z h' a (.inr (ad, ty, vs.set i v)) := by
  obtain ⟨c, A, r1, r2, r3, r4⟩ := S
  refine ⟨_, A.same W1, ?_, by simpa using r2, fun x hx => ?_, fun q => (r4 q).wr W1⟩
  · simp [Cell.setSlot, r1]
  · rcases List.mem_or_eq_of_mem_set hx with hx | rfl
    · exact r3 x hx
    · exact hv
theorem W.stA {a : Addr} {ad : String} {ty : FieldType} {vs : List Value} {i j : Nat} {v : Value} {st' : List Value} {pc' : Nat}
    (H : ∀ {p : Program} {l : Launch} {e : Env} {s : State} {m : MethodId} {args : Array Value} {below : List Frame} {meth : Method} {c : Code} {T : State} {locs : List Loc} {cells slots : Nat} {cl : Cell}, Stand p l e R s m args below meth c T locs cells slots → p.tables.exec = Jvm.exec → c.code = bytes → Z.Warmed39 s.vm → Arr Z T.heap a cl ty → cl.slots = vs.toArray →
      ∃ T' h', Stand p l e R s m args below meth c T' (locs ++ [⟨a, j⟩]) cells slots ∧ T'.heap = h' ∧ Wr T.heap h' a j v ∧ ∀ target, Steps p.tables e below (T'.setTop (mkF m pc' ls st')) target → Steps p.tables e below (T.setTop (mkF m pc ls st)) target)
    (hi : D[i]? = some (a, true, .inr (ad, ty, vs))) (hf : fits ty v = true) (hD : D.set i (a, true, .inr (ad, ty, vs.set j v)) = D')
    (next : W Z EL R own nm bytes ml ret Q D' k n pc' ls st') : W Z EL R own nm bytes ml ret Q D k n pc ls st := by
  intro p l e s m args below meth c T vm0 k0 locs cells slots A
  obtain ⟨X, hS, hk0, hx, hby, hml, hown, hZ, r1, r2, r3, hN, hH, hc, hl, hE, hNI⟩ := A
  subst hD
  obtain ⟨S, g⟩ := hH.2.2.1 _ (List.mem_of_getElem? hi)
  obtain ⟨cl, A, q1, -⟩ := id S
  obtain ⟨T', h', X', e', W1, stp⟩ := H X hx hby hZ A q1
  obtain ⟨g1, g2, g3⟩ := g rfl
  have H' := hH.keepSet hi (Keep.of_wr W1) (Sat.store S hf W1) trivial
  obtain ⟨s₂, o, q1, r⟩ := next p l e s m args below meth c T' vm0 k0 _ cells slots ⟨X', hS, by rw [e', W1.size]; exact hk0, hx, hby, hml, hown, hZ, r1, r2, r3, Fr.snoc X' hN g1, by rw [e']; exact H', hc, hl, hE, hNI⟩
  exact ⟨s₂, o, stp _ q1, r⟩
theorem W.castore {a : Addr} {ad : String} {vs : List Value} {z x x' : Int32} (i j : Nat) (hd : decode bytes pc = .ok (.castore, 1)) (hi : D[i]? = some (a, true, .inr (ad, .char, vs))) (hz : Idx z j) (hj : j < vs.length) (hx' : nar .char x = x')
    (hD : D.set i (a, true, .inr (ad, .char, vs.set j (.int x'))) = D') (next : W Z EL R own nm bytes ml ret Q D' k n (pc + 1) ls st) : W Z EL R own nm bytes ml ret Q D k n pc ls (.int x :: .int z :: .ref a :: st) :=
  W.stA (i := i) (j := j) (fun X hx hby hZ A q => by
    have r := stC X hx hZ rfl A (j := z) (x := x) (idx_in' q hz hj) (g := mkF _ pc ls (.int x :: .int z :: .ref a :: st)) rfl rfl (hb hby hd)
    rw [hz.2, hx'] at r; exact r) hi (by rw [← hx']; exact fits_nar_char x) hD next
theorem W.bastore {a : Addr} {ad : String} {vs : List Value} {z x x' : Int32} (i j : Nat) (hd : decode bytes pc = .ok (.bastore, 1)) (hi : D[i]? = some (a, true, .inr (ad, .byte, vs))) (hz : Idx z j) (hj : j < vs.length) (hx' : nar .byte x = x')
    (hD : D.set i (a, true, .inr (ad, .byte, vs.set j (.int x'))) = D') (next : W Z EL R own nm bytes ml ret Q D' k n (pc + 1) ls st) : W Z EL R own nm bytes ml ret Q D k n pc ls (.int x :: .int z :: .ref a :: st) :=
  W.stA (i := i) (j := j) (fun X hx hby hZ A q => by
    have r := stB X hx hZ rfl A (j := z) (x := x) (idx_in' q hz hj) (g := mkF _ pc ls (.int x :: .int z :: .ref a :: st)) rfl rfl (hb hby hd)
    rw [hz.2, hx'] at r; exact r) hi (by rw [← hx']; exact fits_nar_byte x) hD next
theorem W.ldcU {idx : Nat} {text : String} (N : Nat) (hni : EL.1 = false) (hd : decode bytes pc = .ok (.ldc idx, 2)) (w : (Cond.stringLink own idx text).before a0 Z = true) (wS : ∀ a ∈ Bundle.stringAtoms, a.before a0 Z = true) (hn : 4 * text.toList.length ≤ N) (hbig : N ≤ 536870912) (hr : k + 2 ≤ R.cells ∧ n + (N + 4) ≤ R.slots)
    (next : ∀ a, W Z EL R own nm bytes ml ret Q D (k + 2) (n + (N + 4)) (pc + 2) ls (.ref a :: st)) : W Z EL R own nm bytes ml ret Q D k n pc ls st := by
  intro p l e s m args below meth c T vm0 k0 locs cells slots A
  obtain ⟨X, hS, hk0, hx, hby, hml, hown, hZ, r1, r2, r3, hN, hH, hc, hl, ⟨⟨b0, hE⟩, hNL⟩, hNI⟩ := A
  have hE' : EW Z a0 EL.2 := fun q hq => by
    obtain ⟨t, ht, r⟩ := hE q hq
    exact ⟨t, by have := mvS (s := Z) (args := a0) (State.Warmed39.refl Z) ht; simpa using this, r⟩
  obtain ⟨a, T', h', k1, X', e', E, hS', hk1, hZ', hown', hC, -, stp⟩ := ldcOH X hx hZ hown w wS rfl hS hk0 hE' hH.2.1 (g := mkF m pc ls st) rfl (hb hby hd) hn hbig (by omega) (by omega)
  obtain ⟨s₂, o, q1, r⟩ := next a p l e s m args below meth c T' T'.vm k1 locs (cells + 2) (slots + (N + 4)) ⟨X', hS', by rw [e']; exact hk1, hx, hby, hml, hown', hZ', r1, r2, r3, hN, by rw [e']; exact hH.grown E hC, by omega, by omega, ⟨⟨b0, hE⟩, hNL⟩, fun q => by rw [hni] at q; cases q⟩
  exact ⟨s₂, o, stp _ q1, r⟩
theorem W.out {v : Option Value} (hk : k ≤ R.cells ∧ n ≤ R.slots) (hv : ret = none → v = none) (q : Q v D)
    (H : ∀ {p : Program} {l : Launch} {e : Env} {s : State} {m : MethodId} {args : Array Value} {below : List Frame} {meth : Method} {c : Code} {T : State} {locs : List Loc} {cells slots : Nat} {fs : List Frame}, Stand p l e R s m args below meth c T locs cells slots → p.tables.exec = Jvm.exec → c.code = bytes → meth.sig.returnType = ret →
      (∀ (f : JFrame) (acts : List Action), f.method = m → f.locked = none → f.entered = [] → (doReturn e (T.setTop f) acts v).1 = T.setFrames fs) → Steps p.tables e below (T.setTop (mkF m pc ls st)) (T.setFrames fs)) : W Z EL R own nm bytes ml ret Q D k n pc ls st := by
  intro p l e s m args below meth c T vm0 k0 locs cells slots A
  obtain ⟨X, hS, hk0, hx, hby, hml, hown, hZ, r1, r2, r3, hN, hH, hc, hl, ⟨⟨b0, hE⟩, hNL⟩, hNI⟩ := A
  obtain ⟨fs, h1, h2, h3, ⟨h4, h5, h6, h7⟩⟩ := X.leaveW hS hk0 (v := v) (fun z => hv (r1 ▸ z)) r2
  refine ⟨_, _, H X hx hby r1 h1, h2, h3, v, locs, rfl, hN, ⟨D, (show Hp Z EL D T.vm T.heap from hH.toVm (CHv.at X hZ hE hH.2.1)), q⟩, ⟨h4, h5, h6, h7.mono (by omega) (by omega)⟩, fun q => ?_⟩
  have := X.warmed
  rw [hNI q] at this; exact this
theorem W.ireturn {x : Int32} {t : FieldType} (hd : decode bytes pc = .ok (.ireturn, 1)) (hret : ret = some t) (ht : t = .int ∨ t = .boolean ∨ t = .byte ∨ t = .char ∨ t = .short) (hn : narrow t (.int x) = .int x) (hk : k ≤ R.cells ∧ n ≤ R.slots) (q : Q (some (.int x)) D) : W Z EL R own nm bytes ml ret Q D k n pc ls (.int x :: st) :=
  W.out hk (fun z => by rw [hret] at z; cases z) q (fun X hx hby hr hl => retOut X hx (hr.trans hret) hn (Or.inl ⟨rfl, ht, x, rfl⟩) (hb hby hd) hl)
theorem W.areturn {v : Value} {t : FieldType} (hd : decode bytes pc = .ok (.areturn, 1)) (hret : ret = some t) (ht : t.isReference = true) (hv : v.isRef = true) (hk : k ≤ R.cells ∧ n ≤ R.slots) (q : Q (some v) D) : W Z EL R own nm bytes ml ret Q D k n pc ls (v :: st) :=
  W.out hk (fun z => by rw [hret] at z; cases z) q (fun X hx hby hr hl => retOut X hx (hr.trans hret) (by cases t <;> first | rfl | cases ht) (Or.inr (Or.inr (Or.inr (Or.inr ⟨rfl, ht, hv⟩)))) (hb hby hd) hl)
theorem W.return_ (hd : decode bytes pc = .ok (.return_, 1)) (hret : ret = none) (hk : k ≤ R.cells ∧ n ≤ R.slots) (q : Q none D) : W Z EL R own nm bytes ml ret Q D k n pc ls [] :=
  W.out hk (fun _ => rfl) q (fun X hx hby hr hl => X.returnOut hx (hr.trans hret) (hb hby hd) hl)
end Walk
end Jvm.Wk
namespace Jvm.Wk
open Jvm Jvm.ClassFile Sem Op Lib Bundle Jvm.Free Jvm.Stand Jvm.LawKit Jvm.RoadKit
section Calls
variable {Z : State} {EL : Bool × List (String × Nat)} {R : Room} {own nm : String} {bytes : ByteArray} {ml : Nat} {ret : Option FieldType} {Q : Option Value → List Ent → Prop} {D D' : List Ent} {k n pc : Nat} {ls ls' : Array Slot} {st : List Value} {a0 : Array Value}
variable {y : MethodName} {cb : ByteArray} {cm : Nat} {cr : Option FieldType} {rm : Room} {as : List Value} {Q' : Option Value → List Ent → Prop} {idx : Nat}
abbrev CPre (Z : State) (EL : Bool × List (String × Nat)) (R rm : Room) (D : List Ent) (vm0 : Vm) (as : List Value) : Pt → Array Value → Prop := fun A a => a = as.toArray ∧ Hp Z EL D vm0 A.U.heap ∧ A.cells + rm.cells ≤ R.cells ∧ A.slots + rm.slots ≤ R.slots
abbrev CPost (Z : State) (EL : Bool × List (String × Nat)) (rm : Room) (Q' : Option Value → List Ent → Prop) : Pt → Array Value → Option Value → Pt → Prop :=
  fun A _ v B => ∃ L D', Fr Z.heap.size L ∧ Hp Z EL D' B.U.vm B.U.heap ∧ Q' v D' ∧ B.locs = A.locs ++ L ∧ B.cells = A.cells + rm.cells ∧ B.slots = A.slots + rm.slots ∧ (EL.1 = true → A.U.WarmedH B.U.vm)
theorem conBack {p : Program} {l : Launch} {e : Env} {s : State} {args : Array Value} {below : List Frame} {vm0 : Vm} {len Wt : Nat} (hC : Con Z EL y cb cm cr rm as D Q') (hZ : Z.Warmed39 vm0) (wc : (Cond.code y cb cm cr).before a0 Z = true) (wz : (Cond.initialized y.cls).before a0 Z = true) (hE : ELok Z EL)
    (hf : rm.frames + 1 ≤ R.frames) (hl : Wt + (cm + 11) + rm.locals ≤ R.locals) : BackS l R p e below (s.setVm vm0) args y len Wt (CPre Z EL R rm D vm0 as) (CPost Z EL rm Q') := by
  obtain ⟨⟨b0, hE0⟩, hNL⟩ := id hE
  exact BackS.of_freeW (bytes := cb) (maxL := cm) (ret := cr) (E := fun _ first o t L k n => k = rm.cells ∧ n = rm.slots ∧ Fr Z.heap.size L ∧ (EL.1 = true → first.WarmedH t.vm) ∧ ∃ v, o = .returned v ∧ ∃ D', Hp Z EL D' t.vm t.heap ∧ Q' v D') (hC hE l []) hf hl
    (fun m meth c A a Y hp => have hU : Z.Warmed39 A.U.vm := wtrans (s := s.setVm vm0) hZ Y.warmed
      ⟨by show (Cond.and _ .tt).before a A.U = true; rw [Cond.before_and, mv hU wc]; rfl, mv hU wc, mv hU wz, hp.2.2.1, hp.2.2.2⟩)
    (fun m meth c A a g mk Y hp => ⟨hp.1, wtrans (s := s.setVm vm0) hZ Y.warmed, (show Hp Z EL D A.U.vm A.U.heap from hp.2.1.toVm (CHv.at Y hZ hE0 hp.2.1.2.1))⟩) (fun _ _ _ _ _ _ _ _ _ => trivial)
    (fun _ _ _ _ ⟨v, L, h1, h2, h3, h4, h5⟩ => ⟨L, _, _, h4, rfl, rfl, h2, h5, v, h1, h3⟩)
    (fun m meth c A a g mk v t L k n Y hp _ _ ⟨e1, e2, e3, e7, v', e4, D', e5, e6⟩ => by
      cases e4; subst e1 e2
      exact ⟨L, D', e3, e5, e6, rfl, rfl, rfl, e7⟩)
theorem W.afterCall {p : Program} {l : Launch} {e : Env} {s : State} {m : MethodId} {args : Array Value} {below : List Frame} {meth : Method} {c : Code} {T : State} {vm0 : Vm} {k0 : Nat} {locs : List Loc} {cells slots : Nat} {len : Nat} {rest : List Value} {aa : Array Value}
    (A : Here Z EL R own nm bytes ml ret D k n p l e s m args below meth c T vm0 k0 locs cells slots)
    (hB : ∃ (v : Option Value) (vm₁ : Vm) (B : Pt), (s.setVm vm0).WarmedH vm₁ ∧ Stand p l e R ((s.setVm vm0).setVm B.U.vm) m args below meth c B.U B.locs B.cells B.slots ∧ (s.setVm vm0).Since B.U.vm B.U.heap.size ∧ T.heap.size ≤ B.U.heap.size ∧ CPost Z EL rm Q' ⟨T.setVm vm₁, locs, cells, slots⟩ aa v B ∧
      Steps p.tables e below (T.setTop (mkF m pc ls st)) (B.U.setTop { mkF m pc ls st with pc := pc + len, stack := v.toList ++ rest }))
    (next : ∀ v D', Q' v D' → W Z EL R own nm bytes ml ret Q D' (k + rm.cells) (n + rm.slots) (pc + len) ls (v.toList ++ rest)) :
    ∃ s₂ o, Steps p.tables e below (T.setTop (mkF m pc ls st)) s₂ ∧ s₂.status = .running ∧ Ended s₂ below o ∧ Res Z EL Q R s o s₂ := by
  obtain ⟨X, hS, hk0, hx, hby, hml, hown, hZ, r1, r2, r3, hN, hH, hc, hl, hE, hNI⟩ := A
  obtain ⟨v, vm₁, ⟨U, L1, c1, n1⟩, hW1, X', hS', hg, ⟨L, D', hL, hH', hq, e1, e2, e3, e4⟩, stp⟩ := hB
  dsimp only [Pt.U, Pt.locs, Pt.cells, Pt.slots] at X' hS' hg hH' e1 e2 e3 e4 stp
  subst e1 e2 e3
  cases hb : EL.1 with
  | false =>
    obtain ⟨s₂, o, q1, r⟩ := next v D' hq p l e s m args below meth c U U.vm U.heap.size (locs ++ L) (cells + rm.cells) (slots + rm.slots)
      ⟨X', hS.trans hS' (Nat.le_trans hk0 hg), Nat.le_refl _, hx, hby, hml, (hS'.1.alike.findClass _ _).trans hown, State.Warmed39.trans (t := s.setVm vm0) hZ hS'.1, r1, r2, r3, Fr.app hN hL, hH', by omega, by omega, hE, fun q => by rw [hb] at q; cases q⟩
    exact ⟨s₂, o, stp.trans q1, r⟩
  | true =>
    have hWU : (s.setVm vm0).WarmedH U.vm := State.WarmedH.trans hW1 (e4 hb)
    have X2 : Stand p l e R (s.setVm vm0) m args below meth c U (locs ++ L) (cells + rm.cells) (slots + rm.slots) :=
      ⟨X.admits, X.cas, X.clock, X.frames, X.room, X.hears, X.method, X.code, X'.here, X'.tail, hWU, X'.limits, X'.bytes, X'.same.setVm vm0⟩
    have hn0 : EL.2 = [] := hE.2 hb
    have hH2 : Hp Z EL D' vm0 U.heap := ⟨hH'.1, by rw [hn0]; exact fun p hp => (by cases hp), fun x hx => ⟨(hH'.2.2.1 x hx).1, fun w => ⟨((hH'.2.2.1 x hx).2 w).1, (by rw [hn0]; rintro ⟨p, hp, -⟩; cases hp), ((hH'.2.2.1 x hx).2 w).2.2⟩⟩, hH'.2.2.2⟩
    obtain ⟨s₂, o, q1, r⟩ := next v D' hq p l e s m args below meth c U vm0 k0 (locs ++ L) (cells + rm.cells) (slots + rm.slots)
      ⟨X2, hS, Nat.le_trans hk0 hg, hx, hby, hml, hown, hZ, r1, r2, r3, Fr.app hN hL, hH2, by omega, by omega, hE, hNI⟩
    exact ⟨s₂, o, stp.trans q1, r⟩
abbrev Rooms (R rm : Room) (Wt cm k n : Nat) : Prop := rm.frames + 1 ≤ R.frames ∧ Wt + (cm + 11) + rm.locals ≤ R.locals ∧ k + rm.cells ≤ R.cells ∧ n + rm.slots ≤ R.slots
abbrev okCls (y : MethodName) : Prop := y.cls ≠ "java/lang/invoke/MethodHandle" ∧ y.cls ≠ "java/lang/invoke/VarHandle"
theorem W.callS {ps : List FieldType} {r : Option FieldType} (Wt : Nat) (rest : List Value) (hd : decode bytes pc = .ok (.invokestatic idx, 3)) (wl : (Cond.methodLink own idx y).before a0 Z = true) (ws : (Cond.static y).before a0 Z = true) (wz : (Cond.initialized y.cls).before a0 Z = true) (wc : (Cond.code y cb cm cr).before a0 Z = true)
    (hC : Con Z EL y cb cm cr rm as D Q') (hy : okCls y) (hps : parseMethodDescriptor y.desc = some ⟨ps, r⟩) (hlen : as.length = ps.length) (hst : as.reverse ++ rest = st) (hls : ls.size = ml) (hW : (rest.map fun v => v.category).sum = Wt) (hr : Rooms R rm Wt cm k n)
    (next : ∀ v D', Q' v D' → W Z EL R own nm bytes ml ret Q D' (k + rm.cells) (n + rm.slots) (pc + 3) ls (v.toList ++ rest)) : W Z EL R own nm bytes ml ret Q D k n pc ls st := by
  intro p l e s m args below meth c T vm0 k0 locs cells slots A
  obtain ⟨X, hS, hk0, hx, hby, hml, hown, hZ, r1, r2, r3, hN, hH, hc, hl, hE, hNI⟩ := id A
  subst hst
  exact W.afterCall A (callSS X hx hown (mvT hZ wl) (mvT hZ ws) (mvT hZ wz) (mvT hZ wc) hy (conBack (Wt := Wt) (len := 3) hC hZ wc wz hE hr.1 hr.2.1) (g := mkF m pc ls (as.reverse ++ rest)) rfl (by rw [hml]; exact hls) (lenOf hps hlen) rfl (by show 2 * 0 + _ ≤ _; omega) (hb hby hd) (fun _ _ => ⟨rfl, hH, by show cells + _ ≤ _; have := hr.2.2.1; omega, by show slots + _ ≤ _; have := hr.2.2.2; omega⟩)) next
theorem W.callI {ps : List FieldType} {r : Option FieldType} {a : Addr} (Wt : Nat) (rest : List Value) (hd : decode bytes pc = .ok (.invokespecial idx, 3)) (hy1 : y.name = "<init>") (wl : (Cond.methodLink own idx y).before a0 Z = true) (wi : (Cond.instanceMethod y).before a0 Z = true) (wz : (Cond.initialized y.cls).before a0 Z = true) (wc : (Cond.code y cb cm none).before a0 Z = true)
    (hC : Con Z EL y cb cm none rm (.ref a :: as) D Q') (hy : okCls y) (hps : parseMethodDescriptor y.desc = some ⟨ps, r⟩) (hlen : as.length = ps.length) (hst : as.reverse ++ .ref a :: rest = st) (hls : ls.size = ml) (hW : (rest.map fun v => v.category).sum = Wt) (hr : Rooms R rm Wt cm k n)
    (next : ∀ v D', Q' v D' → W Z EL R own nm bytes ml ret Q D' (k + rm.cells) (n + rm.slots) (pc + 3) ls (v.toList ++ rest)) : W Z EL R own nm bytes ml ret Q D k n pc ls st := by
  intro p l e s m args below meth c T vm0 k0 locs cells slots A
  obtain ⟨X, hS, hk0, hx, hby, hml, hown, hZ, r1, r2, r3, hN, hH, hc, hl, hE, hNI⟩ := id A
  subst hst
  exact W.afterCall A (X.specialBackS hx hy1 hown (mvT hZ wl) (mvT hZ wi) (mvT hZ wc) hy (conBack (Wt := Wt) (len := 3) hC hZ wc wz hE hr.1 hr.2.1) (g := mkF m pc ls (as.reverse ++ .ref a :: rest)) rfl (by rw [hml]; exact hls) (Steps.refl _) (lenOf hps hlen) rfl (by show 2 * 0 + _ ≤ _; omega) (hb hby hd) (fun _ _ => ⟨rfl, hH, by show cells + _ ≤ _; have := hr.2.2.1; omega, by show slots + _ ≤ _; have := hr.2.2.2; omega⟩)) next
theorem W.callV {z : MethodName} {ps : List FieldType} {r : Option FieldType} {a : Addr} {C C' : String} (Wt : Nat) (rest : List Value) (hd : decode bytes pc = .ok (.invokevirtual idx, 3)) (wl : (Cond.methodLink own idx y).before a0 Z = true) (wdl : (Cond.declares y).before a0 Z = true) (wsy : (Cond.selects C' y y).before a0 Z = true) (wse : (Cond.selects C y z).before a0 Z = true) (wi : (Cond.instanceMethod z).before a0 Z = true) (wz : (Cond.initialized z.cls).before a0 Z = true) (wc : (Cond.code z cb cm cr).before a0 Z = true)
    (hI : ∀ vm h, Hp Z EL D vm h → Exa Z h a C) (hC : Con Z EL z cb cm cr rm (.ref a :: as) D Q') (hy : okCls y) (hps : parseMethodDescriptor y.desc = some ⟨ps, r⟩) (hlen : as.length = ps.length) (hst : as.reverse ++ .ref a :: rest = st) (hls : ls.size = ml) (hW : (rest.map fun v => v.category).sum = Wt) (hr : Rooms R rm Wt cm k n)
    (next : ∀ v D', Q' v D' → W Z EL R own nm bytes ml ret Q D' (k + rm.cells) (n + rm.slots) (pc + 3) ls (v.toList ++ rest)) : W Z EL R own nm bytes ml ret Q D k n pc ls st := by
  intro p l e s m args below meth c T vm0 k0 locs cells slots A
  obtain ⟨X, hS, hk0, hx, hby, hml, hown, hZ, r1, r2, r3, hN, hH, hc, hl, hE, hNI⟩ := id A
  subst hst
  obtain ⟨cq, kq, qa, qb, qc⟩ := isOf (s := s.setVm vm0) hZ rfl (hI _ _ hH)
  exact W.afterCall A (X.virtualBackS hx hown (mvT hZ wl) (mvT hZ wdl) (notFace_of_selects (args := #[]) (mvT hZ wsy)) (mvT hZ wse) (mvT hZ wi) hy (conBack (Wt := Wt) (len := 3) hC hZ wc wz hE hr.1 hr.2.1) qa qc (g := mkF m pc ls (as.reverse ++ .ref a :: rest)) rfl (by rw [hml]; exact hls) (Steps.refl _) (lenOf hps hlen) rfl (by show 2 * 0 + _ ≤ _; omega) (hb hby hd) (fun _ _ => ⟨rfl, hH, by show cells + _ ≤ _; have := hr.2.2.1; omega, by show slots + _ ≤ _; have := hr.2.2.2; omega⟩)) next
end Calls
end Jvm.Wk
namespace Jvm.Wk
open Jvm Jvm.ClassFile Sem Op Lib Bundle Jvm.Free Jvm.Stand Jvm.LawKit Jvm.RoadKit
abbrev vi (x : Int32) : Value := .int x
abbrev vj (x : Int64) : Value := .long x
abbrev vr (a : Addr) : Value := .ref a
abbrev uu : Slot := .unset
abbrev ar (ad : String) (ty : FieldType) (vs : List Value) : Desc := .inr (ad, ty, vs)
theorem m0 {α : Type} {x : α} {l : List α} : x ∈ x :: l := List.mem_cons_self ..
theorem mS {α : Type} {x y : α} {l : List α} (h : x ∈ l) : x ∈ y :: l := List.mem_cons_of_mem _ h
theorem m1 {α : Type} {x y1 : α} {l : List α} : x ∈ y1 :: x :: l := mS m0
theorem m2 {α : Type} {x y1 y2 : α} {l : List α} : x ∈ y1 :: y2 :: x :: l := mS m1
theorem m3 {α : Type} {x y1 y2 y3 : α} {l : List α} : x ∈ y1 :: y2 :: y3 :: x :: l := mS m2
theorem m4 {α : Type} {x y1 y2 y3 y4 : α} {l : List α} : x ∈ y1 :: y2 :: y3 :: y4 :: x :: l := mS m3
theorem i_lt {x y : Int32} (h : x < y) : x.toInt < y.toInt := Int32.lt_iff_toInt_lt.mp h
theorem i_eq {x y : Int32} (h : x = y) : x.toInt = y.toInt := by rw [h]
theorem i_ne {x y : Int32} (h : ¬ x = y) : x.toInt ≠ y.toInt := fun e => h (Int32.toInt_inj.mp e)
theorem eqI {x y : Int32} (h : x.toInt = y.toInt) : x = y := Int32.toInt_inj.mp h
theorem j_lt {x y : Int64} (h : x < y) : x.toInt < y.toInt := Int64.lt_iff_toInt_lt.mp h
theorem j_eq {x y : Int64} (h : x = y) : x.toInt = y.toInt := by rw [h]
theorem eqJ {x y : Int64} (h : x.toInt = y.toInt) : x = y := Int64.toInt_inj.mp h
section C
variable {x y : Int32}
theorem y_eq (h : x.toInt = y.toInt) : Cd .eq x y := eqI h
theorem n_eq (h : x.toInt ≠ y.toInt) : ¬ Cd .eq x y := fun e => h (i_eq e)
theorem y_ne (h : x.toInt ≠ y.toInt) : Cd .ne x y := fun e => h (i_eq e)
theorem n_ne (h : x.toInt = y.toInt) : ¬ Cd .ne x y := fun e => e (eqI h)
theorem y_lt (h : x.toInt < y.toInt) : Cd .lt x y := Int32.lt_iff_toInt_lt.mpr h
theorem n_lt (h : y.toInt ≤ x.toInt) : ¬ Cd .lt x y := fun e => by have := i_lt e; omega
theorem y_ge (h : y.toInt ≤ x.toInt) : Cd .ge x y := fun e => by have := i_lt e; omega
theorem n_ge (h : x.toInt < y.toInt) : ¬ Cd .ge x y := fun e => e (Int32.lt_iff_toInt_lt.mpr h)
theorem y_le (h : x.toInt ≤ y.toInt) : Cd .le x y := fun e => by have := i_lt e; omega
theorem t_eq (h : Cd .eq x y) : x.toInt = y.toInt := i_eq h
theorem f_eq (h : ¬ Cd .eq x y) : x.toInt ≠ y.toInt := i_ne h
end C
theorem a_and (x m : Int32) (k : Nat) (M : Int) (hk : k ≤ 31) (hm : m.toBitVec.toNat = 2 ^ k - 1) (hM : ((2 ^ k : Nat) : Int) = M) : (x &&& m).toInt = x.toInt % M := by rw [← hM]; exact c_mask x m k hk hm
theorem a_andL (x m : Int64) (k : Nat) (M : Int) (hk : k ≤ 63) (hm : m.toBitVec.toNat = 2 ^ k - 1) (hM : ((2 ^ k : Nat) : Int) = M) : (x &&& m).toInt = x.toInt % M := by rw [← hM]; exact c_maskL x m k hk hm
theorem a_ushr (x q : Int32) (k : Nat) (M : Int) (hk : q.toBitVec.toNat % 32 = k) (h0 : 0 < k) (hM : ((2 ^ k : Nat) : Int) = M) : (XT.ushr x q).toInt = (x.toInt % 4294967296) / M := by rw [← hM]; exact c_iushr x q k hk h0
theorem a_i2c (x : Int32) : (x.toUInt32.toUInt16.toUInt32.toInt32.toInt - x.toInt) % 65536 = 0 ∧ 0 ≤ x.toUInt32.toUInt16.toUInt32.toInt32.toInt ∧ x.toUInt32.toUInt16.toUInt32.toInt32.toInt < 65536 := c_i2c x
theorem a_i2b (x : Int32) : (x.toInt8.toInt32.toInt - x.toInt) % 256 = 0 ∧ -128 ≤ x.toInt8.toInt32.toInt ∧ x.toInt8.toInt32.toInt < 128 := c_i2b x
theorem z_i2c {x : Int32} (h : 0 ≤ x.toInt ∧ x.toInt ≤ 65535) : x.toUInt32.toUInt16.toUInt32.toInt32 = x := eqI (by have := a_i2c x; omega)
theorem z_i2b {x : Int32} (h : -128 ≤ x.toInt ∧ x.toInt ≤ 127) : x.toInt8.toInt32 = x := eqI (by have := a_i2b x; omega)
theorem z_narC {x : Int32} (h : 0 ≤ x.toInt ∧ x.toInt ≤ 65535) : nar .char x = x := z_i2c h
theorem z_narB {x : Int32} (h : -128 ≤ x.toInt ∧ x.toInt ≤ 127) : nar .byte x = x := z_i2b h
theorem nw_char {x : Int32} (h : 0 ≤ x.toInt ∧ x.toInt ≤ 65535) : narrow .char (.int x) = .int x := by have e := z_i2c h; have := XT.narrow_c x; rw [e] at this; exact this
theorem nw_byte {x : Int32} (h : -128 ≤ x.toInt ∧ x.toInt ≤ 127) : narrow .byte (.int x) = .int x := by have e := z_i2b h; have := XT.narrow_b x; rw [e] at this; exact this
theorem nw_bool {x : Int32} (h : 0 ≤ x.toInt ∧ x.toInt ≤ 1) : narrow .boolean (.int x) = .int x := by
  have : x = 0 ∨ x = 1 := by
    rcases (by omega : x.toInt = 0 ∨ x.toInt = 1) with q | q
    · exact Or.inl (eqI q)
    · exact Or.inr (eqI q)
  rcases this with rfl | rfl <;> rfl
theorem ft_byte {x : Int32} (h : -128 ≤ x.toInt ∧ x.toInt ≤ 127) : fits .byte (.int x) = true := by have := fits_nar_byte x; rw [z_i2b h] at this; exact this
theorem l_lt {x y : Int64} : XT.cmpL x y < 0 ↔ x < y := by
  constructor
  · intro h; by_cases q : x < y
    · exact q
    · have := XT.ll_lt_f q; rw [if0] at this; simp [if_icmp.holds] at this; exact absurd h (Int32.not_lt.mpr this)
  · intro q; have := XT.ll_lt_t q; rw [if0] at this; simpa [if_icmp.holds] using this
theorem l_gt {x y : Int64} : 0 < XT.cmpL x y ↔ y < x := by
  constructor
  · intro h; by_cases q : y < x
    · exact q
    · have := XT.ll_gt_f q; rw [if0] at this; simp [if_icmp.holds] at this; exact absurd h (Int32.not_lt.mpr this)
  · intro q; have := XT.ll_gt_t q; rw [if0] at this; simpa [if_icmp.holds] using this
theorem l_eq {x y : Int64} : XT.cmpL x y = 0 ↔ x = y := by
  constructor
  · intro h; by_cases q : x = y
    · exact q
    · have := XT.ll_eq_f q; rw [if0] at this; simp [if_icmp.holds] at this; exact absurd h this
  · intro q; have := XT.ll_eq_t q; rw [if0] at this; simpa [if_icmp.holds] using this
end Jvm.Wk
namespace Jvm.Wk
open Jvm Jvm.ClassFile Sem Op Lib Bundle Jvm.Free Jvm.Stand Jvm.LawKit Jvm.RoadKit
section Walk
variable {Z : State} {EL : Bool × List (String × Nat)} {R : Room} {own nm : String} {bytes : ByteArray} {ml : Nat} {ret : Option FieldType} {Q : Option Value → List Ent → Prop} {D D' : List Ent} {k n pc : Nat} {ls ls' : Array Slot} {st : List Value} {a0 : Array Value}
theorem Hp.ne {i j : Nat} {x y : Ent} {vm : Vm} {h : Heap} (H : Hp Z EL D vm h) (hij : i ≠ j) (hi : D[i]? = some x) (hj : D[j]? = some y) (w : x.2.1 = true ∨ y.2.1 = true) : x.1 ≠ y.1 := by
  have P := H.2.2.2
  obtain ⟨i1, rfl⟩ := List.getElem?_eq_some_iff.mp hi
  obtain ⟨j1, rfl⟩ := List.getElem?_eq_some_iff.mp hj
  rw [List.pairwise_iff_getElem] at P
  rcases Nat.lt_or_gt_of_ne hij with q | q
  · exact P i j i1 j1 q w
  · exact (P j i j1 i1 q w.symm).symm
theorem wS_of (h1 : (Cond.initialized "java/lang/String").before a0 Z = true) (h2 : (Cond.instantiable "java/lang/String" 4).before a0 Z = true) (h3 : (Cond.arrayClass .byte).before a0 Z = true) (h4 : (Cond.laysFinal "java/lang/String" "java/lang/String" "value" "[B").before a0 Z = true) (h5 : (Cond.laysFinal "java/lang/String" "java/lang/String" "coder" "B").before a0 Z = true) (h6 : (Cond.soleField "java/lang/String" "value").before a0 Z = true) (h7 : (Cond.soleField "java/lang/String" "coder").before a0 Z = true) :
    ∀ a ∈ Bundle.stringAtoms, a.before a0 Z = true := fun a ha => by
  simp only [Bundle.stringAtoms, Bundle.sN, List.mem_cons, List.not_mem_nil, or_false] at ha
  rcases ha with rfl | rfl | rfl | rfl | rfl | rfl | rfl <;> assumption
theorem W.isubK {x y : Int32} (z : Int32) (hd : decode bytes pc = .ok (.isub, 1)) (hz : x - y = z) (next : W Z EL R own nm bytes ml ret Q D k n (pc + 1) ls (.int z :: st)) : W Z EL R own nm bytes ml ret Q D k n pc ls (.int y :: .int x :: st) := W.isub hd (hz ▸ next)
theorem W.ishrK {x y : Int32} (z : Int32) (hd : decode bytes pc = .ok (.ishr, 1)) (hz : x >>> (y &&& 31) = z) (next : W Z EL R own nm bytes ml ret Q D k n (pc + 1) ls (.int z :: st)) : W Z EL R own nm bytes ml ret Q D k n pc ls (.int y :: .int x :: st) := W.ishr hd (hz ▸ next)
theorem W.iushrK {x y : Int32} (z : Int32) (hd : decode bytes pc = .ok (.iushr, 1)) (hz : XT.ushr x y = z) (next : W Z EL R own nm bytes ml ret Q D k n (pc + 1) ls (.int z :: st)) : W Z EL R own nm bytes ml ret Q D k n pc ls (.int y :: .int x :: st) := W.iushr hd (hz ▸ next)
theorem W.lcmpK {x y : Int64} (z : Int32) (hd : decode bytes pc = .ok (.lcmp, 1)) (hz : XT.cmpL x y = z) (next : W Z EL R own nm bytes ml ret Q D k n (pc + 1) ls (.int z :: st)) : W Z EL R own nm bytes ml ret Q D k n pc ls (.long y :: .long x :: st) := W.lcmp hd (hz ▸ next)
theorem W.i2bK {x : Int32} (z : Int32) (hd : decode bytes pc = .ok (.i2b, 1)) (hz : x.toInt8.toInt32 = z) (next : W Z EL R own nm bytes ml ret Q D k n (pc + 1) ls (.int z :: st)) : W Z EL R own nm bytes ml ret Q D k n pc ls (.int x :: st) := W.i2b hd (hz ▸ next)
theorem W.i2cK {x : Int32} (z : Int32) (hd : decode bytes pc = .ok (.i2c, 1)) (hz : x.toUInt32.toUInt16.toUInt32.toInt32 = z) (next : W Z EL R own nm bytes ml ret Q D k n (pc + 1) ls (.int z :: st)) : W Z EL R own nm bytes ml ret Q D k n pc ls (.int x :: st) := W.i2c hd (hz ▸ next)
theorem W.iincK {i : Nat} {cst : Int} {x : Int32} (v r : Int32) (hd : decode bytes pc = .ok (.iinc i cst, 3)) (hv : Int32.ofInt cst = v) (hl : ls[i]? = some (.val (.int x))) (hr : x + v = r) (hl' : storeLocals ls i (.int r) = some ls') (next : W Z EL R own nm bytes ml ret Q D k n (pc + 3) ls' st) : W Z EL R own nm bytes ml ret Q D k n pc ls st :=
  W.iinc v hd hv hl (hr ▸ hl') next
end Walk
section L
variable {x y : Int64}
theorem yl_eq (h : x.toInt = y.toInt) : Cd .eq (XT.cmpL x y) 0 := l_eq.mpr (eqJ h)
theorem yl_ne (h : x.toInt ≠ y.toInt) : Cd .ne (XT.cmpL x y) 0 := fun e => h (j_eq (l_eq.mp e))
theorem nl_ne (h : x.toInt = y.toInt) : ¬ Cd .ne (XT.cmpL x y) 0 := fun e => e (l_eq.mpr (eqJ h))
theorem yl_ge (h : y.toInt ≤ x.toInt) : Cd .ge (XT.cmpL x y) 0 := fun e => by have := j_lt (l_lt.mp e); omega
theorem yl_gt (h : y.toInt < x.toInt) : Cd .gt (XT.cmpL x y) 0 := l_gt.mpr (Int64.lt_iff_toInt_lt.mpr h)
theorem tl_ne (h : Cd .ne (XT.cmpL x y) 0) : x.toInt ≠ y.toInt := fun e => h (yl_eq e)
theorem fl_ne (h : ¬ Cd .ne (XT.cmpL x y) 0) : x.toInt = y.toInt := j_eq (l_eq.mp (Classical.not_not.mp h))
theorem tl_le (h : Cd .le (XT.cmpL x y) 0) : x.toInt ≤ y.toInt := Int.not_lt.mp fun e => h (yl_gt e)
theorem fl_le (h : ¬ Cd .le (XT.cmpL x y) 0) : y.toInt < x.toInt := j_lt (l_gt.mp (Classical.not_not.mp h))
end L
def si (Z : State) (C n d : String) : Int32 := match (Term.static C n d).eval #[] Z none [] Z with | some (.int x) => x | _ => 0
def sv (Z : State) (C n d : String) : Value := match (Term.static C n d).eval #[] Z none [] Z with | some v => v | none => .null
theorem eval_static {Z : State} {a b : Array Value} {C n d : String} : (Term.static C n d).eval a Z none [] Z = (Term.static C n d).eval b Z none [] Z := rfl
theorem si_of {Z : State} {C n d : String} {x : Int32} {a : Array Value} (h : (Term.static C n d).eval a Z none [] Z = some (.int x)) : si Z C n d = x := by
  unfold si; rw [eval_static (b := a), h]
theorem sv_of {Z : State} {C n d : String} {x : Value} {a : Array Value} (h : (Term.static C n d).eval a Z none [] Z = some x) : sv Z C n d = x := by
  unfold sv; rw [eval_static (b := a), h]
end Jvm.Wk
namespace Jvm.Wk
open Jvm Jvm.ClassFile Sem Op Lib Bundle Jvm.Free Jvm.Stand Jvm.LawKit Jvm.RoadKit
section Natives
variable {Z : State} {EL : Bool × List (String × Nat)} {R : Room} {own nm : String} {bytes : ByteArray} {ml : Nat} {ret : Option FieldType} {Q : Option Value → List Ent → Prop} {D D' : List Ent} {k n pc : Nat} {ls ls' : Array Slot} {st : List Value} {a0 : Array Value} {idx : Nat}
end Natives
end Jvm.Wk
namespace Jvm.Wk
open Jvm Jvm.ClassFile Sem Op Lib Bundle Jvm.Free Jvm.Stand Jvm.LawKit Jvm.RoadKit
section Start
variable {s : State} {args : Array Value} {C n d C' n' d' K : String}
theorem sf_int (hi : (Cond.initializedFor C n d).before args s = true) (h : (Cond.isInt (.static C n d)).before args s = true) : Sta s s.heap C n d (.int (si s C n d)) := by
  obtain ⟨x, e⟩ := is_v (Cond.before_iff.mp h)
  rw [si_of e]; exact Sta.start e (Or.inl hi)
theorem sf_nz (h : (Cond.isInt (.static C n d)).before args s = true) (hz : (Cond.not (.eq (.static C n d) (.int 0))).before args s = true) : (si s C n d).toInt ≠ 0 := by
  obtain ⟨x, e⟩ := is_v (Cond.before_iff.mp h)
  rw [si_of e]
  intro q
  have : x = 0 := eqI q
  subst this
  have h2 := not_v (Cond.before_iff.mp hz)
  rw [eq_i e (Term.int_eval 0) rfl] at h2
  cases h2
theorem sf_isref (h : (Cond.isRef (.static C n d)).before args s = true) : (sv s C n d).isRef = true := by
  obtain ⟨x, e, r⟩ := isR_v (Cond.before_iff.mp h)
  rw [sv_of e]; exact r
theorem sf_ref (hi : (Cond.initializedFor C n d).before args s = true) (h : (Cond.isRef (.static C n d)).before args s = true) : Sta s s.heap C n d (sv s C n d) := by
  obtain ⟨x, e, r⟩ := isR_v (Cond.before_iff.mp h)
  rw [sv_of e]; exact Sta.start e (Or.inl hi)
end Start
theorem CHv.nil {Z : State} {vm : Vm} {h : Heap} : CHv Z [] vm h := fun p hp => by cases hp
theorem Hp.start {Z : State} {EL : Bool × List (String × Nat)} (H : CHv Z EL.2 Z.vm Z.heap) : Hp Z EL [] Z.vm Z.heap := ⟨⟨Nat.le_refl _, fun _ _ q => q⟩, H, fun x hx => (by cases hx), List.Pairwise.nil⟩
end Jvm.Wk
namespace Jvm.Wk
open Jvm Jvm.ClassFile Sem Op Lib Bundle Jvm.Free Jvm.Stand Jvm.LawKit Jvm.RoadKit
theorem Con.mono {Z : State} {EL : Bool × List (String × Nat)} {y : MethodName} {bytes : ByteArray} {maxL : Nat} {ret : Option FieldType} {rm : Room} {as : List Value} {D : List Ent} {Q Q' : Option Value → List Ent → Prop} (h : Con Z EL y bytes maxL ret rm as D Q) (q : ∀ v D', Q v D' → Q' v D') : Con Z EL y bytes maxL ret rm as D Q' := by
  intro hE l ws
  refine MetFree.mono (h hE l ws) (fun _ _ p => p) (fun _ _ _ _ _ p => p) ?_
  intro a s o t _ r
  obtain ⟨v, L, h1, h2, ⟨D', h3, h4⟩, h5⟩ := r
  exact ⟨v, L, h1, h2, ⟨D', h3, q v D' h4⟩, h5⟩
end Jvm.Wk
namespace Jvm.Wk
open Jvm Jvm.ClassFile Sem Op Lib Bundle Jvm.Free Jvm.Stand Jvm.LawKit Jvm.RoadKit
end Jvm.Wk
namespace Jvm.Wk
open Jvm Jvm.ClassFile Sem Op Lib Bundle Jvm.Free Jvm.Stand Jvm.LawKit Jvm.RoadKit
section Old
variable {s : State} {args : Array Value} {t : Term} {O f d K : String} {EL : Bool × List (String × Nat)} {D : List Ent} {a : Addr} {de : Desc}
end Old
end Jvm.Wk
namespace Jvm.Wk
end Jvm.Wk
namespace Jvm.Wk
open Jvm Jvm.ClassFile Sem Op Lib Bundle Jvm.Free Jvm.Stand Jvm.LawKit Jvm.RoadKit
end Jvm.Wk
namespace Jvm.Wk
open Jvm Jvm.ClassFile Sem Op Lib Bundle Jvm.Free Jvm.Stand Jvm.LawKit Jvm.RoadKit
end Jvm.Wk
namespace Jvm.Wk
open Jvm Jvm.ClassFile Sem Op Lib Bundle Jvm.Free Jvm.Stand Jvm.LawKit Jvm.RoadKit
end Jvm.Wk

namespace Jvm.Pilot.@@N@@
open Jvm Jvm.ClassFile Sem Op Lib Jvm.Free Jvm.Stand Jvm.LawKit Jvm.RoadKit Bundle Jvm.Wk Jvm.Pilot.@@N@@.Jvm.D
abbrev EL : Bool × List (String × Nat) := (false, [])
def csv (Z : State) : Int32 := si Z "java/lang/String" "COMPACT_STRINGS" "Z"
def sfv (Z : State) : Value := sv Z "jdk/internal/util/Preconditions" "SIOOBE_FORMATTER" "Ljava/util/function/BiFunction;"
def SF (Z : State) : Prop := Sta Z Z.heap "java/lang/String" "COMPACT_STRINGS" "Z" (.int (csv Z)) ∧ (csv Z).toInt ≠ 0 ∧ (sfv Z).isRef = true ∧ Sta Z Z.heap "jdk/internal/util/Preconditions" "SIOOBE_FORMATTER" "Ljava/util/function/BiFunction;" (sfv Z) ∧ True
set_option maxRecDepth 65536
abbrev HW (a0 : Array Value) (Z : State) : Prop := ∀ d ∈ tables_1, d.before a0 Z = true
abbrev rmm (a b c d : Nat) : Room := { frames := a, cells := b, slots := c, locals := d }
theorem w0 {Z a0} (hw : HW a0 Z) : ((Jvm.Cond.constantLong "com/example/kinpath/kinpath/PathElementIsCompletePinLaw" (9 : Nat) (9223372036854775807 : Int64)) : Jvm.Cond).before a0 Z = true := hw _ (List.mem_of_getElem? (i := 0) rfl)
theorem w1 {Z a0} (hw : HW a0 Z) : ((Jvm.Cond.arrayClass Jvm.ClassFile.FieldType.char) : Jvm.Cond).before a0 Z = true := hw _ (List.mem_of_getElem? (i := 1) rfl)
theorem ix2 : Idx (2 : Int32) 2 := by unfold Idx; decide
theorem q255 : (255 : Int32).toInt = 255 := by decide
theorem am_255 (x : Int32) : (x &&& (255 : Int32)).toInt = x.toInt % 256 := a_and x 255 8 256 (by decide) (by decide) (by decide)
theorem q1 : (1 : Int32).toInt = 1 := by decide
theorem am_1 (x : Int32) : (x &&& (1 : Int32)).toInt = x.toInt % 2 := a_and x 1 1 2 (by decide) (by decide) (by decide)
theorem q0 : (0 : Int32).toInt = 0 := by decide
theorem q2 : (2 : Int32).toInt = 2 := by decide
theorem ix0 : Idx (0 : Int32) 0 := by unfold Idx; decide
theorem q8 : (8 : Int32).toInt = 8 := by decide
theorem aushr_8 (x : Int32) : (XT.ushr x (8 : Int32)).toInt = (x.toInt % 4294967296) / 256 := a_ushr x 8 8 256 (by decide) (by decide) (by decide)
theorem ix1 : Idx (1 : Int32) 1 := by unfold Idx; decide
theorem w30 {Z a0} (hw : HW a0 Z) : ((Jvm.Cond.laysFinal "java/lang/String" "java/lang/String" "value" "[B") : Jvm.Cond).before a0 Z = true := hw _ (List.mem_of_getElem? (i := 30) rfl)
theorem w28 {Z a0} (hw : HW a0 Z) : ((Jvm.Cond.laysFinal "java/lang/String" "java/lang/String" "coder" "B") : Jvm.Cond).before a0 Z = true := hw _ (List.mem_of_getElem? (i := 28) rfl)
theorem laString {Z a0} (hw : HW a0 Z) : LaidAll Z a0 "java/lang/String" [("java/lang/String", "value", "[B", .null), ("java/lang/String", "coder", "B", (vi 0))] := ⟨⟨Or.inr (w30 hw), (.array .byte), by decide, rfl⟩, ⟨⟨Or.inr (w28 hw), .byte, by decide, rfl⟩, trivial⟩⟩
theorem w2 {Z a0} (hw : HW a0 Z) : ((Jvm.Cond.classLink "com/example/kinpath/kinpath/PathElementIsCompletePinLaw" (11 : Nat) "java/lang/String") : Jvm.Cond).before a0 Z = true := hw _ (List.mem_of_getElem? (i := 2) rfl)
theorem w3 {Z a0} (hw : HW a0 Z) : ((Jvm.Cond.instantiable "java/lang/String" (4 : Nat)) : Jvm.Cond).before a0 Z = true := hw _ (List.mem_of_getElem? (i := 3) rfl)
theorem w4 {Z a0} (hw : HW a0 Z) : ((Jvm.Cond.initialized "java/lang/String") : Jvm.Cond).before a0 Z = true := hw _ (List.mem_of_getElem? (i := 4) rfl)
theorem d1_0 : decode jdk_42_method_3_code 0 = .ok (.aload_n 0, 1) := by decide +kernel
theorem d1_1 : decode jdk_42_method_3_code 1 = .ok (.aload_n 1, 1) := by decide +kernel
theorem d1_2 : decode jdk_42_method_3_code 2 = .ok (.iconst 0, 1) := by decide +kernel
theorem d1_3 : decode jdk_42_method_3_code 3 = .ok (.aload_n 1, 1) := by decide +kernel
theorem d1_4 : decode jdk_42_method_3_code 4 = .ok (.arraylength, 1) := by decide +kernel
theorem d1_5 : decode jdk_42_method_3_code 5 = .ok (.aconst_null, 1) := by decide +kernel
theorem d1_6 : decode jdk_42_method_3_code 6 = .ok (.invokespecial 27, 3) := by decide +kernel
theorem d2_0 : decode jdk_42_method_149_code 0 = .ok (.aload_n 0, 1) := by decide +kernel
theorem d2_1 : decode jdk_42_method_149_code 1 = .ok (.invokespecial 1, 3) := by decide +kernel
theorem w12 {Z a0} (hw : HW a0 Z) : ((Jvm.Cond.methodLink "java/lang/String" (1 : Nat) ({ cls := "java/lang/Object", name := "<init>", desc := "()V" } : Jvm.MethodName)) : Jvm.Cond).before a0 Z = true := hw _ (List.mem_of_getElem? (i := 12) rfl)
theorem w13 {Z a0} (hw : HW a0 Z) : ((Jvm.Cond.instanceMethod ({ cls := "java/lang/Object", name := "<init>", desc := "()V" } : Jvm.MethodName)) : Jvm.Cond).before a0 Z = true := hw _ (List.mem_of_getElem? (i := 13) rfl)
theorem w14 {Z a0} (hw : HW a0 Z) : ((Jvm.Cond.code ({ cls := "java/lang/Object", name := "<init>", desc := "()V" } : Jvm.MethodName) object_method_1_code (1 : Nat) (Option.none : Option Jvm.ClassFile.FieldType)) : Jvm.Cond).before a0 Z = true := hw _ (List.mem_of_getElem? (i := 14) rfl)
theorem d2_4 : decode jdk_42_method_149_code 4 = .ok (.iload_n 3, 1) := by decide +kernel
theorem d2_5 : decode jdk_42_method_149_code 5 = .ok (.ifCond .ne 22, 3) := by decide +kernel
theorem d2_27 : decode jdk_42_method_149_code 27 = .ok (.getstatic 38, 3) := by decide +kernel
theorem w15 {Z a0} (hw : HW a0 Z) : ((Jvm.Cond.fieldLink "java/lang/String" (38 : Nat) "java/lang/String" "COMPACT_STRINGS" "Z") : Jvm.Cond).before a0 Z = true := hw _ (List.mem_of_getElem? (i := 15) rfl)
theorem d2_30 : decode jdk_42_method_149_code 30 = .ok (.ifCond .eq 28, 3) := by decide +kernel
theorem d2_33 : decode jdk_42_method_149_code 33 = .ok (.aload_n 1, 1) := by decide +kernel
theorem d2_34 : decode jdk_42_method_149_code 34 = .ok (.iload_n 2, 1) := by decide +kernel
theorem d2_35 : decode jdk_42_method_149_code 35 = .ok (.iload_n 3, 1) := by decide +kernel
theorem d2_36 : decode jdk_42_method_149_code 36 = .ok (.invokestatic 177, 3) := by decide +kernel
theorem d4_0 : decode jdk_52_method_16_code 0 = .ok (.iload_n 2, 1) := by decide +kernel
theorem d4_1 : decode jdk_52_method_16_code 1 = .ok (.newarray .byte, 2) := by decide +kernel
theorem w20 {Z a0} (hw : HW a0 Z) : ((Jvm.Cond.arrayClass Jvm.ClassFile.FieldType.byte) : Jvm.Cond).before a0 Z = true := hw _ (List.mem_of_getElem? (i := 20) rfl)
theorem d4_3 : decode jdk_52_method_16_code 3 = .ok (.astore_n 3, 1) := by decide +kernel
theorem d4_4 : decode jdk_52_method_16_code 4 = .ok (.aload_n 0, 1) := by decide +kernel
theorem d4_5 : decode jdk_52_method_16_code 5 = .ok (.iload_n 1, 1) := by decide +kernel
theorem d4_6 : decode jdk_52_method_16_code 6 = .ok (.aload_n 3, 1) := by decide +kernel
theorem d4_7 : decode jdk_52_method_16_code 7 = .ok (.iconst 0, 1) := by decide +kernel
theorem d4_8 : decode jdk_52_method_16_code 8 = .ok (.iload_n 2, 1) := by decide +kernel
theorem d4_9 : decode jdk_52_method_16_code 9 = .ok (.invokestatic 115, 3) := by decide +kernel
theorem d5_0 : decode jdk_52_method_21_code 0 = .ok (.iconst 0, 1) := by decide +kernel
theorem d5_1 : decode jdk_52_method_21_code 1 = .ok (.istore 5, 2) := by decide +kernel
theorem d5_3 : decode jdk_52_method_21_code 3 = .ok (.iload 5, 2) := by decide +kernel
theorem d5_5 : decode jdk_52_method_21_code 5 = .ok (.iload 4, 2) := by decide +kernel
theorem d5_7 : decode jdk_52_method_21_code 7 = .ok (.if_icmp .ge 37, 3) := by decide +kernel
theorem d5_10 : decode jdk_52_method_21_code 10 = .ok (.aload_n 0, 1) := by decide +kernel
theorem d5_11 : decode jdk_52_method_21_code 11 = .ok (.iload_n 1, 1) := by decide +kernel
theorem d5_12 : decode jdk_52_method_21_code 12 = .ok (.caload, 1) := by decide +kernel
theorem d5_13 : decode jdk_52_method_21_code 13 = .ok (.istore 6, 2) := by decide +kernel
theorem d5_15 : decode jdk_52_method_21_code 15 = .ok (.iload 6, 2) := by decide +kernel
theorem d5_17 : decode jdk_52_method_21_code 17 = .ok (.sipush 255, 3) := by decide +kernel
theorem d5_20 : decode jdk_52_method_21_code 20 = .ok (.if_icmp .le 6, 3) := by decide +kernel
theorem d5_26 : decode jdk_52_method_21_code 26 = .ok (.aload_n 2, 1) := by decide +kernel
theorem d5_27 : decode jdk_52_method_21_code 27 = .ok (.iload_n 3, 1) := by decide +kernel
theorem d5_28 : decode jdk_52_method_21_code 28 = .ok (.iload 6, 2) := by decide +kernel
theorem d5_30 : decode jdk_52_method_21_code 30 = .ok (.i2b, 1) := by decide +kernel
theorem d5_31 : decode jdk_52_method_21_code 31 = .ok (.bastore, 1) := by decide +kernel
theorem d5_32 : decode jdk_52_method_21_code 32 = .ok (.iinc 1 1, 3) := by decide +kernel
theorem d5_35 : decode jdk_52_method_21_code 35 = .ok (.iinc 3 1, 3) := by decide +kernel
theorem d5_38 : decode jdk_52_method_21_code 38 = .ok (.iinc 5 1, 3) := by decide +kernel
theorem d5_41 : decode jdk_52_method_21_code 41 = .ok (.goto (-38), 3) := by decide +kernel
theorem d5_44 : decode jdk_52_method_21_code 44 = .ok (.iload 4, 2) := by decide +kernel
theorem d5_46 : decode jdk_52_method_21_code 46 = .ok (.ireturn, 1) := by decide +kernel
theorem c4_compress {Z a0} (hw : HW a0 Z) (hs : SF Z) {p1 p2 : Addr} {x1 : Int32} (hx1 : 0 ≤ x1.toInt ∧ x1.toInt ≤ 255) {x2 : Int32} (hx2 : 0 ≤ x2.toInt ∧ x2.toInt ≤ 255) {ad_p2 : String} {w_p1 : Bool} {ad_p1 : String} {F : List Ent} (mp1 : (p1, w_p1, ar ad_p1 .char [(vi x1), (vi x2)]) ∈ F) : Con Z EL (⟨"java/lang/StringUTF16", "compress", "([CI[BII)I"⟩ : MethodName) jdk_52_method_21_code 7 (Option.some Jvm.ClassFile.FieldType.int) (rmm 0 0 0 0) [(vr p1), (vi 0), (vr p2), (vi 0), (vi 2)] ((p2, true, ar ad_p2 .byte [(vi 0), (vi 0)]) :: F) (fun v D' => (v = some (vi 2) ∧ (p2, true, ar ad_p2 .byte [(vi x1.toInt8.toInt32), (vi x2.toInt8.toInt32)]) :: F = D')) := by
  refine Con.of (ls := #[rv p1, iv 0, rv p2, iv 0, iv 2, uu, uu]) (by decide +kernel) rfl ?_
  show W Z EL _ "java/lang/StringUTF16" "compress" _ _ _ _ _ _ _ _ _ _
  refine W.iconst (pc := 0) (0) d5_0 (by decide) ?_
  refine W.istore (pc := 1) (ls' := #[rv p1, iv 0, rv p2, iv 0, iv 2, iv 0, uu]) d5_1 rfl ?_
  refine W.iload (pc := 3) d5_3 rfl ?_
  refine W.iload (pc := 5) d5_5 rfl ?_
  refine W.icmpN (pc := 7) d5_7 (n_ge (by decide)) ?_
  refine W.aloadN (pc := 10) d5_10 rfl rfl ?_
  refine W.iloadN (pc := 11) d5_11 rfl ?_
  refine W.caload (pc := 12) 0 d5_12 (mS mp1) ix0 rfl ?_
  refine W.istore (pc := 13) (ls' := #[rv p1, iv 0, rv p2, iv 0, iv 2, iv 0, iv x1]) d5_13 rfl ?_
  refine W.iload (pc := 15) d5_15 rfl ?_
  refine W.sipush (pc := 17) (255) d5_17 (by decide) ?_
  refine W.icmpY (pc := 20) 26 d5_20 (y_le (by have := q255; omega)) (by decide) ?_
  refine W.aloadN (pc := 26) d5_26 rfl rfl ?_
  refine W.iloadN (pc := 27) d5_27 rfl ?_
  refine W.iload (pc := 28) d5_28 rfl ?_
  refine W.i2b (pc := 30) d5_30 ?_
  refine W.bastore (pc := 31) (D' := (p2, true, ar ad_p2 .byte [(vi x1.toInt8.toInt32), (vi 0)]) :: F) 0 0 d5_31 rfl ix0 (Nat.le_of_ble_eq_true rfl) (z_narB (by have := a_i2b x1; omega)) rfl ?_
  refine W.iincK (pc := 32) (ls' := #[rv p1, iv 1, rv p2, iv 0, iv 2, iv 0, iv x1]) (1) (1 : Int32) d5_32 (by decide) rfl (by decide) rfl ?_
  refine W.iincK (pc := 35) (ls' := #[rv p1, iv 1, rv p2, iv 1, iv 2, iv 0, iv x1]) (1) (1 : Int32) d5_35 (by decide) rfl (by decide) rfl ?_
  refine W.iincK (pc := 38) (ls' := #[rv p1, iv 1, rv p2, iv 1, iv 2, iv 1, iv x1]) (1) (1 : Int32) d5_38 (by decide) rfl (by decide) rfl ?_
  refine W.goto (pc := 41) 3 d5_41 (by decide) ?_
  refine W.iload (pc := 3) d5_3 rfl ?_
  refine W.iload (pc := 5) d5_5 rfl ?_
  refine W.icmpN (pc := 7) d5_7 (n_ge (by decide)) ?_
  refine W.aloadN (pc := 10) d5_10 rfl rfl ?_
  refine W.iloadN (pc := 11) d5_11 rfl ?_
  refine W.caload (pc := 12) 1 d5_12 (mS mp1) ix1 rfl ?_
  refine W.istore (pc := 13) (ls' := #[rv p1, iv 1, rv p2, iv 1, iv 2, iv 1, iv x2]) d5_13 rfl ?_
  refine W.iload (pc := 15) d5_15 rfl ?_
  refine W.sipush (pc := 17) (255) d5_17 (by decide) ?_
  refine W.icmpY (pc := 20) 26 d5_20 (y_le (by have := q255; omega)) (by decide) ?_
  refine W.aloadN (pc := 26) d5_26 rfl rfl ?_
  refine W.iloadN (pc := 27) d5_27 rfl ?_
  refine W.iload (pc := 28) d5_28 rfl ?_
  refine W.i2b (pc := 30) d5_30 ?_
  refine W.bastore (pc := 31) (D' := (p2, true, ar ad_p2 .byte [(vi x1.toInt8.toInt32), (vi x2.toInt8.toInt32)]) :: F) 0 1 d5_31 rfl ix1 (Nat.le_of_ble_eq_true rfl) (z_narB (by have := a_i2b x2; omega)) rfl ?_
  refine W.iincK (pc := 32) (ls' := #[rv p1, iv 2, rv p2, iv 1, iv 2, iv 1, iv x2]) (1) (2 : Int32) d5_32 (by decide) rfl (by decide) rfl ?_
  refine W.iincK (pc := 35) (ls' := #[rv p1, iv 2, rv p2, iv 2, iv 2, iv 1, iv x2]) (1) (2 : Int32) d5_35 (by decide) rfl (by decide) rfl ?_
  refine W.iincK (pc := 38) (ls' := #[rv p1, iv 2, rv p2, iv 2, iv 2, iv 2, iv x2]) (1) (2 : Int32) d5_38 (by decide) rfl (by decide) rfl ?_
  refine W.goto (pc := 41) 3 d5_41 (by decide) ?_
  refine W.iload (pc := 3) d5_3 rfl ?_
  refine W.iload (pc := 5) d5_5 rfl ?_
  refine W.icmpY (pc := 7) 44 d5_7 (y_ge (by decide)) (by decide) ?_
  refine W.iload (pc := 44) d5_44 rfl ?_
  exact W.ireturn (pc := 46) d5_46 rfl (Or.inl rfl) rfl (by decide) ⟨rfl, rfl⟩
theorem pd__CI_BII_I : parseMethodDescriptor "([CI[BII)I" = some ⟨[(.array .char), .int, (.array .byte), .int, .int], some .int⟩ := by decide +kernel
theorem w21 {Z a0} (hw : HW a0 Z) : ((Jvm.Cond.methodLink "java/lang/StringUTF16" (115 : Nat) ({ cls := "java/lang/StringUTF16", name := "compress", desc := "([CI[BII)I" } : Jvm.MethodName)) : Jvm.Cond).before a0 Z = true := hw _ (List.mem_of_getElem? (i := 21) rfl)
theorem w22 {Z a0} (hw : HW a0 Z) : ((Jvm.Cond.static ({ cls := "java/lang/StringUTF16", name := "compress", desc := "([CI[BII)I" } : Jvm.MethodName)) : Jvm.Cond).before a0 Z = true := hw _ (List.mem_of_getElem? (i := 22) rfl)
theorem w18 {Z a0} (hw : HW a0 Z) : ((Jvm.Cond.initialized "java/lang/StringUTF16") : Jvm.Cond).before a0 Z = true := hw _ (List.mem_of_getElem? (i := 18) rfl)
theorem w23 {Z a0} (hw : HW a0 Z) : ((Jvm.Cond.code ({ cls := "java/lang/StringUTF16", name := "compress", desc := "([CI[BII)I" } : Jvm.MethodName) jdk_52_method_21_code (7 : Nat) (Option.some Jvm.ClassFile.FieldType.int)) : Jvm.Cond).before a0 Z = true := hw _ (List.mem_of_getElem? (i := 23) rfl)
theorem d4_12 : decode jdk_52_method_16_code 12 = .ok (.istore 4, 2) := by decide +kernel
theorem d4_14 : decode jdk_52_method_16_code 14 = .ok (.iload 4, 2) := by decide +kernel
theorem d4_16 : decode jdk_52_method_16_code 16 = .ok (.iload_n 2, 1) := by decide +kernel
theorem d4_17 : decode jdk_52_method_16_code 17 = .ok (.if_icmp .eq 40, 3) := by decide +kernel
theorem d4_57 : decode jdk_52_method_16_code 57 = .ok (.aload_n 3, 1) := by decide +kernel
theorem d4_58 : decode jdk_52_method_16_code 58 = .ok (.areturn, 1) := by decide +kernel
theorem c3_compress {Z a0} (hw : HW a0 Z) (hs : SF Z) {p1 : Addr} {x1 : Int32} (hx1 : 0 ≤ x1.toInt ∧ x1.toInt ≤ 255) {x2 : Int32} (hx2 : 0 ≤ x2.toInt ∧ x2.toInt ≤ 255) {w_p1 : Bool} {ad_p1 : String} {F : List Ent} (mp1 : (p1, w_p1, ar ad_p1 .char [(vi x1), (vi x2)]) ∈ F) : Con Z EL (⟨"java/lang/StringUTF16", "compress", "([CII)[B"⟩ : MethodName) jdk_52_method_16_code 6 (Option.some (Jvm.ClassFile.FieldType.array Jvm.ClassFile.FieldType.byte)) (rmm 1 1 2 18) [(vr p1), (vi 0), (vi 2)] (F) (fun v D' => (∃ a1 : Addr, v = some (vr a1) ∧ (a1, true, ar "[B" .byte [(vi x1.toInt8.toInt32), (vi x2.toInt8.toInt32)]) :: F = D')) := by
  refine Con.of (ls := #[rv p1, iv 0, iv 2, uu, uu, uu]) (by decide +kernel) rfl ?_
  show W Z EL _ "java/lang/StringUTF16" "compress" _ _ _ _ _ _ _ _ _ _
  refine W.iloadN (pc := 0) d4_0 rfl ?_
  refine W.newarr (pc := 1) 2 (ad := "[B") (ty := .byte) d4_1 rfl (w20 hw) ix2 rfl (by decide) (by decide) (fun a1 => ?_)
  show W _ _ _ _ _ _ _ _ _ _ _ _ 3 _ [(vr a1)]
  refine W.astoreN (pc := 3) (ls' := #[rv p1, iv 0, iv 2, rv a1, uu, uu]) d4_3 rfl rfl ?_
  refine W.aloadN (pc := 4) d4_4 rfl rfl ?_
  refine W.iloadN (pc := 5) d4_5 rfl ?_
  refine W.aloadN (pc := 6) d4_6 rfl rfl ?_
  refine W.iconst (pc := 7) (0) d4_7 (by decide) ?_
  refine W.iloadN (pc := 8) d4_8 rfl ?_
  refine W.callS (pc := 9) (as := [(vr p1), (vi 0), (vr a1), (vi 0), (vi 2)]) 0 [] d4_9 (w21 hw) (w22 hw) (w18 hw) (w23 hw) (c4_compress hw hs (p1 := p1) (p2 := a1) (x1 := x1) (hx1 := hx1) (x2 := x2) (hx2 := hx2) (mp1 := mp1)) (by decide) pd__CI_BII_I rfl rfl rfl rfl (by decide) (fun v D' h => ?_)
  obtain ⟨rfl, rfl⟩ := h
  show W _ _ _ _ _ _ _ _ _ _ _ _ 12 _ [(vi 2)]
  refine W.istore (pc := 12) (ls' := #[rv p1, iv 0, iv 2, rv a1, iv 2, uu]) d4_12 rfl ?_
  refine W.iload (pc := 14) d4_14 rfl ?_
  refine W.iloadN (pc := 16) d4_16 rfl ?_
  refine W.icmpY (pc := 17) 57 d4_17 (y_eq (by decide)) (by decide) ?_
  refine W.aloadN (pc := 57) d4_57 rfl rfl ?_
  exact W.areturn (pc := 58) d4_58 rfl rfl rfl (by decide) ⟨a1, rfl, rfl⟩
theorem pd__CII__B : parseMethodDescriptor "([CII)[B" = some ⟨[(.array .char), .int, .int], some (.array .byte)⟩ := by decide +kernel
theorem w16 {Z a0} (hw : HW a0 Z) : ((Jvm.Cond.methodLink "java/lang/String" (177 : Nat) ({ cls := "java/lang/StringUTF16", name := "compress", desc := "([CII)[B" } : Jvm.MethodName)) : Jvm.Cond).before a0 Z = true := hw _ (List.mem_of_getElem? (i := 16) rfl)
theorem w17 {Z a0} (hw : HW a0 Z) : ((Jvm.Cond.static ({ cls := "java/lang/StringUTF16", name := "compress", desc := "([CII)[B" } : Jvm.MethodName)) : Jvm.Cond).before a0 Z = true := hw _ (List.mem_of_getElem? (i := 17) rfl)
theorem w19 {Z a0} (hw : HW a0 Z) : ((Jvm.Cond.code ({ cls := "java/lang/StringUTF16", name := "compress", desc := "([CII)[B" } : Jvm.MethodName) jdk_52_method_16_code (6 : Nat) (Option.some (Jvm.ClassFile.FieldType.array Jvm.ClassFile.FieldType.byte))) : Jvm.Cond).before a0 Z = true := hw _ (List.mem_of_getElem? (i := 19) rfl)
theorem d2_39 : decode jdk_42_method_149_code 39 = .ok (.astore 5, 2) := by decide +kernel
theorem d2_41 : decode jdk_42_method_149_code 41 = .ok (.aload_n 0, 1) := by decide +kernel
theorem d2_42 : decode jdk_42_method_149_code 42 = .ok (.aload 5, 2) := by decide +kernel
theorem d2_44 : decode jdk_42_method_149_code 44 = .ok (.iload_n 3, 1) := by decide +kernel
theorem d2_45 : decode jdk_42_method_149_code 45 = .ok (.invokestatic 47, 3) := by decide +kernel
theorem d6_0 : decode jdk_52_method_15_code 0 = .ok (.iload_n 1, 1) := by decide +kernel
theorem d6_1 : decode jdk_52_method_15_code 1 = .ok (.aload_n 0, 1) := by decide +kernel
theorem d6_2 : decode jdk_52_method_15_code 2 = .ok (.arraylength, 1) := by decide +kernel
theorem d6_3 : decode jdk_52_method_15_code 3 = .ok (.isub, 1) := by decide +kernel
theorem d6_4 : decode jdk_52_method_15_code 4 = .ok (.bipush 31, 2) := by decide +kernel
theorem d6_6 : decode jdk_52_method_15_code 6 = .ok (.iushr, 1) := by decide +kernel
theorem d6_7 : decode jdk_52_method_15_code 7 = .ok (.i2b, 1) := by decide +kernel
theorem d6_8 : decode jdk_52_method_15_code 8 = .ok (.ireturn, 1) := by decide +kernel
theorem c5_coderFromArrayLen {Z a0} (hw : HW a0 Z) (hs : SF Z) {p1 : Addr} {x1 : Int32} (hx1 : -128 ≤ x1.toInt ∧ x1.toInt ≤ 127) {x2 : Int32} (hx2 : -128 ≤ x2.toInt ∧ x2.toInt ≤ 127) {w_p1 : Bool} {ad_p1 : String} {F : List Ent} (mp1 : (p1, w_p1, ar ad_p1 .byte [(vi x1), (vi x2)]) ∈ F) : Con Z EL (⟨"java/lang/StringUTF16", "coderFromArrayLen", "([BI)B"⟩ : MethodName) jdk_52_method_15_code 2 (Option.some Jvm.ClassFile.FieldType.byte) (rmm 0 0 0 0) [(vr p1), (vi 2)] (F) (fun v D' => (v = some (vi 0) ∧ F = D')) := by
  refine Con.of (ls := #[rv p1, iv 2]) (by decide +kernel) rfl ?_
  show W Z EL _ "java/lang/StringUTF16" "coderFromArrayLen" _ _ _ _ _ _ _ _ _ _
  refine W.iloadN (pc := 0) d6_0 rfl ?_
  refine W.aloadN (pc := 1) d6_1 rfl rfl ?_
  refine W.alen (pc := 2) (2) d6_2 mp1 rfl ?_
  refine W.isubK (pc := 3) (0 : Int32) d6_3 (by decide) ?_
  refine W.bipush (pc := 4) (31) d6_4 (by decide) ?_
  refine W.iushrK (pc := 6) (0 : Int32) d6_6 (by decide) ?_
  refine W.i2bK (pc := 7) (0 : Int32) d6_7 (by decide) ?_
  exact W.ireturn (pc := 8) d6_8 rfl (Or.inr (Or.inr (Or.inl rfl))) (nw_byte (by decide)) (by decide) ⟨rfl, rfl⟩
theorem pd__BI_B : parseMethodDescriptor "([BI)B" = some ⟨[(.array .byte), .int], some .byte⟩ := by decide +kernel
theorem w24 {Z a0} (hw : HW a0 Z) : ((Jvm.Cond.methodLink "java/lang/String" (47 : Nat) ({ cls := "java/lang/StringUTF16", name := "coderFromArrayLen", desc := "([BI)B" } : Jvm.MethodName)) : Jvm.Cond).before a0 Z = true := hw _ (List.mem_of_getElem? (i := 24) rfl)
theorem w25 {Z a0} (hw : HW a0 Z) : ((Jvm.Cond.static ({ cls := "java/lang/StringUTF16", name := "coderFromArrayLen", desc := "([BI)B" } : Jvm.MethodName)) : Jvm.Cond).before a0 Z = true := hw _ (List.mem_of_getElem? (i := 25) rfl)
theorem w26 {Z a0} (hw : HW a0 Z) : ((Jvm.Cond.code ({ cls := "java/lang/StringUTF16", name := "coderFromArrayLen", desc := "([BI)B" } : Jvm.MethodName) jdk_52_method_15_code (2 : Nat) (Option.some Jvm.ClassFile.FieldType.byte)) : Jvm.Cond).before a0 Z = true := hw _ (List.mem_of_getElem? (i := 26) rfl)
theorem d2_48 : decode jdk_42_method_149_code 48 = .ok (.putfield 15, 3) := by decide +kernel
theorem pfB : parseFieldDescriptor "B" = some .byte := by decide
abbrev oString (f0 f1 : Value) : Desc := .inl ("java/lang/String", [("java/lang/String", "value", "[B", f0), ("java/lang/String", "coder", "B", f1)])
theorem w27 {Z a0} (hw : HW a0 Z) : ((Jvm.Cond.fieldLink "java/lang/String" (15 : Nat) "java/lang/String" "coder" "B") : Jvm.Cond).before a0 Z = true := hw _ (List.mem_of_getElem? (i := 27) rfl)
theorem d2_51 : decode jdk_42_method_149_code 51 = .ok (.aload_n 0, 1) := by decide +kernel
theorem d2_52 : decode jdk_42_method_149_code 52 = .ok (.aload 5, 2) := by decide +kernel
theorem d2_54 : decode jdk_42_method_149_code 54 = .ok (.putfield 9, 3) := by decide +kernel
theorem pf_B : parseFieldDescriptor "[B" = some (.array .byte) := by decide
theorem w29 {Z a0} (hw : HW a0 Z) : ((Jvm.Cond.fieldLink "java/lang/String" (9 : Nat) "java/lang/String" "value" "[B") : Jvm.Cond).before a0 Z = true := hw _ (List.mem_of_getElem? (i := 29) rfl)
theorem d2_57 : decode jdk_42_method_149_code 57 = .ok (.return_, 1) := by decide +kernel
theorem c2_init {Z a0} (hw : HW a0 Z) (hs : SF Z) {p1 p2 : Addr} {x1 : Int32} (hx1 : 0 ≤ x1.toInt ∧ x1.toInt ≤ 255) {x2 : Int32} (hx2 : 0 ≤ x2.toInt ∧ x2.toInt ≤ 255) {w_p2 : Bool} {ad_p2 : String} {F : List Ent} (mp2 : (p2, w_p2, ar ad_p2 .char [(vi x1), (vi x2)]) ∈ F) : Con Z EL (⟨"java/lang/String", "<init>", "([CIILjava/lang/Void;)V"⟩ : MethodName) jdk_42_method_149_code 6 (Option.none : Option Jvm.ClassFile.FieldType) (rmm 2 1 2 35) [(vr p1), (vr p2), (vi 0), (vi 2), .null] ((p1, true, oString .null (vi 0)) :: F) (fun v D' => (∃ a1 : Addr, v = none ∧ (a1, true, ar "[B" .byte [(vi x1.toInt8.toInt32), (vi x2.toInt8.toInt32)]) :: (p1, true, oString (vr a1) (vi 0)) :: F = D')) := by
  refine Con.of (ls := #[rv p1, rv p2, iv 0, iv 2, .val .null, uu]) (by decide +kernel) rfl ?_
  show W Z EL _ "java/lang/String" "<init>" _ _ _ _ _ _ _ _ _ _
  refine W.aloadN (pc := 0) d2_0 rfl rfl ?_
  refine W.initO (pc := 1) 0 d2_1 (w12 hw) (w13 hw) (w14 hw) rfl rfl (by decide) ?_
  refine W.iloadN (pc := 4) d2_4 rfl ?_
  refine W.ifY (pc := 5) 27 d2_5 (y_ne (by decide)) (by decide) ?_
  refine W.gets (pc := 27) d2_27 (w15 hw) Via.refl hs.1 ?_
  refine W.ifN (pc := 30) d2_30 (n_eq (by have := hs.2.1; have := q0; omega)) ?_
  refine W.aloadN (pc := 33) d2_33 rfl rfl ?_
  refine W.iloadN (pc := 34) d2_34 rfl ?_
  refine W.iloadN (pc := 35) d2_35 rfl ?_
  refine W.callS (pc := 36) (as := [(vr p2), (vi 0), (vi 2)]) 0 [] d2_36 (w16 hw) (w17 hw) (w18 hw) (w19 hw) (c3_compress hw hs (p1 := p2) (x1 := x1) (hx1 := hx1) (x2 := x2) (hx2 := hx2) (mp1 := (mS mp2))) (by decide) pd__CII__B rfl rfl rfl rfl (by decide) (fun v D' h => ?_)
  obtain ⟨a1, rfl, rfl⟩ := h
  show W _ _ _ _ _ _ _ _ _ _ _ _ 39 _ [(vr a1)]
  refine W.astore (pc := 39) (ls' := #[rv p1, rv p2, iv 0, iv 2, .val .null, rv a1]) d2_39 rfl rfl ?_
  refine W.aloadN (pc := 41) d2_41 rfl rfl ?_
  refine W.aload (pc := 42) 5 d2_42 rfl rfl ?_
  refine W.iloadN (pc := 44) d2_44 rfl ?_
  refine W.callS (pc := 45) (as := [(vr a1), (vi 2)]) 1 [(vr p1)] d2_45 (w24 hw) (w25 hw) (w18 hw) (w26 hw) (c5_coderFromArrayLen hw hs (p1 := a1) (x1 := x1.toInt8.toInt32) (hx1 := (by have := a_i2b x1; omega)) (x2 := x2.toInt8.toInt32) (hx2 := (by have := a_i2b x2; omega)) (mp1 := m0)) (by decide) pd__BI_B rfl rfl rfl rfl (by decide) (fun v D' h => ?_)
  obtain ⟨rfl, rfl⟩ := h
  show W _ _ _ _ _ _ _ _ _ _ _ _ 48 _ [(vi 0), (vr p1)]
  refine W.putf (pc := 48) (D' := (a1, true, ar "[B" .byte [(vi x1.toInt8.toInt32), (vi x2.toInt8.toInt32)]) :: (p1, true, oString .null (vi 0)) :: F) 1 1 d2_48 (w27 hw) Via.refl rfl rfl (Or.inr ⟨(w28 hw), rfl, rfl⟩) (w3 hw) pfB (nw_byte (by decide)) (ft_byte (by decide)) rfl ?_
  refine W.aloadN (pc := 51) d2_51 rfl rfl ?_
  refine W.aload (pc := 52) 5 d2_52 rfl rfl ?_
  refine W.putf (pc := 54) (D' := (a1, true, ar "[B" .byte [(vi x1.toInt8.toInt32), (vi x2.toInt8.toInt32)]) :: (p1, true, oString (vr a1) (vi 0)) :: F) 1 0 d2_54 (w29 hw) Via.refl rfl rfl (Or.inr ⟨(w30 hw), rfl, rfl⟩) (w3 hw) pf_B rfl rfl rfl ?_
  exact W.return_ (pc := 57) d2_57 rfl (by decide) ⟨a1, rfl, rfl⟩
theorem pd__CIILjava_lang_Void__V : parseMethodDescriptor "([CIILjava/lang/Void;)V" = some ⟨[(.array .char), .int, .int, (.object "java/lang/Void")], none⟩ := by decide +kernel
theorem w8 {Z a0} (hw : HW a0 Z) : ((Jvm.Cond.methodLink "java/lang/String" (27 : Nat) ({ cls := "java/lang/String", name := "<init>", desc := "([CIILjava/lang/Void;)V" } : Jvm.MethodName)) : Jvm.Cond).before a0 Z = true := hw _ (List.mem_of_getElem? (i := 8) rfl)
theorem w9 {Z a0} (hw : HW a0 Z) : ((Jvm.Cond.instanceMethod ({ cls := "java/lang/String", name := "<init>", desc := "([CIILjava/lang/Void;)V" } : Jvm.MethodName)) : Jvm.Cond).before a0 Z = true := hw _ (List.mem_of_getElem? (i := 9) rfl)
theorem w11 {Z a0} (hw : HW a0 Z) : ((Jvm.Cond.code ({ cls := "java/lang/String", name := "<init>", desc := "([CIILjava/lang/Void;)V" } : Jvm.MethodName) jdk_42_method_149_code (6 : Nat) (Option.none : Option Jvm.ClassFile.FieldType)) : Jvm.Cond).before a0 Z = true := hw _ (List.mem_of_getElem? (i := 11) rfl)
theorem d1_9 : decode jdk_42_method_3_code 9 = .ok (.return_, 1) := by decide +kernel
theorem c1_init {Z a0} (hw : HW a0 Z) (hs : SF Z) {p1 p2 : Addr} {x1 : Int32} (hx1 : 0 ≤ x1.toInt ∧ x1.toInt ≤ 255) {x2 : Int32} (hx2 : 0 ≤ x2.toInt ∧ x2.toInt ≤ 255) {w_p2 : Bool} {ad_p2 : String} {F : List Ent} (mp2 : (p2, w_p2, ar ad_p2 .char [(vi x1), (vi x2)]) ∈ F) : Con Z EL (⟨"java/lang/String", "<init>", "([C)V"⟩ : MethodName) jdk_42_method_3_code 2 (Option.none : Option Jvm.ClassFile.FieldType) (rmm 3 1 2 52) [(vr p1), (vr p2)] ((p1, true, oString .null (vi 0)) :: F) (fun v D' => (∃ a1 : Addr, v = none ∧ (a1, true, ar "[B" .byte [(vi x1.toInt8.toInt32), (vi x2.toInt8.toInt32)]) :: (p1, true, oString (vr a1) (vi 0)) :: F = D')) := by
  refine Con.of (ls := #[rv p1, rv p2]) (by decide +kernel) rfl ?_
  show W Z EL _ "java/lang/String" "<init>" _ _ _ _ _ _ _ _ _ _
  refine W.aloadN (pc := 0) d1_0 rfl rfl ?_
  refine W.aloadN (pc := 1) d1_1 rfl rfl ?_
  refine W.iconst (pc := 2) (0) d1_2 (by decide) ?_
  refine W.aloadN (pc := 3) d1_3 rfl rfl ?_
  refine W.alen (pc := 4) (2) d1_4 (mS mp2) rfl ?_
  refine W.aconstNull (pc := 5) d1_5 ?_
  refine W.callI (pc := 6) (as := [(vr p2), (vi 0), (vi 2), .null]) 0 [] d1_6 rfl (w8 hw) (w9 hw) (w4 hw) (w11 hw) (c2_init hw hs (p1 := p1) (p2 := p2) (x1 := x1) (hx1 := hx1) (x2 := x2) (hx2 := hx2) (mp2 := mp2)) (by decide) pd__CIILjava_lang_Void__V rfl rfl rfl rfl (by decide) (fun v D' h => ?_)
  obtain ⟨a1, rfl, rfl⟩ := h
  show W _ _ _ _ _ _ _ _ _ _ _ _ 9 _ []
  exact W.return_ (pc := 9) d1_9 rfl (by decide) ⟨a1, rfl, rfl⟩
theorem pd__C_V : parseMethodDescriptor "([C)V" = some ⟨[(.array .char)], none⟩ := by decide +kernel
theorem w5 {Z a0} (hw : HW a0 Z) : ((Jvm.Cond.methodLink "com/example/kinpath/kinpath/PathElementIsCompletePinLaw" (13 : Nat) ({ cls := "java/lang/String", name := "<init>", desc := "([C)V" } : Jvm.MethodName)) : Jvm.Cond).before a0 Z = true := hw _ (List.mem_of_getElem? (i := 5) rfl)
theorem w6 {Z a0} (hw : HW a0 Z) : ((Jvm.Cond.instanceMethod ({ cls := "java/lang/String", name := "<init>", desc := "([C)V" } : Jvm.MethodName)) : Jvm.Cond).before a0 Z = true := hw _ (List.mem_of_getElem? (i := 6) rfl)
theorem w7 {Z a0} (hw : HW a0 Z) : ((Jvm.Cond.code ({ cls := "java/lang/String", name := "<init>", desc := "([C)V" } : Jvm.MethodName) jdk_42_method_3_code (2 : Nat) (Option.none : Option Jvm.ClassFile.FieldType)) : Jvm.Cond).before a0 Z = true := hw _ (List.mem_of_getElem? (i := 7) rfl)
theorem w96 {Z a0} (hw : HW a0 Z) : ((Jvm.Cond.laysFinal "com/example/kinpath/kinpath/PathElement" "com/example/kinpath/kinpath/PathElement" "kind" "Ljava/lang/String;") : Jvm.Cond).before a0 Z = true := hw _ (List.mem_of_getElem? (i := 96) rfl)
theorem w98 {Z a0} (hw : HW a0 Z) : ((Jvm.Cond.laysFinal "com/example/kinpath/kinpath/PathElement" "com/example/kinpath/kinpath/PathElement" "id" "J") : Jvm.Cond).before a0 Z = true := hw _ (List.mem_of_getElem? (i := 98) rfl)
theorem w100 {Z a0} (hw : HW a0 Z) : ((Jvm.Cond.laysFinal "com/example/kinpath/kinpath/PathElement" "com/example/kinpath/kinpath/PathElement" "name" "Ljava/lang/String;") : Jvm.Cond).before a0 Z = true := hw _ (List.mem_of_getElem? (i := 100) rfl)
theorem laPathElement {Z a0} (hw : HW a0 Z) : LaidAll Z a0 "com/example/kinpath/kinpath/PathElement" [("com/example/kinpath/kinpath/PathElement", "kind", "Ljava/lang/String;", .null), ("com/example/kinpath/kinpath/PathElement", "id", "J", (vj 0)), ("com/example/kinpath/kinpath/PathElement", "name", "Ljava/lang/String;", .null)] := ⟨⟨Or.inr (w96 hw), (.object "java/lang/String"), by decide, rfl⟩, ⟨⟨Or.inr (w98 hw), .long, by decide, rfl⟩, ⟨⟨Or.inr (w100 hw), (.object "java/lang/String"), by decide, rfl⟩, trivial⟩⟩⟩
theorem w31 {Z a0} (hw : HW a0 Z) : ((Jvm.Cond.classLink "com/example/kinpath/kinpath/PathElementIsCompletePinLaw" (16 : Nat) "com/example/kinpath/kinpath/PathElement") : Jvm.Cond).before a0 Z = true := hw _ (List.mem_of_getElem? (i := 31) rfl)
theorem w32 {Z a0} (hw : HW a0 Z) : ((Jvm.Cond.instantiable "com/example/kinpath/kinpath/PathElement" (3 : Nat)) : Jvm.Cond).before a0 Z = true := hw _ (List.mem_of_getElem? (i := 32) rfl)
theorem w33 {Z a0} (hw : HW a0 Z) : ((Jvm.Cond.initialized "com/example/kinpath/kinpath/PathElement") : Jvm.Cond).before a0 Z = true := hw _ (List.mem_of_getElem? (i := 33) rfl)
theorem d7_0 : decode prog_14_method_1_code 0 = .ok (.aload_n 0, 1) := by decide +kernel
theorem d7_1 : decode prog_14_method_1_code 1 = .ok (.invokespecial 1, 3) := by decide +kernel
theorem d8_0 : decode jdk_30_method_1_code 0 = .ok (.aload_n 0, 1) := by decide +kernel
theorem d8_1 : decode jdk_30_method_1_code 1 = .ok (.invokespecial 1, 3) := by decide +kernel
theorem w42 {Z a0} (hw : HW a0 Z) : ((Jvm.Cond.methodLink "java/lang/Record" (1 : Nat) ({ cls := "java/lang/Object", name := "<init>", desc := "()V" } : Jvm.MethodName)) : Jvm.Cond).before a0 Z = true := hw _ (List.mem_of_getElem? (i := 42) rfl)
theorem d8_4 : decode jdk_30_method_1_code 4 = .ok (.return_, 1) := by decide +kernel
abbrev oPathElement (f0 f1 f2 : Value) : Desc := .inl ("com/example/kinpath/kinpath/PathElement", [("com/example/kinpath/kinpath/PathElement", "kind", "Ljava/lang/String;", f0), ("com/example/kinpath/kinpath/PathElement", "id", "J", f1), ("com/example/kinpath/kinpath/PathElement", "name", "Ljava/lang/String;", f2)])
theorem c7_init {Z a0} (hw : HW a0 Z) (hs : SF Z) {p1 : Addr} {F : List Ent} : Con Z EL (⟨"java/lang/Record", "<init>", "()V"⟩ : MethodName) jdk_30_method_1_code 1 (Option.none : Option Jvm.ClassFile.FieldType) (rmm 1 0 0 12) [(vr p1)] (F) (fun v D' => (v = none ∧ F = D')) := by
  refine Con.of (ls := #[rv p1]) (by decide +kernel) rfl ?_
  show W Z EL _ "java/lang/Record" "<init>" _ _ _ _ _ _ _ _ _ _
  refine W.aloadN (pc := 0) d8_0 rfl rfl ?_
  refine W.initO (pc := 1) 0 d8_1 (w42 hw) (w13 hw) (w14 hw) rfl rfl (by decide) ?_
  exact W.return_ (pc := 4) d8_4 rfl (by decide) ⟨rfl, rfl⟩
theorem pd__V : parseMethodDescriptor "()V" = some ⟨[], none⟩ := by decide +kernel
theorem w37 {Z a0} (hw : HW a0 Z) : ((Jvm.Cond.methodLink "com/example/kinpath/kinpath/PathElement" (1 : Nat) ({ cls := "java/lang/Record", name := "<init>", desc := "()V" } : Jvm.MethodName)) : Jvm.Cond).before a0 Z = true := hw _ (List.mem_of_getElem? (i := 37) rfl)
theorem w38 {Z a0} (hw : HW a0 Z) : ((Jvm.Cond.instanceMethod ({ cls := "java/lang/Record", name := "<init>", desc := "()V" } : Jvm.MethodName)) : Jvm.Cond).before a0 Z = true := hw _ (List.mem_of_getElem? (i := 38) rfl)
theorem w40 {Z a0} (hw : HW a0 Z) : ((Jvm.Cond.initialized "java/lang/Record") : Jvm.Cond).before a0 Z = true := hw _ (List.mem_of_getElem? (i := 40) rfl)
theorem w41 {Z a0} (hw : HW a0 Z) : ((Jvm.Cond.code ({ cls := "java/lang/Record", name := "<init>", desc := "()V" } : Jvm.MethodName) jdk_30_method_1_code (1 : Nat) (Option.none : Option Jvm.ClassFile.FieldType)) : Jvm.Cond).before a0 Z = true := hw _ (List.mem_of_getElem? (i := 41) rfl)
theorem d7_4 : decode prog_14_method_1_code 4 = .ok (.aload_n 1, 1) := by decide +kernel
theorem d7_5 : decode prog_14_method_1_code 5 = .ok (.ldc 7, 2) := by decide +kernel
theorem w43 {Z a0} (hw : HW a0 Z) : ((Jvm.Cond.stringLink "com/example/kinpath/kinpath/PathElement" (7 : Nat) "a kind") : Jvm.Cond).before a0 Z = true := hw _ (List.mem_of_getElem? (i := 43) rfl)
theorem w44 {Z a0} (hw : HW a0 Z) : ((Jvm.Cond.soleField "java/lang/String" "value") : Jvm.Cond).before a0 Z = true := hw _ (List.mem_of_getElem? (i := 44) rfl)
theorem w45 {Z a0} (hw : HW a0 Z) : ((Jvm.Cond.soleField "java/lang/String" "coder") : Jvm.Cond).before a0 Z = true := hw _ (List.mem_of_getElem? (i := 45) rfl)
theorem wS {Z a0} (hw : HW a0 Z) : ∀ a ∈ Bundle.stringAtoms, a.before a0 Z = true := wS_of (w4 hw) (w3 hw) (w20 hw) (w30 hw) (w28 hw) (w44 hw) (w45 hw)
theorem d7_7 : decode prog_14_method_1_code 7 = .ok (.invokestatic 9, 3) := by decide +kernel
theorem d9_0 : decode prog_21_method_6_code 0 = .ok (.aload_n 0, 1) := by decide +kernel
theorem d9_1 : decode prog_21_method_6_code 1 = .ok (.aload_n 1, 1) := by decide +kernel
theorem d9_2 : decode prog_21_method_6_code 2 = .ok (.invokestatic 67, 3) := by decide +kernel
theorem d10_0 : decode prog_21_method_2_code 0 = .ok (.aload_n 0, 1) := by decide +kernel
theorem d10_1 : decode prog_21_method_2_code 1 = .ok (.ifnonnull 17, 3) := by decide +kernel
theorem d10_18 : decode prog_21_method_2_code 18 = .ok (.iconst 0, 1) := by decide +kernel
theorem d10_19 : decode prog_21_method_2_code 19 = .ok (.istore_n 2, 1) := by decide +kernel
theorem d10_20 : decode prog_21_method_2_code 20 = .ok (.iload_n 2, 1) := by decide +kernel
theorem d10_21 : decode prog_21_method_2_code 21 = .ok (.aload_n 0, 1) := by decide +kernel
theorem d10_22 : decode prog_21_method_2_code 22 = .ok (.invokevirtual 16, 3) := by decide +kernel
theorem d11_0 : decode jdk_42_method_54_code 0 = .ok (.aload_n 0, 1) := by decide +kernel
theorem d11_1 : decode jdk_42_method_54_code 1 = .ok (.getfield 9, 3) := by decide +kernel
theorem d11_4 : decode jdk_42_method_54_code 4 = .ok (.arraylength, 1) := by decide +kernel
theorem d11_5 : decode jdk_42_method_54_code 5 = .ok (.aload_n 0, 1) := by decide +kernel
theorem d11_6 : decode jdk_42_method_54_code 6 = .ok (.invokevirtual 335, 3) := by decide +kernel
theorem d12_0 : decode jdk_42_method_152_code 0 = .ok (.getstatic 38, 3) := by decide +kernel
theorem d12_3 : decode jdk_42_method_152_code 3 = .ok (.ifCond .eq 10, 3) := by decide +kernel
theorem d12_6 : decode jdk_42_method_152_code 6 = .ok (.aload_n 0, 1) := by decide +kernel
theorem d12_7 : decode jdk_42_method_152_code 7 = .ok (.getfield 15, 3) := by decide +kernel
theorem d12_10 : decode jdk_42_method_152_code 10 = .ok (.goto 4, 3) := by decide +kernel
theorem d12_14 : decode jdk_42_method_152_code 14 = .ok (.ireturn, 1) := by decide +kernel
theorem c11_coder {Z a0} (hw : HW a0 Z) (hs : SF Z) {p1 p2 : Addr} {x1 : Int32} (hx1 : -128 ≤ x1.toInt ∧ x1.toInt ≤ 127) {x2 : Int32} (hx2 : -128 ≤ x2.toInt ∧ x2.toInt ≤ 127) {w_p1 : Bool} {F : List Ent} (mp1 : (p1, w_p1, oString (vr p2) (vi 0)) ∈ F) : Con Z EL (⟨"java/lang/String", "coder", "()B"⟩ : MethodName) jdk_42_method_152_code 1 (Option.some Jvm.ClassFile.FieldType.byte) (rmm 0 0 0 0) [(vr p1)] (F) (fun v D' => (v = some (vi 0) ∧ F = D')) := by
  refine Con.of (ls := #[rv p1]) (by decide +kernel) rfl ?_
  show W Z EL _ "java/lang/String" "coder" _ _ _ _ _ _ _ _ _ _
  refine W.gets (pc := 0) d12_0 (w15 hw) Via.refl hs.1 ?_
  refine W.ifN (pc := 3) d12_3 (n_eq (by have := hs.2.1; have := q0; omega)) ?_
  refine W.aloadN (pc := 6) d12_6 rfl rfl ?_
  refine W.getf (pc := 7) d12_7 (w27 hw) Via.refl mp1 m1 ?_
  refine W.goto (pc := 10) 14 d12_10 (by decide) ?_
  exact W.ireturn (pc := 14) d12_14 rfl (Or.inr (Or.inr (Or.inl rfl))) (nw_byte (by decide)) (by decide) ⟨rfl, rfl⟩
theorem pd__B : parseMethodDescriptor "()B" = some ⟨[], some .byte⟩ := by decide +kernel
theorem w58 {Z a0} (hw : HW a0 Z) : ((Jvm.Cond.methodLink "java/lang/String" (335 : Nat) ({ cls := "java/lang/String", name := "coder", desc := "()B" } : Jvm.MethodName)) : Jvm.Cond).before a0 Z = true := hw _ (List.mem_of_getElem? (i := 58) rfl)
theorem w59 {Z a0} (hw : HW a0 Z) : ((Jvm.Cond.declares ({ cls := "java/lang/String", name := "coder", desc := "()B" } : Jvm.MethodName)) : Jvm.Cond).before a0 Z = true := hw _ (List.mem_of_getElem? (i := 59) rfl)
theorem w61 {Z a0} (hw : HW a0 Z) : ((Jvm.Cond.selects "java/lang/String" ({ cls := "java/lang/String", name := "coder", desc := "()B" } : Jvm.MethodName) ({ cls := "java/lang/String", name := "coder", desc := "()B" } : Jvm.MethodName)) : Jvm.Cond).before a0 Z = true := hw _ (List.mem_of_getElem? (i := 61) rfl)
theorem w60 {Z a0} (hw : HW a0 Z) : ((Jvm.Cond.instanceMethod ({ cls := "java/lang/String", name := "coder", desc := "()B" } : Jvm.MethodName)) : Jvm.Cond).before a0 Z = true := hw _ (List.mem_of_getElem? (i := 60) rfl)
theorem w62 {Z a0} (hw : HW a0 Z) : ((Jvm.Cond.code ({ cls := "java/lang/String", name := "coder", desc := "()B" } : Jvm.MethodName) jdk_42_method_152_code (1 : Nat) (Option.some Jvm.ClassFile.FieldType.byte)) : Jvm.Cond).before a0 Z = true := hw _ (List.mem_of_getElem? (i := 62) rfl)
theorem d11_9 : decode jdk_42_method_54_code 9 = .ok (.ishr, 1) := by decide +kernel
theorem d11_10 : decode jdk_42_method_54_code 10 = .ok (.ireturn, 1) := by decide +kernel
theorem c10_length {Z a0} (hw : HW a0 Z) (hs : SF Z) {p1 p2 : Addr} {x1 : Int32} (hx1 : -128 ≤ x1.toInt ∧ x1.toInt ≤ 127) {x2 : Int32} (hx2 : -128 ≤ x2.toInt ∧ x2.toInt ≤ 127) {w_p1 : Bool} {w_p2 : Bool} {ad_p2 : String} {F : List Ent} (mp1 : (p1, w_p1, oString (vr p2) (vi 0)) ∈ F) (mp2 : (p2, w_p2, ar ad_p2 .byte [(vi x1), (vi x2)]) ∈ F) : Con Z EL (⟨"java/lang/String", "length", "()I"⟩ : MethodName) jdk_42_method_54_code 1 (Option.some Jvm.ClassFile.FieldType.int) (rmm 1 0 0 13) [(vr p1)] (F) (fun v D' => (v = some (vi 2) ∧ F = D')) := by
  refine Con.of (ls := #[rv p1]) (by decide +kernel) rfl ?_
  show W Z EL _ "java/lang/String" "length" _ _ _ _ _ _ _ _ _ _
  refine W.aloadN (pc := 0) d11_0 rfl rfl ?_
  refine W.getf (pc := 1) d11_1 (w29 hw) Via.refl mp1 m0 ?_
  refine W.alen (pc := 4) (2) d11_4 mp2 rfl ?_
  refine W.aloadN (pc := 5) d11_5 rfl rfl ?_
  refine W.callV (pc := 6) (as := []) 1 [(vi 2)] d11_6 (w58 hw) (w59 hw) (w61 hw) (w61 hw) (w60 hw) (w4 hw) (w62 hw) (Hp.exa mp1) (c11_coder hw hs (p1 := p1) (p2 := p2) (x1 := x1) (hx1 := hx1) (x2 := x2) (hx2 := hx2) (mp1 := mp1)) (by decide) pd__B rfl rfl rfl rfl (by decide) (fun v D' h => ?_)
  obtain ⟨rfl, rfl⟩ := h
  show W _ _ _ _ _ _ _ _ _ _ _ _ 9 _ [(vi 0), (vi 2)]
  refine W.ishrK (pc := 9) (2 : Int32) d11_9 (by decide) ?_
  exact W.ireturn (pc := 10) d11_10 rfl (Or.inl rfl) rfl (by decide) ⟨rfl, rfl⟩
theorem pd__I : parseMethodDescriptor "()I" = some ⟨[], some .int⟩ := by decide +kernel
theorem w53 {Z a0} (hw : HW a0 Z) : ((Jvm.Cond.methodLink "com/example/kinpath/kinpath/Text" (16 : Nat) ({ cls := "java/lang/String", name := "length", desc := "()I" } : Jvm.MethodName)) : Jvm.Cond).before a0 Z = true := hw _ (List.mem_of_getElem? (i := 53) rfl)
theorem w54 {Z a0} (hw : HW a0 Z) : ((Jvm.Cond.declares ({ cls := "java/lang/String", name := "length", desc := "()I" } : Jvm.MethodName)) : Jvm.Cond).before a0 Z = true := hw _ (List.mem_of_getElem? (i := 54) rfl)
theorem w56 {Z a0} (hw : HW a0 Z) : ((Jvm.Cond.selects "java/lang/String" ({ cls := "java/lang/String", name := "length", desc := "()I" } : Jvm.MethodName) ({ cls := "java/lang/String", name := "length", desc := "()I" } : Jvm.MethodName)) : Jvm.Cond).before a0 Z = true := hw _ (List.mem_of_getElem? (i := 56) rfl)
theorem w55 {Z a0} (hw : HW a0 Z) : ((Jvm.Cond.instanceMethod ({ cls := "java/lang/String", name := "length", desc := "()I" } : Jvm.MethodName)) : Jvm.Cond).before a0 Z = true := hw _ (List.mem_of_getElem? (i := 55) rfl)
theorem w57 {Z a0} (hw : HW a0 Z) : ((Jvm.Cond.code ({ cls := "java/lang/String", name := "length", desc := "()I" } : Jvm.MethodName) jdk_42_method_54_code (1 : Nat) (Option.some Jvm.ClassFile.FieldType.int)) : Jvm.Cond).before a0 Z = true := hw _ (List.mem_of_getElem? (i := 57) rfl)
theorem d10_25 : decode prog_21_method_2_code 25 = .ok (.if_icmp .ge 83, 3) := by decide +kernel
theorem d10_28 : decode prog_21_method_2_code 28 = .ok (.aload_n 0, 1) := by decide +kernel
theorem d10_29 : decode prog_21_method_2_code 29 = .ok (.iload_n 2, 1) := by decide +kernel
theorem d10_30 : decode prog_21_method_2_code 30 = .ok (.invokevirtual 22, 3) := by decide +kernel
theorem d13_0 : decode jdk_42_method_56_code 0 = .ok (.aload_n 0, 1) := by decide +kernel
theorem d13_1 : decode jdk_42_method_56_code 1 = .ok (.invokevirtual 492, 3) := by decide +kernel
theorem d14_0 : decode jdk_42_method_154_code 0 = .ok (.getstatic 38, 3) := by decide +kernel
theorem d14_3 : decode jdk_42_method_154_code 3 = .ok (.ifCond .eq 14, 3) := by decide +kernel
theorem d14_6 : decode jdk_42_method_154_code 6 = .ok (.aload_n 0, 1) := by decide +kernel
theorem d14_7 : decode jdk_42_method_154_code 7 = .ok (.getfield 15, 3) := by decide +kernel
theorem d14_10 : decode jdk_42_method_154_code 10 = .ok (.ifCond .ne 7, 3) := by decide +kernel
theorem d14_13 : decode jdk_42_method_154_code 13 = .ok (.iconst 1, 1) := by decide +kernel
theorem d14_14 : decode jdk_42_method_154_code 14 = .ok (.goto 4, 3) := by decide +kernel
theorem d14_18 : decode jdk_42_method_154_code 18 = .ok (.ireturn, 1) := by decide +kernel
theorem c13_isLatin1 {Z a0} (hw : HW a0 Z) (hs : SF Z) {p1 p2 : Addr} {x1 : Int32} (hx1 : -128 ≤ x1.toInt ∧ x1.toInt ≤ 127) {x2 : Int32} (hx2 : -128 ≤ x2.toInt ∧ x2.toInt ≤ 127) {w_p1 : Bool} {F : List Ent} (mp1 : (p1, w_p1, oString (vr p2) (vi 0)) ∈ F) : Con Z EL (⟨"java/lang/String", "isLatin1", "()Z"⟩ : MethodName) jdk_42_method_154_code 1 (Option.some Jvm.ClassFile.FieldType.boolean) (rmm 0 0 0 0) [(vr p1)] (F) (fun v D' => (v = some (vi 1) ∧ F = D')) := by
  refine Con.of (ls := #[rv p1]) (by decide +kernel) rfl ?_
  show W Z EL _ "java/lang/String" "isLatin1" _ _ _ _ _ _ _ _ _ _
  refine W.gets (pc := 0) d14_0 (w15 hw) Via.refl hs.1 ?_
  refine W.ifN (pc := 3) d14_3 (n_eq (by have := hs.2.1; have := q0; omega)) ?_
  refine W.aloadN (pc := 6) d14_6 rfl rfl ?_
  refine W.getf (pc := 7) d14_7 (w27 hw) Via.refl mp1 m1 ?_
  refine W.ifN (pc := 10) d14_10 (n_ne (by decide)) ?_
  refine W.iconst (pc := 13) (1) d14_13 (by decide) ?_
  refine W.goto (pc := 14) 18 d14_14 (by decide) ?_
  exact W.ireturn (pc := 18) d14_18 rfl (Or.inr (Or.inl rfl)) (nw_bool (by decide)) (by decide) ⟨rfl, rfl⟩
theorem pd__Z : parseMethodDescriptor "()Z" = some ⟨[], some .boolean⟩ := by decide +kernel
theorem w68 {Z a0} (hw : HW a0 Z) : ((Jvm.Cond.methodLink "java/lang/String" (492 : Nat) ({ cls := "java/lang/String", name := "isLatin1", desc := "()Z" } : Jvm.MethodName)) : Jvm.Cond).before a0 Z = true := hw _ (List.mem_of_getElem? (i := 68) rfl)
theorem w69 {Z a0} (hw : HW a0 Z) : ((Jvm.Cond.declares ({ cls := "java/lang/String", name := "isLatin1", desc := "()Z" } : Jvm.MethodName)) : Jvm.Cond).before a0 Z = true := hw _ (List.mem_of_getElem? (i := 69) rfl)
theorem w71 {Z a0} (hw : HW a0 Z) : ((Jvm.Cond.selects "java/lang/String" ({ cls := "java/lang/String", name := "isLatin1", desc := "()Z" } : Jvm.MethodName) ({ cls := "java/lang/String", name := "isLatin1", desc := "()Z" } : Jvm.MethodName)) : Jvm.Cond).before a0 Z = true := hw _ (List.mem_of_getElem? (i := 71) rfl)
theorem w70 {Z a0} (hw : HW a0 Z) : ((Jvm.Cond.instanceMethod ({ cls := "java/lang/String", name := "isLatin1", desc := "()Z" } : Jvm.MethodName)) : Jvm.Cond).before a0 Z = true := hw _ (List.mem_of_getElem? (i := 70) rfl)
theorem w72 {Z a0} (hw : HW a0 Z) : ((Jvm.Cond.code ({ cls := "java/lang/String", name := "isLatin1", desc := "()Z" } : Jvm.MethodName) jdk_42_method_154_code (1 : Nat) (Option.some Jvm.ClassFile.FieldType.boolean)) : Jvm.Cond).before a0 Z = true := hw _ (List.mem_of_getElem? (i := 72) rfl)
theorem d13_4 : decode jdk_42_method_56_code 4 = .ok (.ifCond .eq 12, 3) := by decide +kernel
theorem d13_7 : decode jdk_42_method_56_code 7 = .ok (.aload_n 0, 1) := by decide +kernel
theorem d13_8 : decode jdk_42_method_56_code 8 = .ok (.getfield 9, 3) := by decide +kernel
theorem d13_11 : decode jdk_42_method_56_code 11 = .ok (.iload_n 1, 1) := by decide +kernel
theorem d13_12 : decode jdk_42_method_56_code 12 = .ok (.invokestatic 495, 3) := by decide +kernel
theorem d15_0 : decode jdk_43_method_2_code 0 = .ok (.iload_n 1, 1) := by decide +kernel
theorem d15_1 : decode jdk_43_method_2_code 1 = .ok (.aload_n 0, 1) := by decide +kernel
theorem d15_2 : decode jdk_43_method_2_code 2 = .ok (.arraylength, 1) := by decide +kernel
theorem d15_3 : decode jdk_43_method_2_code 3 = .ok (.invokestatic 9, 3) := by decide +kernel
theorem d16_0 : decode jdk_42_method_155_code 0 = .ok (.iload_n 0, 1) := by decide +kernel
theorem d16_1 : decode jdk_42_method_155_code 1 = .ok (.iload_n 1, 1) := by decide +kernel
theorem d16_2 : decode jdk_42_method_155_code 2 = .ok (.getstatic 1053, 3) := by decide +kernel
theorem w80 {Z a0} (hw : HW a0 Z) : ((Jvm.Cond.fieldLink "java/lang/String" (1053 : Nat) "jdk/internal/util/Preconditions" "SIOOBE_FORMATTER" "Ljava/util/function/BiFunction;") : Jvm.Cond).before a0 Z = true := hw _ (List.mem_of_getElem? (i := 80) rfl)
theorem d16_5 : decode jdk_42_method_155_code 5 = .ok (.invokestatic 1059, 3) := by decide +kernel
theorem d17_0 : decode jdk_41_method_11_code 0 = .ok (.iload_n 0, 1) := by decide +kernel
theorem d17_1 : decode jdk_41_method_11_code 1 = .ok (.ifCond .lt 8, 3) := by decide +kernel
theorem d17_4 : decode jdk_41_method_11_code 4 = .ok (.iload_n 0, 1) := by decide +kernel
theorem d17_5 : decode jdk_41_method_11_code 5 = .ok (.iload_n 1, 1) := by decide +kernel
theorem d17_6 : decode jdk_41_method_11_code 6 = .ok (.if_icmp .lt 10, 3) := by decide +kernel
theorem d17_16 : decode jdk_41_method_11_code 16 = .ok (.iload_n 0, 1) := by decide +kernel
theorem d17_17 : decode jdk_41_method_11_code 17 = .ok (.ireturn, 1) := by decide +kernel
theorem c16_checkIndex {Z a0} (hw : HW a0 Z) (hs : SF Z) {F : List Ent} : Con Z EL (⟨"jdk/internal/util/Preconditions", "checkIndex", "(IILjava/util/function/BiFunction;)I"⟩ : MethodName) jdk_41_method_11_code 3 (Option.some Jvm.ClassFile.FieldType.int) (rmm 0 0 0 0) [(vi 0), (vi 2), (sfv Z)] (F) (fun v D' => (v = some (vi 0) ∧ F = D')) := by
  refine Con.of (ls := #[iv 0, iv 2, .val (sfv Z)]) (by decide +kernel) (hent_of (ld1 rfl (ld1 rfl (ld1 (XT.cat1 hs.2.2.1) ld0))) rfl) ?_
  show W Z EL _ "jdk/internal/util/Preconditions" "checkIndex" _ _ _ _ _ _ _ _ _ _
  refine W.iloadN (pc := 0) d17_0 rfl ?_
  refine W.ifN (pc := 1) d17_1 (n_lt (by decide)) ?_
  refine W.iloadN (pc := 4) d17_4 rfl ?_
  refine W.iloadN (pc := 5) d17_5 rfl ?_
  refine W.icmpY (pc := 6) 16 d17_6 (y_lt (by decide)) (by decide) ?_
  refine W.iloadN (pc := 16) d17_16 rfl ?_
  exact W.ireturn (pc := 17) d17_17 rfl (Or.inl rfl) rfl (by decide) ⟨rfl, rfl⟩
theorem pd_IILjava_util_function_BiFunction__I : parseMethodDescriptor "(IILjava/util/function/BiFunction;)I" = some ⟨[.int, .int, (.object "java/util/function/BiFunction")], some .int⟩ := by decide +kernel
theorem w82 {Z a0} (hw : HW a0 Z) : ((Jvm.Cond.methodLink "java/lang/String" (1059 : Nat) ({ cls := "jdk/internal/util/Preconditions", name := "checkIndex", desc := "(IILjava/util/function/BiFunction;)I" } : Jvm.MethodName)) : Jvm.Cond).before a0 Z = true := hw _ (List.mem_of_getElem? (i := 82) rfl)
theorem w83 {Z a0} (hw : HW a0 Z) : ((Jvm.Cond.static ({ cls := "jdk/internal/util/Preconditions", name := "checkIndex", desc := "(IILjava/util/function/BiFunction;)I" } : Jvm.MethodName)) : Jvm.Cond).before a0 Z = true := hw _ (List.mem_of_getElem? (i := 83) rfl)
theorem w81 {Z a0} (hw : HW a0 Z) : ((Jvm.Cond.initialized "jdk/internal/util/Preconditions") : Jvm.Cond).before a0 Z = true := hw _ (List.mem_of_getElem? (i := 81) rfl)
theorem w84 {Z a0} (hw : HW a0 Z) : ((Jvm.Cond.code ({ cls := "jdk/internal/util/Preconditions", name := "checkIndex", desc := "(IILjava/util/function/BiFunction;)I" } : Jvm.MethodName) jdk_41_method_11_code (3 : Nat) (Option.some Jvm.ClassFile.FieldType.int)) : Jvm.Cond).before a0 Z = true := hw _ (List.mem_of_getElem? (i := 84) rfl)
theorem d16_8 : decode jdk_42_method_155_code 8 = .ok (.pop, 1) := by decide +kernel
theorem d16_9 : decode jdk_42_method_155_code 9 = .ok (.return_, 1) := by decide +kernel
theorem c15_checkIndex {Z a0} (hw : HW a0 Z) (hs : SF Z) {F : List Ent} : Con Z EL (⟨"java/lang/String", "checkIndex", "(II)V"⟩ : MethodName) jdk_42_method_155_code 2 (Option.none : Option Jvm.ClassFile.FieldType) (rmm 1 0 0 14) [(vi 0), (vi 2)] (F) (fun v D' => (v = none ∧ F = D')) := by
  refine Con.of (ls := #[iv 0, iv 2]) (by decide +kernel) rfl ?_
  show W Z EL _ "java/lang/String" "checkIndex" _ _ _ _ _ _ _ _ _ _
  refine W.iloadN (pc := 0) d16_0 rfl ?_
  refine W.iloadN (pc := 1) d16_1 rfl ?_
  refine W.gets (pc := 2) d16_2 (w80 hw) Via.refl hs.2.2.2.1 ?_
  refine W.callS (pc := 5) (as := [(vi 0), (vi 2), (sfv Z)]) 0 [] d16_5 (w82 hw) (w83 hw) (w81 hw) (w84 hw) (c16_checkIndex hw hs) (by decide) pd_IILjava_util_function_BiFunction__I rfl rfl rfl rfl (by decide) (fun v D' h => ?_)
  obtain ⟨rfl, rfl⟩ := h
  show W _ _ _ _ _ _ _ _ _ _ _ _ 8 _ [(vi 0)]
  refine W.popv (pc := 8) d16_8 rfl ?_
  exact W.return_ (pc := 9) d16_9 rfl (by decide) ⟨rfl, rfl⟩
theorem pd_II_V : parseMethodDescriptor "(II)V" = some ⟨[.int, .int], none⟩ := by decide +kernel
theorem w77 {Z a0} (hw : HW a0 Z) : ((Jvm.Cond.methodLink "java/lang/StringLatin1" (9 : Nat) ({ cls := "java/lang/String", name := "checkIndex", desc := "(II)V" } : Jvm.MethodName)) : Jvm.Cond).before a0 Z = true := hw _ (List.mem_of_getElem? (i := 77) rfl)
theorem w78 {Z a0} (hw : HW a0 Z) : ((Jvm.Cond.static ({ cls := "java/lang/String", name := "checkIndex", desc := "(II)V" } : Jvm.MethodName)) : Jvm.Cond).before a0 Z = true := hw _ (List.mem_of_getElem? (i := 78) rfl)
theorem w79 {Z a0} (hw : HW a0 Z) : ((Jvm.Cond.code ({ cls := "java/lang/String", name := "checkIndex", desc := "(II)V" } : Jvm.MethodName) jdk_42_method_155_code (2 : Nat) (Option.none : Option Jvm.ClassFile.FieldType)) : Jvm.Cond).before a0 Z = true := hw _ (List.mem_of_getElem? (i := 79) rfl)
theorem d15_6 : decode jdk_43_method_2_code 6 = .ok (.aload_n 0, 1) := by decide +kernel
theorem d15_7 : decode jdk_43_method_2_code 7 = .ok (.iload_n 1, 1) := by decide +kernel
theorem d15_8 : decode jdk_43_method_2_code 8 = .ok (.baload, 1) := by decide +kernel
theorem d15_9 : decode jdk_43_method_2_code 9 = .ok (.sipush 255, 3) := by decide +kernel
theorem d15_12 : decode jdk_43_method_2_code 12 = .ok (.iand, 1) := by decide +kernel
theorem d15_13 : decode jdk_43_method_2_code 13 = .ok (.i2c, 1) := by decide +kernel
theorem d15_14 : decode jdk_43_method_2_code 14 = .ok (.ireturn, 1) := by decide +kernel
theorem c14_charAt {Z a0} (hw : HW a0 Z) (hs : SF Z) {p1 : Addr} {x1 : Int32} (hx1 : -128 ≤ x1.toInt ∧ x1.toInt ≤ 127) {x2 : Int32} (hx2 : -128 ≤ x2.toInt ∧ x2.toInt ≤ 127) {w_p1 : Bool} {ad_p1 : String} {F : List Ent} (mp1 : (p1, w_p1, ar ad_p1 .byte [(vi x1), (vi x2)]) ∈ F) : Con Z EL (⟨"java/lang/StringLatin1", "charAt", "([BI)C"⟩ : MethodName) jdk_43_method_2_code 2 (Option.some Jvm.ClassFile.FieldType.char) (rmm 2 0 0 27) [(vr p1), (vi 0)] (F) (fun v D' => (v = some (vi (x1 &&& (255 : Int32))) ∧ F = D')) := by
  refine Con.of (ls := #[rv p1, iv 0]) (by decide +kernel) rfl ?_
  show W Z EL _ "java/lang/StringLatin1" "charAt" _ _ _ _ _ _ _ _ _ _
  refine W.iloadN (pc := 0) d15_0 rfl ?_
  refine W.aloadN (pc := 1) d15_1 rfl rfl ?_
  refine W.alen (pc := 2) (2) d15_2 mp1 rfl ?_
  refine W.callS (pc := 3) (as := [(vi 0), (vi 2)]) 0 [] d15_3 (w77 hw) (w78 hw) (w4 hw) (w79 hw) (c15_checkIndex hw hs) (by decide) pd_II_V rfl rfl rfl rfl (by decide) (fun v D' h => ?_)
  obtain ⟨rfl, rfl⟩ := h
  show W _ _ _ _ _ _ _ _ _ _ _ _ 6 _ []
  refine W.aloadN (pc := 6) d15_6 rfl rfl ?_
  refine W.iloadN (pc := 7) d15_7 rfl ?_
  refine W.baload (pc := 8) 0 d15_8 mp1 ix0 rfl ?_
  refine W.sipush (pc := 9) (255) d15_9 (by decide) ?_
  refine W.iand (pc := 12) d15_12 ?_
  refine W.i2cK (pc := 13) (x1 &&& (255 : Int32)) d15_13 (z_i2c (by have := q255; have := am_255 x1; omega)) ?_
  exact W.ireturn (pc := 14) d15_14 rfl (Or.inr (Or.inr (Or.inr (Or.inl rfl)))) (nw_char (by have := q255; have := am_255 x1; omega)) (by decide) ⟨rfl, rfl⟩
theorem pd__BI_C : parseMethodDescriptor "([BI)C" = some ⟨[(.array .byte), .int], some .char⟩ := by decide +kernel
theorem w73 {Z a0} (hw : HW a0 Z) : ((Jvm.Cond.methodLink "java/lang/String" (495 : Nat) ({ cls := "java/lang/StringLatin1", name := "charAt", desc := "([BI)C" } : Jvm.MethodName)) : Jvm.Cond).before a0 Z = true := hw _ (List.mem_of_getElem? (i := 73) rfl)
theorem w74 {Z a0} (hw : HW a0 Z) : ((Jvm.Cond.static ({ cls := "java/lang/StringLatin1", name := "charAt", desc := "([BI)C" } : Jvm.MethodName)) : Jvm.Cond).before a0 Z = true := hw _ (List.mem_of_getElem? (i := 74) rfl)
theorem w75 {Z a0} (hw : HW a0 Z) : ((Jvm.Cond.initialized "java/lang/StringLatin1") : Jvm.Cond).before a0 Z = true := hw _ (List.mem_of_getElem? (i := 75) rfl)
theorem w76 {Z a0} (hw : HW a0 Z) : ((Jvm.Cond.code ({ cls := "java/lang/StringLatin1", name := "charAt", desc := "([BI)C" } : Jvm.MethodName) jdk_43_method_2_code (2 : Nat) (Option.some Jvm.ClassFile.FieldType.char)) : Jvm.Cond).before a0 Z = true := hw _ (List.mem_of_getElem? (i := 76) rfl)
theorem d13_15 : decode jdk_42_method_56_code 15 = .ok (.ireturn, 1) := by decide +kernel
theorem c12_charAt {Z a0} (hw : HW a0 Z) (hs : SF Z) {p1 p2 : Addr} {x1 : Int32} (hx1 : -128 ≤ x1.toInt ∧ x1.toInt ≤ 127) {x2 : Int32} (hx2 : -128 ≤ x2.toInt ∧ x2.toInt ≤ 127) {w_p1 : Bool} {w_p2 : Bool} {ad_p2 : String} {F : List Ent} (mp1 : (p1, w_p1, oString (vr p2) (vi 0)) ∈ F) (mp2 : (p2, w_p2, ar ad_p2 .byte [(vi x1), (vi x2)]) ∈ F) : Con Z EL (⟨"java/lang/String", "charAt", "(I)C"⟩ : MethodName) jdk_42_method_56_code 2 (Option.some Jvm.ClassFile.FieldType.char) (rmm 3 0 0 40) [(vr p1), (vi 0)] (F) (fun v D' => (v = some (vi (x1 &&& (255 : Int32))) ∧ F = D')) := by
  refine Con.of (ls := #[rv p1, iv 0]) (by decide +kernel) rfl ?_
  show W Z EL _ "java/lang/String" "charAt" _ _ _ _ _ _ _ _ _ _
  refine W.aloadN (pc := 0) d13_0 rfl rfl ?_
  refine W.callV (pc := 1) (as := []) 0 [] d13_1 (w68 hw) (w69 hw) (w71 hw) (w71 hw) (w70 hw) (w4 hw) (w72 hw) (Hp.exa mp1) (c13_isLatin1 hw hs (p1 := p1) (p2 := p2) (x1 := x1) (hx1 := hx1) (x2 := x2) (hx2 := hx2) (mp1 := mp1)) (by decide) pd__Z rfl rfl rfl rfl (by decide) (fun v D' h => ?_)
  obtain ⟨rfl, rfl⟩ := h
  show W _ _ _ _ _ _ _ _ _ _ _ _ 4 _ [(vi 1)]
  refine W.ifN (pc := 4) d13_4 (n_eq (by decide)) ?_
  refine W.aloadN (pc := 7) d13_7 rfl rfl ?_
  refine W.getf (pc := 8) d13_8 (w29 hw) Via.refl mp1 m0 ?_
  refine W.iloadN (pc := 11) d13_11 rfl ?_
  refine W.callS (pc := 12) (as := [(vr p2), (vi 0)]) 0 [] d13_12 (w73 hw) (w74 hw) (w75 hw) (w76 hw) (c14_charAt hw hs (p1 := p2) (x1 := x1) (hx1 := hx1) (x2 := x2) (hx2 := hx2) (mp1 := mp2)) (by decide) pd__BI_C rfl rfl rfl rfl (by decide) (fun v D' h => ?_)
  obtain ⟨rfl, rfl⟩ := h
  show W _ _ _ _ _ _ _ _ _ _ _ _ 15 _ [(vi (x1 &&& (255 : Int32)))]
  exact W.ireturn (pc := 15) d13_15 rfl (Or.inr (Or.inr (Or.inr (Or.inl rfl)))) (nw_char (by have := q255; have := am_255 x1; omega)) (by decide) ⟨rfl, rfl⟩
theorem pd_I_C : parseMethodDescriptor "(I)C" = some ⟨[.int], some .char⟩ := by decide +kernel
theorem w63 {Z a0} (hw : HW a0 Z) : ((Jvm.Cond.methodLink "com/example/kinpath/kinpath/Text" (22 : Nat) ({ cls := "java/lang/String", name := "charAt", desc := "(I)C" } : Jvm.MethodName)) : Jvm.Cond).before a0 Z = true := hw _ (List.mem_of_getElem? (i := 63) rfl)
theorem w64 {Z a0} (hw : HW a0 Z) : ((Jvm.Cond.declares ({ cls := "java/lang/String", name := "charAt", desc := "(I)C" } : Jvm.MethodName)) : Jvm.Cond).before a0 Z = true := hw _ (List.mem_of_getElem? (i := 64) rfl)
theorem w66 {Z a0} (hw : HW a0 Z) : ((Jvm.Cond.selects "java/lang/String" ({ cls := "java/lang/String", name := "charAt", desc := "(I)C" } : Jvm.MethodName) ({ cls := "java/lang/String", name := "charAt", desc := "(I)C" } : Jvm.MethodName)) : Jvm.Cond).before a0 Z = true := hw _ (List.mem_of_getElem? (i := 66) rfl)
theorem w65 {Z a0} (hw : HW a0 Z) : ((Jvm.Cond.instanceMethod ({ cls := "java/lang/String", name := "charAt", desc := "(I)C" } : Jvm.MethodName)) : Jvm.Cond).before a0 Z = true := hw _ (List.mem_of_getElem? (i := 65) rfl)
theorem w67 {Z a0} (hw : HW a0 Z) : ((Jvm.Cond.code ({ cls := "java/lang/String", name := "charAt", desc := "(I)C" } : Jvm.MethodName) jdk_42_method_56_code (2 : Nat) (Option.some Jvm.ClassFile.FieldType.char)) : Jvm.Cond).before a0 Z = true := hw _ (List.mem_of_getElem? (i := 67) rfl)
theorem d10_33 : decode prog_21_method_2_code 33 = .ok (.istore_n 3, 1) := by decide +kernel
theorem d10_34 : decode prog_21_method_2_code 34 = .ok (.iload_n 3, 1) := by decide +kernel
theorem d10_35 : decode prog_21_method_2_code 35 = .ok (.invokestatic 26, 3) := by decide +kernel
theorem d18_0 : decode jdk_89_method_16_code 0 = .ok (.iload_n 0, 1) := by decide +kernel
theorem d18_1 : decode jdk_89_method_16_code 1 = .ok (.ldc 75, 2) := by decide +kernel
theorem w89 {Z a0} (hw : HW a0 Z) : ((Jvm.Cond.constant "java/lang/Character" (75 : Nat) (55296 : Int32)) : Jvm.Cond).before a0 Z = true := hw _ (List.mem_of_getElem? (i := 89) rfl)
theorem d18_3 : decode jdk_89_method_16_code 3 = .ok (.if_icmp .lt 13, 3) := by decide +kernel
theorem q55296 : (55296 : Int32).toInt = 55296 := by decide
theorem d18_16 : decode jdk_89_method_16_code 16 = .ok (.iconst 0, 1) := by decide +kernel
theorem d18_17 : decode jdk_89_method_16_code 17 = .ok (.ireturn, 1) := by decide +kernel
theorem c17_isSurrogate {Z a0} (hw : HW a0 Z) (hs : SF Z) {x1 : Int32} (hx1 : 0 ≤ x1.toInt ∧ x1.toInt ≤ 255) {F : List Ent} : Con Z EL (⟨"java/lang/Character", "isSurrogate", "(C)Z"⟩ : MethodName) jdk_89_method_16_code 1 (Option.some Jvm.ClassFile.FieldType.boolean) (rmm 0 0 0 0) [(vi x1)] (F) (fun v D' => (v = some (vi 0) ∧ F = D')) := by
  refine Con.of (ls := #[iv x1]) (by decide +kernel) rfl ?_
  show W Z EL _ "java/lang/Character" "isSurrogate" _ _ _ _ _ _ _ _ _ _
  refine W.iloadN (pc := 0) d18_0 rfl ?_
  refine W.ldcI (pc := 1) d18_1 (w89 hw) ?_
  refine W.icmpY (pc := 3) 16 d18_3 (y_lt (by have := q55296; omega)) (by decide) ?_
  refine W.iconst (pc := 16) (0) d18_16 (by decide) ?_
  exact W.ireturn (pc := 17) d18_17 rfl (Or.inr (Or.inl rfl)) (nw_bool (by decide)) (by decide) ⟨rfl, rfl⟩
theorem pd_C_Z : parseMethodDescriptor "(C)Z" = some ⟨[.char], some .boolean⟩ := by decide +kernel
theorem w85 {Z a0} (hw : HW a0 Z) : ((Jvm.Cond.methodLink "com/example/kinpath/kinpath/Text" (26 : Nat) ({ cls := "java/lang/Character", name := "isSurrogate", desc := "(C)Z" } : Jvm.MethodName)) : Jvm.Cond).before a0 Z = true := hw _ (List.mem_of_getElem? (i := 85) rfl)
theorem w86 {Z a0} (hw : HW a0 Z) : ((Jvm.Cond.static ({ cls := "java/lang/Character", name := "isSurrogate", desc := "(C)Z" } : Jvm.MethodName)) : Jvm.Cond).before a0 Z = true := hw _ (List.mem_of_getElem? (i := 86) rfl)
theorem w87 {Z a0} (hw : HW a0 Z) : ((Jvm.Cond.initialized "java/lang/Character") : Jvm.Cond).before a0 Z = true := hw _ (List.mem_of_getElem? (i := 87) rfl)
theorem w88 {Z a0} (hw : HW a0 Z) : ((Jvm.Cond.code ({ cls := "java/lang/Character", name := "isSurrogate", desc := "(C)Z" } : Jvm.MethodName) jdk_89_method_16_code (1 : Nat) (Option.some Jvm.ClassFile.FieldType.boolean)) : Jvm.Cond).before a0 Z = true := hw _ (List.mem_of_getElem? (i := 88) rfl)
theorem d10_38 : decode prog_21_method_2_code 38 = .ok (.ifCond .ne 9, 3) := by decide +kernel
theorem d10_41 : decode prog_21_method_2_code 41 = .ok (.iinc 2 1, 3) := by decide +kernel
theorem d10_44 : decode prog_21_method_2_code 44 = .ok (.goto 61, 3) := by decide +kernel
theorem d10_105 : decode prog_21_method_2_code 105 = .ok (.goto (-85), 3) := by decide +kernel
theorem c21_checkIndex {Z a0} (hw : HW a0 Z) (hs : SF Z) {F : List Ent} : Con Z EL (⟨"jdk/internal/util/Preconditions", "checkIndex", "(IILjava/util/function/BiFunction;)I"⟩ : MethodName) jdk_41_method_11_code 3 (Option.some Jvm.ClassFile.FieldType.int) (rmm 0 0 0 0) [(vi 1), (vi 2), (sfv Z)] (F) (fun v D' => (v = some (vi 1) ∧ F = D')) := by
  refine Con.of (ls := #[iv 1, iv 2, .val (sfv Z)]) (by decide +kernel) (hent_of (ld1 rfl (ld1 rfl (ld1 (XT.cat1 hs.2.2.1) ld0))) rfl) ?_
  show W Z EL _ "jdk/internal/util/Preconditions" "checkIndex" _ _ _ _ _ _ _ _ _ _
  refine W.iloadN (pc := 0) d17_0 rfl ?_
  refine W.ifN (pc := 1) d17_1 (n_lt (by decide)) ?_
  refine W.iloadN (pc := 4) d17_4 rfl ?_
  refine W.iloadN (pc := 5) d17_5 rfl ?_
  refine W.icmpY (pc := 6) 16 d17_6 (y_lt (by decide)) (by decide) ?_
  refine W.iloadN (pc := 16) d17_16 rfl ?_
  exact W.ireturn (pc := 17) d17_17 rfl (Or.inl rfl) rfl (by decide) ⟨rfl, rfl⟩
theorem c20_checkIndex {Z a0} (hw : HW a0 Z) (hs : SF Z) {F : List Ent} : Con Z EL (⟨"java/lang/String", "checkIndex", "(II)V"⟩ : MethodName) jdk_42_method_155_code 2 (Option.none : Option Jvm.ClassFile.FieldType) (rmm 1 0 0 14) [(vi 1), (vi 2)] (F) (fun v D' => (v = none ∧ F = D')) := by
  refine Con.of (ls := #[iv 1, iv 2]) (by decide +kernel) rfl ?_
  show W Z EL _ "java/lang/String" "checkIndex" _ _ _ _ _ _ _ _ _ _
  refine W.iloadN (pc := 0) d16_0 rfl ?_
  refine W.iloadN (pc := 1) d16_1 rfl ?_
  refine W.gets (pc := 2) d16_2 (w80 hw) Via.refl hs.2.2.2.1 ?_
  refine W.callS (pc := 5) (as := [(vi 1), (vi 2), (sfv Z)]) 0 [] d16_5 (w82 hw) (w83 hw) (w81 hw) (w84 hw) (c21_checkIndex hw hs) (by decide) pd_IILjava_util_function_BiFunction__I rfl rfl rfl rfl (by decide) (fun v D' h => ?_)
  obtain ⟨rfl, rfl⟩ := h
  show W _ _ _ _ _ _ _ _ _ _ _ _ 8 _ [(vi 1)]
  refine W.popv (pc := 8) d16_8 rfl ?_
  exact W.return_ (pc := 9) d16_9 rfl (by decide) ⟨rfl, rfl⟩
theorem c19_charAt {Z a0} (hw : HW a0 Z) (hs : SF Z) {p1 : Addr} {x1 : Int32} (hx1 : -128 ≤ x1.toInt ∧ x1.toInt ≤ 127) {x2 : Int32} (hx2 : -128 ≤ x2.toInt ∧ x2.toInt ≤ 127) {w_p1 : Bool} {ad_p1 : String} {F : List Ent} (mp1 : (p1, w_p1, ar ad_p1 .byte [(vi x1), (vi x2)]) ∈ F) : Con Z EL (⟨"java/lang/StringLatin1", "charAt", "([BI)C"⟩ : MethodName) jdk_43_method_2_code 2 (Option.some Jvm.ClassFile.FieldType.char) (rmm 2 0 0 27) [(vr p1), (vi 1)] (F) (fun v D' => (v = some (vi (x2 &&& (255 : Int32))) ∧ F = D')) := by
  refine Con.of (ls := #[rv p1, iv 1]) (by decide +kernel) rfl ?_
  show W Z EL _ "java/lang/StringLatin1" "charAt" _ _ _ _ _ _ _ _ _ _
  refine W.iloadN (pc := 0) d15_0 rfl ?_
  refine W.aloadN (pc := 1) d15_1 rfl rfl ?_
  refine W.alen (pc := 2) (2) d15_2 mp1 rfl ?_
  refine W.callS (pc := 3) (as := [(vi 1), (vi 2)]) 0 [] d15_3 (w77 hw) (w78 hw) (w4 hw) (w79 hw) (c20_checkIndex hw hs) (by decide) pd_II_V rfl rfl rfl rfl (by decide) (fun v D' h => ?_)
  obtain ⟨rfl, rfl⟩ := h
  show W _ _ _ _ _ _ _ _ _ _ _ _ 6 _ []
  refine W.aloadN (pc := 6) d15_6 rfl rfl ?_
  refine W.iloadN (pc := 7) d15_7 rfl ?_
  refine W.baload (pc := 8) 1 d15_8 mp1 ix1 rfl ?_
  refine W.sipush (pc := 9) (255) d15_9 (by decide) ?_
  refine W.iand (pc := 12) d15_12 ?_
  refine W.i2cK (pc := 13) (x2 &&& (255 : Int32)) d15_13 (z_i2c (by have := q255; have := am_255 x2; omega)) ?_
  exact W.ireturn (pc := 14) d15_14 rfl (Or.inr (Or.inr (Or.inr (Or.inl rfl)))) (nw_char (by have := q255; have := am_255 x2; omega)) (by decide) ⟨rfl, rfl⟩
theorem c18_charAt {Z a0} (hw : HW a0 Z) (hs : SF Z) {p1 p2 : Addr} {x1 : Int32} (hx1 : -128 ≤ x1.toInt ∧ x1.toInt ≤ 127) {x2 : Int32} (hx2 : -128 ≤ x2.toInt ∧ x2.toInt ≤ 127) {w_p1 : Bool} {w_p2 : Bool} {ad_p2 : String} {F : List Ent} (mp1 : (p1, w_p1, oString (vr p2) (vi 0)) ∈ F) (mp2 : (p2, w_p2, ar ad_p2 .byte [(vi x1), (vi x2)]) ∈ F) : Con Z EL (⟨"java/lang/String", "charAt", "(I)C"⟩ : MethodName) jdk_42_method_56_code 2 (Option.some Jvm.ClassFile.FieldType.char) (rmm 3 0 0 40) [(vr p1), (vi 1)] (F) (fun v D' => (v = some (vi (x2 &&& (255 : Int32))) ∧ F = D')) := by
  refine Con.of (ls := #[rv p1, iv 1]) (by decide +kernel) rfl ?_
  show W Z EL _ "java/lang/String" "charAt" _ _ _ _ _ _ _ _ _ _
  refine W.aloadN (pc := 0) d13_0 rfl rfl ?_
  refine W.callV (pc := 1) (as := []) 0 [] d13_1 (w68 hw) (w69 hw) (w71 hw) (w71 hw) (w70 hw) (w4 hw) (w72 hw) (Hp.exa mp1) (c13_isLatin1 hw hs (p1 := p1) (p2 := p2) (x1 := x1) (hx1 := hx1) (x2 := x2) (hx2 := hx2) (mp1 := mp1)) (by decide) pd__Z rfl rfl rfl rfl (by decide) (fun v D' h => ?_)
  obtain ⟨rfl, rfl⟩ := h
  show W _ _ _ _ _ _ _ _ _ _ _ _ 4 _ [(vi 1)]
  refine W.ifN (pc := 4) d13_4 (n_eq (by decide)) ?_
  refine W.aloadN (pc := 7) d13_7 rfl rfl ?_
  refine W.getf (pc := 8) d13_8 (w29 hw) Via.refl mp1 m0 ?_
  refine W.iloadN (pc := 11) d13_11 rfl ?_
  refine W.callS (pc := 12) (as := [(vr p2), (vi 1)]) 0 [] d13_12 (w73 hw) (w74 hw) (w75 hw) (w76 hw) (c19_charAt hw hs (p1 := p2) (x1 := x1) (hx1 := hx1) (x2 := x2) (hx2 := hx2) (mp1 := mp2)) (by decide) pd__BI_C rfl rfl rfl rfl (by decide) (fun v D' h => ?_)
  obtain ⟨rfl, rfl⟩ := h
  show W _ _ _ _ _ _ _ _ _ _ _ _ 15 _ [(vi (x2 &&& (255 : Int32)))]
  exact W.ireturn (pc := 15) d13_15 rfl (Or.inr (Or.inr (Or.inr (Or.inl rfl)))) (nw_char (by have := q255; have := am_255 x2; omega)) (by decide) ⟨rfl, rfl⟩
theorem d10_108 : decode prog_21_method_2_code 108 = .ok (.aload_n 0, 1) := by decide +kernel
theorem d10_109 : decode prog_21_method_2_code 109 = .ok (.areturn, 1) := by decide +kernel
theorem c9_require {Z a0} (hw : HW a0 Z) (hs : SF Z) {p1 p2 p3 : Addr} {x1 : Int32} (hx1 : -128 ≤ x1.toInt ∧ x1.toInt ≤ 127) {x2 : Int32} (hx2 : -128 ≤ x2.toInt ∧ x2.toInt ≤ 127) {w_p1 : Bool} {w_p3 : Bool} {ad_p3 : String} {F : List Ent} (mp1 : (p1, w_p1, oString (vr p3) (vi 0)) ∈ F) (mp3 : (p3, w_p3, ar ad_p3 .byte [(vi x1), (vi x2)]) ∈ F) : Con Z EL (⟨"com/example/kinpath/kinpath/Text", "require", "(Ljava/lang/String;Ljava/lang/String;)Ljava/lang/String;"⟩ : MethodName) prog_21_method_2_code 4 (Option.some (Jvm.ClassFile.FieldType.object "java/lang/String")) (rmm 4 0 0 53) [(vr p1), (vr p2)] (F) (fun v D' => (v = some (vr p1) ∧ F = D')) := by
  refine Con.of (ls := #[rv p1, rv p2, uu, uu]) (by decide +kernel) rfl ?_
  show W Z EL _ "com/example/kinpath/kinpath/Text" "require" _ _ _ _ _ _ _ _ _ _
  refine W.aloadN (pc := 0) d10_0 rfl rfl ?_
  refine W.ifnonnullY (pc := 1) 18 d10_1 (by decide) ?_
  refine W.iconst (pc := 18) (0) d10_18 (by decide) ?_
  refine W.istoreN (pc := 19) (ls' := #[rv p1, rv p2, iv 0, uu]) d10_19 rfl ?_
  refine W.iloadN (pc := 20) d10_20 rfl ?_
  refine W.aloadN (pc := 21) d10_21 rfl rfl ?_
  refine W.callV (pc := 22) (as := []) 1 [(vi 0)] d10_22 (w53 hw) (w54 hw) (w56 hw) (w56 hw) (w55 hw) (w4 hw) (w57 hw) (Hp.exa mp1) (c10_length hw hs (p1 := p1) (p2 := p3) (x1 := x1) (hx1 := hx1) (x2 := x2) (hx2 := hx2) (mp1 := mp1) (mp2 := mp3)) (by decide) pd__I rfl rfl rfl rfl (by decide) (fun v D' h => ?_)
  obtain ⟨rfl, rfl⟩ := h
  show W _ _ _ _ _ _ _ _ _ _ _ _ 25 _ [(vi 2), (vi 0)]
  refine W.icmpN (pc := 25) d10_25 (n_ge (by decide)) ?_
  refine W.aloadN (pc := 28) d10_28 rfl rfl ?_
  refine W.iloadN (pc := 29) d10_29 rfl ?_
  refine W.callV (pc := 30) (as := [(vi 0)]) 0 [] d10_30 (w63 hw) (w64 hw) (w66 hw) (w66 hw) (w65 hw) (w4 hw) (w67 hw) (Hp.exa mp1) (c12_charAt hw hs (p1 := p1) (p2 := p3) (x1 := x1) (hx1 := hx1) (x2 := x2) (hx2 := hx2) (mp1 := mp1) (mp2 := mp3)) (by decide) pd_I_C rfl rfl rfl rfl (by decide) (fun v D' h => ?_)
  obtain ⟨rfl, rfl⟩ := h
  show W _ _ _ _ _ _ _ _ _ _ _ _ 33 _ [(vi (x1 &&& (255 : Int32)))]
  refine W.istoreN (pc := 33) (ls' := #[rv p1, rv p2, iv 0, iv (x1 &&& (255 : Int32))]) d10_33 rfl ?_
  refine W.iloadN (pc := 34) d10_34 rfl ?_
  refine W.callS (pc := 35) (as := [(vi (x1 &&& (255 : Int32)))]) 0 [] d10_35 (w85 hw) (w86 hw) (w87 hw) (w88 hw) (c17_isSurrogate hw hs (x1 := (x1 &&& (255 : Int32))) (hx1 := (by have := q255; have := am_255 x1; omega))) (by decide) pd_C_Z rfl rfl rfl rfl (by decide) (fun v D' h => ?_)
  obtain ⟨rfl, rfl⟩ := h
  show W _ _ _ _ _ _ _ _ _ _ _ _ 38 _ [(vi 0)]
  refine W.ifN (pc := 38) d10_38 (n_ne (by decide)) ?_
  refine W.iincK (pc := 41) (ls' := #[rv p1, rv p2, iv 1, iv (x1 &&& (255 : Int32))]) (1) (1 : Int32) d10_41 (by decide) rfl (by decide) rfl ?_
  refine W.goto (pc := 44) 105 d10_44 (by decide) ?_
  refine W.goto (pc := 105) 20 d10_105 (by decide) ?_
  refine W.iloadN (pc := 20) d10_20 rfl ?_
  refine W.aloadN (pc := 21) d10_21 rfl rfl ?_
  refine W.callV (pc := 22) (as := []) 1 [(vi 1)] d10_22 (w53 hw) (w54 hw) (w56 hw) (w56 hw) (w55 hw) (w4 hw) (w57 hw) (Hp.exa mp1) (c10_length hw hs (p1 := p1) (p2 := p3) (x1 := x1) (hx1 := hx1) (x2 := x2) (hx2 := hx2) (mp1 := mp1) (mp2 := mp3)) (by decide) pd__I rfl rfl rfl rfl (by decide) (fun v D' h => ?_)
  obtain ⟨rfl, rfl⟩ := h
  show W _ _ _ _ _ _ _ _ _ _ _ _ 25 _ [(vi 2), (vi 1)]
  refine W.icmpN (pc := 25) d10_25 (n_ge (by decide)) ?_
  refine W.aloadN (pc := 28) d10_28 rfl rfl ?_
  refine W.iloadN (pc := 29) d10_29 rfl ?_
  refine W.callV (pc := 30) (as := [(vi 1)]) 0 [] d10_30 (w63 hw) (w64 hw) (w66 hw) (w66 hw) (w65 hw) (w4 hw) (w67 hw) (Hp.exa mp1) (c18_charAt hw hs (p1 := p1) (p2 := p3) (x1 := x1) (hx1 := hx1) (x2 := x2) (hx2 := hx2) (mp1 := mp1) (mp2 := mp3)) (by decide) pd_I_C rfl rfl rfl rfl (by decide) (fun v D' h => ?_)
  obtain ⟨rfl, rfl⟩ := h
  show W _ _ _ _ _ _ _ _ _ _ _ _ 33 _ [(vi (x2 &&& (255 : Int32)))]
  refine W.istoreN (pc := 33) (ls' := #[rv p1, rv p2, iv 1, iv (x2 &&& (255 : Int32))]) d10_33 rfl ?_
  refine W.iloadN (pc := 34) d10_34 rfl ?_
  refine W.callS (pc := 35) (as := [(vi (x2 &&& (255 : Int32)))]) 0 [] d10_35 (w85 hw) (w86 hw) (w87 hw) (w88 hw) (c17_isSurrogate hw hs (x1 := (x2 &&& (255 : Int32))) (hx1 := (by have := q255; have := am_255 x2; omega))) (by decide) pd_C_Z rfl rfl rfl rfl (by decide) (fun v D' h => ?_)
  obtain ⟨rfl, rfl⟩ := h
  show W _ _ _ _ _ _ _ _ _ _ _ _ 38 _ [(vi 0)]
  refine W.ifN (pc := 38) d10_38 (n_ne (by decide)) ?_
  refine W.iincK (pc := 41) (ls' := #[rv p1, rv p2, iv 2, iv (x2 &&& (255 : Int32))]) (1) (2 : Int32) d10_41 (by decide) rfl (by decide) rfl ?_
  refine W.goto (pc := 44) 105 d10_44 (by decide) ?_
  refine W.goto (pc := 105) 20 d10_105 (by decide) ?_
  refine W.iloadN (pc := 20) d10_20 rfl ?_
  refine W.aloadN (pc := 21) d10_21 rfl rfl ?_
  refine W.callV (pc := 22) (as := []) 1 [(vi 2)] d10_22 (w53 hw) (w54 hw) (w56 hw) (w56 hw) (w55 hw) (w4 hw) (w57 hw) (Hp.exa mp1) (c10_length hw hs (p1 := p1) (p2 := p3) (x1 := x1) (hx1 := hx1) (x2 := x2) (hx2 := hx2) (mp1 := mp1) (mp2 := mp3)) (by decide) pd__I rfl rfl rfl rfl (by decide) (fun v D' h => ?_)
  obtain ⟨rfl, rfl⟩ := h
  show W _ _ _ _ _ _ _ _ _ _ _ _ 25 _ [(vi 2), (vi 2)]
  refine W.icmpY (pc := 25) 108 d10_25 (y_ge (by decide)) (by decide) ?_
  refine W.aloadN (pc := 108) d10_108 rfl rfl ?_
  exact W.areturn (pc := 109) d10_109 rfl rfl rfl (by decide) ⟨rfl, rfl⟩
theorem pd_Ljava_lang_String_Ljava_lang_String__Ljava_lang_String_ : parseMethodDescriptor "(Ljava/lang/String;Ljava/lang/String;)Ljava/lang/String;" = some ⟨[(.object "java/lang/String"), (.object "java/lang/String")], some (.object "java/lang/String")⟩ := by decide +kernel
theorem w50 {Z a0} (hw : HW a0 Z) : ((Jvm.Cond.methodLink "com/example/kinpath/kinpath/Text" (67 : Nat) ({ cls := "com/example/kinpath/kinpath/Text", name := "require", desc := "(Ljava/lang/String;Ljava/lang/String;)Ljava/lang/String;" } : Jvm.MethodName)) : Jvm.Cond).before a0 Z = true := hw _ (List.mem_of_getElem? (i := 50) rfl)
theorem w51 {Z a0} (hw : HW a0 Z) : ((Jvm.Cond.static ({ cls := "com/example/kinpath/kinpath/Text", name := "require", desc := "(Ljava/lang/String;Ljava/lang/String;)Ljava/lang/String;" } : Jvm.MethodName)) : Jvm.Cond).before a0 Z = true := hw _ (List.mem_of_getElem? (i := 51) rfl)
theorem w48 {Z a0} (hw : HW a0 Z) : ((Jvm.Cond.initialized "com/example/kinpath/kinpath/Text") : Jvm.Cond).before a0 Z = true := hw _ (List.mem_of_getElem? (i := 48) rfl)
theorem w52 {Z a0} (hw : HW a0 Z) : ((Jvm.Cond.code ({ cls := "com/example/kinpath/kinpath/Text", name := "require", desc := "(Ljava/lang/String;Ljava/lang/String;)Ljava/lang/String;" } : Jvm.MethodName) prog_21_method_2_code (4 : Nat) (Option.some (Jvm.ClassFile.FieldType.object "java/lang/String"))) : Jvm.Cond).before a0 Z = true := hw _ (List.mem_of_getElem? (i := 52) rfl)
theorem d9_5 : decode prog_21_method_6_code 5 = .ok (.invokevirtual 71, 3) := by decide +kernel
theorem d19_0 : decode jdk_42_method_55_code 0 = .ok (.aload_n 0, 1) := by decide +kernel
theorem d19_1 : decode jdk_42_method_55_code 1 = .ok (.getfield 9, 3) := by decide +kernel
theorem d19_4 : decode jdk_42_method_55_code 4 = .ok (.arraylength, 1) := by decide +kernel
theorem d19_5 : decode jdk_42_method_55_code 5 = .ok (.ifCond .ne 7, 3) := by decide +kernel
theorem d19_12 : decode jdk_42_method_55_code 12 = .ok (.iconst 0, 1) := by decide +kernel
theorem d19_13 : decode jdk_42_method_55_code 13 = .ok (.ireturn, 1) := by decide +kernel
theorem c22_isEmpty {Z a0} (hw : HW a0 Z) (hs : SF Z) {p1 p2 : Addr} {x1 : Int32} (hx1 : -128 ≤ x1.toInt ∧ x1.toInt ≤ 127) {x2 : Int32} (hx2 : -128 ≤ x2.toInt ∧ x2.toInt ≤ 127) {w_p1 : Bool} {w_p2 : Bool} {ad_p2 : String} {F : List Ent} (mp1 : (p1, w_p1, oString (vr p2) (vi 0)) ∈ F) (mp2 : (p2, w_p2, ar ad_p2 .byte [(vi x1), (vi x2)]) ∈ F) : Con Z EL (⟨"java/lang/String", "isEmpty", "()Z"⟩ : MethodName) jdk_42_method_55_code 1 (Option.some Jvm.ClassFile.FieldType.boolean) (rmm 0 0 0 0) [(vr p1)] (F) (fun v D' => (v = some (vi 0) ∧ F = D')) := by
  refine Con.of (ls := #[rv p1]) (by decide +kernel) rfl ?_
  show W Z EL _ "java/lang/String" "isEmpty" _ _ _ _ _ _ _ _ _ _
  refine W.aloadN (pc := 0) d19_0 rfl rfl ?_
  refine W.getf (pc := 1) d19_1 (w29 hw) Via.refl mp1 m0 ?_
  refine W.alen (pc := 4) (2) d19_4 mp2 rfl ?_
  refine W.ifY (pc := 5) 12 d19_5 (y_ne (by decide)) (by decide) ?_
  refine W.iconst (pc := 12) (0) d19_12 (by decide) ?_
  exact W.ireturn (pc := 13) d19_13 rfl (Or.inr (Or.inl rfl)) (nw_bool (by decide)) (by decide) ⟨rfl, rfl⟩
theorem w90 {Z a0} (hw : HW a0 Z) : ((Jvm.Cond.methodLink "com/example/kinpath/kinpath/Text" (71 : Nat) ({ cls := "java/lang/String", name := "isEmpty", desc := "()Z" } : Jvm.MethodName)) : Jvm.Cond).before a0 Z = true := hw _ (List.mem_of_getElem? (i := 90) rfl)
theorem w91 {Z a0} (hw : HW a0 Z) : ((Jvm.Cond.declares ({ cls := "java/lang/String", name := "isEmpty", desc := "()Z" } : Jvm.MethodName)) : Jvm.Cond).before a0 Z = true := hw _ (List.mem_of_getElem? (i := 91) rfl)
theorem w93 {Z a0} (hw : HW a0 Z) : ((Jvm.Cond.selects "java/lang/String" ({ cls := "java/lang/String", name := "isEmpty", desc := "()Z" } : Jvm.MethodName) ({ cls := "java/lang/String", name := "isEmpty", desc := "()Z" } : Jvm.MethodName)) : Jvm.Cond).before a0 Z = true := hw _ (List.mem_of_getElem? (i := 93) rfl)
theorem w92 {Z a0} (hw : HW a0 Z) : ((Jvm.Cond.instanceMethod ({ cls := "java/lang/String", name := "isEmpty", desc := "()Z" } : Jvm.MethodName)) : Jvm.Cond).before a0 Z = true := hw _ (List.mem_of_getElem? (i := 92) rfl)
theorem w94 {Z a0} (hw : HW a0 Z) : ((Jvm.Cond.code ({ cls := "java/lang/String", name := "isEmpty", desc := "()Z" } : Jvm.MethodName) jdk_42_method_55_code (1 : Nat) (Option.some Jvm.ClassFile.FieldType.boolean)) : Jvm.Cond).before a0 Z = true := hw _ (List.mem_of_getElem? (i := 94) rfl)
theorem d9_8 : decode prog_21_method_6_code 8 = .ok (.ifCond .eq 17, 3) := by decide +kernel
theorem d9_25 : decode prog_21_method_6_code 25 = .ok (.aload_n 0, 1) := by decide +kernel
theorem d9_26 : decode prog_21_method_6_code 26 = .ok (.areturn, 1) := by decide +kernel
theorem c8_requireNonEmpty {Z a0} (hw : HW a0 Z) (hs : SF Z) {p1 p2 p3 : Addr} {x1 : Int32} (hx1 : -128 ≤ x1.toInt ∧ x1.toInt ≤ 127) {x2 : Int32} (hx2 : -128 ≤ x2.toInt ∧ x2.toInt ≤ 127) {w_p1 : Bool} {w_p3 : Bool} {ad_p3 : String} {F : List Ent} (mp1 : (p1, w_p1, oString (vr p3) (vi 0)) ∈ F) (mp3 : (p3, w_p3, ar ad_p3 .byte [(vi x1), (vi x2)]) ∈ F) : Con Z EL (⟨"com/example/kinpath/kinpath/Text", "requireNonEmpty", "(Ljava/lang/String;Ljava/lang/String;)Ljava/lang/String;"⟩ : MethodName) prog_21_method_6_code 2 (Option.some (Jvm.ClassFile.FieldType.object "java/lang/String")) (rmm 5 0 0 68) [(vr p1), (vr p2)] (F) (fun v D' => (v = some (vr p1) ∧ F = D')) := by
  refine Con.of (ls := #[rv p1, rv p2]) (by decide +kernel) rfl ?_
  show W Z EL _ "com/example/kinpath/kinpath/Text" "requireNonEmpty" _ _ _ _ _ _ _ _ _ _
  refine W.aloadN (pc := 0) d9_0 rfl rfl ?_
  refine W.aloadN (pc := 1) d9_1 rfl rfl ?_
  refine W.callS (pc := 2) (as := [(vr p1), (vr p2)]) 0 [] d9_2 (w50 hw) (w51 hw) (w48 hw) (w52 hw) (c9_require hw hs (p1 := p1) (p2 := p2) (p3 := p3) (x1 := x1) (hx1 := hx1) (x2 := x2) (hx2 := hx2) (mp1 := mp1) (mp3 := mp3)) (by decide) pd_Ljava_lang_String_Ljava_lang_String__Ljava_lang_String_ rfl rfl rfl rfl (by decide) (fun v D' h => ?_)
  obtain ⟨rfl, rfl⟩ := h
  show W _ _ _ _ _ _ _ _ _ _ _ _ 5 _ [(vr p1)]
  refine W.callV (pc := 5) (as := []) 0 [] d9_5 (w90 hw) (w91 hw) (w93 hw) (w93 hw) (w92 hw) (w4 hw) (w94 hw) (Hp.exa mp1) (c22_isEmpty hw hs (p1 := p1) (p2 := p3) (x1 := x1) (hx1 := hx1) (x2 := x2) (hx2 := hx2) (mp1 := mp1) (mp2 := mp3)) (by decide) pd__Z rfl rfl rfl rfl (by decide) (fun v D' h => ?_)
  obtain ⟨rfl, rfl⟩ := h
  show W _ _ _ _ _ _ _ _ _ _ _ _ 8 _ [(vi 0)]
  refine W.ifY (pc := 8) 25 d9_8 (y_eq (by decide)) (by decide) ?_
  refine W.aloadN (pc := 25) d9_25 rfl rfl ?_
  exact W.areturn (pc := 26) d9_26 rfl rfl rfl (by decide) ⟨rfl, rfl⟩
theorem w46 {Z a0} (hw : HW a0 Z) : ((Jvm.Cond.methodLink "com/example/kinpath/kinpath/PathElement" (9 : Nat) ({ cls := "com/example/kinpath/kinpath/Text", name := "requireNonEmpty", desc := "(Ljava/lang/String;Ljava/lang/String;)Ljava/lang/String;" } : Jvm.MethodName)) : Jvm.Cond).before a0 Z = true := hw _ (List.mem_of_getElem? (i := 46) rfl)
theorem w47 {Z a0} (hw : HW a0 Z) : ((Jvm.Cond.static ({ cls := "com/example/kinpath/kinpath/Text", name := "requireNonEmpty", desc := "(Ljava/lang/String;Ljava/lang/String;)Ljava/lang/String;" } : Jvm.MethodName)) : Jvm.Cond).before a0 Z = true := hw _ (List.mem_of_getElem? (i := 47) rfl)
theorem w49 {Z a0} (hw : HW a0 Z) : ((Jvm.Cond.code ({ cls := "com/example/kinpath/kinpath/Text", name := "requireNonEmpty", desc := "(Ljava/lang/String;Ljava/lang/String;)Ljava/lang/String;" } : Jvm.MethodName) prog_21_method_6_code (2 : Nat) (Option.some (Jvm.ClassFile.FieldType.object "java/lang/String"))) : Jvm.Cond).before a0 Z = true := hw _ (List.mem_of_getElem? (i := 49) rfl)
theorem d7_10 : decode prog_14_method_1_code 10 = .ok (.pop, 1) := by decide +kernel
theorem d7_11 : decode prog_14_method_1_code 11 = .ok (.lload_n 2, 1) := by decide +kernel
theorem d7_12 : decode prog_14_method_1_code 12 = .ok (.lconst 0, 1) := by decide +kernel
theorem d7_13 : decode prog_14_method_1_code 13 = .ok (.lcmp, 1) := by decide +kernel
theorem d7_14 : decode prog_14_method_1_code 14 = .ok (.ifCond .ge 8, 3) := by decide +kernel
theorem Q0 : (0 : Int64).toInt = 0 := by decide
theorem d7_22 : decode prog_14_method_1_code 22 = .ok (.aload 4, 2) := by decide +kernel
theorem d7_24 : decode prog_14_method_1_code 24 = .ok (.ifnull 27, 3) := by decide +kernel
theorem d7_51 : decode prog_14_method_1_code 51 = .ok (.aload_n 0, 1) := by decide +kernel
theorem d7_52 : decode prog_14_method_1_code 52 = .ok (.aload_n 1, 1) := by decide +kernel
theorem d7_53 : decode prog_14_method_1_code 53 = .ok (.putfield 30, 3) := by decide +kernel
theorem pfLjava_lang_String_ : parseFieldDescriptor "Ljava/lang/String;" = some (.object "java/lang/String") := by decide
theorem w95 {Z a0} (hw : HW a0 Z) : ((Jvm.Cond.fieldLink "com/example/kinpath/kinpath/PathElement" (30 : Nat) "com/example/kinpath/kinpath/PathElement" "kind" "Ljava/lang/String;") : Jvm.Cond).before a0 Z = true := hw _ (List.mem_of_getElem? (i := 95) rfl)
theorem d7_56 : decode prog_14_method_1_code 56 = .ok (.aload_n 0, 1) := by decide +kernel
theorem d7_57 : decode prog_14_method_1_code 57 = .ok (.lload_n 2, 1) := by decide +kernel
theorem d7_58 : decode prog_14_method_1_code 58 = .ok (.putfield 34, 3) := by decide +kernel
theorem pfJ : parseFieldDescriptor "J" = some .long := by decide
theorem w97 {Z a0} (hw : HW a0 Z) : ((Jvm.Cond.fieldLink "com/example/kinpath/kinpath/PathElement" (34 : Nat) "com/example/kinpath/kinpath/PathElement" "id" "J") : Jvm.Cond).before a0 Z = true := hw _ (List.mem_of_getElem? (i := 97) rfl)
theorem d7_61 : decode prog_14_method_1_code 61 = .ok (.aload_n 0, 1) := by decide +kernel
theorem d7_62 : decode prog_14_method_1_code 62 = .ok (.aload 4, 2) := by decide +kernel
theorem d7_64 : decode prog_14_method_1_code 64 = .ok (.putfield 38, 3) := by decide +kernel
theorem w99 {Z a0} (hw : HW a0 Z) : ((Jvm.Cond.fieldLink "com/example/kinpath/kinpath/PathElement" (38 : Nat) "com/example/kinpath/kinpath/PathElement" "name" "Ljava/lang/String;") : Jvm.Cond).before a0 Z = true := hw _ (List.mem_of_getElem? (i := 99) rfl)
theorem d7_67 : decode prog_14_method_1_code 67 = .ok (.return_, 1) := by decide +kernel
theorem c6_init {Z a0} (hw : HW a0 Z) (hs : SF Z) {p1 p2 p3 : Addr} {x1 : Int64} (hx1 : 0 ≤ x1.toInt ∧ x1.toInt ≤ 9223372036854775807) {x2 : Int32} (hx2 : -128 ≤ x2.toInt ∧ x2.toInt ≤ 127) {x3 : Int32} (hx3 : -128 ≤ x3.toInt ∧ x3.toInt ≤ 127) {w_p2 : Bool} {w_p3 : Bool} {ad_p3 : String} {F : List Ent} (mp2 : (p2, w_p2, oString (vr p3) (vi 0)) ∈ F) (mp3 : (p3, w_p3, ar ad_p3 .byte [(vi x2), (vi x3)]) ∈ F) : Con Z EL (⟨"com/example/kinpath/kinpath/PathElement", "<init>", "(Ljava/lang/String;JLjava/lang/String;)V"⟩ : MethodName) prog_14_method_1_code 5 (Option.none : Option Jvm.ClassFile.FieldType) (rmm 6 2 28 81) [(vr p1), (vr p2), (vj x1), .null] ((p1, true, oPathElement .null (vj 0) .null) :: F) (fun v D' => (v = none ∧ (p1, true, oPathElement (vr p2) (vj x1) .null) :: F = D')) := by
  refine Con.of (ls := #[rv p1, rv p2, .val (vj x1), .second, .val .null]) (by decide +kernel) rfl ?_
  show W Z EL _ "com/example/kinpath/kinpath/PathElement" "<init>" _ _ _ _ _ _ _ _ _ _
  refine W.aloadN (pc := 0) d7_0 rfl rfl ?_
  refine W.callI (pc := 1) (as := []) 0 [] d7_1 rfl (w37 hw) (w38 hw) (w40 hw) (w41 hw) (c7_init hw hs (p1 := p1)) (by decide) pd__V rfl rfl rfl rfl (by decide) (fun v D' h => ?_)
  obtain ⟨rfl, rfl⟩ := h
  show W _ _ _ _ _ _ _ _ _ _ _ _ 4 _ []
  refine W.aloadN (pc := 4) d7_4 rfl rfl ?_
  refine W.ldcU (pc := 5) 24 rfl d7_5 (w43 hw) (wS hw) (by decide) (by decide) (by decide) (fun a1 => ?_)
  show W _ _ _ _ _ _ _ _ _ _ _ _ 7 _ [(vr a1), (vr p2)]
  refine W.callS (pc := 7) (as := [(vr p2), (vr a1)]) 0 [] d7_7 (w46 hw) (w47 hw) (w48 hw) (w49 hw) (c8_requireNonEmpty hw hs (p1 := p2) (p2 := a1) (p3 := p3) (x1 := x2) (hx1 := hx2) (x2 := x3) (hx2 := hx3) (mp1 := (mS mp2)) (mp3 := (mS mp3))) (by decide) pd_Ljava_lang_String_Ljava_lang_String__Ljava_lang_String_ rfl rfl rfl rfl (by decide) (fun v D' h => ?_)
  obtain ⟨rfl, rfl⟩ := h
  show W _ _ _ _ _ _ _ _ _ _ _ _ 10 _ [(vr p2)]
  refine W.popv (pc := 10) d7_10 rfl ?_
  refine W.lloadN (pc := 11) d7_11 rfl ?_
  refine W.lconst (pc := 12) (0) d7_12 (by decide) ?_
  refine W.lcmp (pc := 13) d7_13 ?_
  refine W.ifY (pc := 14) 22 d7_14 (yl_ge (by have := Q0; omega)) (by decide) ?_
  refine W.aload (pc := 22) 4 d7_22 rfl rfl ?_
  refine W.ifnullY (pc := 24) 51 d7_24 (by decide) ?_
  refine W.aloadN (pc := 51) d7_51 rfl rfl ?_
  refine W.aloadN (pc := 52) d7_52 rfl rfl ?_
  refine W.putf (pc := 53) (D' := (p1, true, oPathElement (vr p2) (vj 0) .null) :: F) 0 0 d7_53 (w95 hw) Via.refl rfl rfl (Or.inr ⟨(w96 hw), rfl, rfl⟩) (w32 hw) pfLjava_lang_String_ rfl rfl rfl ?_
  refine W.aloadN (pc := 56) d7_56 rfl rfl ?_
  refine W.lloadN (pc := 57) d7_57 rfl ?_
  refine W.putf (pc := 58) (D' := (p1, true, oPathElement (vr p2) (vj x1) .null) :: F) 0 1 d7_58 (w97 hw) Via.refl rfl rfl (Or.inr ⟨(w98 hw), rfl, rfl⟩) (w32 hw) pfJ rfl rfl rfl ?_
  refine W.aloadN (pc := 61) d7_61 rfl rfl ?_
  refine W.aload (pc := 62) 4 d7_62 rfl rfl ?_
  refine W.putf (pc := 64) (D' := (p1, true, oPathElement (vr p2) (vj x1) .null) :: F) 0 2 d7_64 (w99 hw) Via.refl rfl rfl (Or.inr ⟨(w100 hw), rfl, rfl⟩) (w32 hw) pfLjava_lang_String_ rfl rfl rfl ?_
  exact W.return_ (pc := 67) d7_67 rfl (by decide) ⟨rfl, rfl⟩
theorem Q9223372036854775807 : (9223372036854775807 : Int64).toInt = 9223372036854775807 := by decide
theorem amL_9223372036854775807 (x : Int64) : (x &&& (9223372036854775807 : Int64)).toInt = x.toInt % 9223372036854775808 := a_andL x 9223372036854775807 63 9223372036854775808 (by decide) (by decide) (by decide)
theorem pd_Ljava_lang_String_JLjava_lang_String__V : parseMethodDescriptor "(Ljava/lang/String;JLjava/lang/String;)V" = some ⟨[(.object "java/lang/String"), .long, (.object "java/lang/String")], none⟩ := by decide +kernel
theorem w34 {Z a0} (hw : HW a0 Z) : ((Jvm.Cond.methodLink "com/example/kinpath/kinpath/PathElementIsCompletePinLaw" (18 : Nat) ({ cls := "com/example/kinpath/kinpath/PathElement", name := "<init>", desc := "(Ljava/lang/String;JLjava/lang/String;)V" } : Jvm.MethodName)) : Jvm.Cond).before a0 Z = true := hw _ (List.mem_of_getElem? (i := 34) rfl)
theorem w35 {Z a0} (hw : HW a0 Z) : ((Jvm.Cond.instanceMethod ({ cls := "com/example/kinpath/kinpath/PathElement", name := "<init>", desc := "(Ljava/lang/String;JLjava/lang/String;)V" } : Jvm.MethodName)) : Jvm.Cond).before a0 Z = true := hw _ (List.mem_of_getElem? (i := 35) rfl)
theorem w36 {Z a0} (hw : HW a0 Z) : ((Jvm.Cond.code ({ cls := "com/example/kinpath/kinpath/PathElement", name := "<init>", desc := "(Ljava/lang/String;JLjava/lang/String;)V" } : Jvm.MethodName) prog_14_method_1_code (5 : Nat) (Option.none : Option Jvm.ClassFile.FieldType)) : Jvm.Cond).before a0 Z = true := hw _ (List.mem_of_getElem? (i := 36) rfl)
theorem d20_0 : decode prog_14_method_6_code 0 = .ok (.aload_n 0, 1) := by decide +kernel
theorem d20_1 : decode prog_14_method_6_code 1 = .ok (.getfield 34, 3) := by decide +kernel
theorem d20_4 : decode prog_14_method_6_code 4 = .ok (.lconst 0, 1) := by decide +kernel
theorem d20_5 : decode prog_14_method_6_code 5 = .ok (.lcmp, 1) := by decide +kernel
theorem d20_6 : decode prog_14_method_6_code 6 = .ok (.ifCond .ne 10, 3) := by decide +kernel
theorem d20_16 : decode prog_14_method_6_code 16 = .ok (.iconst 1, 1) := by decide +kernel
theorem d20_17 : decode prog_14_method_6_code 17 = .ok (.goto 4, 3) := by decide +kernel
theorem d20_21 : decode prog_14_method_6_code 21 = .ok (.ireturn, 1) := by decide +kernel
theorem d20_9 : decode prog_14_method_6_code 9 = .ok (.aload_n 0, 1) := by decide +kernel
theorem d20_10 : decode prog_14_method_6_code 10 = .ok (.getfield 38, 3) := by decide +kernel
theorem d20_13 : decode prog_14_method_6_code 13 = .ok (.ifnull 7, 3) := by decide +kernel
theorem d20_20 : decode prog_14_method_6_code 20 = .ok (.iconst 0, 1) := by decide +kernel
theorem c23_isComplete {Z a0} (hw : HW a0 Z) (hs : SF Z) {p1 p2 p3 : Addr} {x1 : Int64} (hx1 : 0 ≤ x1.toInt ∧ x1.toInt ≤ 9223372036854775807) {x2 : Int32} (hx2 : -128 ≤ x2.toInt ∧ x2.toInt ≤ 127) {x3 : Int32} (hx3 : -128 ≤ x3.toInt ∧ x3.toInt ≤ 127) {w_p1 : Bool} {F : List Ent} (mp1 : (p1, w_p1, oPathElement (vr p2) (vj x1) .null) ∈ F) : Con Z EL (⟨"com/example/kinpath/kinpath/PathElement", "isComplete", "()Z"⟩ : MethodName) prog_14_method_6_code 1 (Option.some Jvm.ClassFile.FieldType.boolean) (rmm 0 0 0 0) [(vr p1)] (F) (fun v D' => (Cd .ne (XT.cmpL x1 (0 : Int64)) (0 : Int32) ∧ v = some (vi 1) ∧ F = D') ∨ (¬ Cd .ne (XT.cmpL x1 (0 : Int64)) (0 : Int32) ∧ v = some (vi 0) ∧ F = D')) := by
  refine Con.of (ls := #[rv p1]) (by decide +kernel) rfl ?_
  show W Z EL _ "com/example/kinpath/kinpath/PathElement" "isComplete" _ _ _ _ _ _ _ _ _ _
  refine W.aloadN (pc := 0) d20_0 rfl rfl ?_
  refine W.getf (pc := 1) d20_1 (w97 hw) Via.refl mp1 m1 ?_
  refine W.lconst (pc := 4) (0) d20_4 (by decide) ?_
  refine W.lcmp (pc := 5) d20_5 ?_
  refine W.if (pc := 6) 16 d20_6 (by decide) (fun h1 => ?_) (fun h1 => ?_)
  ·
   have ih1 := tl_ne h1
   refine W.iconst (pc := 16) (1) d20_16 (by decide) ?_
   refine W.goto (pc := 17) 21 d20_17 (by decide) ?_
   exact W.ireturn (pc := 21) d20_21 rfl (Or.inr (Or.inl rfl)) (nw_bool (by decide)) (by decide) (Or.inl ⟨h1, rfl, rfl⟩)
  ·
   have ih1 := fl_ne h1
   refine W.aloadN (pc := 9) d20_9 rfl rfl ?_
   refine W.getf (pc := 10) d20_10 (w99 hw) Via.refl mp1 m2 ?_
   refine W.ifnullY (pc := 13) 20 d20_13 (by decide) ?_
   refine W.iconst (pc := 20) (0) d20_20 (by decide) ?_
   exact W.ireturn (pc := 21) d20_21 rfl (Or.inr (Or.inl rfl)) (nw_bool (by decide)) (by decide) (Or.inr ⟨h1, rfl, rfl⟩)
theorem w101 {Z a0} (hw : HW a0 Z) : ((Jvm.Cond.methodLink "com/example/kinpath/kinpath/PathElementIsCompletePinLaw" (21 : Nat) ({ cls := "com/example/kinpath/kinpath/PathElement", name := "isComplete", desc := "()Z" } : Jvm.MethodName)) : Jvm.Cond).before a0 Z = true := hw _ (List.mem_of_getElem? (i := 101) rfl)
theorem w102 {Z a0} (hw : HW a0 Z) : ((Jvm.Cond.declares ({ cls := "com/example/kinpath/kinpath/PathElement", name := "isComplete", desc := "()Z" } : Jvm.MethodName)) : Jvm.Cond).before a0 Z = true := hw _ (List.mem_of_getElem? (i := 102) rfl)
theorem w104 {Z a0} (hw : HW a0 Z) : ((Jvm.Cond.selects "com/example/kinpath/kinpath/PathElement" ({ cls := "com/example/kinpath/kinpath/PathElement", name := "isComplete", desc := "()Z" } : Jvm.MethodName) ({ cls := "com/example/kinpath/kinpath/PathElement", name := "isComplete", desc := "()Z" } : Jvm.MethodName)) : Jvm.Cond).before a0 Z = true := hw _ (List.mem_of_getElem? (i := 104) rfl)
theorem w103 {Z a0} (hw : HW a0 Z) : ((Jvm.Cond.instanceMethod ({ cls := "com/example/kinpath/kinpath/PathElement", name := "isComplete", desc := "()Z" } : Jvm.MethodName)) : Jvm.Cond).before a0 Z = true := hw _ (List.mem_of_getElem? (i := 103) rfl)
theorem w105 {Z a0} (hw : HW a0 Z) : ((Jvm.Cond.code ({ cls := "com/example/kinpath/kinpath/PathElement", name := "isComplete", desc := "()Z" } : Jvm.MethodName) prog_14_method_6_code (1 : Nat) (Option.some Jvm.ClassFile.FieldType.boolean)) : Jvm.Cond).before a0 Z = true := hw _ (List.mem_of_getElem? (i := 105) rfl)
theorem c24_init {Z a0} (hw : HW a0 Z) (hs : SF Z) {p1 p2 p3 : Addr} {x1 : Int32} (hx1 : -128 ≤ x1.toInt ∧ x1.toInt ≤ 127) {x2 : Int32} (hx2 : -128 ≤ x2.toInt ∧ x2.toInt ≤ 127) {w_p2 : Bool} {w_p3 : Bool} {ad_p3 : String} {F : List Ent} (mp2 : (p2, w_p2, oString (vr p3) (vi 0)) ∈ F) (mp3 : (p3, w_p3, ar ad_p3 .byte [(vi x1), (vi x2)]) ∈ F) : Con Z EL (⟨"com/example/kinpath/kinpath/PathElement", "<init>", "(Ljava/lang/String;JLjava/lang/String;)V"⟩ : MethodName) prog_14_method_1_code 5 (Option.none : Option Jvm.ClassFile.FieldType) (rmm 6 2 28 81) [(vr p1), (vr p2), (vj 0), .null] ((p1, true, oPathElement .null (vj 0) .null) :: F) (fun v D' => (v = none ∧ (p1, true, oPathElement (vr p2) (vj 0) .null) :: F = D')) := by
  refine Con.of (ls := #[rv p1, rv p2, .val (vj 0), .second, .val .null]) (by decide +kernel) rfl ?_
  show W Z EL _ "com/example/kinpath/kinpath/PathElement" "<init>" _ _ _ _ _ _ _ _ _ _
  refine W.aloadN (pc := 0) d7_0 rfl rfl ?_
  refine W.callI (pc := 1) (as := []) 0 [] d7_1 rfl (w37 hw) (w38 hw) (w40 hw) (w41 hw) (c7_init hw hs (p1 := p1)) (by decide) pd__V rfl rfl rfl rfl (by decide) (fun v D' h => ?_)
  obtain ⟨rfl, rfl⟩ := h
  show W _ _ _ _ _ _ _ _ _ _ _ _ 4 _ []
  refine W.aloadN (pc := 4) d7_4 rfl rfl ?_
  refine W.ldcU (pc := 5) 24 rfl d7_5 (w43 hw) (wS hw) (by decide) (by decide) (by decide) (fun a1 => ?_)
  show W _ _ _ _ _ _ _ _ _ _ _ _ 7 _ [(vr a1), (vr p2)]
  refine W.callS (pc := 7) (as := [(vr p2), (vr a1)]) 0 [] d7_7 (w46 hw) (w47 hw) (w48 hw) (w49 hw) (c8_requireNonEmpty hw hs (p1 := p2) (p2 := a1) (p3 := p3) (x1 := x1) (hx1 := hx1) (x2 := x2) (hx2 := hx2) (mp1 := (mS mp2)) (mp3 := (mS mp3))) (by decide) pd_Ljava_lang_String_Ljava_lang_String__Ljava_lang_String_ rfl rfl rfl rfl (by decide) (fun v D' h => ?_)
  obtain ⟨rfl, rfl⟩ := h
  show W _ _ _ _ _ _ _ _ _ _ _ _ 10 _ [(vr p2)]
  refine W.popv (pc := 10) d7_10 rfl ?_
  refine W.lloadN (pc := 11) d7_11 rfl ?_
  refine W.lconst (pc := 12) (0) d7_12 (by decide) ?_
  refine W.lcmpK (pc := 13) (0 : Int32) d7_13 (by decide) ?_
  refine W.ifY (pc := 14) 22 d7_14 (y_ge (by decide)) (by decide) ?_
  refine W.aload (pc := 22) 4 d7_22 rfl rfl ?_
  refine W.ifnullY (pc := 24) 51 d7_24 (by decide) ?_
  refine W.aloadN (pc := 51) d7_51 rfl rfl ?_
  refine W.aloadN (pc := 52) d7_52 rfl rfl ?_
  refine W.putf (pc := 53) (D' := (p1, true, oPathElement (vr p2) (vj 0) .null) :: F) 0 0 d7_53 (w95 hw) Via.refl rfl rfl (Or.inr ⟨(w96 hw), rfl, rfl⟩) (w32 hw) pfLjava_lang_String_ rfl rfl rfl ?_
  refine W.aloadN (pc := 56) d7_56 rfl rfl ?_
  refine W.lloadN (pc := 57) d7_57 rfl ?_
  refine W.putf (pc := 58) (D' := (p1, true, oPathElement (vr p2) (vj 0) .null) :: F) 0 1 d7_58 (w97 hw) Via.refl rfl rfl (Or.inr ⟨(w98 hw), rfl, rfl⟩) (w32 hw) pfJ rfl rfl rfl ?_
  refine W.aloadN (pc := 61) d7_61 rfl rfl ?_
  refine W.aload (pc := 62) 4 d7_62 rfl rfl ?_
  refine W.putf (pc := 64) (D' := (p1, true, oPathElement (vr p2) (vj 0) .null) :: F) 0 2 d7_64 (w99 hw) Via.refl rfl rfl (Or.inr ⟨(w100 hw), rfl, rfl⟩) (w32 hw) pfLjava_lang_String_ rfl rfl rfl ?_
  exact W.return_ (pc := 67) d7_67 rfl (by decide) ⟨rfl, rfl⟩
theorem c25_isComplete {Z a0} (hw : HW a0 Z) (hs : SF Z) {p1 p2 p3 : Addr} {x1 : Int32} (hx1 : -128 ≤ x1.toInt ∧ x1.toInt ≤ 127) {x2 : Int32} (hx2 : -128 ≤ x2.toInt ∧ x2.toInt ≤ 127) {w_p1 : Bool} {F : List Ent} (mp1 : (p1, w_p1, oPathElement (vr p2) (vj 0) .null) ∈ F) : Con Z EL (⟨"com/example/kinpath/kinpath/PathElement", "isComplete", "()Z"⟩ : MethodName) prog_14_method_6_code 1 (Option.some Jvm.ClassFile.FieldType.boolean) (rmm 0 0 0 0) [(vr p1)] (F) (fun v D' => (v = some (vi 0) ∧ F = D')) := by
  refine Con.of (ls := #[rv p1]) (by decide +kernel) rfl ?_
  show W Z EL _ "com/example/kinpath/kinpath/PathElement" "isComplete" _ _ _ _ _ _ _ _ _ _
  refine W.aloadN (pc := 0) d20_0 rfl rfl ?_
  refine W.getf (pc := 1) d20_1 (w97 hw) Via.refl mp1 m1 ?_
  refine W.lconst (pc := 4) (0) d20_4 (by decide) ?_
  refine W.lcmpK (pc := 5) (0 : Int32) d20_5 (by decide) ?_
  refine W.ifN (pc := 6) d20_6 (n_ne (by decide)) ?_
  refine W.aloadN (pc := 9) d20_9 rfl rfl ?_
  refine W.getf (pc := 10) d20_10 (w99 hw) Via.refl mp1 m2 ?_
  refine W.ifnullY (pc := 13) 20 d20_13 (by decide) ?_
  refine W.iconst (pc := 20) (0) d20_20 (by decide) ?_
  exact W.ireturn (pc := 21) d20_21 rfl (Or.inr (Or.inl rfl)) (nw_bool (by decide)) (by decide) ⟨rfl, rfl⟩
theorem d7_27 : decode prog_14_method_1_code 27 = .ok (.lload_n 2, 1) := by decide +kernel
theorem d7_28 : decode prog_14_method_1_code 28 = .ok (.lconst 0, 1) := by decide +kernel
theorem d7_29 : decode prog_14_method_1_code 29 = .ok (.lcmp, 1) := by decide +kernel
theorem d7_30 : decode prog_14_method_1_code 30 = .ok (.ifCond .eq 13, 3) := by decide +kernel
theorem d7_43 : decode prog_14_method_1_code 43 = .ok (.aload 4, 2) := by decide +kernel
theorem d7_45 : decode prog_14_method_1_code 45 = .ok (.ldc 28, 2) := by decide +kernel
theorem w106 {Z a0} (hw : HW a0 Z) : ((Jvm.Cond.stringLink "com/example/kinpath/kinpath/PathElement" (28 : Nat) "a key name") : Jvm.Cond).before a0 Z = true := hw _ (List.mem_of_getElem? (i := 106) rfl)
theorem d7_47 : decode prog_14_method_1_code 47 = .ok (.invokestatic 9, 3) := by decide +kernel
theorem d7_50 : decode prog_14_method_1_code 50 = .ok (.pop, 1) := by decide +kernel
theorem c26_init {Z a0} (hw : HW a0 Z) (hs : SF Z) {p1 p2 p3 p4 p5 : Addr} {x1 : Int32} (hx1 : -128 ≤ x1.toInt ∧ x1.toInt ≤ 127) {x2 : Int32} (hx2 : -128 ≤ x2.toInt ∧ x2.toInt ≤ 127) {x3 : Int32} (hx3 : -128 ≤ x3.toInt ∧ x3.toInt ≤ 127) {x4 : Int32} (hx4 : -128 ≤ x4.toInt ∧ x4.toInt ≤ 127) {w_p2 : Bool} {w_p4 : Bool} {ad_p4 : String} {w_p3 : Bool} {w_p5 : Bool} {ad_p5 : String} {F : List Ent} (mp2 : (p2, w_p2, oString (vr p4) (vi 0)) ∈ F) (mp4 : (p4, w_p4, ar ad_p4 .byte [(vi x1), (vi x2)]) ∈ F) (mp3 : (p3, w_p3, oString (vr p5) (vi 0)) ∈ F) (mp5 : (p5, w_p5, ar ad_p5 .byte [(vi x3), (vi x4)]) ∈ F) : Con Z EL (⟨"com/example/kinpath/kinpath/PathElement", "<init>", "(Ljava/lang/String;JLjava/lang/String;)V"⟩ : MethodName) prog_14_method_1_code 5 (Option.none : Option Jvm.ClassFile.FieldType) (rmm 6 4 72 81) [(vr p1), (vr p2), (vj 0), (vr p3)] ((p1, true, oPathElement .null (vj 0) .null) :: F) (fun v D' => (v = none ∧ (p1, true, oPathElement (vr p2) (vj 0) (vr p3)) :: F = D')) := by
  refine Con.of (ls := #[rv p1, rv p2, .val (vj 0), .second, rv p3]) (by decide +kernel) rfl ?_
  show W Z EL _ "com/example/kinpath/kinpath/PathElement" "<init>" _ _ _ _ _ _ _ _ _ _
  refine W.aloadN (pc := 0) d7_0 rfl rfl ?_
  refine W.callI (pc := 1) (as := []) 0 [] d7_1 rfl (w37 hw) (w38 hw) (w40 hw) (w41 hw) (c7_init hw hs (p1 := p1)) (by decide) pd__V rfl rfl rfl rfl (by decide) (fun v D' h => ?_)
  obtain ⟨rfl, rfl⟩ := h
  show W _ _ _ _ _ _ _ _ _ _ _ _ 4 _ []
  refine W.aloadN (pc := 4) d7_4 rfl rfl ?_
  refine W.ldcU (pc := 5) 24 rfl d7_5 (w43 hw) (wS hw) (by decide) (by decide) (by decide) (fun a1 => ?_)
  show W _ _ _ _ _ _ _ _ _ _ _ _ 7 _ [(vr a1), (vr p2)]
  refine W.callS (pc := 7) (as := [(vr p2), (vr a1)]) 0 [] d7_7 (w46 hw) (w47 hw) (w48 hw) (w49 hw) (c8_requireNonEmpty hw hs (p1 := p2) (p2 := a1) (p3 := p4) (x1 := x1) (hx1 := hx1) (x2 := x2) (hx2 := hx2) (mp1 := (mS mp2)) (mp3 := (mS mp4))) (by decide) pd_Ljava_lang_String_Ljava_lang_String__Ljava_lang_String_ rfl rfl rfl rfl (by decide) (fun v D' h => ?_)
  obtain ⟨rfl, rfl⟩ := h
  show W _ _ _ _ _ _ _ _ _ _ _ _ 10 _ [(vr p2)]
  refine W.popv (pc := 10) d7_10 rfl ?_
  refine W.lloadN (pc := 11) d7_11 rfl ?_
  refine W.lconst (pc := 12) (0) d7_12 (by decide) ?_
  refine W.lcmpK (pc := 13) (0 : Int32) d7_13 (by decide) ?_
  refine W.ifY (pc := 14) 22 d7_14 (y_ge (by decide)) (by decide) ?_
  refine W.aload (pc := 22) 4 d7_22 rfl rfl ?_
  refine W.ifnullN (pc := 24) d7_24 ?_
  refine W.lloadN (pc := 27) d7_27 rfl ?_
  refine W.lconst (pc := 28) (0) d7_28 (by decide) ?_
  refine W.lcmpK (pc := 29) (0 : Int32) d7_29 (by decide) ?_
  refine W.ifY (pc := 30) 43 d7_30 (y_eq (by decide)) (by decide) ?_
  refine W.aload (pc := 43) 4 d7_43 rfl rfl ?_
  refine W.ldcU (pc := 45) 40 rfl d7_45 (w106 hw) (wS hw) (by decide) (by decide) (by decide) (fun a2 => ?_)
  show W _ _ _ _ _ _ _ _ _ _ _ _ 47 _ [(vr a2), (vr p3)]
  refine W.callS (pc := 47) (as := [(vr p3), (vr a2)]) 0 [] d7_47 (w46 hw) (w47 hw) (w48 hw) (w49 hw) (c8_requireNonEmpty hw hs (p1 := p3) (p2 := a2) (p3 := p5) (x1 := x3) (hx1 := hx3) (x2 := x4) (hx2 := hx4) (mp1 := (mS mp3)) (mp3 := (mS mp5))) (by decide) pd_Ljava_lang_String_Ljava_lang_String__Ljava_lang_String_ rfl rfl rfl rfl (by decide) (fun v D' h => ?_)
  obtain ⟨rfl, rfl⟩ := h
  show W _ _ _ _ _ _ _ _ _ _ _ _ 50 _ [(vr p3)]
  refine W.popv (pc := 50) d7_50 rfl ?_
  refine W.aloadN (pc := 51) d7_51 rfl rfl ?_
  refine W.aloadN (pc := 52) d7_52 rfl rfl ?_
  refine W.putf (pc := 53) (D' := (p1, true, oPathElement (vr p2) (vj 0) .null) :: F) 0 0 d7_53 (w95 hw) Via.refl rfl rfl (Or.inr ⟨(w96 hw), rfl, rfl⟩) (w32 hw) pfLjava_lang_String_ rfl rfl rfl ?_
  refine W.aloadN (pc := 56) d7_56 rfl rfl ?_
  refine W.lloadN (pc := 57) d7_57 rfl ?_
  refine W.putf (pc := 58) (D' := (p1, true, oPathElement (vr p2) (vj 0) .null) :: F) 0 1 d7_58 (w97 hw) Via.refl rfl rfl (Or.inr ⟨(w98 hw), rfl, rfl⟩) (w32 hw) pfJ rfl rfl rfl ?_
  refine W.aloadN (pc := 61) d7_61 rfl rfl ?_
  refine W.aload (pc := 62) 4 d7_62 rfl rfl ?_
  refine W.putf (pc := 64) (D' := (p1, true, oPathElement (vr p2) (vj 0) (vr p3)) :: F) 0 2 d7_64 (w99 hw) Via.refl rfl rfl (Or.inr ⟨(w100 hw), rfl, rfl⟩) (w32 hw) pfLjava_lang_String_ rfl rfl rfl ?_
  exact W.return_ (pc := 67) d7_67 rfl (by decide) ⟨rfl, rfl⟩
theorem c27_isComplete {Z a0} (hw : HW a0 Z) (hs : SF Z) {p1 p2 p3 p4 p5 : Addr} {x1 : Int32} (hx1 : -128 ≤ x1.toInt ∧ x1.toInt ≤ 127) {x2 : Int32} (hx2 : -128 ≤ x2.toInt ∧ x2.toInt ≤ 127) {x3 : Int32} (hx3 : -128 ≤ x3.toInt ∧ x3.toInt ≤ 127) {x4 : Int32} (hx4 : -128 ≤ x4.toInt ∧ x4.toInt ≤ 127) {w_p1 : Bool} {F : List Ent} (mp1 : (p1, w_p1, oPathElement (vr p2) (vj 0) (vr p3)) ∈ F) : Con Z EL (⟨"com/example/kinpath/kinpath/PathElement", "isComplete", "()Z"⟩ : MethodName) prog_14_method_6_code 1 (Option.some Jvm.ClassFile.FieldType.boolean) (rmm 0 0 0 0) [(vr p1)] (F) (fun v D' => (v = some (vi 1) ∧ F = D')) := by
  refine Con.of (ls := #[rv p1]) (by decide +kernel) rfl ?_
  show W Z EL _ "com/example/kinpath/kinpath/PathElement" "isComplete" _ _ _ _ _ _ _ _ _ _
  refine W.aloadN (pc := 0) d20_0 rfl rfl ?_
  refine W.getf (pc := 1) d20_1 (w97 hw) Via.refl mp1 m1 ?_
  refine W.lconst (pc := 4) (0) d20_4 (by decide) ?_
  refine W.lcmpK (pc := 5) (0 : Int32) d20_5 (by decide) ?_
  refine W.ifN (pc := 6) d20_6 (n_ne (by decide)) ?_
  refine W.aloadN (pc := 9) d20_9 rfl rfl ?_
  refine W.getf (pc := 10) d20_10 (w99 hw) Via.refl mp1 m2 ?_
  refine W.ifnullN (pc := 13) d20_13 ?_
  refine W.iconst (pc := 16) (1) d20_16 (by decide) ?_
  refine W.goto (pc := 17) 21 d20_17 (by decide) ?_
  exact W.ireturn (pc := 21) d20_21 rfl (Or.inr (Or.inl rfl)) (nw_bool (by decide)) (by decide) ⟨rfl, rfl⟩
set_option maxHeartbeats 4000000 in
theorem lawW {Z a0} (hw : HW a0 Z) (hs : SF Z) (z0 : Int64) (z1 : Int32) (z2 : Int32) (z3 : Int32) : Con Z EL x code maxLocals ret room_1 [(vj z0), (vi z1), (vi z2), (vi z3)] ([]) (fun v _ => v = some (.int 1)) := by
  refine Con.of (ls := #[.val (vj z0), .second, iv z1, iv z2, iv z3, uu, uu, uu, uu, uu, uu, uu, uu, uu, uu, uu]) (by decide +kernel) rfl ?_
  show W Z EL _ "com/example/kinpath/kinpath/PathElementIsCompletePinLaw" "law" _ _ _ _ _ _ _ _ _ _
  refine W.iloadN (pc := 0) at_0 rfl ?_
  refine W.iconst (pc := 1) (1) at_1 (by decide) ?_
  refine W.iand (pc := 2) at_2 ?_
  refine W.if (pc := 3) 10 at_3 (by decide) (fun h1 => ?_) (fun h1 => ?_)
  ·
   have ih1 := t_eq h1
   refine W.iconst (pc := 10) (0) at_10 (by decide) ?_
   refine W.istore (pc := 11) (ls' := #[.val (vj z0), .second, iv z1, iv z2, iv z3, iv 0, uu, uu, uu, uu, uu, uu, uu, uu, uu, uu]) at_11 rfl ?_
   refine W.iloadN (pc := 13) at_13 rfl ?_
   refine W.iconst (pc := 14) (2) at_14 (by decide) ?_
   refine W.iand (pc := 15) at_15 ?_
   refine W.if (pc := 16) 23 at_16 (by decide) (fun h2 => ?_) (fun h2 => ?_)
   ·
    have ih2 := t_eq h2
    refine W.iconst (pc := 23) (0) at_23 (by decide) ?_
    refine W.istore (pc := 24) (ls' := #[.val (vj z0), .second, iv z1, iv z2, iv z3, iv 0, iv 0, uu, uu, uu, uu, uu, uu, uu, uu, uu]) at_24 rfl ?_
    refine W.lloadN (pc := 26) at_26 rfl ?_
    refine W.ldc2J (pc := 27) at_27 (w0 hw) ?_
    refine W.land (pc := 30) at_30 ?_
    refine W.lstore (pc := 31) (ls' := #[.val (vj z0), .second, iv z1, iv z2, iv z3, iv 0, iv 0, .val (vj (z0 &&& (9223372036854775807 : Int64))), .second, uu, uu, uu, uu, uu, uu, uu]) at_31 rfl ?_
    refine W.iload (pc := 33) at_33 rfl ?_
    refine W.ifN (pc := 35) at_35 (n_ne (by decide)) ?_
    refine W.iload (pc := 38) at_38 rfl ?_
    refine W.ifY (pc := 40) 47 at_40 (y_eq (by decide)) (by decide) ?_
    refine W.lload (pc := 47) at_47 rfl ?_
    refine W.lstore (pc := 49) (ls' := #[.val (vj z0), .second, iv z1, iv z2, iv z3, iv 0, iv 0, .val (vj (z0 &&& (9223372036854775807 : Int64))), .second, .val (vj (z0 &&& (9223372036854775807 : Int64))), .second, uu, uu, uu, uu, uu]) at_49 rfl ?_
    refine W.iconst (pc := 51) (2) at_51 (by decide) ?_
    refine W.newarr (pc := 52) 2 (ad := "[C") (ty := .char) at_52 rfl (w1 hw) ix2 rfl (by decide) (by decide) (fun a1 => ?_)
    show W _ _ _ _ _ _ _ _ _ _ _ _ 54 _ [(vr a1)]
    refine W.astore (pc := 54) (ls' := #[.val (vj z0), .second, iv z1, iv z2, iv z3, iv 0, iv 0, .val (vj (z0 &&& (9223372036854775807 : Int64))), .second, .val (vj (z0 &&& (9223372036854775807 : Int64))), .second, rv a1, uu, uu, uu, uu]) at_54 rfl rfl ?_
    refine W.aload (pc := 56) 11 at_56 rfl rfl ?_
    refine W.iconst (pc := 58) (0) at_58 (by decide) ?_
    refine W.iloadN (pc := 59) at_59 rfl ?_
    refine W.sipush (pc := 60) (255) at_60 (by decide) ?_
    refine W.iand (pc := 63) at_63 ?_
    refine W.i2cK (pc := 64) (z2 &&& (255 : Int32)) at_64 (z_i2c (by have := rng32 z2; have := q255; have := am_255 z2; have := rng32 z1; have := q1; have := am_1 z1; have := q0; have := q2; have := c_and z1 (2 : Int32); have := rng32 (z1 &&& (2 : Int32)); omega)) ?_
    refine W.castore (pc := 65) (D' := (a1, true, ar "[C" .char [(vi (z2 &&& (255 : Int32))), (vi 0)]) :: []) 0 0 at_65 rfl ix0 (Nat.le_of_ble_eq_true rfl) (z_narC (by have := rng32 z2; have := q255; have := am_255 z2; have := rng32 z1; have := q1; have := am_1 z1; have := q0; have := q2; have := c_and z1 (2 : Int32); have := rng32 (z1 &&& (2 : Int32)); omega)) rfl ?_
    refine W.aload (pc := 66) 11 at_66 rfl rfl ?_
    refine W.iconst (pc := 68) (1) at_68 (by decide) ?_
    refine W.iloadN (pc := 69) at_69 rfl ?_
    refine W.bipush (pc := 70) (8) at_70 (by decide) ?_
    refine W.iushr (pc := 72) at_72 ?_
    refine W.sipush (pc := 73) (255) at_73 (by decide) ?_
    refine W.iand (pc := 76) at_76 ?_
    refine W.i2cK (pc := 77) ((XT.ushr z2 (8 : Int32)) &&& (255 : Int32)) at_77 (z_i2c (by have := rng32 z2; have := q8; have := aushr_8 z2; have := q255; have := am_255 (XT.ushr z2 (8 : Int32)); have := rng32 z1; have := q1; have := am_1 z1; have := q0; have := q2; have := c_and z1 (2 : Int32); have := rng32 (z1 &&& (2 : Int32)); omega)) ?_
    refine W.castore (pc := 78) (D' := (a1, true, ar "[C" .char [(vi (z2 &&& (255 : Int32))), (vi ((XT.ushr z2 (8 : Int32)) &&& (255 : Int32)))]) :: []) 0 1 at_78 rfl ix1 (Nat.le_of_ble_eq_true rfl) (z_narC (by have := rng32 z2; have := q8; have := aushr_8 z2; have := q255; have := am_255 (XT.ushr z2 (8 : Int32)); have := rng32 z1; have := q1; have := am_1 z1; have := q0; have := q2; have := c_and z1 (2 : Int32); have := rng32 (z1 &&& (2 : Int32)); omega)) rfl ?_
    refine W.new (pc := 79) at_79 (w2 hw) (w3 hw) (w4 hw) (laString hw) (by decide) (by decide) (fun a2 => ?_)
    show W _ _ _ _ _ _ _ _ _ _ _ _ 82 _ [(vr a2)]
    refine W.dup (pc := 82) at_82 rfl ?_
    refine W.aload (pc := 83) 11 at_83 rfl rfl ?_
    refine W.callI (pc := 85) (as := [(vr a1)]) 1 [(vr a2)] at_85 rfl (w5 hw) (w6 hw) (w4 hw) (w7 hw) (c1_init hw hs (p1 := a2) (p2 := a1) (x1 := (z2 &&& (255 : Int32))) (hx1 := (by have := rng32 z2; have := q255; have := am_255 z2; have := rng32 z1; have := q1; have := am_1 z1; have := q0; have := q2; have := c_and z1 (2 : Int32); have := rng32 (z1 &&& (2 : Int32)); omega)) (x2 := ((XT.ushr z2 (8 : Int32)) &&& (255 : Int32))) (hx2 := (by have := rng32 z2; have := q8; have := aushr_8 z2; have := q255; have := am_255 (XT.ushr z2 (8 : Int32)); have := rng32 z1; have := q1; have := am_1 z1; have := q0; have := q2; have := c_and z1 (2 : Int32); have := rng32 (z1 &&& (2 : Int32)); omega)) (mp2 := m0)) (by decide) pd__C_V rfl rfl rfl rfl (by decide) (fun v D' h => ?_)
    obtain ⟨a3, rfl, rfl⟩ := h
    show W _ _ _ _ _ _ _ _ _ _ _ _ 88 _ [(vr a2)]
    refine W.astore (pc := 88) (ls' := #[.val (vj z0), .second, iv z1, iv z2, iv z3, iv 0, iv 0, .val (vj (z0 &&& (9223372036854775807 : Int64))), .second, .val (vj (z0 &&& (9223372036854775807 : Int64))), .second, rv a1, rv a2, uu, uu, uu]) at_88 rfl rfl ?_
    refine W.aconstNull (pc := 90) at_90 ?_
    refine W.astore (pc := 91) (ls' := #[.val (vj z0), .second, iv z1, iv z2, iv z3, iv 0, iv 0, .val (vj (z0 &&& (9223372036854775807 : Int64))), .second, .val (vj (z0 &&& (9223372036854775807 : Int64))), .second, rv a1, rv a2, .val .null, uu, uu]) at_91 rfl rfl ?_
    refine W.iload (pc := 93) at_93 rfl ?_
    refine W.ifY (pc := 95) 139 at_95 (y_eq (by decide)) (by decide) ?_
    refine W.new (pc := 139) at_139 (w31 hw) (w32 hw) (w33 hw) (laPathElement hw) (by decide) (by decide) (fun a4 => ?_)
    show W _ _ _ _ _ _ _ _ _ _ _ _ 142 _ [(vr a4)]
    refine W.dup (pc := 142) at_142 rfl ?_
    refine W.aload (pc := 143) 12 at_143 rfl rfl ?_
    refine W.lload (pc := 145) at_145 rfl ?_
    refine W.aload (pc := 147) 13 at_147 rfl rfl ?_
    refine W.callI (pc := 149) (as := [(vr a2), (vj (z0 &&& (9223372036854775807 : Int64))), .null]) 1 [(vr a4)] at_149 rfl (w34 hw) (w35 hw) (w33 hw) (w36 hw) (c6_init hw hs (p1 := a4) (p2 := a2) (p3 := a3) (x1 := (z0 &&& (9223372036854775807 : Int64))) (hx1 := (by have := rng64 z0; have := Q9223372036854775807; have := amL_9223372036854775807 z0; have := rng32 z1; have := q1; have := am_1 z1; have := q0; have := q2; have := c_and z1 (2 : Int32); have := rng32 (z1 &&& (2 : Int32)); omega)) (x2 := (z2 &&& (255 : Int32)).toInt8.toInt32) (hx2 := (by have := rng32 z2; have := q255; have := am_255 z2; have := a_i2b (z2 &&& (255 : Int32)); have := rng32 z1; have := q1; have := am_1 z1; have := q0; have := q2; have := c_and z1 (2 : Int32); have := rng32 (z1 &&& (2 : Int32)); omega)) (x3 := ((XT.ushr z2 (8 : Int32)) &&& (255 : Int32)).toInt8.toInt32) (hx3 := (by have := rng32 z2; have := q8; have := aushr_8 z2; have := q255; have := am_255 (XT.ushr z2 (8 : Int32)); have := a_i2b ((XT.ushr z2 (8 : Int32)) &&& (255 : Int32)); have := rng32 z1; have := q1; have := am_1 z1; have := q0; have := q2; have := c_and z1 (2 : Int32); have := rng32 (z1 &&& (2 : Int32)); omega)) (mp2 := m1) (mp3 := m0)) (by decide) pd_Ljava_lang_String_JLjava_lang_String__V rfl rfl rfl rfl (by decide) (fun v D' h => ?_)
    obtain ⟨rfl, rfl⟩ := h
    show W _ _ _ _ _ _ _ _ _ _ _ _ 152 _ [(vr a4)]
    refine W.astore (pc := 152) (ls' := #[.val (vj z0), .second, iv z1, iv z2, iv z3, iv 0, iv 0, .val (vj (z0 &&& (9223372036854775807 : Int64))), .second, .val (vj (z0 &&& (9223372036854775807 : Int64))), .second, rv a1, rv a2, .val .null, rv a4, uu]) at_152 rfl rfl ?_
    refine W.iload (pc := 154) at_154 rfl ?_
    refine W.ifY (pc := 156) 165 at_156 (y_eq (by decide)) (by decide) ?_
    refine W.iload (pc := 165) at_165 rfl ?_
    refine W.ifY (pc := 167) 176 at_167 (y_eq (by decide)) (by decide) ?_
    refine W.lload (pc := 176) at_176 rfl ?_
    refine W.lconst (pc := 178) (0) at_178 (by decide) ?_
    refine W.lcmp (pc := 179) at_179 ?_
    refine W.if (pc := 180) 187 at_180 (by decide) (fun h3 => ?_) (fun h3 => ?_)
    ·
     have ih3 := tl_le h3
     refine W.iconst (pc := 187) (0) at_187 (by decide) ?_
     refine W.istore (pc := 188) (ls' := #[.val (vj z0), .second, iv z1, iv z2, iv z3, iv 0, iv 0, .val (vj (z0 &&& (9223372036854775807 : Int64))), .second, .val (vj (z0 &&& (9223372036854775807 : Int64))), .second, rv a1, rv a2, .val .null, rv a4, iv 0]) at_188 rfl ?_
     refine W.aload (pc := 190) 14 at_190 rfl rfl ?_
     refine W.callV (pc := 192) (as := []) 0 [] at_192 (w101 hw) (w102 hw) (w104 hw) (w104 hw) (w103 hw) (w33 hw) (w105 hw) (Hp.exa m0) (c23_isComplete hw hs (p1 := a4) (p2 := a2) (p3 := a3) (x1 := (z0 &&& (9223372036854775807 : Int64))) (hx1 := (by have := rng64 z0; have := Q9223372036854775807; have := amL_9223372036854775807 z0; have := rng32 z1; have := q1; have := am_1 z1; have := q0; have := q2; have := c_and z1 (2 : Int32); have := rng32 (z1 &&& (2 : Int32)); have := Q0; omega)) (x2 := (z2 &&& (255 : Int32)).toInt8.toInt32) (hx2 := (by have := rng32 z2; have := q255; have := am_255 z2; have := a_i2b (z2 &&& (255 : Int32)); have := rng32 z1; have := q1; have := am_1 z1; have := q0; have := q2; have := c_and z1 (2 : Int32); have := rng32 (z1 &&& (2 : Int32)); have := rng64 z0; have := Q9223372036854775807; have := amL_9223372036854775807 z0; have := Q0; omega)) (x3 := ((XT.ushr z2 (8 : Int32)) &&& (255 : Int32)).toInt8.toInt32) (hx3 := (by have := rng32 z2; have := q8; have := aushr_8 z2; have := q255; have := am_255 (XT.ushr z2 (8 : Int32)); have := a_i2b ((XT.ushr z2 (8 : Int32)) &&& (255 : Int32)); have := rng32 z1; have := q1; have := am_1 z1; have := q0; have := q2; have := c_and z1 (2 : Int32); have := rng32 (z1 &&& (2 : Int32)); have := rng64 z0; have := Q9223372036854775807; have := amL_9223372036854775807 z0; have := Q0; omega)) (mp1 := m0)) (by decide) pd__Z rfl rfl rfl rfl (by decide) (fun v D' h => ?_)
     rcases h with ⟨h4, rfl, rfl⟩ | ⟨h5, rfl, rfl⟩
     ·
      exact absurd h4 (nl_ne (by have := rng64 z0; have := Q9223372036854775807; have := amL_9223372036854775807 z0; have := Q0; have := rng32 z1; have := q1; have := am_1 z1; have := q0; have := q2; have := c_and z1 (2 : Int32); have := rng32 (z1 &&& (2 : Int32)); omega))
     ·
      have ih5 := fl_ne h5
      show W _ _ _ _ _ _ _ _ _ _ _ _ 195 _ [(vi 0)]
      refine W.iload (pc := 195) at_195 rfl ?_
      refine W.icmpN (pc := 197) at_197 (n_ne (by decide)) ?_
      refine W.iconst (pc := 200) (1) at_200 (by decide) ?_
      refine W.goto (pc := 201) 205 at_201 (by decide) ?_
      exact W.ireturn (pc := 205) at_205 rfl (Or.inr (Or.inl rfl)) (nw_bool (by decide)) (by decide) rfl
    ·
     have ih3 := fl_le h3
     refine W.iconst (pc := 183) (1) at_183 (by decide) ?_
     refine W.goto (pc := 184) 188 at_184 (by decide) ?_
     refine W.istore (pc := 188) (ls' := #[.val (vj z0), .second, iv z1, iv z2, iv z3, iv 0, iv 0, .val (vj (z0 &&& (9223372036854775807 : Int64))), .second, .val (vj (z0 &&& (9223372036854775807 : Int64))), .second, rv a1, rv a2, .val .null, rv a4, iv 1]) at_188 rfl ?_
     refine W.aload (pc := 190) 14 at_190 rfl rfl ?_
     refine W.callV (pc := 192) (as := []) 0 [] at_192 (w101 hw) (w102 hw) (w104 hw) (w104 hw) (w103 hw) (w33 hw) (w105 hw) (Hp.exa m0) (c23_isComplete hw hs (p1 := a4) (p2 := a2) (p3 := a3) (x1 := (z0 &&& (9223372036854775807 : Int64))) (hx1 := (by have := rng64 z0; have := Q9223372036854775807; have := amL_9223372036854775807 z0; have := rng32 z1; have := q1; have := am_1 z1; have := q0; have := q2; have := c_and z1 (2 : Int32); have := rng32 (z1 &&& (2 : Int32)); have := Q0; omega)) (x2 := (z2 &&& (255 : Int32)).toInt8.toInt32) (hx2 := (by have := rng32 z2; have := q255; have := am_255 z2; have := a_i2b (z2 &&& (255 : Int32)); have := rng32 z1; have := q1; have := am_1 z1; have := q0; have := q2; have := c_and z1 (2 : Int32); have := rng32 (z1 &&& (2 : Int32)); have := Q0; have := rng64 z0; have := Q9223372036854775807; have := amL_9223372036854775807 z0; omega)) (x3 := ((XT.ushr z2 (8 : Int32)) &&& (255 : Int32)).toInt8.toInt32) (hx3 := (by have := rng32 z2; have := q8; have := aushr_8 z2; have := q255; have := am_255 (XT.ushr z2 (8 : Int32)); have := a_i2b ((XT.ushr z2 (8 : Int32)) &&& (255 : Int32)); have := rng32 z1; have := q1; have := am_1 z1; have := q0; have := q2; have := c_and z1 (2 : Int32); have := rng32 (z1 &&& (2 : Int32)); have := Q0; have := rng64 z0; have := Q9223372036854775807; have := amL_9223372036854775807 z0; omega)) (mp1 := m0)) (by decide) pd__Z rfl rfl rfl rfl (by decide) (fun v D' h => ?_)
     rcases h with ⟨h6, rfl, rfl⟩ | ⟨h7, rfl, rfl⟩
     ·
      have ih6 := tl_ne h6
      show W _ _ _ _ _ _ _ _ _ _ _ _ 195 _ [(vi 1)]
      refine W.iload (pc := 195) at_195 rfl ?_
      refine W.icmpN (pc := 197) at_197 (n_ne (by decide)) ?_
      refine W.iconst (pc := 200) (1) at_200 (by decide) ?_
      refine W.goto (pc := 201) 205 at_201 (by decide) ?_
      exact W.ireturn (pc := 205) at_205 rfl (Or.inr (Or.inl rfl)) (nw_bool (by decide)) (by decide) rfl
     ·
      exact absurd h7 (Classical.not_not.mpr (yl_ne (by have := rng64 z0; have := Q9223372036854775807; have := amL_9223372036854775807 z0; have := Q0; have := rng32 z1; have := q1; have := am_1 z1; have := q0; have := q2; have := c_and z1 (2 : Int32); have := rng32 (z1 &&& (2 : Int32)); omega)))
   ·
    have ih2 := f_eq h2
    refine W.iconst (pc := 19) (1) at_19 (by decide) ?_
    refine W.goto (pc := 20) 24 at_20 (by decide) ?_
    refine W.istore (pc := 24) (ls' := #[.val (vj z0), .second, iv z1, iv z2, iv z3, iv 0, iv 1, uu, uu, uu, uu, uu, uu, uu, uu, uu]) at_24 rfl ?_
    refine W.lloadN (pc := 26) at_26 rfl ?_
    refine W.ldc2J (pc := 27) at_27 (w0 hw) ?_
    refine W.land (pc := 30) at_30 ?_
    refine W.lstore (pc := 31) (ls' := #[.val (vj z0), .second, iv z1, iv z2, iv z3, iv 0, iv 1, .val (vj (z0 &&& (9223372036854775807 : Int64))), .second, uu, uu, uu, uu, uu, uu, uu]) at_31 rfl ?_
    refine W.iload (pc := 33) at_33 rfl ?_
    refine W.ifN (pc := 35) at_35 (n_ne (by decide)) ?_
    refine W.iload (pc := 38) at_38 rfl ?_
    refine W.ifN (pc := 40) at_40 (n_eq (by decide)) ?_
    refine W.lconst (pc := 43) (0) at_43 (by decide) ?_
    refine W.goto (pc := 44) 49 at_44 (by decide) ?_
    refine W.lstore (pc := 49) (ls' := #[.val (vj z0), .second, iv z1, iv z2, iv z3, iv 0, iv 1, .val (vj (z0 &&& (9223372036854775807 : Int64))), .second, .val (vj 0), .second, uu, uu, uu, uu, uu]) at_49 rfl ?_
    refine W.iconst (pc := 51) (2) at_51 (by decide) ?_
    refine W.newarr (pc := 52) 2 (ad := "[C") (ty := .char) at_52 rfl (w1 hw) ix2 rfl (by decide) (by decide) (fun a5 => ?_)
    show W _ _ _ _ _ _ _ _ _ _ _ _ 54 _ [(vr a5)]
    refine W.astore (pc := 54) (ls' := #[.val (vj z0), .second, iv z1, iv z2, iv z3, iv 0, iv 1, .val (vj (z0 &&& (9223372036854775807 : Int64))), .second, .val (vj 0), .second, rv a5, uu, uu, uu, uu]) at_54 rfl rfl ?_
    refine W.aload (pc := 56) 11 at_56 rfl rfl ?_
    refine W.iconst (pc := 58) (0) at_58 (by decide) ?_
    refine W.iloadN (pc := 59) at_59 rfl ?_
    refine W.sipush (pc := 60) (255) at_60 (by decide) ?_
    refine W.iand (pc := 63) at_63 ?_
    refine W.i2cK (pc := 64) (z2 &&& (255 : Int32)) at_64 (z_i2c (by have := rng32 z2; have := q255; have := am_255 z2; have := rng32 z1; have := q1; have := am_1 z1; have := q0; have := q2; have := c_and z1 (2 : Int32); have := rng32 (z1 &&& (2 : Int32)); omega)) ?_
    refine W.castore (pc := 65) (D' := (a5, true, ar "[C" .char [(vi (z2 &&& (255 : Int32))), (vi 0)]) :: []) 0 0 at_65 rfl ix0 (Nat.le_of_ble_eq_true rfl) (z_narC (by have := rng32 z2; have := q255; have := am_255 z2; have := rng32 z1; have := q1; have := am_1 z1; have := q0; have := q2; have := c_and z1 (2 : Int32); have := rng32 (z1 &&& (2 : Int32)); omega)) rfl ?_
    refine W.aload (pc := 66) 11 at_66 rfl rfl ?_
    refine W.iconst (pc := 68) (1) at_68 (by decide) ?_
    refine W.iloadN (pc := 69) at_69 rfl ?_
    refine W.bipush (pc := 70) (8) at_70 (by decide) ?_
    refine W.iushr (pc := 72) at_72 ?_
    refine W.sipush (pc := 73) (255) at_73 (by decide) ?_
    refine W.iand (pc := 76) at_76 ?_
    refine W.i2cK (pc := 77) ((XT.ushr z2 (8 : Int32)) &&& (255 : Int32)) at_77 (z_i2c (by have := rng32 z2; have := q8; have := aushr_8 z2; have := q255; have := am_255 (XT.ushr z2 (8 : Int32)); have := rng32 z1; have := q1; have := am_1 z1; have := q0; have := q2; have := c_and z1 (2 : Int32); have := rng32 (z1 &&& (2 : Int32)); omega)) ?_
    refine W.castore (pc := 78) (D' := (a5, true, ar "[C" .char [(vi (z2 &&& (255 : Int32))), (vi ((XT.ushr z2 (8 : Int32)) &&& (255 : Int32)))]) :: []) 0 1 at_78 rfl ix1 (Nat.le_of_ble_eq_true rfl) (z_narC (by have := rng32 z2; have := q8; have := aushr_8 z2; have := q255; have := am_255 (XT.ushr z2 (8 : Int32)); have := rng32 z1; have := q1; have := am_1 z1; have := q0; have := q2; have := c_and z1 (2 : Int32); have := rng32 (z1 &&& (2 : Int32)); omega)) rfl ?_
    refine W.new (pc := 79) at_79 (w2 hw) (w3 hw) (w4 hw) (laString hw) (by decide) (by decide) (fun a6 => ?_)
    show W _ _ _ _ _ _ _ _ _ _ _ _ 82 _ [(vr a6)]
    refine W.dup (pc := 82) at_82 rfl ?_
    refine W.aload (pc := 83) 11 at_83 rfl rfl ?_
    refine W.callI (pc := 85) (as := [(vr a5)]) 1 [(vr a6)] at_85 rfl (w5 hw) (w6 hw) (w4 hw) (w7 hw) (c1_init hw hs (p1 := a6) (p2 := a5) (x1 := (z2 &&& (255 : Int32))) (hx1 := (by have := rng32 z2; have := q255; have := am_255 z2; have := rng32 z1; have := q1; have := am_1 z1; have := q0; have := q2; have := c_and z1 (2 : Int32); have := rng32 (z1 &&& (2 : Int32)); omega)) (x2 := ((XT.ushr z2 (8 : Int32)) &&& (255 : Int32))) (hx2 := (by have := rng32 z2; have := q8; have := aushr_8 z2; have := q255; have := am_255 (XT.ushr z2 (8 : Int32)); have := rng32 z1; have := q1; have := am_1 z1; have := q0; have := q2; have := c_and z1 (2 : Int32); have := rng32 (z1 &&& (2 : Int32)); omega)) (mp2 := m0)) (by decide) pd__C_V rfl rfl rfl rfl (by decide) (fun v D' h => ?_)
    obtain ⟨a7, rfl, rfl⟩ := h
    show W _ _ _ _ _ _ _ _ _ _ _ _ 88 _ [(vr a6)]
    refine W.astore (pc := 88) (ls' := #[.val (vj z0), .second, iv z1, iv z2, iv z3, iv 0, iv 1, .val (vj (z0 &&& (9223372036854775807 : Int64))), .second, .val (vj 0), .second, rv a5, rv a6, uu, uu, uu]) at_88 rfl rfl ?_
    refine W.aconstNull (pc := 90) at_90 ?_
    refine W.astore (pc := 91) (ls' := #[.val (vj z0), .second, iv z1, iv z2, iv z3, iv 0, iv 1, .val (vj (z0 &&& (9223372036854775807 : Int64))), .second, .val (vj 0), .second, rv a5, rv a6, .val .null, uu, uu]) at_91 rfl rfl ?_
    refine W.iload (pc := 93) at_93 rfl ?_
    refine W.ifY (pc := 95) 139 at_95 (y_eq (by decide)) (by decide) ?_
    refine W.new (pc := 139) at_139 (w31 hw) (w32 hw) (w33 hw) (laPathElement hw) (by decide) (by decide) (fun a8 => ?_)
    show W _ _ _ _ _ _ _ _ _ _ _ _ 142 _ [(vr a8)]
    refine W.dup (pc := 142) at_142 rfl ?_
    refine W.aload (pc := 143) 12 at_143 rfl rfl ?_
    refine W.lload (pc := 145) at_145 rfl ?_
    refine W.aload (pc := 147) 13 at_147 rfl rfl ?_
    refine W.callI (pc := 149) (as := [(vr a6), (vj 0), .null]) 1 [(vr a8)] at_149 rfl (w34 hw) (w35 hw) (w33 hw) (w36 hw) (c24_init hw hs (p1 := a8) (p2 := a6) (p3 := a7) (x1 := (z2 &&& (255 : Int32)).toInt8.toInt32) (hx1 := (by have := rng32 z2; have := q255; have := am_255 z2; have := a_i2b (z2 &&& (255 : Int32)); have := rng32 z1; have := q1; have := am_1 z1; have := q0; have := q2; have := c_and z1 (2 : Int32); have := rng32 (z1 &&& (2 : Int32)); omega)) (x2 := ((XT.ushr z2 (8 : Int32)) &&& (255 : Int32)).toInt8.toInt32) (hx2 := (by have := rng32 z2; have := q8; have := aushr_8 z2; have := q255; have := am_255 (XT.ushr z2 (8 : Int32)); have := a_i2b ((XT.ushr z2 (8 : Int32)) &&& (255 : Int32)); have := rng32 z1; have := q1; have := am_1 z1; have := q0; have := q2; have := c_and z1 (2 : Int32); have := rng32 (z1 &&& (2 : Int32)); omega)) (mp2 := m1) (mp3 := m0)) (by decide) pd_Ljava_lang_String_JLjava_lang_String__V rfl rfl rfl rfl (by decide) (fun v D' h => ?_)
    obtain ⟨rfl, rfl⟩ := h
    show W _ _ _ _ _ _ _ _ _ _ _ _ 152 _ [(vr a8)]
    refine W.astore (pc := 152) (ls' := #[.val (vj z0), .second, iv z1, iv z2, iv z3, iv 0, iv 1, .val (vj (z0 &&& (9223372036854775807 : Int64))), .second, .val (vj 0), .second, rv a5, rv a6, .val .null, rv a8, uu]) at_152 rfl rfl ?_
    refine W.iload (pc := 154) at_154 rfl ?_
    refine W.ifY (pc := 156) 165 at_156 (y_eq (by decide)) (by decide) ?_
    refine W.iload (pc := 165) at_165 rfl ?_
    refine W.ifN (pc := 167) at_167 (n_eq (by decide)) ?_
    refine W.iconst (pc := 170) (0) at_170 (by decide) ?_
    refine W.istore (pc := 171) (ls' := #[.val (vj z0), .second, iv z1, iv z2, iv z3, iv 0, iv 1, .val (vj (z0 &&& (9223372036854775807 : Int64))), .second, .val (vj 0), .second, rv a5, rv a6, .val .null, rv a8, iv 0]) at_171 rfl ?_
    refine W.goto (pc := 173) 190 at_173 (by decide) ?_
    refine W.aload (pc := 190) 14 at_190 rfl rfl ?_
    refine W.callV (pc := 192) (as := []) 0 [] at_192 (w101 hw) (w102 hw) (w104 hw) (w104 hw) (w103 hw) (w33 hw) (w105 hw) (Hp.exa m0) (c25_isComplete hw hs (p1 := a8) (p2 := a6) (p3 := a7) (x1 := (z2 &&& (255 : Int32)).toInt8.toInt32) (hx1 := (by have := rng32 z2; have := q255; have := am_255 z2; have := a_i2b (z2 &&& (255 : Int32)); have := rng32 z1; have := q1; have := am_1 z1; have := q0; have := q2; have := c_and z1 (2 : Int32); have := rng32 (z1 &&& (2 : Int32)); omega)) (x2 := ((XT.ushr z2 (8 : Int32)) &&& (255 : Int32)).toInt8.toInt32) (hx2 := (by have := rng32 z2; have := q8; have := aushr_8 z2; have := q255; have := am_255 (XT.ushr z2 (8 : Int32)); have := a_i2b ((XT.ushr z2 (8 : Int32)) &&& (255 : Int32)); have := rng32 z1; have := q1; have := am_1 z1; have := q0; have := q2; have := c_and z1 (2 : Int32); have := rng32 (z1 &&& (2 : Int32)); omega)) (mp1 := m0)) (by decide) pd__Z rfl rfl rfl rfl (by decide) (fun v D' h => ?_)
    obtain ⟨rfl, rfl⟩ := h
    show W _ _ _ _ _ _ _ _ _ _ _ _ 195 _ [(vi 0)]
    refine W.iload (pc := 195) at_195 rfl ?_
    refine W.icmpN (pc := 197) at_197 (n_ne (by decide)) ?_
    refine W.iconst (pc := 200) (1) at_200 (by decide) ?_
    refine W.goto (pc := 201) 205 at_201 (by decide) ?_
    exact W.ireturn (pc := 205) at_205 rfl (Or.inr (Or.inl rfl)) (nw_bool (by decide)) (by decide) rfl
  ·
   have ih1 := f_eq h1
   refine W.iconst (pc := 6) (1) at_6 (by decide) ?_
   refine W.goto (pc := 7) 11 at_7 (by decide) ?_
   refine W.istore (pc := 11) (ls' := #[.val (vj z0), .second, iv z1, iv z2, iv z3, iv 1, uu, uu, uu, uu, uu, uu, uu, uu, uu, uu]) at_11 rfl ?_
   refine W.iloadN (pc := 13) at_13 rfl ?_
   refine W.iconst (pc := 14) (2) at_14 (by decide) ?_
   refine W.iand (pc := 15) at_15 ?_
   refine W.if (pc := 16) 23 at_16 (by decide) (fun h8 => ?_) (fun h8 => ?_)
   ·
    have ih8 := t_eq h8
    refine W.iconst (pc := 23) (0) at_23 (by decide) ?_
    refine W.istore (pc := 24) (ls' := #[.val (vj z0), .second, iv z1, iv z2, iv z3, iv 1, iv 0, uu, uu, uu, uu, uu, uu, uu, uu, uu]) at_24 rfl ?_
    refine W.lloadN (pc := 26) at_26 rfl ?_
    refine W.ldc2J (pc := 27) at_27 (w0 hw) ?_
    refine W.land (pc := 30) at_30 ?_
    refine W.lstore (pc := 31) (ls' := #[.val (vj z0), .second, iv z1, iv z2, iv z3, iv 1, iv 0, .val (vj (z0 &&& (9223372036854775807 : Int64))), .second, uu, uu, uu, uu, uu, uu, uu]) at_31 rfl ?_
    refine W.iload (pc := 33) at_33 rfl ?_
    refine W.ifY (pc := 35) 43 at_35 (y_ne (by decide)) (by decide) ?_
    refine W.lconst (pc := 43) (0) at_43 (by decide) ?_
    refine W.goto (pc := 44) 49 at_44 (by decide) ?_
    refine W.lstore (pc := 49) (ls' := #[.val (vj z0), .second, iv z1, iv z2, iv z3, iv 1, iv 0, .val (vj (z0 &&& (9223372036854775807 : Int64))), .second, .val (vj 0), .second, uu, uu, uu, uu, uu]) at_49 rfl ?_
    refine W.iconst (pc := 51) (2) at_51 (by decide) ?_
    refine W.newarr (pc := 52) 2 (ad := "[C") (ty := .char) at_52 rfl (w1 hw) ix2 rfl (by decide) (by decide) (fun a9 => ?_)
    show W _ _ _ _ _ _ _ _ _ _ _ _ 54 _ [(vr a9)]
    refine W.astore (pc := 54) (ls' := #[.val (vj z0), .second, iv z1, iv z2, iv z3, iv 1, iv 0, .val (vj (z0 &&& (9223372036854775807 : Int64))), .second, .val (vj 0), .second, rv a9, uu, uu, uu, uu]) at_54 rfl rfl ?_
    refine W.aload (pc := 56) 11 at_56 rfl rfl ?_
    refine W.iconst (pc := 58) (0) at_58 (by decide) ?_
    refine W.iloadN (pc := 59) at_59 rfl ?_
    refine W.sipush (pc := 60) (255) at_60 (by decide) ?_
    refine W.iand (pc := 63) at_63 ?_
    refine W.i2cK (pc := 64) (z2 &&& (255 : Int32)) at_64 (z_i2c (by have := rng32 z2; have := q255; have := am_255 z2; have := rng32 z1; have := q1; have := am_1 z1; have := q0; have := q2; have := c_and z1 (2 : Int32); have := rng32 (z1 &&& (2 : Int32)); omega)) ?_
    refine W.castore (pc := 65) (D' := (a9, true, ar "[C" .char [(vi (z2 &&& (255 : Int32))), (vi 0)]) :: []) 0 0 at_65 rfl ix0 (Nat.le_of_ble_eq_true rfl) (z_narC (by have := rng32 z2; have := q255; have := am_255 z2; have := rng32 z1; have := q1; have := am_1 z1; have := q0; have := q2; have := c_and z1 (2 : Int32); have := rng32 (z1 &&& (2 : Int32)); omega)) rfl ?_
    refine W.aload (pc := 66) 11 at_66 rfl rfl ?_
    refine W.iconst (pc := 68) (1) at_68 (by decide) ?_
    refine W.iloadN (pc := 69) at_69 rfl ?_
    refine W.bipush (pc := 70) (8) at_70 (by decide) ?_
    refine W.iushr (pc := 72) at_72 ?_
    refine W.sipush (pc := 73) (255) at_73 (by decide) ?_
    refine W.iand (pc := 76) at_76 ?_
    refine W.i2cK (pc := 77) ((XT.ushr z2 (8 : Int32)) &&& (255 : Int32)) at_77 (z_i2c (by have := rng32 z2; have := q8; have := aushr_8 z2; have := q255; have := am_255 (XT.ushr z2 (8 : Int32)); have := rng32 z1; have := q1; have := am_1 z1; have := q0; have := q2; have := c_and z1 (2 : Int32); have := rng32 (z1 &&& (2 : Int32)); omega)) ?_
    refine W.castore (pc := 78) (D' := (a9, true, ar "[C" .char [(vi (z2 &&& (255 : Int32))), (vi ((XT.ushr z2 (8 : Int32)) &&& (255 : Int32)))]) :: []) 0 1 at_78 rfl ix1 (Nat.le_of_ble_eq_true rfl) (z_narC (by have := rng32 z2; have := q8; have := aushr_8 z2; have := q255; have := am_255 (XT.ushr z2 (8 : Int32)); have := rng32 z1; have := q1; have := am_1 z1; have := q0; have := q2; have := c_and z1 (2 : Int32); have := rng32 (z1 &&& (2 : Int32)); omega)) rfl ?_
    refine W.new (pc := 79) at_79 (w2 hw) (w3 hw) (w4 hw) (laString hw) (by decide) (by decide) (fun a10 => ?_)
    show W _ _ _ _ _ _ _ _ _ _ _ _ 82 _ [(vr a10)]
    refine W.dup (pc := 82) at_82 rfl ?_
    refine W.aload (pc := 83) 11 at_83 rfl rfl ?_
    refine W.callI (pc := 85) (as := [(vr a9)]) 1 [(vr a10)] at_85 rfl (w5 hw) (w6 hw) (w4 hw) (w7 hw) (c1_init hw hs (p1 := a10) (p2 := a9) (x1 := (z2 &&& (255 : Int32))) (hx1 := (by have := rng32 z2; have := q255; have := am_255 z2; have := rng32 z1; have := q1; have := am_1 z1; have := q0; have := q2; have := c_and z1 (2 : Int32); have := rng32 (z1 &&& (2 : Int32)); omega)) (x2 := ((XT.ushr z2 (8 : Int32)) &&& (255 : Int32))) (hx2 := (by have := rng32 z2; have := q8; have := aushr_8 z2; have := q255; have := am_255 (XT.ushr z2 (8 : Int32)); have := rng32 z1; have := q1; have := am_1 z1; have := q0; have := q2; have := c_and z1 (2 : Int32); have := rng32 (z1 &&& (2 : Int32)); omega)) (mp2 := m0)) (by decide) pd__C_V rfl rfl rfl rfl (by decide) (fun v D' h => ?_)
    obtain ⟨a11, rfl, rfl⟩ := h
    show W _ _ _ _ _ _ _ _ _ _ _ _ 88 _ [(vr a10)]
    refine W.astore (pc := 88) (ls' := #[.val (vj z0), .second, iv z1, iv z2, iv z3, iv 1, iv 0, .val (vj (z0 &&& (9223372036854775807 : Int64))), .second, .val (vj 0), .second, rv a9, rv a10, uu, uu, uu]) at_88 rfl rfl ?_
    refine W.aconstNull (pc := 90) at_90 ?_
    refine W.astore (pc := 91) (ls' := #[.val (vj z0), .second, iv z1, iv z2, iv z3, iv 1, iv 0, .val (vj (z0 &&& (9223372036854775807 : Int64))), .second, .val (vj 0), .second, rv a9, rv a10, .val .null, uu, uu]) at_91 rfl rfl ?_
    refine W.iload (pc := 93) at_93 rfl ?_
    refine W.ifN (pc := 95) at_95 (n_eq (by decide)) ?_
    refine W.iconst (pc := 98) (2) at_98 (by decide) ?_
    refine W.newarr (pc := 99) 2 (ad := "[C") (ty := .char) at_99 rfl (w1 hw) ix2 rfl (by decide) (by decide) (fun a12 => ?_)
    show W _ _ _ _ _ _ _ _ _ _ _ _ 101 _ [(vr a12)]
    refine W.astore (pc := 101) (ls' := #[.val (vj z0), .second, iv z1, iv z2, iv z3, iv 1, iv 0, .val (vj (z0 &&& (9223372036854775807 : Int64))), .second, .val (vj 0), .second, rv a9, rv a10, .val .null, rv a12, uu]) at_101 rfl rfl ?_
    refine W.aload (pc := 103) 14 at_103 rfl rfl ?_
    refine W.iconst (pc := 105) (0) at_105 (by decide) ?_
    refine W.iload (pc := 106) at_106 rfl ?_
    refine W.sipush (pc := 108) (255) at_108 (by decide) ?_
    refine W.iand (pc := 111) at_111 ?_
    refine W.i2cK (pc := 112) (z3 &&& (255 : Int32)) at_112 (z_i2c (by have := rng32 z3; have := q255; have := am_255 z3; have := rng32 z1; have := q1; have := am_1 z1; have := q0; have := q2; have := c_and z1 (2 : Int32); have := rng32 (z1 &&& (2 : Int32)); omega)) ?_
    refine W.castore (pc := 113) (D' := (a12, true, ar "[C" .char [(vi (z3 &&& (255 : Int32))), (vi 0)]) :: (a11, true, ar "[B" .byte [(vi (z2 &&& (255 : Int32)).toInt8.toInt32), (vi ((XT.ushr z2 (8 : Int32)) &&& (255 : Int32)).toInt8.toInt32)]) :: (a10, true, oString (vr a11) (vi 0)) :: (a9, true, ar "[C" .char [(vi (z2 &&& (255 : Int32))), (vi ((XT.ushr z2 (8 : Int32)) &&& (255 : Int32)))]) :: []) 0 0 at_113 rfl ix0 (Nat.le_of_ble_eq_true rfl) (z_narC (by have := rng32 z3; have := q255; have := am_255 z3; have := rng32 z1; have := q1; have := am_1 z1; have := q0; have := q2; have := c_and z1 (2 : Int32); have := rng32 (z1 &&& (2 : Int32)); omega)) rfl ?_
    refine W.aload (pc := 114) 14 at_114 rfl rfl ?_
    refine W.iconst (pc := 116) (1) at_116 (by decide) ?_
    refine W.iload (pc := 117) at_117 rfl ?_
    refine W.bipush (pc := 119) (8) at_119 (by decide) ?_
    refine W.iushr (pc := 121) at_121 ?_
    refine W.sipush (pc := 122) (255) at_122 (by decide) ?_
    refine W.iand (pc := 125) at_125 ?_
    refine W.i2cK (pc := 126) ((XT.ushr z3 (8 : Int32)) &&& (255 : Int32)) at_126 (z_i2c (by have := rng32 z3; have := q8; have := aushr_8 z3; have := q255; have := am_255 (XT.ushr z3 (8 : Int32)); have := rng32 z1; have := q1; have := am_1 z1; have := q0; have := q2; have := c_and z1 (2 : Int32); have := rng32 (z1 &&& (2 : Int32)); omega)) ?_
    refine W.castore (pc := 127) (D' := (a12, true, ar "[C" .char [(vi (z3 &&& (255 : Int32))), (vi ((XT.ushr z3 (8 : Int32)) &&& (255 : Int32)))]) :: (a11, true, ar "[B" .byte [(vi (z2 &&& (255 : Int32)).toInt8.toInt32), (vi ((XT.ushr z2 (8 : Int32)) &&& (255 : Int32)).toInt8.toInt32)]) :: (a10, true, oString (vr a11) (vi 0)) :: (a9, true, ar "[C" .char [(vi (z2 &&& (255 : Int32))), (vi ((XT.ushr z2 (8 : Int32)) &&& (255 : Int32)))]) :: []) 0 1 at_127 rfl ix1 (Nat.le_of_ble_eq_true rfl) (z_narC (by have := rng32 z3; have := q8; have := aushr_8 z3; have := q255; have := am_255 (XT.ushr z3 (8 : Int32)); have := rng32 z1; have := q1; have := am_1 z1; have := q0; have := q2; have := c_and z1 (2 : Int32); have := rng32 (z1 &&& (2 : Int32)); omega)) rfl ?_
    refine W.new (pc := 128) at_128 (w2 hw) (w3 hw) (w4 hw) (laString hw) (by decide) (by decide) (fun a13 => ?_)
    show W _ _ _ _ _ _ _ _ _ _ _ _ 131 _ [(vr a13)]
    refine W.dup (pc := 131) at_131 rfl ?_
    refine W.aload (pc := 132) 14 at_132 rfl rfl ?_
    refine W.callI (pc := 134) (as := [(vr a12)]) 1 [(vr a13)] at_134 rfl (w5 hw) (w6 hw) (w4 hw) (w7 hw) (c1_init hw hs (p1 := a13) (p2 := a12) (x1 := (z3 &&& (255 : Int32))) (hx1 := (by have := rng32 z3; have := q255; have := am_255 z3; have := rng32 z1; have := q1; have := am_1 z1; have := q0; have := q2; have := c_and z1 (2 : Int32); have := rng32 (z1 &&& (2 : Int32)); omega)) (x2 := ((XT.ushr z3 (8 : Int32)) &&& (255 : Int32))) (hx2 := (by have := rng32 z3; have := q8; have := aushr_8 z3; have := q255; have := am_255 (XT.ushr z3 (8 : Int32)); have := rng32 z1; have := q1; have := am_1 z1; have := q0; have := q2; have := c_and z1 (2 : Int32); have := rng32 (z1 &&& (2 : Int32)); omega)) (mp2 := m0)) (by decide) pd__C_V rfl rfl rfl rfl (by decide) (fun v D' h => ?_)
    obtain ⟨a14, rfl, rfl⟩ := h
    show W _ _ _ _ _ _ _ _ _ _ _ _ 137 _ [(vr a13)]
    refine W.astore (pc := 137) (ls' := #[.val (vj z0), .second, iv z1, iv z2, iv z3, iv 1, iv 0, .val (vj (z0 &&& (9223372036854775807 : Int64))), .second, .val (vj 0), .second, rv a9, rv a10, rv a13, rv a12, uu]) at_137 rfl rfl ?_
    refine W.new (pc := 139) at_139 (w31 hw) (w32 hw) (w33 hw) (laPathElement hw) (by decide) (by decide) (fun a15 => ?_)
    show W _ _ _ _ _ _ _ _ _ _ _ _ 142 _ [(vr a15)]
    refine W.dup (pc := 142) at_142 rfl ?_
    refine W.aload (pc := 143) 12 at_143 rfl rfl ?_
    refine W.lload (pc := 145) at_145 rfl ?_
    refine W.aload (pc := 147) 13 at_147 rfl rfl ?_
    refine W.callI (pc := 149) (as := [(vr a10), (vj 0), (vr a13)]) 1 [(vr a15)] at_149 rfl (w34 hw) (w35 hw) (w33 hw) (w36 hw) (c26_init hw hs (p1 := a15) (p2 := a10) (p3 := a13) (p4 := a11) (p5 := a14) (x1 := (z2 &&& (255 : Int32)).toInt8.toInt32) (hx1 := (by have := rng32 z2; have := q255; have := am_255 z2; have := a_i2b (z2 &&& (255 : Int32)); have := rng32 z1; have := q1; have := am_1 z1; have := q0; have := q2; have := c_and z1 (2 : Int32); have := rng32 (z1 &&& (2 : Int32)); omega)) (x2 := ((XT.ushr z2 (8 : Int32)) &&& (255 : Int32)).toInt8.toInt32) (hx2 := (by have := rng32 z2; have := q8; have := aushr_8 z2; have := q255; have := am_255 (XT.ushr z2 (8 : Int32)); have := a_i2b ((XT.ushr z2 (8 : Int32)) &&& (255 : Int32)); have := rng32 z1; have := q1; have := am_1 z1; have := q0; have := q2; have := c_and z1 (2 : Int32); have := rng32 (z1 &&& (2 : Int32)); omega)) (x3 := (z3 &&& (255 : Int32)).toInt8.toInt32) (hx3 := (by have := rng32 z3; have := q255; have := am_255 z3; have := a_i2b (z3 &&& (255 : Int32)); have := rng32 z1; have := q1; have := am_1 z1; have := q0; have := q2; have := c_and z1 (2 : Int32); have := rng32 (z1 &&& (2 : Int32)); omega)) (x4 := ((XT.ushr z3 (8 : Int32)) &&& (255 : Int32)).toInt8.toInt32) (hx4 := (by have := rng32 z3; have := q8; have := aushr_8 z3; have := q255; have := am_255 (XT.ushr z3 (8 : Int32)); have := a_i2b ((XT.ushr z3 (8 : Int32)) &&& (255 : Int32)); have := rng32 z1; have := q1; have := am_1 z1; have := q0; have := q2; have := c_and z1 (2 : Int32); have := rng32 (z1 &&& (2 : Int32)); omega)) (mp2 := m4) (mp4 := m3) (mp3 := m1) (mp5 := m0)) (by decide) pd_Ljava_lang_String_JLjava_lang_String__V rfl rfl rfl rfl (by decide) (fun v D' h => ?_)
    obtain ⟨rfl, rfl⟩ := h
    show W _ _ _ _ _ _ _ _ _ _ _ _ 152 _ [(vr a15)]
    refine W.astore (pc := 152) (ls' := #[.val (vj z0), .second, iv z1, iv z2, iv z3, iv 1, iv 0, .val (vj (z0 &&& (9223372036854775807 : Int64))), .second, .val (vj 0), .second, rv a9, rv a10, rv a13, rv a15, uu]) at_152 rfl rfl ?_
    refine W.iload (pc := 154) at_154 rfl ?_
    refine W.ifN (pc := 156) at_156 (n_eq (by decide)) ?_
    refine W.iconst (pc := 159) (1) at_159 (by decide) ?_
    refine W.istore (pc := 160) (ls' := #[.val (vj z0), .second, iv z1, iv z2, iv z3, iv 1, iv 0, .val (vj (z0 &&& (9223372036854775807 : Int64))), .second, .val (vj 0), .second, rv a9, rv a10, rv a13, rv a15, iv 1]) at_160 rfl ?_
    refine W.goto (pc := 162) 190 at_162 (by decide) ?_
    refine W.aload (pc := 190) 14 at_190 rfl rfl ?_
    refine W.callV (pc := 192) (as := []) 0 [] at_192 (w101 hw) (w102 hw) (w104 hw) (w104 hw) (w103 hw) (w33 hw) (w105 hw) (Hp.exa m0) (c27_isComplete hw hs (p1 := a15) (p2 := a10) (p3 := a13) (p4 := a11) (p5 := a14) (x1 := (z2 &&& (255 : Int32)).toInt8.toInt32) (hx1 := (by have := rng32 z2; have := q255; have := am_255 z2; have := a_i2b (z2 &&& (255 : Int32)); have := rng32 z1; have := q1; have := am_1 z1; have := q0; have := q2; have := c_and z1 (2 : Int32); have := rng32 (z1 &&& (2 : Int32)); omega)) (x2 := ((XT.ushr z2 (8 : Int32)) &&& (255 : Int32)).toInt8.toInt32) (hx2 := (by have := rng32 z2; have := q8; have := aushr_8 z2; have := q255; have := am_255 (XT.ushr z2 (8 : Int32)); have := a_i2b ((XT.ushr z2 (8 : Int32)) &&& (255 : Int32)); have := rng32 z1; have := q1; have := am_1 z1; have := q0; have := q2; have := c_and z1 (2 : Int32); have := rng32 (z1 &&& (2 : Int32)); omega)) (x3 := (z3 &&& (255 : Int32)).toInt8.toInt32) (hx3 := (by have := rng32 z3; have := q255; have := am_255 z3; have := a_i2b (z3 &&& (255 : Int32)); have := rng32 z1; have := q1; have := am_1 z1; have := q0; have := q2; have := c_and z1 (2 : Int32); have := rng32 (z1 &&& (2 : Int32)); omega)) (x4 := ((XT.ushr z3 (8 : Int32)) &&& (255 : Int32)).toInt8.toInt32) (hx4 := (by have := rng32 z3; have := q8; have := aushr_8 z3; have := q255; have := am_255 (XT.ushr z3 (8 : Int32)); have := a_i2b ((XT.ushr z3 (8 : Int32)) &&& (255 : Int32)); have := rng32 z1; have := q1; have := am_1 z1; have := q0; have := q2; have := c_and z1 (2 : Int32); have := rng32 (z1 &&& (2 : Int32)); omega)) (mp1 := m0)) (by decide) pd__Z rfl rfl rfl rfl (by decide) (fun v D' h => ?_)
    obtain ⟨rfl, rfl⟩ := h
    show W _ _ _ _ _ _ _ _ _ _ _ _ 195 _ [(vi 1)]
    refine W.iload (pc := 195) at_195 rfl ?_
    refine W.icmpN (pc := 197) at_197 (n_ne (by decide)) ?_
    refine W.iconst (pc := 200) (1) at_200 (by decide) ?_
    refine W.goto (pc := 201) 205 at_201 (by decide) ?_
    exact W.ireturn (pc := 205) at_205 rfl (Or.inr (Or.inl rfl)) (nw_bool (by decide)) (by decide) rfl
   ·
    have ih8 := f_eq h8
    refine W.iconst (pc := 19) (1) at_19 (by decide) ?_
    refine W.goto (pc := 20) 24 at_20 (by decide) ?_
    refine W.istore (pc := 24) (ls' := #[.val (vj z0), .second, iv z1, iv z2, iv z3, iv 1, iv 1, uu, uu, uu, uu, uu, uu, uu, uu, uu]) at_24 rfl ?_
    refine W.lloadN (pc := 26) at_26 rfl ?_
    refine W.ldc2J (pc := 27) at_27 (w0 hw) ?_
    refine W.land (pc := 30) at_30 ?_
    refine W.lstore (pc := 31) (ls' := #[.val (vj z0), .second, iv z1, iv z2, iv z3, iv 1, iv 1, .val (vj (z0 &&& (9223372036854775807 : Int64))), .second, uu, uu, uu, uu, uu, uu, uu]) at_31 rfl ?_
    refine W.iload (pc := 33) at_33 rfl ?_
    refine W.ifY (pc := 35) 43 at_35 (y_ne (by decide)) (by decide) ?_
    refine W.lconst (pc := 43) (0) at_43 (by decide) ?_
    refine W.goto (pc := 44) 49 at_44 (by decide) ?_
    refine W.lstore (pc := 49) (ls' := #[.val (vj z0), .second, iv z1, iv z2, iv z3, iv 1, iv 1, .val (vj (z0 &&& (9223372036854775807 : Int64))), .second, .val (vj 0), .second, uu, uu, uu, uu, uu]) at_49 rfl ?_
    refine W.iconst (pc := 51) (2) at_51 (by decide) ?_
    refine W.newarr (pc := 52) 2 (ad := "[C") (ty := .char) at_52 rfl (w1 hw) ix2 rfl (by decide) (by decide) (fun a16 => ?_)
    show W _ _ _ _ _ _ _ _ _ _ _ _ 54 _ [(vr a16)]
    refine W.astore (pc := 54) (ls' := #[.val (vj z0), .second, iv z1, iv z2, iv z3, iv 1, iv 1, .val (vj (z0 &&& (9223372036854775807 : Int64))), .second, .val (vj 0), .second, rv a16, uu, uu, uu, uu]) at_54 rfl rfl ?_
    refine W.aload (pc := 56) 11 at_56 rfl rfl ?_
    refine W.iconst (pc := 58) (0) at_58 (by decide) ?_
    refine W.iloadN (pc := 59) at_59 rfl ?_
    refine W.sipush (pc := 60) (255) at_60 (by decide) ?_
    refine W.iand (pc := 63) at_63 ?_
    refine W.i2cK (pc := 64) (z2 &&& (255 : Int32)) at_64 (z_i2c (by have := rng32 z2; have := q255; have := am_255 z2; have := rng32 z1; have := q1; have := am_1 z1; have := q0; have := q2; have := c_and z1 (2 : Int32); have := rng32 (z1 &&& (2 : Int32)); omega)) ?_
    refine W.castore (pc := 65) (D' := (a16, true, ar "[C" .char [(vi (z2 &&& (255 : Int32))), (vi 0)]) :: []) 0 0 at_65 rfl ix0 (Nat.le_of_ble_eq_true rfl) (z_narC (by have := rng32 z2; have := q255; have := am_255 z2; have := rng32 z1; have := q1; have := am_1 z1; have := q0; have := q2; have := c_and z1 (2 : Int32); have := rng32 (z1 &&& (2 : Int32)); omega)) rfl ?_
    refine W.aload (pc := 66) 11 at_66 rfl rfl ?_
    refine W.iconst (pc := 68) (1) at_68 (by decide) ?_
    refine W.iloadN (pc := 69) at_69 rfl ?_
    refine W.bipush (pc := 70) (8) at_70 (by decide) ?_
    refine W.iushr (pc := 72) at_72 ?_
    refine W.sipush (pc := 73) (255) at_73 (by decide) ?_
    refine W.iand (pc := 76) at_76 ?_
    refine W.i2cK (pc := 77) ((XT.ushr z2 (8 : Int32)) &&& (255 : Int32)) at_77 (z_i2c (by have := rng32 z2; have := q8; have := aushr_8 z2; have := q255; have := am_255 (XT.ushr z2 (8 : Int32)); have := rng32 z1; have := q1; have := am_1 z1; have := q0; have := q2; have := c_and z1 (2 : Int32); have := rng32 (z1 &&& (2 : Int32)); omega)) ?_
    refine W.castore (pc := 78) (D' := (a16, true, ar "[C" .char [(vi (z2 &&& (255 : Int32))), (vi ((XT.ushr z2 (8 : Int32)) &&& (255 : Int32)))]) :: []) 0 1 at_78 rfl ix1 (Nat.le_of_ble_eq_true rfl) (z_narC (by have := rng32 z2; have := q8; have := aushr_8 z2; have := q255; have := am_255 (XT.ushr z2 (8 : Int32)); have := rng32 z1; have := q1; have := am_1 z1; have := q0; have := q2; have := c_and z1 (2 : Int32); have := rng32 (z1 &&& (2 : Int32)); omega)) rfl ?_
    refine W.new (pc := 79) at_79 (w2 hw) (w3 hw) (w4 hw) (laString hw) (by decide) (by decide) (fun a17 => ?_)
    show W _ _ _ _ _ _ _ _ _ _ _ _ 82 _ [(vr a17)]
    refine W.dup (pc := 82) at_82 rfl ?_
    refine W.aload (pc := 83) 11 at_83 rfl rfl ?_
    refine W.callI (pc := 85) (as := [(vr a16)]) 1 [(vr a17)] at_85 rfl (w5 hw) (w6 hw) (w4 hw) (w7 hw) (c1_init hw hs (p1 := a17) (p2 := a16) (x1 := (z2 &&& (255 : Int32))) (hx1 := (by have := rng32 z2; have := q255; have := am_255 z2; have := rng32 z1; have := q1; have := am_1 z1; have := q0; have := q2; have := c_and z1 (2 : Int32); have := rng32 (z1 &&& (2 : Int32)); omega)) (x2 := ((XT.ushr z2 (8 : Int32)) &&& (255 : Int32))) (hx2 := (by have := rng32 z2; have := q8; have := aushr_8 z2; have := q255; have := am_255 (XT.ushr z2 (8 : Int32)); have := rng32 z1; have := q1; have := am_1 z1; have := q0; have := q2; have := c_and z1 (2 : Int32); have := rng32 (z1 &&& (2 : Int32)); omega)) (mp2 := m0)) (by decide) pd__C_V rfl rfl rfl rfl (by decide) (fun v D' h => ?_)
    obtain ⟨a18, rfl, rfl⟩ := h
    show W _ _ _ _ _ _ _ _ _ _ _ _ 88 _ [(vr a17)]
    refine W.astore (pc := 88) (ls' := #[.val (vj z0), .second, iv z1, iv z2, iv z3, iv 1, iv 1, .val (vj (z0 &&& (9223372036854775807 : Int64))), .second, .val (vj 0), .second, rv a16, rv a17, uu, uu, uu]) at_88 rfl rfl ?_
    refine W.aconstNull (pc := 90) at_90 ?_
    refine W.astore (pc := 91) (ls' := #[.val (vj z0), .second, iv z1, iv z2, iv z3, iv 1, iv 1, .val (vj (z0 &&& (9223372036854775807 : Int64))), .second, .val (vj 0), .second, rv a16, rv a17, .val .null, uu, uu]) at_91 rfl rfl ?_
    refine W.iload (pc := 93) at_93 rfl ?_
    refine W.ifN (pc := 95) at_95 (n_eq (by decide)) ?_
    refine W.iconst (pc := 98) (2) at_98 (by decide) ?_
    refine W.newarr (pc := 99) 2 (ad := "[C") (ty := .char) at_99 rfl (w1 hw) ix2 rfl (by decide) (by decide) (fun a19 => ?_)
    show W _ _ _ _ _ _ _ _ _ _ _ _ 101 _ [(vr a19)]
    refine W.astore (pc := 101) (ls' := #[.val (vj z0), .second, iv z1, iv z2, iv z3, iv 1, iv 1, .val (vj (z0 &&& (9223372036854775807 : Int64))), .second, .val (vj 0), .second, rv a16, rv a17, .val .null, rv a19, uu]) at_101 rfl rfl ?_
    refine W.aload (pc := 103) 14 at_103 rfl rfl ?_
    refine W.iconst (pc := 105) (0) at_105 (by decide) ?_
    refine W.iload (pc := 106) at_106 rfl ?_
    refine W.sipush (pc := 108) (255) at_108 (by decide) ?_
    refine W.iand (pc := 111) at_111 ?_
    refine W.i2cK (pc := 112) (z3 &&& (255 : Int32)) at_112 (z_i2c (by have := rng32 z3; have := q255; have := am_255 z3; have := rng32 z1; have := q1; have := am_1 z1; have := q0; have := q2; have := c_and z1 (2 : Int32); have := rng32 (z1 &&& (2 : Int32)); omega)) ?_
    refine W.castore (pc := 113) (D' := (a19, true, ar "[C" .char [(vi (z3 &&& (255 : Int32))), (vi 0)]) :: (a18, true, ar "[B" .byte [(vi (z2 &&& (255 : Int32)).toInt8.toInt32), (vi ((XT.ushr z2 (8 : Int32)) &&& (255 : Int32)).toInt8.toInt32)]) :: (a17, true, oString (vr a18) (vi 0)) :: (a16, true, ar "[C" .char [(vi (z2 &&& (255 : Int32))), (vi ((XT.ushr z2 (8 : Int32)) &&& (255 : Int32)))]) :: []) 0 0 at_113 rfl ix0 (Nat.le_of_ble_eq_true rfl) (z_narC (by have := rng32 z3; have := q255; have := am_255 z3; have := rng32 z1; have := q1; have := am_1 z1; have := q0; have := q2; have := c_and z1 (2 : Int32); have := rng32 (z1 &&& (2 : Int32)); omega)) rfl ?_
    refine W.aload (pc := 114) 14 at_114 rfl rfl ?_
    refine W.iconst (pc := 116) (1) at_116 (by decide) ?_
    refine W.iload (pc := 117) at_117 rfl ?_
    refine W.bipush (pc := 119) (8) at_119 (by decide) ?_
    refine W.iushr (pc := 121) at_121 ?_
    refine W.sipush (pc := 122) (255) at_122 (by decide) ?_
    refine W.iand (pc := 125) at_125 ?_
    refine W.i2cK (pc := 126) ((XT.ushr z3 (8 : Int32)) &&& (255 : Int32)) at_126 (z_i2c (by have := rng32 z3; have := q8; have := aushr_8 z3; have := q255; have := am_255 (XT.ushr z3 (8 : Int32)); have := rng32 z1; have := q1; have := am_1 z1; have := q0; have := q2; have := c_and z1 (2 : Int32); have := rng32 (z1 &&& (2 : Int32)); omega)) ?_
    refine W.castore (pc := 127) (D' := (a19, true, ar "[C" .char [(vi (z3 &&& (255 : Int32))), (vi ((XT.ushr z3 (8 : Int32)) &&& (255 : Int32)))]) :: (a18, true, ar "[B" .byte [(vi (z2 &&& (255 : Int32)).toInt8.toInt32), (vi ((XT.ushr z2 (8 : Int32)) &&& (255 : Int32)).toInt8.toInt32)]) :: (a17, true, oString (vr a18) (vi 0)) :: (a16, true, ar "[C" .char [(vi (z2 &&& (255 : Int32))), (vi ((XT.ushr z2 (8 : Int32)) &&& (255 : Int32)))]) :: []) 0 1 at_127 rfl ix1 (Nat.le_of_ble_eq_true rfl) (z_narC (by have := rng32 z3; have := q8; have := aushr_8 z3; have := q255; have := am_255 (XT.ushr z3 (8 : Int32)); have := rng32 z1; have := q1; have := am_1 z1; have := q0; have := q2; have := c_and z1 (2 : Int32); have := rng32 (z1 &&& (2 : Int32)); omega)) rfl ?_
    refine W.new (pc := 128) at_128 (w2 hw) (w3 hw) (w4 hw) (laString hw) (by decide) (by decide) (fun a20 => ?_)
    show W _ _ _ _ _ _ _ _ _ _ _ _ 131 _ [(vr a20)]
    refine W.dup (pc := 131) at_131 rfl ?_
    refine W.aload (pc := 132) 14 at_132 rfl rfl ?_
    refine W.callI (pc := 134) (as := [(vr a19)]) 1 [(vr a20)] at_134 rfl (w5 hw) (w6 hw) (w4 hw) (w7 hw) (c1_init hw hs (p1 := a20) (p2 := a19) (x1 := (z3 &&& (255 : Int32))) (hx1 := (by have := rng32 z3; have := q255; have := am_255 z3; have := rng32 z1; have := q1; have := am_1 z1; have := q0; have := q2; have := c_and z1 (2 : Int32); have := rng32 (z1 &&& (2 : Int32)); omega)) (x2 := ((XT.ushr z3 (8 : Int32)) &&& (255 : Int32))) (hx2 := (by have := rng32 z3; have := q8; have := aushr_8 z3; have := q255; have := am_255 (XT.ushr z3 (8 : Int32)); have := rng32 z1; have := q1; have := am_1 z1; have := q0; have := q2; have := c_and z1 (2 : Int32); have := rng32 (z1 &&& (2 : Int32)); omega)) (mp2 := m0)) (by decide) pd__C_V rfl rfl rfl rfl (by decide) (fun v D' h => ?_)
    obtain ⟨a21, rfl, rfl⟩ := h
    show W _ _ _ _ _ _ _ _ _ _ _ _ 137 _ [(vr a20)]
    refine W.astore (pc := 137) (ls' := #[.val (vj z0), .second, iv z1, iv z2, iv z3, iv 1, iv 1, .val (vj (z0 &&& (9223372036854775807 : Int64))), .second, .val (vj 0), .second, rv a16, rv a17, rv a20, rv a19, uu]) at_137 rfl rfl ?_
    refine W.new (pc := 139) at_139 (w31 hw) (w32 hw) (w33 hw) (laPathElement hw) (by decide) (by decide) (fun a22 => ?_)
    show W _ _ _ _ _ _ _ _ _ _ _ _ 142 _ [(vr a22)]
    refine W.dup (pc := 142) at_142 rfl ?_
    refine W.aload (pc := 143) 12 at_143 rfl rfl ?_
    refine W.lload (pc := 145) at_145 rfl ?_
    refine W.aload (pc := 147) 13 at_147 rfl rfl ?_
    refine W.callI (pc := 149) (as := [(vr a17), (vj 0), (vr a20)]) 1 [(vr a22)] at_149 rfl (w34 hw) (w35 hw) (w33 hw) (w36 hw) (c26_init hw hs (p1 := a22) (p2 := a17) (p3 := a20) (p4 := a18) (p5 := a21) (x1 := (z2 &&& (255 : Int32)).toInt8.toInt32) (hx1 := (by have := rng32 z2; have := q255; have := am_255 z2; have := a_i2b (z2 &&& (255 : Int32)); have := rng32 z1; have := q1; have := am_1 z1; have := q0; have := q2; have := c_and z1 (2 : Int32); have := rng32 (z1 &&& (2 : Int32)); omega)) (x2 := ((XT.ushr z2 (8 : Int32)) &&& (255 : Int32)).toInt8.toInt32) (hx2 := (by have := rng32 z2; have := q8; have := aushr_8 z2; have := q255; have := am_255 (XT.ushr z2 (8 : Int32)); have := a_i2b ((XT.ushr z2 (8 : Int32)) &&& (255 : Int32)); have := rng32 z1; have := q1; have := am_1 z1; have := q0; have := q2; have := c_and z1 (2 : Int32); have := rng32 (z1 &&& (2 : Int32)); omega)) (x3 := (z3 &&& (255 : Int32)).toInt8.toInt32) (hx3 := (by have := rng32 z3; have := q255; have := am_255 z3; have := a_i2b (z3 &&& (255 : Int32)); have := rng32 z1; have := q1; have := am_1 z1; have := q0; have := q2; have := c_and z1 (2 : Int32); have := rng32 (z1 &&& (2 : Int32)); omega)) (x4 := ((XT.ushr z3 (8 : Int32)) &&& (255 : Int32)).toInt8.toInt32) (hx4 := (by have := rng32 z3; have := q8; have := aushr_8 z3; have := q255; have := am_255 (XT.ushr z3 (8 : Int32)); have := a_i2b ((XT.ushr z3 (8 : Int32)) &&& (255 : Int32)); have := rng32 z1; have := q1; have := am_1 z1; have := q0; have := q2; have := c_and z1 (2 : Int32); have := rng32 (z1 &&& (2 : Int32)); omega)) (mp2 := m4) (mp4 := m3) (mp3 := m1) (mp5 := m0)) (by decide) pd_Ljava_lang_String_JLjava_lang_String__V rfl rfl rfl rfl (by decide) (fun v D' h => ?_)
    obtain ⟨rfl, rfl⟩ := h
    show W _ _ _ _ _ _ _ _ _ _ _ _ 152 _ [(vr a22)]
    refine W.astore (pc := 152) (ls' := #[.val (vj z0), .second, iv z1, iv z2, iv z3, iv 1, iv 1, .val (vj (z0 &&& (9223372036854775807 : Int64))), .second, .val (vj 0), .second, rv a16, rv a17, rv a20, rv a22, uu]) at_152 rfl rfl ?_
    refine W.iload (pc := 154) at_154 rfl ?_
    refine W.ifN (pc := 156) at_156 (n_eq (by decide)) ?_
    refine W.iconst (pc := 159) (1) at_159 (by decide) ?_
    refine W.istore (pc := 160) (ls' := #[.val (vj z0), .second, iv z1, iv z2, iv z3, iv 1, iv 1, .val (vj (z0 &&& (9223372036854775807 : Int64))), .second, .val (vj 0), .second, rv a16, rv a17, rv a20, rv a22, iv 1]) at_160 rfl ?_
    refine W.goto (pc := 162) 190 at_162 (by decide) ?_
    refine W.aload (pc := 190) 14 at_190 rfl rfl ?_
    refine W.callV (pc := 192) (as := []) 0 [] at_192 (w101 hw) (w102 hw) (w104 hw) (w104 hw) (w103 hw) (w33 hw) (w105 hw) (Hp.exa m0) (c27_isComplete hw hs (p1 := a22) (p2 := a17) (p3 := a20) (p4 := a18) (p5 := a21) (x1 := (z2 &&& (255 : Int32)).toInt8.toInt32) (hx1 := (by have := rng32 z2; have := q255; have := am_255 z2; have := a_i2b (z2 &&& (255 : Int32)); have := rng32 z1; have := q1; have := am_1 z1; have := q0; have := q2; have := c_and z1 (2 : Int32); have := rng32 (z1 &&& (2 : Int32)); omega)) (x2 := ((XT.ushr z2 (8 : Int32)) &&& (255 : Int32)).toInt8.toInt32) (hx2 := (by have := rng32 z2; have := q8; have := aushr_8 z2; have := q255; have := am_255 (XT.ushr z2 (8 : Int32)); have := a_i2b ((XT.ushr z2 (8 : Int32)) &&& (255 : Int32)); have := rng32 z1; have := q1; have := am_1 z1; have := q0; have := q2; have := c_and z1 (2 : Int32); have := rng32 (z1 &&& (2 : Int32)); omega)) (x3 := (z3 &&& (255 : Int32)).toInt8.toInt32) (hx3 := (by have := rng32 z3; have := q255; have := am_255 z3; have := a_i2b (z3 &&& (255 : Int32)); have := rng32 z1; have := q1; have := am_1 z1; have := q0; have := q2; have := c_and z1 (2 : Int32); have := rng32 (z1 &&& (2 : Int32)); omega)) (x4 := ((XT.ushr z3 (8 : Int32)) &&& (255 : Int32)).toInt8.toInt32) (hx4 := (by have := rng32 z3; have := q8; have := aushr_8 z3; have := q255; have := am_255 (XT.ushr z3 (8 : Int32)); have := a_i2b ((XT.ushr z3 (8 : Int32)) &&& (255 : Int32)); have := rng32 z1; have := q1; have := am_1 z1; have := q0; have := q2; have := c_and z1 (2 : Int32); have := rng32 (z1 &&& (2 : Int32)); omega)) (mp1 := m0)) (by decide) pd__Z rfl rfl rfl rfl (by decide) (fun v D' h => ?_)
    obtain ⟨rfl, rfl⟩ := h
    show W _ _ _ _ _ _ _ _ _ _ _ _ 195 _ [(vi 1)]
    refine W.iload (pc := 195) at_195 rfl ?_
    refine W.icmpN (pc := 197) at_197 (n_ne (by decide)) ?_
    refine W.iconst (pc := 200) (1) at_200 (by decide) ?_
    refine W.goto (pc := 201) 205 at_201 (by decide) ?_
    exact W.ireturn (pc := 205) at_205 rfl (Or.inr (Or.inl rfl)) (nw_bool (by decide)) (by decide) rfl
set_option maxRecDepth 65536 in
set_option maxHeartbeats 4000000 in
theorem comes_1 {Post : Tables → Env → Array Value → State → Outcome → State → Prop} (hpost : ∀ tb e args s v u, (limb_1_1.after args s (.returned v) u = true ∧ limb_1_2.after args s (.returned v) u = true ∧ True) → Jvm.D.FramedW s (.returned v) u (Jvm.fieldLocs frame_1_writes args s ++ Jvm.arrayLocs frame_1_arrays args s ++ Jvm.staticLocs frame_1_statics s) 32 2176 → Post tb e args s (.returned v) u) :
    ArmFor flags0 classFile x code maxLocals ret World_1 tables_1 room_1 Calls_1 rest_1 Pre_1 Post := by
  intro l hfl _ _ p e ha hc hk s m args below hf hA hF happ hP
  obtain ⟨hcalls, hrest, hpre⟩ := hP
  obtain ⟨-, -, -, hnamed, -, -, -, hat⟩ := (Spec.applies_iff hf).mp happ
  obtain ⟨hg, hn⟩ := and_e (Cond.before_iff.mp (show (Jvm.Cond.and given_1 narrow_1).before args s = true from hpre))
  obtain ⟨hcount, g0⟩ := and_e hg
  obtain ⟨w0, w1, w2, w3, rfl⟩ : ∃ w0 w1 w2 w3 : Value, args = #[w0, w1, w2, w3] := by
    have hs : args.size = 4 := by simpa [Cond.value, given_1] using hcount
    obtain ⟨L⟩ := args
    match L, hs with
    | [w0, w1, w2, w3], _ => exact ⟨w0, w1, w2, w3, rfl⟩
  have hw := fun d (hd : d ∈ tables_1) => atoms_spec (ws := Jvm.Cond.code x code maxLocals ret :: tables_1) hat d (List.mem_cons_of_mem _ hd)
  have hsets := (atoms_of jdkStatics_1 (show (jdkStatics_1.foldr Jvm.Cond.and restOwn_1).before _ s = true from by rw [← rest_1_c_eq]; exact hrest)).1
  obtain ⟨k0, g1⟩ := and_e g0
  obtain ⟨k1, g2⟩ := and_e g1
  obtain ⟨k2, g3⟩ := and_e g2
  have k3 := g3
  obtain ⟨z0, y0⟩ := isL_v k0
  obtain rfl : w0 = (.long z0) := Option.some.inj y0
  obtain ⟨z1, y1⟩ := is_v k1
  obtain rfl : w1 = (.int z1) := Option.some.inj y1
  obtain ⟨z2, y2⟩ := is_v k2
  obtain rfl : w2 = (.int z2) := Option.some.inj y2
  obtain ⟨z3, y3⟩ := is_v k3
  obtain rfl : w3 = (.int z3) := Option.some.inj y3
  have n0 := hn
  have hSF : SF s := ⟨sf_int (hsets _ (List.mem_of_getElem? (i := 0) rfl)) (hsets _ (List.mem_of_getElem? (i := 1) rfl)), sf_nz (hsets _ (List.mem_of_getElem? (i := 1) rfl)) (hsets _ (List.mem_of_getElem? (i := 2) rfl)), sf_isref (hsets _ (List.mem_of_getElem? (i := 8) rfl)), sf_ref (hsets _ (List.mem_of_getElem? (i := 7) rfl)) (hsets _ (List.mem_of_getElem? (i := 8) rfl)), trivial⟩
  have hE : EW s #[] EL.2 := EW.nil
  have hCH : CHv s EL.2 s.vm s.heap := CHv.nil
  have hHp := Hp.start hCH
  obtain ⟨nn, o, q1, q2, q3, v, L, rfl, N, ⟨D', -, rfl⟩, hq, hWH⟩ := lawW (Z := s) hw hSF z0 z1 z2 z3 ⟨⟨_, hE⟩, by decide⟩ l tables_1 p e ha hc hk s m _ below hf ((Spec.applies_iff_loose hf).mp happ).1 ⟨rfl, State.Warmed39.refl s, hHp⟩ trivial
  exact ⟨nn, _, q1, q2, q3, hpost _ _ _ _ _ _ ⟨Cond.after_iff.mpr rfl, Cond.after_iff.mpr (eq_i res_at (Term.int_eval (1)) rfl), trivial⟩ ⟨hq.1, hq.2.1, hq.2.2.1, (hq.2.2.2.sift fun y hy => Or.inr (N y hy)).mono (by decide) (by decide)⟩⟩
theorem main_1_1 : Claimed_1_1 := comes_1 fun _ _ _ _ _ _ h hF => ⟨h.1, hF⟩
theorem main_1_2 : Claimed_1_2 := comes_1 fun _ _ _ _ _ _ h hF => ⟨h.2.1, hF⟩
end Jvm.Pilot.@@N@@
namespace Jvm.Pilot.@@N@@
open Jvm Jvm.ClassFile Sem Op Lib Jvm.Free Jvm.Stand Jvm.Pilot.@@N@@.Jvm.D
/-! MADE BY PROGRAM (witnessworld.py) out of the Statement's table words and the real class files: 23 classes; the members and pool entries that the words name. The judged class is class 1, her method 1. -/
namespace start1
open Jvm.ClassFile
def u (s : String) : CpInfo := .utf8 (stringToUtf16 s)
/-- a pool by its gaps: so many unusable entries, then the entry; so many at the end -/
def gap : Nat → List CpInfo → List CpInfo
  | 0, r => r
  | n + 1, r => .unusable :: gap n r
def poolList (es : List (Nat × CpInfo)) (last : Nat) : List CpInfo := es.foldr (fun e r => gap e.1 (e.2 :: r)) (gap last [])
def pool (es : List (Nat × CpInfo)) (last : Nat) : Array CpInfo := ⟨poolList es last⟩
def fileOf (pool : Array CpInfo) (this : Nat) (attrs : Array Attribute := #[]) (ms : Array MethodInfo := #[]) (fl : Nat := 33) (sup : Nat := 0) (ifs : Array Nat := #[]) (fds : Array FieldInfo := #[]) : ClassFile where
  minorVersion := 0
  majorVersion := 65
  constantPool := pool
  accessFlags := fl
  thisClass := this
  superClass := sup
  interfaces := ifs
  fields := fds
  methods := ms
  attributes := attrs
def plain (name : String) (sup : Option ClassId) : Class where
  name := name
  kind := .ordinary
  loader := none
  accessFlags := 33
  super := sup
  interfaces := #[]
  cf := none
  fields := #[]
  methods := #[]
  instanceTypes := #[]
  staticTypes := #[]
  resolved := #[]
  callSites := []
  init := .initialized
  statics := none
  mirror := none

def pool0 : Array CpInfo := pool [(5, u "<init>"), (0, u "()V"), (1, .class_ 10), (1, u "java/lang/Object")] 113

def k0c0 : Code := { maxStack := 0, maxLocals := 1, code := object_method_1_code, exceptionTable := #[], attributes := #[] }
def k0m0 : Method := { name := "<init>", desc := "()V", sig := { parameters := [], returnType := none }, accessFlags := 1, code := some k0c0 }
/-- java/lang/Object -/
def k0 : Class := { plain "java/lang/Object" none with
  accessFlags := 33
  interfaces := #[]
  cf := some (fileOf pool0 8 #[] #[{ accessFlags := 1, nameIndex := 5, descriptorIndex := 6, attributes := #[] }] 33 0 #[] #[])
  fields := #[]
  methods := #[k0m0]
  instanceTypes := #[]
  staticTypes := #[]
  resolved := Array.replicate 124 none
  statics := none }

def pool1 : Array CpInfo := pool [(2, .class_ 4), (1, u "java/lang/Object"), (0, u "<init>"), (0, u "()V"), (2, .long 9223372036854775807), (1, .class_ 12), (0, u "java/lang/String"), (0, .methodref 11 14), (0, .nameAndType 5 15), (0, u "([C)V"), (0, .class_ 17), (0, u "com/example/kinpath/kinpath/PathElement"), (0, .methodref 16 19), (0, .nameAndType 5 20), (0, u "(Ljava/lang/String;JLjava/lang/String;)V"), (0, .methodref 16 22), (0, .nameAndType 23 24), (0, u "isComplete"), (0, u "()Z"), (0, .class_ 26), (0, u "com/example/kinpath/kinpath/PathElementIsCompletePinLaw"), (2, u "law"), (0, u "(JIII)Z")] 5

def k1m0 : Method := { name := "<init>", desc := "()V", sig := { parameters := [], returnType := none }, accessFlags := 1, code := none }
def k1c1 : Code := { maxStack := 6, maxLocals := 16, code := code, exceptionTable := #[], attributes := #[] }
def k1m1 : Method := { name := "law", desc := "(JIII)Z", sig := { parameters := [.long, .int, .int, .int], returnType := some .boolean }, accessFlags := 9, code := some k1c1 }
/-- com/example/kinpath/kinpath/PathElementIsCompletePinLaw -/
def k1 : Class := { plain "com/example/kinpath/kinpath/PathElementIsCompletePinLaw" (some 0) with
  accessFlags := 49
  interfaces := #[]
  cf := some (fileOf pool1 25 #[] #[{ accessFlags := 1, nameIndex := 5, descriptorIndex := 6, attributes := #[] }, { accessFlags := 9, nameIndex := 29, descriptorIndex := 30, attributes := #[] }] 49 2 #[] #[])
  fields := #[]
  methods := #[k1m0, k1m1]
  instanceTypes := #[]
  staticTypes := #[]
  resolved := Array.replicate 36 none
  statics := none }

def pool2 : Array CpInfo := pool [(1, .class_ 2), (0, u "java/io/Serializable"), (0, .class_ 4), (0, u "java/lang/Object")] 2

/-- java/io/Serializable -/
def k2 : Class := { plain "java/io/Serializable" (some 0) with
  accessFlags := 1537
  interfaces := #[]
  cf := some (fileOf pool2 1 #[] #[] 1537 3 #[] #[])
  fields := #[]
  methods := #[]
  instanceTypes := #[]
  staticTypes := #[]
  resolved := Array.replicate 7 none
  statics := none }

def pool3 : Array CpInfo := pool [(1, .class_ 2), (0, u "java/lang/Comparable"), (0, .class_ 4), (0, u "java/lang/Object")] 7

/-- java/lang/Comparable -/
def k3 : Class := { plain "java/lang/Comparable" (some 0) with
  accessFlags := 1537
  interfaces := #[]
  cf := some (fileOf pool3 1 #[] #[] 1537 3 #[] #[])
  fields := #[]
  methods := #[]
  instanceTypes := #[]
  staticTypes := #[]
  resolved := Array.replicate 12 none
  statics := none }

def pool4 : Array CpInfo := pool [(2, .class_ 4), (1, u "java/lang/CharSequence"), (42, .class_ 48), (0, u "java/lang/CharSequence$1CodePointIterator"), (10, .class_ 60), (0, u "java/lang/CharSequence$1CharIterator"), (5, .class_ 67), (0, u "java/lang/Object")] 63

/-- java/lang/CharSequence -/
def k4 : Class := { plain "java/lang/CharSequence" (some 0) with
  accessFlags := 1537
  interfaces := #[]
  cf := some (fileOf pool4 2 #[.nestMembers #[47, 59]] #[] 1537 66 #[] #[])
  fields := #[]
  methods := #[]
  instanceTypes := #[]
  staticTypes := #[]
  resolved := Array.replicate 131 none
  statics := none }

def pool5 : Array CpInfo := pool [(1, .class_ 2), (0, u "java/lang/constant/Constable"), (0, .class_ 4), (0, u "java/lang/Object")] 6

/-- java/lang/constant/Constable -/
def k5 : Class := { plain "java/lang/constant/Constable" (some 0) with
  accessFlags := 1537
  interfaces := #[]
  cf := some (fileOf pool5 1 #[] #[] 1537 3 #[] #[])
  fields := #[]
  methods := #[]
  instanceTypes := #[]
  staticTypes := #[]
  resolved := Array.replicate 11 none
  statics := none }

def pool6 : Array CpInfo := pool [(1, .class_ 2), (0, u "java/lang/constant/ConstantDesc"), (0, .class_ 4), (0, u "java/lang/Object")] 32

/-- java/lang/constant/ConstantDesc -/
def k6 : Class := { plain "java/lang/constant/ConstantDesc" (some 0) with
  accessFlags := 1537
  interfaces := #[]
  cf := some (fileOf pool6 1 #[] #[] 1537 3 #[] #[])
  fields := #[]
  methods := #[]
  instanceTypes := #[]
  staticTypes := #[]
  resolved := Array.replicate 37 none
  statics := none }

def pool7 : Array CpInfo := pool [(1, .methodref 2 3), (0, .class_ 4), (0, .nameAndType 5 6), (0, u "java/lang/Object"), (0, u "<init>"), (0, u "()V"), (2, .fieldref 10 11), (0, .class_ 12), (0, .nameAndType 13 14), (0, u "java/lang/String"), (0, u "value"), (0, u "[B"), (0, .fieldref 10 16), (0, .nameAndType 17 18), (0, u "coder"), (0, u "B"), (2, u "hash"), (0, u "I"), (2, u "hashIsZero"), (0, u "Z"), (0, .methodref 10 28), (0, .nameAndType 5 29), (0, u "([CIILjava/lang/Void;)V"), (8, .fieldref 10 39), (0, .nameAndType 40 26), (0, u "COMPACT_STRINGS"), (1, .class_ 44), (1, u "java/lang/StringUTF16"), (0, u "compress"), (1, .methodref 42 48), (0, .nameAndType 49 50), (0, u "coderFromArrayLen"), (0, u "([BI)B"), (56, .class_ 109), (1, u "java/lang/StringLatin1"), (32, u "()Z"), (34, .methodref 42 178), (0, .nameAndType 45 179), (0, u "([CII)[B"), (154, u "()I"), (0, .methodref 10 336), (0, .nameAndType 17 337), (0, u "()B"), (25, u "([BI)C"), (27, u "(II)V"), (35, u "(I)C"), (64, .methodref 10 493), (0, .nameAndType 494 142), (0, u "isLatin1"), (0, .methodref 107 496), (0, .nameAndType 497 363), (0, u "charAt"), (3, u "checkIndex"), (5, u "length"), (67, .class_ 576), (0, u "java/lang/CharSequence"), (22, u "CASE_INSENSITIVE_ORDER"), (0, u "Ljava/util/Comparator;"), (91, u "isEmpty"), (317, u "([C)V"), (42, .fieldref 1054 1055), (0, .class_ 1056), (0, .nameAndType 1057 1058), (0, u "jdk/internal/util/Preconditions"), (0, u "SIOOBE_FORMATTER"), (0, u "Ljava/util/function/BiFunction;"), (0, .methodref 1054 1060), (0, .nameAndType 501 1061), (0, u "(IILjava/util/function/BiFunction;)I"), (39, u "serialPersistentFields"), (0, u "[Ljava/io/ObjectStreamField;"), (0, .class_ 1104), (0, u "java/lang/String$CaseInsensitiveComparator"), (1, .class_ 1107), (0, u "java/io/Serializable"), (0, .class_ 1109), (0, u "java/lang/Comparable"), (0, .class_ 1111), (0, u "java/lang/constant/Constable"), (0, .class_ 1113), (0, u "java/lang/constant/ConstantDesc"), (2, u "serialVersionUID"), (0, u "J"), (3, u "REPL"), (0, u "C"), (2, u "LATIN1"), (1, u "UTF16")] 323

def k7m0 : Method := { name := "<init>", desc := "()V", sig := { parameters := [], returnType := none }, accessFlags := 1, code := none }
def k7c1 : Code := { maxStack := 5, maxLocals := 2, code := jdk_42_method_3_code, exceptionTable := #[], attributes := #[] }
def k7m1 : Method := { name := "<init>", desc := "([C)V", sig := { parameters := [(.array .char)], returnType := none }, accessFlags := 1, code := some k7c1 }
def k7c2 : Code := { maxStack := 2, maxLocals := 1, code := jdk_42_method_54_code, exceptionTable := #[], attributes := #[] }
def k7m2 : Method := { name := "length", desc := "()I", sig := { parameters := [], returnType := some .int }, accessFlags := 1, code := some k7c2 }
def k7c3 : Code := { maxStack := 1, maxLocals := 1, code := jdk_42_method_55_code, exceptionTable := #[], attributes := #[] }
def k7m3 : Method := { name := "isEmpty", desc := "()Z", sig := { parameters := [], returnType := some .boolean }, accessFlags := 1, code := some k7c3 }
def k7c4 : Code := { maxStack := 2, maxLocals := 2, code := jdk_42_method_56_code, exceptionTable := #[], attributes := #[] }
def k7m4 : Method := { name := "charAt", desc := "(I)C", sig := { parameters := [.int], returnType := some .char }, accessFlags := 1, code := some k7c4 }
def k7c5 : Code := { maxStack := 4, maxLocals := 6, code := jdk_42_method_149_code, exceptionTable := #[], attributes := #[] }
def k7m5 : Method := { name := "<init>", desc := "([CIILjava/lang/Void;)V", sig := { parameters := [(.array .char), .int, .int, (.object "java/lang/Void")], returnType := none }, accessFlags := 2, code := some k7c5 }
def k7c6 : Code := { maxStack := 1, maxLocals := 1, code := jdk_42_method_152_code, exceptionTable := #[], attributes := #[] }
def k7m6 : Method := { name := "coder", desc := "()B", sig := { parameters := [], returnType := some .byte }, accessFlags := 0, code := some k7c6 }
def k7c7 : Code := { maxStack := 1, maxLocals := 1, code := jdk_42_method_154_code, exceptionTable := #[], attributes := #[] }
def k7m7 : Method := { name := "isLatin1", desc := "()Z", sig := { parameters := [], returnType := some .boolean }, accessFlags := 0, code := some k7c7 }
def k7c8 : Code := { maxStack := 3, maxLocals := 2, code := jdk_42_method_155_code, exceptionTable := #[], attributes := #[] }
def k7m8 : Method := { name := "checkIndex", desc := "(II)V", sig := { parameters := [.int, .int], returnType := none }, accessFlags := 8, code := some k7c8 }
/-- java/lang/String -/
def k7 : Class := { plain "java/lang/String" (some 0) with
  accessFlags := 49
  interfaces := #[2, 3, 4, 5, 6]
  cf := some (fileOf pool7 10 #[.nestMembers #[1103]] #[{ accessFlags := 1, nameIndex := 5, descriptorIndex := 6, attributes := #[] }, { accessFlags := 1, nameIndex := 5, descriptorIndex := 1010, attributes := #[] }, { accessFlags := 1, nameIndex := 507, descriptorIndex := 334, attributes := #[] }, { accessFlags := 1, nameIndex := 692, descriptorIndex := 142, attributes := #[] }, { accessFlags := 1, nameIndex := 497, descriptorIndex := 427, attributes := #[] }, { accessFlags := 2, nameIndex := 5, descriptorIndex := 29, attributes := #[] }, { accessFlags := 0, nameIndex := 17, descriptorIndex := 337, attributes := #[] }, { accessFlags := 0, nameIndex := 494, descriptorIndex := 142, attributes := #[] }, { accessFlags := 8, nameIndex := 501, descriptorIndex := 391, attributes := #[] }] 49 2 #[1106, 1108, 575, 1110, 1112] #[{ accessFlags := 18, nameIndex := 13, descriptorIndex := 14, attributes := #[] }, { accessFlags := 18, nameIndex := 17, descriptorIndex := 18, attributes := #[] }, { accessFlags := 2, nameIndex := 21, descriptorIndex := 22, attributes := #[] }, { accessFlags := 2, nameIndex := 25, descriptorIndex := 26, attributes := #[] }, { accessFlags := 26, nameIndex := 1116, descriptorIndex := 1117, attributes := #[] }, { accessFlags := 24, nameIndex := 40, descriptorIndex := 26, attributes := #[] }, { accessFlags := 26, nameIndex := 1101, descriptorIndex := 1102, attributes := #[] }, { accessFlags := 26, nameIndex := 1121, descriptorIndex := 1122, attributes := #[] }, { accessFlags := 25, nameIndex := 599, descriptorIndex := 600, attributes := #[] }, { accessFlags := 24, nameIndex := 1125, descriptorIndex := 18, attributes := #[] }, { accessFlags := 24, nameIndex := 1127, descriptorIndex := 18, attributes := #[] }])
  fields := #[{ name := "value", type := (.array .byte), accessFlags := 18, slot := 0, constantValue := 0 }, { name := "coder", type := .byte, accessFlags := 18, slot := 1, constantValue := 0 }, { name := "hash", type := .int, accessFlags := 2, slot := 2, constantValue := 0 }, { name := "hashIsZero", type := .boolean, accessFlags := 2, slot := 3, constantValue := 0 }, { name := "serialVersionUID", type := .long, accessFlags := 26, slot := 0, constantValue := 0 }, { name := "COMPACT_STRINGS", type := .boolean, accessFlags := 24, slot := 1, constantValue := 0 }, { name := "serialPersistentFields", type := (.array (.object "java/io/ObjectStreamField")), accessFlags := 26, slot := 2, constantValue := 0 }, { name := "REPL", type := .char, accessFlags := 26, slot := 3, constantValue := 0 }, { name := "CASE_INSENSITIVE_ORDER", type := (.object "java/util/Comparator"), accessFlags := 25, slot := 4, constantValue := 0 }, { name := "LATIN1", type := .byte, accessFlags := 24, slot := 5, constantValue := 0 }, { name := "UTF16", type := .byte, accessFlags := 24, slot := 6, constantValue := 0 }]
  methods := #[k7m0, k7m1, k7m2, k7m3, k7m4, k7m5, k7m6, k7m7, k7m8]
  instanceTypes := #[(.array .byte), .byte, .int, .boolean]
  staticTypes := #[.long, .boolean, (.array (.object "java/io/ObjectStreamField")), .char, (.object "java/util/Comparator"), .byte, .byte]
  resolved := Array.replicate 1451 none
  statics := some 0 }

def pool8 : Array CpInfo := pool [(6, .class_ 8), (1, u "java/lang/Object"), (0, u "<init>"), (0, u "()V"), (1, .class_ 14), (1, u "java/lang/StringUTF16"), (31, u "$assertionsDisabled"), (0, u "Z"), (13, u "HI_BYTE_SHIFT"), (0, u "I"), (2, u "LO_BYTE_SHIFT"), (49, .methodref 12 116), (0, .nameAndType 117 118), (0, u "compress"), (0, u "([CI[BII)I"), (3, u "([CII)[B"), (138, u "coderFromArrayLen"), (0, u "([BI)B"), (106, .class_ 371), (1, u "java/lang/StringUTF16$LinesSpliterator"), (58, u "MAX_LENGTH"), (196, .class_ 628), (0, u "java/lang/StringUTF16$CodePointsSpliterator"), (0, .class_ 630), (0, u "java/lang/StringUTF16$CharsSpliterator")] 4

def k8m0 : Method := { name := "<init>", desc := "()V", sig := { parameters := [], returnType := none }, accessFlags := 0, code := none }
def k8c1 : Code := { maxStack := 2, maxLocals := 2, code := jdk_52_method_15_code, exceptionTable := #[], attributes := #[] }
def k8m1 : Method := { name := "coderFromArrayLen", desc := "([BI)B", sig := { parameters := [(.array .byte), .int], returnType := some .byte }, accessFlags := 8, code := some k8c1 }
def k8c2 : Code := { maxStack := 5, maxLocals := 6, code := jdk_52_method_16_code, exceptionTable := #[], attributes := #[] }
def k8m2 : Method := { name := "compress", desc := "([CII)[B", sig := { parameters := [(.array .char), .int, .int], returnType := some (.array .byte) }, accessFlags := 9, code := some k8c2 }
def k8c3 : Code := { maxStack := 3, maxLocals := 7, code := jdk_52_method_21_code, exceptionTable := #[], attributes := #[] }
def k8m3 : Method := { name := "compress", desc := "([CI[BII)I", sig := { parameters := [(.array .char), .int, (.array .byte), .int, .int], returnType := some .int }, accessFlags := 9, code := some k8c3 }
/-- java/lang/StringUTF16 -/
def k8 : Class := { plain "java/lang/StringUTF16" (some 0) with
  accessFlags := 48
  interfaces := #[]
  cf := some (fileOf pool8 12 #[.nestMembers #[627, 629, 369]] #[{ accessFlags := 0, nameIndex := 9, descriptorIndex := 10, attributes := #[] }, { accessFlags := 8, nameIndex := 261, descriptorIndex := 262, attributes := #[] }, { accessFlags := 9, nameIndex := 117, descriptorIndex := 122, attributes := #[] }, { accessFlags := 9, nameIndex := 117, descriptorIndex := 118, attributes := #[] }] 48 6 #[] #[{ accessFlags := 26, nameIndex := 61, descriptorIndex := 62, attributes := #[] }, { accessFlags := 26, nameIndex := 65, descriptorIndex := 62, attributes := #[] }, { accessFlags := 24, nameIndex := 430, descriptorIndex := 62, attributes := #[] }, { accessFlags := 4120, nameIndex := 46, descriptorIndex := 47, attributes := #[] }])
  fields := #[{ name := "HI_BYTE_SHIFT", type := .int, accessFlags := 26, slot := 0, constantValue := 0 }, { name := "LO_BYTE_SHIFT", type := .int, accessFlags := 26, slot := 1, constantValue := 0 }, { name := "MAX_LENGTH", type := .int, accessFlags := 24, slot := 2, constantValue := 0 }, { name := "$assertionsDisabled", type := .boolean, accessFlags := 4120, slot := 3, constantValue := 0 }]
  methods := #[k8m0, k8m1, k8m2, k8m3]
  instanceTypes := #[]
  staticTypes := #[.int, .int, .int, .boolean]
  resolved := Array.replicate 635 none
  statics := none }

def pool9 : Array CpInfo := pool [(1, .methodref 2 3), (0, .class_ 4), (0, .nameAndType 5 6), (0, u "java/lang/Object"), (0, u "<init>"), (0, u "()V"), (0, .class_ 8), (0, u "java/lang/Record")] 13

def k9c0 : Code := { maxStack := 1, maxLocals := 1, code := jdk_30_method_1_code, exceptionTable := #[], attributes := #[] }
def k9m0 : Method := { name := "<init>", desc := "()V", sig := { parameters := [], returnType := none }, accessFlags := 4, code := some k9c0 }
/-- java/lang/Record -/
def k9 : Class := { plain "java/lang/Record" (some 0) with
  accessFlags := 1057
  interfaces := #[]
  cf := some (fileOf pool9 7 #[] #[{ accessFlags := 4, nameIndex := 5, descriptorIndex := 6, attributes := #[] }] 1057 2 #[] #[])
  fields := #[]
  methods := #[k9m0]
  instanceTypes := #[]
  staticTypes := #[]
  resolved := Array.replicate 22 none
  statics := none }

def pool10 : Array CpInfo := pool [(1, .methodref 2 3), (0, .class_ 4), (0, .nameAndType 5 6), (0, u "java/lang/Record"), (0, u "<init>"), (0, u "()V"), (0, .string 8), (0, u "a kind"), (0, .methodref 10 11), (0, .class_ 12), (0, .nameAndType 13 14), (0, u "com/example/kinpath/kinpath/Text"), (0, u "requireNonEmpty"), (0, u "(Ljava/lang/String;Ljava/lang/String;)Ljava/lang/String;"), (1, .class_ 18), (1, u "com/example/kinpath/kinpath/PathElement"), (9, .string 29), (0, u "a key name"), (0, .fieldref 16 31), (0, .nameAndType 32 33), (0, u "kind"), (0, u "Ljava/lang/String;"), (0, .fieldref 16 35), (0, .nameAndType 36 37), (0, u "id"), (0, u "J"), (0, .fieldref 16 39), (0, .nameAndType 40 33), (0, u "name"), (2, u "(Ljava/lang/String;JLjava/lang/String;)V"), (16, u "KEY_NAME"), (14, u "()Z"), (0, u "isComplete")] 34

def k10c0 : Code := { maxStack := 4, maxLocals := 5, code := prog_14_method_1_code, exceptionTable := #[], attributes := #[] }
def k10m0 : Method := { name := "<init>", desc := "(Ljava/lang/String;JLjava/lang/String;)V", sig := { parameters := [(.object "java/lang/String"), .long, (.object "java/lang/String")], returnType := none }, accessFlags := 1, code := some k10c0 }
def k10c1 : Code := { maxStack := 4, maxLocals := 1, code := prog_14_method_6_code, exceptionTable := #[], attributes := #[] }
def k10m1 : Method := { name := "isComplete", desc := "()Z", sig := { parameters := [], returnType := some .boolean }, accessFlags := 1, code := some k10c1 }
/-- com/example/kinpath/kinpath/PathElement -/
def k10 : Class := { plain "com/example/kinpath/kinpath/PathElement" (some 9) with
  accessFlags := 49
  interfaces := #[]
  cf := some (fileOf pool10 16 #[] #[{ accessFlags := 1, nameIndex := 5, descriptorIndex := 43, attributes := #[] }, { accessFlags := 1, nameIndex := 76, descriptorIndex := 75, attributes := #[] }] 49 2 #[] #[{ accessFlags := 18, nameIndex := 32, descriptorIndex := 33, attributes := #[] }, { accessFlags := 18, nameIndex := 36, descriptorIndex := 37, attributes := #[] }, { accessFlags := 18, nameIndex := 40, descriptorIndex := 33, attributes := #[] }, { accessFlags := 26, nameIndex := 60, descriptorIndex := 33, attributes := #[] }])
  fields := #[{ name := "kind", type := (.object "java/lang/String"), accessFlags := 18, slot := 0, constantValue := 0 }, { name := "id", type := .long, accessFlags := 18, slot := 1, constantValue := 0 }, { name := "name", type := (.object "java/lang/String"), accessFlags := 18, slot := 2, constantValue := 0 }, { name := "KEY_NAME", type := (.object "java/lang/String"), accessFlags := 26, slot := 0, constantValue := 0 }]
  methods := #[k10m0, k10m1]
  instanceTypes := #[(.object "java/lang/String"), .long, (.object "java/lang/String")]
  staticTypes := #[(.object "java/lang/String")]
  resolved := Array.replicate 111 none
  statics := none }

def pool11 : Array CpInfo := pool [(2, .class_ 4), (1, u "java/lang/Object"), (0, u "<init>"), (0, u "()V"), (9, .methodref 17 18), (0, .class_ 19), (0, .nameAndType 20 21), (0, u "java/lang/String"), (0, u "length"), (0, u "()I"), (0, .methodref 17 23), (0, .nameAndType 24 25), (0, u "charAt"), (0, u "(I)C"), (0, .methodref 27 28), (0, .class_ 29), (0, .nameAndType 30 31), (0, u "java/lang/Character"), (0, u "isSurrogate"), (0, u "(C)Z"), (29, .class_ 63), (1, u "com/example/kinpath/kinpath/Text"), (3, .methodref 61 68), (0, .nameAndType 69 70), (0, u "require"), (0, u "(Ljava/lang/String;Ljava/lang/String;)Ljava/lang/String;"), (0, .methodref 17 72), (0, .nameAndType 73 74), (0, u "isEmpty"), (0, u "()Z"), (8, u "requireNonEmpty")] 21

def k11m0 : Method := { name := "<init>", desc := "()V", sig := { parameters := [], returnType := none }, accessFlags := 2, code := none }
def k11c1 : Code := { maxStack := 5, maxLocals := 4, code := prog_21_method_2_code, exceptionTable := #[], attributes := #[] }
def k11m1 : Method := { name := "require", desc := "(Ljava/lang/String;Ljava/lang/String;)Ljava/lang/String;", sig := { parameters := [(.object "java/lang/String"), (.object "java/lang/String")], returnType := some (.object "java/lang/String") }, accessFlags := 8, code := some k11c1 }
def k11c2 : Code := { maxStack := 3, maxLocals := 2, code := prog_21_method_6_code, exceptionTable := #[], attributes := #[] }
def k11m2 : Method := { name := "requireNonEmpty", desc := "(Ljava/lang/String;Ljava/lang/String;)Ljava/lang/String;", sig := { parameters := [(.object "java/lang/String"), (.object "java/lang/String")], returnType := some (.object "java/lang/String") }, accessFlags := 8, code := some k11c2 }
/-- com/example/kinpath/kinpath/Text -/
def k11 : Class := { plain "com/example/kinpath/kinpath/Text" (some 0) with
  accessFlags := 48
  interfaces := #[]
  cf := some (fileOf pool11 61 #[] #[{ accessFlags := 2, nameIndex := 5, descriptorIndex := 6, attributes := #[] }, { accessFlags := 8, nameIndex := 69, descriptorIndex := 70, attributes := #[] }, { accessFlags := 8, nameIndex := 83, descriptorIndex := 70, attributes := #[] }] 48 2 #[] #[])
  fields := #[]
  methods := #[k11m0, k11m1, k11m2]
  instanceTypes := #[]
  staticTypes := #[]
  resolved := Array.replicate 105 none
  statics := none }

def pool12 : Array CpInfo := pool [(1, .class_ 2), (0, u "java/lang/String"), (1, .class_ 6), (1, u "java/lang/Object"), (0, u "<init>"), (0, u "()V"), (0, .methodref 1 10), (0, .nameAndType 11 12), (0, u "checkIndex"), (0, u "(II)V"), (1, .class_ 16), (1, u "java/lang/StringLatin1"), (36, u "([BI)C"), (67, u "$assertionsDisabled"), (0, u "Z"), (98, .class_ 223), (1, u "java/lang/StringLatin1$LinesSpliterator"), (28, u "charAt"), (137, .class_ 391), (0, u "java/lang/StringLatin1$CharsSpliterator")] 3

def k12m0 : Method := { name := "<init>", desc := "()V", sig := { parameters := [], returnType := none }, accessFlags := 0, code := none }
def k12c1 : Code := { maxStack := 2, maxLocals := 2, code := jdk_43_method_2_code, exceptionTable := #[], attributes := #[] }
def k12m1 : Method := { name := "charAt", desc := "([BI)C", sig := { parameters := [(.array .byte), .int], returnType := some .char }, accessFlags := 9, code := some k12c1 }
/-- java/lang/StringLatin1 -/
def k12 : Class := { plain "java/lang/StringLatin1" (some 0) with
  accessFlags := 48
  interfaces := #[]
  cf := some (fileOf pool12 14 #[.nestMembers #[390, 221]] #[{ accessFlags := 0, nameIndex := 7, descriptorIndex := 8, attributes := #[] }, { accessFlags := 9, nameIndex := 252, descriptorIndex := 53, attributes := #[] }] 48 4 #[] #[{ accessFlags := 4120, nameIndex := 121, descriptorIndex := 122, attributes := #[] }])
  fields := #[{ name := "$assertionsDisabled", type := .boolean, accessFlags := 4120, slot := 0, constantValue := 0 }]
  methods := #[k12m0, k12m1]
  instanceTypes := #[]
  staticTypes := #[.boolean]
  resolved := Array.replicate 395 none
  statics := none }

def pool13 : Array CpInfo := pool [(2, .class_ 4), (1, u "java/lang/Object"), (0, u "<init>"), (0, u "()V"), (17, .class_ 26), (1, u "jdk/internal/util/Preconditions"), (6, u "checkIndex"), (21, .class_ 56), (0, u "jdk/internal/util/Preconditions$4"), (57, .class_ 115), (0, u "jdk/internal/util/Preconditions$1"), (7, u "SIOOBE_FORMATTER"), (0, u "Ljava/util/function/BiFunction;"), (0, .class_ 126), (0, u "jdk/internal/util/Preconditions$2"), (3, u "AIOOBE_FORMATTER"), (0, .class_ 132), (0, u "jdk/internal/util/Preconditions$3"), (3, u "IOOBE_FORMATTER"), (41, u "(IILjava/util/function/BiFunction;)I")] 15

def k13m0 : Method := { name := "<init>", desc := "()V", sig := { parameters := [], returnType := none }, accessFlags := 1, code := none }
def k13c1 : Code := { maxStack := 3, maxLocals := 3, code := jdk_41_method_11_code, exceptionTable := #[], attributes := #[] }
def k13m1 : Method := { name := "checkIndex", desc := "(IILjava/util/function/BiFunction;)I", sig := { parameters := [.int, .int, (.object "java/util/function/BiFunction")], returnType := some .int }, accessFlags := 9, code := some k13c1 }
/-- jdk/internal/util/Preconditions -/
def k13 : Class := { plain "jdk/internal/util/Preconditions" (some 0) with
  accessFlags := 33
  interfaces := #[]
  cf := some (fileOf pool13 24 #[.nestMembers #[55, 131, 125, 114]] #[{ accessFlags := 1, nameIndex := 5, descriptorIndex := 6, attributes := #[] }, { accessFlags := 9, nameIndex := 33, descriptorIndex := 178, attributes := #[] }] 33 2 #[] #[{ accessFlags := 25, nameIndex := 123, descriptorIndex := 124, attributes := #[] }, { accessFlags := 25, nameIndex := 130, descriptorIndex := 124, attributes := #[] }, { accessFlags := 25, nameIndex := 136, descriptorIndex := 124, attributes := #[] }])
  fields := #[{ name := "SIOOBE_FORMATTER", type := (.object "java/util/function/BiFunction"), accessFlags := 25, slot := 0, constantValue := 0 }, { name := "AIOOBE_FORMATTER", type := (.object "java/util/function/BiFunction"), accessFlags := 25, slot := 1, constantValue := 0 }, { name := "IOOBE_FORMATTER", type := (.object "java/util/function/BiFunction"), accessFlags := 25, slot := 2, constantValue := 0 }]
  methods := #[k13m0, k13m1]
  instanceTypes := #[]
  staticTypes := #[(.object "java/util/function/BiFunction"), (.object "java/util/function/BiFunction"), (.object "java/util/function/BiFunction")]
  resolved := Array.replicate 194 none
  statics := some 1 }

def pool14 : Array CpInfo := pool [(1, .class_ 2), (0, u "java/lang/Character"), (18, u "value"), (0, u "C"), (19, .class_ 44), (1, u "java/lang/Object"), (3, .class_ 50), (1, u "java/lang/Character$CharacterCache"), (24, .integer 55296), (5, u "(C)Z"), (202, u "$assertionsDisabled"), (0, u "Z"), (21, .class_ 309), (1, u "java/lang/Character$UnicodeBlock"), (73, u "TYPE"), (0, u "Ljava/lang/Class;"), (0, .class_ 386), (0, u "java/io/Serializable"), (0, .class_ 388), (0, u "java/lang/Comparable"), (0, .class_ 390), (0, u "java/lang/constant/Constable"), (0, u "MIN_RADIX"), (0, u "I"), (2, u "MAX_RADIX"), (1, u "MIN_VALUE"), (1, u "MAX_VALUE"), (3, u "UNASSIGNED"), (0, u "B"), (0, u "UPPERCASE_LETTER"), (1, u "LOWERCASE_LETTER"), (0, u "TITLECASE_LETTER"), (1, u "MODIFIER_LETTER"), (1, u "OTHER_LETTER"), (1, u "NON_SPACING_MARK"), (1, u "ENCLOSING_MARK"), (1, u "COMBINING_SPACING_MARK"), (1, u "DECIMAL_DIGIT_NUMBER"), (1, u "LETTER_NUMBER"), (1, u "OTHER_NUMBER"), (1, u "SPACE_SEPARATOR"), (1, u "LINE_SEPARATOR"), (1, u "PARAGRAPH_SEPARATOR"), (1, u "CONTROL"), (1, u "FORMAT"), (1, u "PRIVATE_USE"), (1, u "SURROGATE"), (1, u "DASH_PUNCTUATION"), (1, u "START_PUNCTUATION"), (1, u "END_PUNCTUATION"), (1, u "CONNECTOR_PUNCTUATION"), (1, u "OTHER_PUNCTUATION"), (1, u "MATH_SYMBOL"), (1, u "CURRENCY_SYMBOL"), (1, u "MODIFIER_SYMBOL"), (1, u "OTHER_SYMBOL"), (1, u "INITIAL_QUOTE_PUNCTUATION"), (1, u "FINAL_QUOTE_PUNCTUATION"), (1, u "ERROR"), (1, u "DIRECTIONALITY_UNDEFINED"), (0, u "DIRECTIONALITY_LEFT_TO_RIGHT"), (0, u "DIRECTIONALITY_RIGHT_TO_LEFT"), (0, u "DIRECTIONALITY_RIGHT_TO_LEFT_ARABIC"), (0, u "DIRECTIONALITY_EUROPEAN_NUMBER"), (0, u "DIRECTIONALITY_EUROPEAN_NUMBER_SEPARATOR"), (0, u "DIRECTIONALITY_EUROPEAN_NUMBER_TERMINATOR"), (0, u "DIRECTIONALITY_ARABIC_NUMBER"), (0, u "DIRECTIONALITY_COMMON_NUMBER_SEPARATOR"), (0, u "DIRECTIONALITY_NONSPACING_MARK"), (0, u "DIRECTIONALITY_BOUNDARY_NEUTRAL"), (0, u "DIRECTIONALITY_PARAGRAPH_SEPARATOR"), (0, u "DIRECTIONALITY_SEGMENT_SEPARATOR"), (0, u "DIRECTIONALITY_WHITESPACE"), (0, u "DIRECTIONALITY_OTHER_NEUTRALS"), (0, u "DIRECTIONALITY_LEFT_TO_RIGHT_EMBEDDING"), (0, u "DIRECTIONALITY_LEFT_TO_RIGHT_OVERRIDE"), (0, u "DIRECTIONALITY_RIGHT_TO_LEFT_EMBEDDING"), (0, u "DIRECTIONALITY_RIGHT_TO_LEFT_OVERRIDE"), (1, u "DIRECTIONALITY_POP_DIRECTIONAL_FORMAT"), (0, u "DIRECTIONALITY_LEFT_TO_RIGHT_ISOLATE"), (0, u "DIRECTIONALITY_RIGHT_TO_LEFT_ISOLATE"), (0, u "DIRECTIONALITY_FIRST_STRONG_ISOLATE"), (0, u "DIRECTIONALITY_POP_DIRECTIONAL_ISOLATE"), (0, u "MIN_HIGH_SURROGATE"), (0, u "MAX_HIGH_SURROGATE"), (1, u "MIN_LOW_SURROGATE"), (0, u "MAX_LOW_SURROGATE"), (1, u "MIN_SURROGATE"), (0, u "MAX_SURROGATE"), (0, u "MIN_SUPPLEMENTARY_CODE_POINT"), (0, u "MIN_CODE_POINT"), (0, u "MAX_CODE_POINT"), (1, u "serialVersionUID"), (0, u "J"), (2, u "SIZE"), (0, u "BYTES"), (24, u "isSurrogate"), (63, .class_ 596), (0, u "java/lang/Character$UnicodeScript"), (0, .class_ 598), (0, u "java/lang/Character$Subset")] 5

def k14c0 : Code := { maxStack := 2, maxLocals := 1, code := jdk_89_method_16_code, exceptionTable := #[], attributes := #[] }
def k14m0 : Method := { name := "isSurrogate", desc := "(C)Z", sig := { parameters := [.char], returnType := some .boolean }, accessFlags := 9, code := some k14c0 }
/-- java/lang/Character -/
def k14 : Class := { plain "java/lang/Character" (some 0) with
  accessFlags := 49
  interfaces := #[2, 3, 5]
  cf := some (fileOf pool14 1 #[.nestMembers #[48, 595, 307, 597]] #[{ accessFlags := 9, nameIndex := 531, descriptorIndex := 81, attributes := #[] }] 49 42 #[385, 387, 389] #[{ accessFlags := 25, nameIndex := 391, descriptorIndex := 392, attributes := #[] }, { accessFlags := 25, nameIndex := 395, descriptorIndex := 392, attributes := #[] }, { accessFlags := 25, nameIndex := 397, descriptorIndex := 22, attributes := #[] }, { accessFlags := 25, nameIndex := 399, descriptorIndex := 22, attributes := #[] }, { accessFlags := 25, nameIndex := 383, descriptorIndex := 384, attributes := #[] }, { accessFlags := 25, nameIndex := 403, descriptorIndex := 404, attributes := #[] }, { accessFlags := 25, nameIndex := 405, descriptorIndex := 404, attributes := #[] }, { accessFlags := 25, nameIndex := 407, descriptorIndex := 404, attributes := #[] }, { accessFlags := 25, nameIndex := 408, descriptorIndex := 404, attributes := #[] }, { accessFlags := 25, nameIndex := 410, descriptorIndex := 404, attributes := #[] }, { accessFlags := 25, nameIndex := 412, descriptorIndex := 404, attributes := #[] }, { accessFlags := 25, nameIndex := 414, descriptorIndex := 404, attributes := #[] }, { accessFlags := 25, nameIndex := 416, descriptorIndex := 404, attributes := #[] }, { accessFlags := 25, nameIndex := 418, descriptorIndex := 404, attributes := #[] }, { accessFlags := 25, nameIndex := 420, descriptorIndex := 404, attributes := #[] }, { accessFlags := 25, nameIndex := 422, descriptorIndex := 404, attributes := #[] }, { accessFlags := 25, nameIndex := 424, descriptorIndex := 404, attributes := #[] }, { accessFlags := 25, nameIndex := 426, descriptorIndex := 404, attributes := #[] }, { accessFlags := 25, nameIndex := 428, descriptorIndex := 404, attributes := #[] }, { accessFlags := 25, nameIndex := 430, descriptorIndex := 404, attributes := #[] }, { accessFlags := 25, nameIndex := 432, descriptorIndex := 404, attributes := #[] }, { accessFlags := 25, nameIndex := 434, descriptorIndex := 404, attributes := #[] }, { accessFlags := 25, nameIndex := 436, descriptorIndex := 404, attributes := #[] }, { accessFlags := 25, nameIndex := 438, descriptorIndex := 404, attributes := #[] }, { accessFlags := 25, nameIndex := 440, descriptorIndex := 404, attributes := #[] }, { accessFlags := 25, nameIndex := 442, descriptorIndex := 404, attributes := #[] }, { accessFlags := 25, nameIndex := 444, descriptorIndex := 404, attributes := #[] }, { accessFlags := 25, nameIndex := 446, descriptorIndex := 404, attributes := #[] }, { accessFlags := 25, nameIndex := 448, descriptorIndex := 404, attributes := #[] }, { accessFlags := 25, nameIndex := 450, descriptorIndex := 404, attributes := #[] }, { accessFlags := 25, nameIndex := 452, descriptorIndex := 404, attributes := #[] }, { accessFlags := 25, nameIndex := 454, descriptorIndex := 404, attributes := #[] }, { accessFlags := 25, nameIndex := 456, descriptorIndex := 404, attributes := #[] }, { accessFlags := 25, nameIndex := 458, descriptorIndex := 404, attributes := #[] }, { accessFlags := 25, nameIndex := 460, descriptorIndex := 404, attributes := #[] }, { accessFlags := 24, nameIndex := 462, descriptorIndex := 392, attributes := #[] }, { accessFlags := 25, nameIndex := 464, descriptorIndex := 404, attributes := #[] }, { accessFlags := 25, nameIndex := 465, descriptorIndex := 404, attributes := #[] }, { accessFlags := 25, nameIndex := 466, descriptorIndex := 404, attributes := #[] }, { accessFlags := 25, nameIndex := 467, descriptorIndex := 404, attributes := #[] }, { accessFlags := 25, nameIndex := 468, descriptorIndex := 404, attributes := #[] }, { accessFlags := 25, nameIndex := 469, descriptorIndex := 404, attributes := #[] }, { accessFlags := 25, nameIndex := 470, descriptorIndex := 404, attributes := #[] }, { accessFlags := 25, nameIndex := 471, descriptorIndex := 404, attributes := #[] }, { accessFlags := 25, nameIndex := 472, descriptorIndex := 404, attributes := #[] }, { accessFlags := 25, nameIndex := 473, descriptorIndex := 404, attributes := #[] }, { accessFlags := 25, nameIndex := 474, descriptorIndex := 404, attributes := #[] }, { accessFlags := 25, nameIndex := 475, descriptorIndex := 404, attributes := #[] }, { accessFlags := 25, nameIndex := 476, descriptorIndex := 404, attributes := #[] }, { accessFlags := 25, nameIndex := 477, descriptorIndex := 404, attributes := #[] }, { accessFlags := 25, nameIndex := 478, descriptorIndex := 404, attributes := #[] }, { accessFlags := 25, nameIndex := 479, descriptorIndex := 404, attributes := #[] }, { accessFlags := 25, nameIndex := 480, descriptorIndex := 404, attributes := #[] }, { accessFlags := 25, nameIndex := 481, descriptorIndex := 404, attributes := #[] }, { accessFlags := 25, nameIndex := 482, descriptorIndex := 404, attributes := #[] }, { accessFlags := 25, nameIndex := 484, descriptorIndex := 404, attributes := #[] }, { accessFlags := 25, nameIndex := 485, descriptorIndex := 404, attributes := #[] }, { accessFlags := 25, nameIndex := 486, descriptorIndex := 404, attributes := #[] }, { accessFlags := 25, nameIndex := 487, descriptorIndex := 404, attributes := #[] }, { accessFlags := 25, nameIndex := 488, descriptorIndex := 404, attributes := #[] }, { accessFlags := 25, nameIndex := 489, descriptorIndex := 22, attributes := #[] }, { accessFlags := 25, nameIndex := 490, descriptorIndex := 22, attributes := #[] }, { accessFlags := 25, nameIndex := 492, descriptorIndex := 22, attributes := #[] }, { accessFlags := 25, nameIndex := 493, descriptorIndex := 22, attributes := #[] }, { accessFlags := 25, nameIndex := 495, descriptorIndex := 22, attributes := #[] }, { accessFlags := 25, nameIndex := 496, descriptorIndex := 22, attributes := #[] }, { accessFlags := 25, nameIndex := 497, descriptorIndex := 392, attributes := #[] }, { accessFlags := 25, nameIndex := 498, descriptorIndex := 392, attributes := #[] }, { accessFlags := 25, nameIndex := 499, descriptorIndex := 392, attributes := #[] }, { accessFlags := 18, nameIndex := 21, descriptorIndex := 22, attributes := #[] }, { accessFlags := 26, nameIndex := 501, descriptorIndex := 502, attributes := #[] }, { accessFlags := 25, nameIndex := 505, descriptorIndex := 392, attributes := #[] }, { accessFlags := 25, nameIndex := 506, descriptorIndex := 392, attributes := #[] }, { accessFlags := 4120, nameIndex := 284, descriptorIndex := 285, attributes := #[] }])
  fields := #[{ name := "MIN_RADIX", type := .int, accessFlags := 25, slot := 0, constantValue := 0 }, { name := "MAX_RADIX", type := .int, accessFlags := 25, slot := 1, constantValue := 0 }, { name := "MIN_VALUE", type := .char, accessFlags := 25, slot := 2, constantValue := 0 }, { name := "MAX_VALUE", type := .char, accessFlags := 25, slot := 3, constantValue := 0 }, { name := "TYPE", type := (.object "java/lang/Class"), accessFlags := 25, slot := 4, constantValue := 0 }, { name := "UNASSIGNED", type := .byte, accessFlags := 25, slot := 5, constantValue := 0 }, { name := "UPPERCASE_LETTER", type := .byte, accessFlags := 25, slot := 6, constantValue := 0 }, { name := "LOWERCASE_LETTER", type := .byte, accessFlags := 25, slot := 7, constantValue := 0 }, { name := "TITLECASE_LETTER", type := .byte, accessFlags := 25, slot := 8, constantValue := 0 }, { name := "MODIFIER_LETTER", type := .byte, accessFlags := 25, slot := 9, constantValue := 0 }, { name := "OTHER_LETTER", type := .byte, accessFlags := 25, slot := 10, constantValue := 0 }, { name := "NON_SPACING_MARK", type := .byte, accessFlags := 25, slot := 11, constantValue := 0 }, { name := "ENCLOSING_MARK", type := .byte, accessFlags := 25, slot := 12, constantValue := 0 }, { name := "COMBINING_SPACING_MARK", type := .byte, accessFlags := 25, slot := 13, constantValue := 0 }, { name := "DECIMAL_DIGIT_NUMBER", type := .byte, accessFlags := 25, slot := 14, constantValue := 0 }, { name := "LETTER_NUMBER", type := .byte, accessFlags := 25, slot := 15, constantValue := 0 }, { name := "OTHER_NUMBER", type := .byte, accessFlags := 25, slot := 16, constantValue := 0 }, { name := "SPACE_SEPARATOR", type := .byte, accessFlags := 25, slot := 17, constantValue := 0 }, { name := "LINE_SEPARATOR", type := .byte, accessFlags := 25, slot := 18, constantValue := 0 }, { name := "PARAGRAPH_SEPARATOR", type := .byte, accessFlags := 25, slot := 19, constantValue := 0 }, { name := "CONTROL", type := .byte, accessFlags := 25, slot := 20, constantValue := 0 }, { name := "FORMAT", type := .byte, accessFlags := 25, slot := 21, constantValue := 0 }, { name := "PRIVATE_USE", type := .byte, accessFlags := 25, slot := 22, constantValue := 0 }, { name := "SURROGATE", type := .byte, accessFlags := 25, slot := 23, constantValue := 0 }, { name := "DASH_PUNCTUATION", type := .byte, accessFlags := 25, slot := 24, constantValue := 0 }, { name := "START_PUNCTUATION", type := .byte, accessFlags := 25, slot := 25, constantValue := 0 }, { name := "END_PUNCTUATION", type := .byte, accessFlags := 25, slot := 26, constantValue := 0 }, { name := "CONNECTOR_PUNCTUATION", type := .byte, accessFlags := 25, slot := 27, constantValue := 0 }, { name := "OTHER_PUNCTUATION", type := .byte, accessFlags := 25, slot := 28, constantValue := 0 }, { name := "MATH_SYMBOL", type := .byte, accessFlags := 25, slot := 29, constantValue := 0 }, { name := "CURRENCY_SYMBOL", type := .byte, accessFlags := 25, slot := 30, constantValue := 0 }, { name := "MODIFIER_SYMBOL", type := .byte, accessFlags := 25, slot := 31, constantValue := 0 }, { name := "OTHER_SYMBOL", type := .byte, accessFlags := 25, slot := 32, constantValue := 0 }, { name := "INITIAL_QUOTE_PUNCTUATION", type := .byte, accessFlags := 25, slot := 33, constantValue := 0 }, { name := "FINAL_QUOTE_PUNCTUATION", type := .byte, accessFlags := 25, slot := 34, constantValue := 0 }, { name := "ERROR", type := .int, accessFlags := 24, slot := 35, constantValue := 0 }, { name := "DIRECTIONALITY_UNDEFINED", type := .byte, accessFlags := 25, slot := 36, constantValue := 0 }, { name := "DIRECTIONALITY_LEFT_TO_RIGHT", type := .byte, accessFlags := 25, slot := 37, constantValue := 0 }, { name := "DIRECTIONALITY_RIGHT_TO_LEFT", type := .byte, accessFlags := 25, slot := 38, constantValue := 0 }, { name := "DIRECTIONALITY_RIGHT_TO_LEFT_ARABIC", type := .byte, accessFlags := 25, slot := 39, constantValue := 0 }, { name := "DIRECTIONALITY_EUROPEAN_NUMBER", type := .byte, accessFlags := 25, slot := 40, constantValue := 0 }, { name := "DIRECTIONALITY_EUROPEAN_NUMBER_SEPARATOR", type := .byte, accessFlags := 25, slot := 41, constantValue := 0 }, { name := "DIRECTIONALITY_EUROPEAN_NUMBER_TERMINATOR", type := .byte, accessFlags := 25, slot := 42, constantValue := 0 }, { name := "DIRECTIONALITY_ARABIC_NUMBER", type := .byte, accessFlags := 25, slot := 43, constantValue := 0 }, { name := "DIRECTIONALITY_COMMON_NUMBER_SEPARATOR", type := .byte, accessFlags := 25, slot := 44, constantValue := 0 }, { name := "DIRECTIONALITY_NONSPACING_MARK", type := .byte, accessFlags := 25, slot := 45, constantValue := 0 }, { name := "DIRECTIONALITY_BOUNDARY_NEUTRAL", type := .byte, accessFlags := 25, slot := 46, constantValue := 0 }, { name := "DIRECTIONALITY_PARAGRAPH_SEPARATOR", type := .byte, accessFlags := 25, slot := 47, constantValue := 0 }, { name := "DIRECTIONALITY_SEGMENT_SEPARATOR", type := .byte, accessFlags := 25, slot := 48, constantValue := 0 }, { name := "DIRECTIONALITY_WHITESPACE", type := .byte, accessFlags := 25, slot := 49, constantValue := 0 }, { name := "DIRECTIONALITY_OTHER_NEUTRALS", type := .byte, accessFlags := 25, slot := 50, constantValue := 0 }, { name := "DIRECTIONALITY_LEFT_TO_RIGHT_EMBEDDING", type := .byte, accessFlags := 25, slot := 51, constantValue := 0 }, { name := "DIRECTIONALITY_LEFT_TO_RIGHT_OVERRIDE", type := .byte, accessFlags := 25, slot := 52, constantValue := 0 }, { name := "DIRECTIONALITY_RIGHT_TO_LEFT_EMBEDDING", type := .byte, accessFlags := 25, slot := 53, constantValue := 0 }, { name := "DIRECTIONALITY_RIGHT_TO_LEFT_OVERRIDE", type := .byte, accessFlags := 25, slot := 54, constantValue := 0 }, { name := "DIRECTIONALITY_POP_DIRECTIONAL_FORMAT", type := .byte, accessFlags := 25, slot := 55, constantValue := 0 }, { name := "DIRECTIONALITY_LEFT_TO_RIGHT_ISOLATE", type := .byte, accessFlags := 25, slot := 56, constantValue := 0 }, { name := "DIRECTIONALITY_RIGHT_TO_LEFT_ISOLATE", type := .byte, accessFlags := 25, slot := 57, constantValue := 0 }, { name := "DIRECTIONALITY_FIRST_STRONG_ISOLATE", type := .byte, accessFlags := 25, slot := 58, constantValue := 0 }, { name := "DIRECTIONALITY_POP_DIRECTIONAL_ISOLATE", type := .byte, accessFlags := 25, slot := 59, constantValue := 0 }, { name := "MIN_HIGH_SURROGATE", type := .char, accessFlags := 25, slot := 60, constantValue := 0 }, { name := "MAX_HIGH_SURROGATE", type := .char, accessFlags := 25, slot := 61, constantValue := 0 }, { name := "MIN_LOW_SURROGATE", type := .char, accessFlags := 25, slot := 62, constantValue := 0 }, { name := "MAX_LOW_SURROGATE", type := .char, accessFlags := 25, slot := 63, constantValue := 0 }, { name := "MIN_SURROGATE", type := .char, accessFlags := 25, slot := 64, constantValue := 0 }, { name := "MAX_SURROGATE", type := .char, accessFlags := 25, slot := 65, constantValue := 0 }, { name := "MIN_SUPPLEMENTARY_CODE_POINT", type := .int, accessFlags := 25, slot := 66, constantValue := 0 }, { name := "MIN_CODE_POINT", type := .int, accessFlags := 25, slot := 67, constantValue := 0 }, { name := "MAX_CODE_POINT", type := .int, accessFlags := 25, slot := 68, constantValue := 0 }, { name := "value", type := .char, accessFlags := 18, slot := 0, constantValue := 0 }, { name := "serialVersionUID", type := .long, accessFlags := 26, slot := 69, constantValue := 0 }, { name := "SIZE", type := .int, accessFlags := 25, slot := 70, constantValue := 0 }, { name := "BYTES", type := .int, accessFlags := 25, slot := 71, constantValue := 0 }, { name := "$assertionsDisabled", type := .boolean, accessFlags := 4120, slot := 72, constantValue := 0 }]
  methods := #[k14m0]
  instanceTypes := #[.char]
  staticTypes := #[.int, .int, .char, .char, (.object "java/lang/Class"), .byte, .byte, .byte, .byte, .byte, .byte, .byte, .byte, .byte, .byte, .byte, .byte, .byte, .byte, .byte, .byte, .byte, .byte, .byte, .byte, .byte, .byte, .byte, .byte, .byte, .byte, .byte, .byte, .byte, .byte, .int, .byte, .byte, .byte, .byte, .byte, .byte, .byte, .byte, .byte, .byte, .byte, .byte, .byte, .byte, .byte, .byte, .byte, .byte, .byte, .byte, .byte, .byte, .byte, .byte, .char, .char, .char, .char, .char, .char, .int, .int, .int, .long, .int, .int, .boolean]
  resolved := Array.replicate 604 none
  statics := none }

def pool15 : Array CpInfo := pool [(9, u "<init>"), (6, .class_ 18), (1, u "java/lang/Object"), (0, u "()V"), (1, .class_ 23), (1, u "jdk/internal/util/ArraysSupport"), (0, u "LOG2_ARRAY_LONG_INDEX_SCALE"), (0, u "I"), (2, u "U"), (0, u "Ljdk/internal/misc/Unsafe;"), (8, u "BIG_ENDIAN"), (0, u "Z"), (8, u "LOG2_BYTE_BIT_SIZE"), (4, u "LOG2_ARRAY_INT_INDEX_SCALE"), (54, u "JLA"), (0, u "Ljdk/internal/access/JavaLangAccess;"), (11, u "LOG2_ARRAY_BOOLEAN_INDEX_SCALE"), (9, u "LOG2_ARRAY_BYTE_INDEX_SCALE"), (5, u "LOG2_ARRAY_CHAR_INDEX_SCALE"), (5, u "LOG2_ARRAY_SHORT_INDEX_SCALE"), (18, u "LOG2_ARRAY_FLOAT_INDEX_SCALE"), (24, u "LOG2_ARRAY_DOUBLE_INDEX_SCALE"), (89, u "T_BOOLEAN"), (2, u "T_CHAR"), (1, u "T_FLOAT"), (1, u "T_DOUBLE"), (1, u "T_BYTE"), (1, u "T_SHORT"), (1, u "T_INT"), (1, u "T_LONG"), (1, u "SOFT_MAX_ARRAY_LENGTH")] 83

def k15m0 : Method := { name := "<init>", desc := "()V", sig := { parameters := [], returnType := none }, accessFlags := 2, code := none }
/-- jdk/internal/util/ArraysSupport -/
def k15 : Class := { plain "jdk/internal/util/ArraysSupport" (some 0) with
  accessFlags := 33
  interfaces := #[]
  cf := some (fileOf pool15 21 #[] #[{ accessFlags := 2, nameIndex := 9, descriptorIndex := 19, attributes := #[] }] 33 16 #[] #[{ accessFlags := 24, nameIndex := 28, descriptorIndex := 29, attributes := #[] }, { accessFlags := 26, nameIndex := 38, descriptorIndex := 39, attributes := #[] }, { accessFlags := 25, nameIndex := 121, descriptorIndex := 25, attributes := #[] }, { accessFlags := 25, nameIndex := 131, descriptorIndex := 25, attributes := #[] }, { accessFlags := 25, nameIndex := 137, descriptorIndex := 25, attributes := #[] }, { accessFlags := 25, nameIndex := 143, descriptorIndex := 25, attributes := #[] }, { accessFlags := 25, nameIndex := 53, descriptorIndex := 25, attributes := #[] }, { accessFlags := 25, nameIndex := 24, descriptorIndex := 25, attributes := #[] }, { accessFlags := 25, nameIndex := 162, descriptorIndex := 25, attributes := #[] }, { accessFlags := 25, nameIndex := 187, descriptorIndex := 25, attributes := #[] }, { accessFlags := 26, nameIndex := 48, descriptorIndex := 25, attributes := #[] }, { accessFlags := 25, nameIndex := 277, descriptorIndex := 25, attributes := #[] }, { accessFlags := 25, nameIndex := 280, descriptorIndex := 25, attributes := #[] }, { accessFlags := 25, nameIndex := 282, descriptorIndex := 25, attributes := #[] }, { accessFlags := 25, nameIndex := 284, descriptorIndex := 25, attributes := #[] }, { accessFlags := 25, nameIndex := 286, descriptorIndex := 25, attributes := #[] }, { accessFlags := 25, nameIndex := 288, descriptorIndex := 25, attributes := #[] }, { accessFlags := 25, nameIndex := 290, descriptorIndex := 25, attributes := #[] }, { accessFlags := 25, nameIndex := 292, descriptorIndex := 25, attributes := #[] }, { accessFlags := 26, nameIndex := 108, descriptorIndex := 109, attributes := #[] }, { accessFlags := 25, nameIndex := 294, descriptorIndex := 25, attributes := #[] }])
  fields := #[{ name := "U", type := (.object "jdk/internal/misc/Unsafe"), accessFlags := 24, slot := 0, constantValue := 0 }, { name := "BIG_ENDIAN", type := .boolean, accessFlags := 26, slot := 1, constantValue := 0 }, { name := "LOG2_ARRAY_BOOLEAN_INDEX_SCALE", type := .int, accessFlags := 25, slot := 2, constantValue := 0 }, { name := "LOG2_ARRAY_BYTE_INDEX_SCALE", type := .int, accessFlags := 25, slot := 3, constantValue := 0 }, { name := "LOG2_ARRAY_CHAR_INDEX_SCALE", type := .int, accessFlags := 25, slot := 4, constantValue := 0 }, { name := "LOG2_ARRAY_SHORT_INDEX_SCALE", type := .int, accessFlags := 25, slot := 5, constantValue := 0 }, { name := "LOG2_ARRAY_INT_INDEX_SCALE", type := .int, accessFlags := 25, slot := 6, constantValue := 0 }, { name := "LOG2_ARRAY_LONG_INDEX_SCALE", type := .int, accessFlags := 25, slot := 7, constantValue := 0 }, { name := "LOG2_ARRAY_FLOAT_INDEX_SCALE", type := .int, accessFlags := 25, slot := 8, constantValue := 0 }, { name := "LOG2_ARRAY_DOUBLE_INDEX_SCALE", type := .int, accessFlags := 25, slot := 9, constantValue := 0 }, { name := "LOG2_BYTE_BIT_SIZE", type := .int, accessFlags := 26, slot := 10, constantValue := 0 }, { name := "T_BOOLEAN", type := .int, accessFlags := 25, slot := 11, constantValue := 0 }, { name := "T_CHAR", type := .int, accessFlags := 25, slot := 12, constantValue := 0 }, { name := "T_FLOAT", type := .int, accessFlags := 25, slot := 13, constantValue := 0 }, { name := "T_DOUBLE", type := .int, accessFlags := 25, slot := 14, constantValue := 0 }, { name := "T_BYTE", type := .int, accessFlags := 25, slot := 15, constantValue := 0 }, { name := "T_SHORT", type := .int, accessFlags := 25, slot := 16, constantValue := 0 }, { name := "T_INT", type := .int, accessFlags := 25, slot := 17, constantValue := 0 }, { name := "T_LONG", type := .int, accessFlags := 25, slot := 18, constantValue := 0 }, { name := "JLA", type := (.object "jdk/internal/access/JavaLangAccess"), accessFlags := 26, slot := 19, constantValue := 0 }, { name := "SOFT_MAX_ARRAY_LENGTH", type := .int, accessFlags := 25, slot := 20, constantValue := 0 }]
  methods := #[k15m0]
  instanceTypes := #[]
  staticTypes := #[(.object "jdk/internal/misc/Unsafe"), .boolean, .int, .int, .int, .int, .int, .int, .int, .int, .int, .int, .int, .int, .int, .int, .int, .int, .int, (.object "jdk/internal/access/JavaLangAccess"), .int]
  resolved := Array.replicate 378 none
  statics := none }

def pool16 : Array CpInfo := pool [(1, u "java/lang/Cloneable"), (0, .class_ 1), (0, u "java/lang/Object"), (0, .class_ 3)] 3

/-- java/lang/Cloneable -/
def k16 : Class := { plain "java/lang/Cloneable" (some 0) with
  accessFlags := 1537
  interfaces := #[]
  cf := some (fileOf pool16 2 #[] #[] 1537 4 #[] #[])
  fields := #[]
  methods := #[]
  instanceTypes := #[]
  staticTypes := #[]
  resolved := Array.replicate 8 none
  statics := none }

/-- the primitive byte -/
def k17 : Class := { plain "byte" none with kind := .primitive 'B', accessFlags := 0x411 }
/-- [B -/
def k18 : Class := { plain "[B" (some 0) with kind := .array 17 .byte, interfaces := #[16, 2], accessFlags := 1041 }

/-- the primitive char -/
def k19 : Class := { plain "char" none with kind := .primitive 'C', accessFlags := 0x411 }
/-- [C -/
def k20 : Class := { plain "[C" (some 0) with kind := .array 19 .char, interfaces := #[16, 2], accessFlags := 1041 }

/-- the primitive int -/
def k21 : Class := { plain "int" none with kind := .primitive 'I', accessFlags := 0x411 }
/-- [I -/
def k22 : Class := { plain "[I" (some 0) with kind := .array 21 .int, interfaces := #[16, 2], accessFlags := 1041 }

def heap : Heap := #[{ cls := 7, slots := #[.long 0, .int 1, .null, .int 0, .null, .int 0, .int 0], vm := .statics 7 },
  { cls := 13, slots := #[.null, .null, .null], vm := .statics 13 }]
def classes : Array Class := #[k0, k1, k2, k3, k4, k5, k6, k7, k8, k9, k10, k11, k12, k13, k14, k15, k16, k17, k18, k19, k20, k21, k22]
def interned : List (Array UInt16 × Addr) := []
def slotsUsed : Nat := 10
def theMethod : MethodId := ⟨1, 1⟩
def args0 : Array Value := #[.long 5, .int 0, .int 65, .int 66]
def aboutOver (below : List Frame) : State where
  vm := { classes := classes, interned := interned.toArray }
  heap := heap
  slotsUsed := slotsUsed
  threads := #[{ frames := .invoking theMethod args0 :: below }]
def below0 : List Frame := [.native { method := ⟨0, 0⟩, args := #[] }]
def about1 : State := aboutOver below0
def p0 : Program := .bare "" "" ""
def e0 : Env := launch0.env 0 0 0
theorem w_frames : about1.frames = Frame.invoking theMethod args0 :: below0 := rfl
set_option maxRecDepth 65536 in
theorem w_args : argsFit about1.vm theMethod args0 = true := by decide +kernel
set_option maxRecDepth 65536 in
theorem w_heap : heapFits about1 = true := by decide +kernel
set_option maxRecDepth 65536 in
theorem w_runnable : about1.curStatus? = some .runnable := by decide +kernel
set_option maxRecDepth 65536 in
theorem w_alone : about1.alone = true := by decide +kernel
set_option maxRecDepth 65536 in
theorem w_named : about1.methodNamed? x = some theMethod := by decide +kernel
set_option maxRecDepth 65536 in
theorem w_hears : about1.hears theMethod below0 = true := by decide +kernel
set_option maxRecDepth 65536 in
theorem w_ripe : about1.ripe theMethod args0 below0 = true := by decide +kernel
theorem w_running : about1.status = .running := rfl
set_option maxRecDepth 65536 in
theorem w_room : about1.hasRoom e0.platform room_1 = true :=
  launch0.hasRoom_least _ room_1 (by decide +kernel) (by decide +kernel) (by decide +kernel) (by decide +kernel) (by decide +kernel) (by decide +kernel)
theorem allAtoms_all (ts : List Jvm.Cond) (a : Array Jvm.Value) (st : Jvm.State) : (allAtoms ts).before a st = ts.all (fun c => c.before a st) := by
  induction ts with
  | nil => rfl
  | cons c t ih =>
    show (Jvm.Cond.and c (allAtoms t)).before a st = _
    rw [Jvm.Cond.before_and, ih, List.all_cons]
def words1 : List Jvm.Cond := Jvm.Cond.code x code maxLocals ret :: tables_1
/-- a 'code' word, met by the world's own term for the bytes: nothing is compared byte by byte -/
theorem code_word {y : MethodName} {bytes : ByteArray} {mx : Nat} {rt : Option FieldType} {a : Array Value} {s : State} {m : MethodId} {meth : Method} {c : Code} (h1 : s.methodNamed? y = some m) (h2 : s.vm.method? m = some meth) (h3 : meth.code = some c) (h4 : c.code = bytes)
    (h5 : (c.maxLocals == mx && c.exceptionTable.isEmpty && decide (c.maxStack ≤ mostOperands) && decide (meth.sig.returnType = rt) && !meth.locks && decide (parseMethodDescriptor y.desc = some meth.sig)) = true) : (Jvm.Cond.code y bytes mx rt).before a s = true := by
  simp only [Bool.and_eq_true, beq_iff_eq, Bool.not_eq_true', decide_eq_true_eq] at h5
  obtain ⟨⟨⟨⟨⟨g1, g2⟩, g3⟩, g4⟩, g5⟩, g6⟩ := h5
  simp [Cond.before, Cond.holds, Cond.value, h1, h2, h3, h4, g1, g2, g3, g4, g5, g6]
def isCode : Jvm.Cond → Bool
  | .code _ _ _ _ => true
  | _ => false
theorem all_split {L : List Jvm.Cond} {P : Jvm.Cond → Bool} (h1 : L.all (fun c => isCode c || P c) = true) (h2 : ∀ c ∈ L.filter isCode, P c = true) : L.all P = true := by
  refine List.all_eq_true.mpr fun c hc => ?_
  have h := List.all_eq_true.mp h1 c hc
  rcases Bool.eq_false_or_eq_true (isCode c) with hi | hi
  · exact h2 c (List.mem_filter.mpr ⟨hc, hi⟩)
  · simpa [hi] using h
set_option maxRecDepth 65536 in
theorem w_c0 : (Jvm.Cond.code x code maxLocals ret).before args0 about1 = true := code_word (m := ⟨1, 1⟩) (meth := k1m1) (c := k1c1) (by decide +kernel) rfl rfl rfl (by decide +kernel)
set_option maxRecDepth 65536 in
theorem w_c1 : (Jvm.Cond.code ({ cls := "java/lang/String", name := "<init>", desc := "([C)V" } : Jvm.MethodName) jdk_42_method_3_code (2 : Nat) (Option.none : Option Jvm.ClassFile.FieldType)).before args0 about1 = true := code_word (m := ⟨7, 1⟩) (meth := k7m1) (c := k7c1) (by decide +kernel) rfl rfl rfl (by decide +kernel)
set_option maxRecDepth 65536 in
theorem w_c2 : (Jvm.Cond.code ({ cls := "java/lang/String", name := "<init>", desc := "([CIILjava/lang/Void;)V" } : Jvm.MethodName) jdk_42_method_149_code (6 : Nat) (Option.none : Option Jvm.ClassFile.FieldType)).before args0 about1 = true := code_word (m := ⟨7, 5⟩) (meth := k7m5) (c := k7c5) (by decide +kernel) rfl rfl rfl (by decide +kernel)
set_option maxRecDepth 65536 in
theorem w_c3 : (Jvm.Cond.code ({ cls := "java/lang/Object", name := "<init>", desc := "()V" } : Jvm.MethodName) object_method_1_code (1 : Nat) (Option.none : Option Jvm.ClassFile.FieldType)).before args0 about1 = true := code_word (m := ⟨0, 0⟩) (meth := k0m0) (c := k0c0) (by decide +kernel) rfl rfl rfl (by decide +kernel)
set_option maxRecDepth 65536 in
theorem w_c4 : (Jvm.Cond.code ({ cls := "java/lang/StringUTF16", name := "compress", desc := "([CII)[B" } : Jvm.MethodName) jdk_52_method_16_code (6 : Nat) (Option.some (Jvm.ClassFile.FieldType.array Jvm.ClassFile.FieldType.byte))).before args0 about1 = true := code_word (m := ⟨8, 2⟩) (meth := k8m2) (c := k8c2) (by decide +kernel) rfl rfl rfl (by decide +kernel)
set_option maxRecDepth 65536 in
theorem w_c5 : (Jvm.Cond.code ({ cls := "java/lang/StringUTF16", name := "compress", desc := "([CI[BII)I" } : Jvm.MethodName) jdk_52_method_21_code (7 : Nat) (Option.some Jvm.ClassFile.FieldType.int)).before args0 about1 = true := code_word (m := ⟨8, 3⟩) (meth := k8m3) (c := k8c3) (by decide +kernel) rfl rfl rfl (by decide +kernel)
set_option maxRecDepth 65536 in
theorem w_c6 : (Jvm.Cond.code ({ cls := "java/lang/StringUTF16", name := "coderFromArrayLen", desc := "([BI)B" } : Jvm.MethodName) jdk_52_method_15_code (2 : Nat) (Option.some Jvm.ClassFile.FieldType.byte)).before args0 about1 = true := code_word (m := ⟨8, 1⟩) (meth := k8m1) (c := k8c1) (by decide +kernel) rfl rfl rfl (by decide +kernel)
set_option maxRecDepth 65536 in
theorem w_c7 : (Jvm.Cond.code ({ cls := "com/example/kinpath/kinpath/PathElement", name := "<init>", desc := "(Ljava/lang/String;JLjava/lang/String;)V" } : Jvm.MethodName) prog_14_method_1_code (5 : Nat) (Option.none : Option Jvm.ClassFile.FieldType)).before args0 about1 = true := code_word (m := ⟨10, 0⟩) (meth := k10m0) (c := k10c0) (by decide +kernel) rfl rfl rfl (by decide +kernel)
set_option maxRecDepth 65536 in
theorem w_c8 : (Jvm.Cond.code ({ cls := "java/lang/Record", name := "<init>", desc := "()V" } : Jvm.MethodName) jdk_30_method_1_code (1 : Nat) (Option.none : Option Jvm.ClassFile.FieldType)).before args0 about1 = true := code_word (m := ⟨9, 0⟩) (meth := k9m0) (c := k9c0) (by decide +kernel) rfl rfl rfl (by decide +kernel)
set_option maxRecDepth 65536 in
theorem w_c9 : (Jvm.Cond.code ({ cls := "com/example/kinpath/kinpath/Text", name := "requireNonEmpty", desc := "(Ljava/lang/String;Ljava/lang/String;)Ljava/lang/String;" } : Jvm.MethodName) prog_21_method_6_code (2 : Nat) (Option.some (Jvm.ClassFile.FieldType.object "java/lang/String"))).before args0 about1 = true := code_word (m := ⟨11, 2⟩) (meth := k11m2) (c := k11c2) (by decide +kernel) rfl rfl rfl (by decide +kernel)
set_option maxRecDepth 65536 in
theorem w_c10 : (Jvm.Cond.code ({ cls := "com/example/kinpath/kinpath/Text", name := "require", desc := "(Ljava/lang/String;Ljava/lang/String;)Ljava/lang/String;" } : Jvm.MethodName) prog_21_method_2_code (4 : Nat) (Option.some (Jvm.ClassFile.FieldType.object "java/lang/String"))).before args0 about1 = true := code_word (m := ⟨11, 1⟩) (meth := k11m1) (c := k11c1) (by decide +kernel) rfl rfl rfl (by decide +kernel)
set_option maxRecDepth 65536 in
theorem w_c11 : (Jvm.Cond.code ({ cls := "java/lang/String", name := "length", desc := "()I" } : Jvm.MethodName) jdk_42_method_54_code (1 : Nat) (Option.some Jvm.ClassFile.FieldType.int)).before args0 about1 = true := code_word (m := ⟨7, 2⟩) (meth := k7m2) (c := k7c2) (by decide +kernel) rfl rfl rfl (by decide +kernel)
set_option maxRecDepth 65536 in
theorem w_c12 : (Jvm.Cond.code ({ cls := "java/lang/String", name := "coder", desc := "()B" } : Jvm.MethodName) jdk_42_method_152_code (1 : Nat) (Option.some Jvm.ClassFile.FieldType.byte)).before args0 about1 = true := code_word (m := ⟨7, 6⟩) (meth := k7m6) (c := k7c6) (by decide +kernel) rfl rfl rfl (by decide +kernel)
set_option maxRecDepth 65536 in
theorem w_c13 : (Jvm.Cond.code ({ cls := "java/lang/String", name := "charAt", desc := "(I)C" } : Jvm.MethodName) jdk_42_method_56_code (2 : Nat) (Option.some Jvm.ClassFile.FieldType.char)).before args0 about1 = true := code_word (m := ⟨7, 4⟩) (meth := k7m4) (c := k7c4) (by decide +kernel) rfl rfl rfl (by decide +kernel)
set_option maxRecDepth 65536 in
theorem w_c14 : (Jvm.Cond.code ({ cls := "java/lang/String", name := "isLatin1", desc := "()Z" } : Jvm.MethodName) jdk_42_method_154_code (1 : Nat) (Option.some Jvm.ClassFile.FieldType.boolean)).before args0 about1 = true := code_word (m := ⟨7, 7⟩) (meth := k7m7) (c := k7c7) (by decide +kernel) rfl rfl rfl (by decide +kernel)
set_option maxRecDepth 65536 in
theorem w_c15 : (Jvm.Cond.code ({ cls := "java/lang/StringLatin1", name := "charAt", desc := "([BI)C" } : Jvm.MethodName) jdk_43_method_2_code (2 : Nat) (Option.some Jvm.ClassFile.FieldType.char)).before args0 about1 = true := code_word (m := ⟨12, 1⟩) (meth := k12m1) (c := k12c1) (by decide +kernel) rfl rfl rfl (by decide +kernel)
set_option maxRecDepth 65536 in
theorem w_c16 : (Jvm.Cond.code ({ cls := "java/lang/String", name := "checkIndex", desc := "(II)V" } : Jvm.MethodName) jdk_42_method_155_code (2 : Nat) (Option.none : Option Jvm.ClassFile.FieldType)).before args0 about1 = true := code_word (m := ⟨7, 8⟩) (meth := k7m8) (c := k7c8) (by decide +kernel) rfl rfl rfl (by decide +kernel)
set_option maxRecDepth 65536 in
theorem w_c17 : (Jvm.Cond.code ({ cls := "jdk/internal/util/Preconditions", name := "checkIndex", desc := "(IILjava/util/function/BiFunction;)I" } : Jvm.MethodName) jdk_41_method_11_code (3 : Nat) (Option.some Jvm.ClassFile.FieldType.int)).before args0 about1 = true := code_word (m := ⟨13, 1⟩) (meth := k13m1) (c := k13c1) (by decide +kernel) rfl rfl rfl (by decide +kernel)
set_option maxRecDepth 65536 in
theorem w_c18 : (Jvm.Cond.code ({ cls := "java/lang/Character", name := "isSurrogate", desc := "(C)Z" } : Jvm.MethodName) jdk_89_method_16_code (1 : Nat) (Option.some Jvm.ClassFile.FieldType.boolean)).before args0 about1 = true := code_word (m := ⟨14, 0⟩) (meth := k14m0) (c := k14c0) (by decide +kernel) rfl rfl rfl (by decide +kernel)
set_option maxRecDepth 65536 in
theorem w_c19 : (Jvm.Cond.code ({ cls := "java/lang/String", name := "isEmpty", desc := "()Z" } : Jvm.MethodName) jdk_42_method_55_code (1 : Nat) (Option.some Jvm.ClassFile.FieldType.boolean)).before args0 about1 = true := code_word (m := ⟨7, 3⟩) (meth := k7m3) (c := k7c3) (by decide +kernel) rfl rfl rfl (by decide +kernel)
set_option maxRecDepth 65536 in
theorem w_c20 : (Jvm.Cond.code ({ cls := "com/example/kinpath/kinpath/PathElement", name := "isComplete", desc := "()Z" } : Jvm.MethodName) prog_14_method_6_code (1 : Nat) (Option.some Jvm.ClassFile.FieldType.boolean)).before args0 about1 = true := code_word (m := ⟨10, 1⟩) (meth := k10m1) (c := k10c1) (by decide +kernel) rfl rfl rfl (by decide +kernel)
def codes1 : List Jvm.Cond := [Jvm.Cond.code x code maxLocals ret, Jvm.Cond.code ({ cls := "java/lang/String", name := "<init>", desc := "([C)V" } : Jvm.MethodName) jdk_42_method_3_code (2 : Nat) (Option.none : Option Jvm.ClassFile.FieldType), Jvm.Cond.code ({ cls := "java/lang/String", name := "<init>", desc := "([CIILjava/lang/Void;)V" } : Jvm.MethodName) jdk_42_method_149_code (6 : Nat) (Option.none : Option Jvm.ClassFile.FieldType), Jvm.Cond.code ({ cls := "java/lang/Object", name := "<init>", desc := "()V" } : Jvm.MethodName) object_method_1_code (1 : Nat) (Option.none : Option Jvm.ClassFile.FieldType), Jvm.Cond.code ({ cls := "java/lang/StringUTF16", name := "compress", desc := "([CII)[B" } : Jvm.MethodName) jdk_52_method_16_code (6 : Nat) (Option.some (Jvm.ClassFile.FieldType.array Jvm.ClassFile.FieldType.byte)), Jvm.Cond.code ({ cls := "java/lang/StringUTF16", name := "compress", desc := "([CI[BII)I" } : Jvm.MethodName) jdk_52_method_21_code (7 : Nat) (Option.some Jvm.ClassFile.FieldType.int), Jvm.Cond.code ({ cls := "java/lang/StringUTF16", name := "coderFromArrayLen", desc := "([BI)B" } : Jvm.MethodName) jdk_52_method_15_code (2 : Nat) (Option.some Jvm.ClassFile.FieldType.byte), Jvm.Cond.code ({ cls := "com/example/kinpath/kinpath/PathElement", name := "<init>", desc := "(Ljava/lang/String;JLjava/lang/String;)V" } : Jvm.MethodName) prog_14_method_1_code (5 : Nat) (Option.none : Option Jvm.ClassFile.FieldType), Jvm.Cond.code ({ cls := "java/lang/Record", name := "<init>", desc := "()V" } : Jvm.MethodName) jdk_30_method_1_code (1 : Nat) (Option.none : Option Jvm.ClassFile.FieldType), Jvm.Cond.code ({ cls := "com/example/kinpath/kinpath/Text", name := "requireNonEmpty", desc := "(Ljava/lang/String;Ljava/lang/String;)Ljava/lang/String;" } : Jvm.MethodName) prog_21_method_6_code (2 : Nat) (Option.some (Jvm.ClassFile.FieldType.object "java/lang/String")), Jvm.Cond.code ({ cls := "com/example/kinpath/kinpath/Text", name := "require", desc := "(Ljava/lang/String;Ljava/lang/String;)Ljava/lang/String;" } : Jvm.MethodName) prog_21_method_2_code (4 : Nat) (Option.some (Jvm.ClassFile.FieldType.object "java/lang/String")), Jvm.Cond.code ({ cls := "java/lang/String", name := "length", desc := "()I" } : Jvm.MethodName) jdk_42_method_54_code (1 : Nat) (Option.some Jvm.ClassFile.FieldType.int), Jvm.Cond.code ({ cls := "java/lang/String", name := "coder", desc := "()B" } : Jvm.MethodName) jdk_42_method_152_code (1 : Nat) (Option.some Jvm.ClassFile.FieldType.byte), Jvm.Cond.code ({ cls := "java/lang/String", name := "charAt", desc := "(I)C" } : Jvm.MethodName) jdk_42_method_56_code (2 : Nat) (Option.some Jvm.ClassFile.FieldType.char), Jvm.Cond.code ({ cls := "java/lang/String", name := "isLatin1", desc := "()Z" } : Jvm.MethodName) jdk_42_method_154_code (1 : Nat) (Option.some Jvm.ClassFile.FieldType.boolean), Jvm.Cond.code ({ cls := "java/lang/StringLatin1", name := "charAt", desc := "([BI)C" } : Jvm.MethodName) jdk_43_method_2_code (2 : Nat) (Option.some Jvm.ClassFile.FieldType.char), Jvm.Cond.code ({ cls := "java/lang/String", name := "checkIndex", desc := "(II)V" } : Jvm.MethodName) jdk_42_method_155_code (2 : Nat) (Option.none : Option Jvm.ClassFile.FieldType), Jvm.Cond.code ({ cls := "jdk/internal/util/Preconditions", name := "checkIndex", desc := "(IILjava/util/function/BiFunction;)I" } : Jvm.MethodName) jdk_41_method_11_code (3 : Nat) (Option.some Jvm.ClassFile.FieldType.int), Jvm.Cond.code ({ cls := "java/lang/Character", name := "isSurrogate", desc := "(C)Z" } : Jvm.MethodName) jdk_89_method_16_code (1 : Nat) (Option.some Jvm.ClassFile.FieldType.boolean), Jvm.Cond.code ({ cls := "java/lang/String", name := "isEmpty", desc := "()Z" } : Jvm.MethodName) jdk_42_method_55_code (1 : Nat) (Option.some Jvm.ClassFile.FieldType.boolean), Jvm.Cond.code ({ cls := "com/example/kinpath/kinpath/PathElement", name := "isComplete", desc := "()Z" } : Jvm.MethodName) prog_14_method_6_code (1 : Nat) (Option.some Jvm.ClassFile.FieldType.boolean)]
set_option maxRecDepth 65536 in
theorem codes_eq : words1.filter isCode = codes1 := rfl
theorem w_codes : ∀ c ∈ words1.filter isCode, c.before args0 about1 = true := by
  rw [codes_eq]
  intro c hc
  simp only [codes1, List.mem_cons, List.not_mem_nil, or_false] at hc
  rcases hc with rfl | rfl | rfl | rfl | rfl | rfl | rfl | rfl | rfl | rfl | rfl | rfl | rfl | rfl | rfl | rfl | rfl | rfl | rfl | rfl | rfl
  · exact w_c0
  · exact w_c1
  · exact w_c2
  · exact w_c3
  · exact w_c4
  · exact w_c5
  · exact w_c6
  · exact w_c7
  · exact w_c8
  · exact w_c9
  · exact w_c10
  · exact w_c11
  · exact w_c12
  · exact w_c13
  · exact w_c14
  · exact w_c15
  · exact w_c16
  · exact w_c17
  · exact w_c18
  · exact w_c19
  · exact w_c20
set_option maxRecDepth 65536 in
theorem w_t1 : (words1.take 24).all (fun c => isCode c || c.before args0 about1) = true := by decide +kernel
set_option maxRecDepth 65536 in
theorem w_t2 : ((words1.drop 24).take 24).all (fun c => isCode c || c.before args0 about1) = true := by decide +kernel
set_option maxRecDepth 65536 in
theorem w_t3 : (((words1.drop 24).drop 24).take 24).all (fun c => isCode c || c.before args0 about1) = true := by decide +kernel
set_option maxRecDepth 65536 in
theorem w_t4 : ((((words1.drop 24).drop 24).drop 24).take 24).all (fun c => isCode c || c.before args0 about1) = true := by decide +kernel
set_option maxRecDepth 65536 in
theorem w_t5 : ((((words1.drop 24).drop 24).drop 24).drop 24).all (fun c => isCode c || c.before args0 about1) = true := by decide +kernel
theorem w_tables : (allAtoms (Jvm.Cond.code x code maxLocals ret :: tables_1)).before args0 about1 = true := by
  rw [allAtoms_all]
  show words1.all (fun c => c.before args0 about1) = true
  refine all_split ?_ w_codes
  rw [← List.take_append_drop 24 words1, List.all_append, w_t1, ← List.take_append_drop 24 (words1.drop 24), List.all_append, w_t2, ← List.take_append_drop 24 ((words1.drop 24).drop 24), List.all_append, w_t3, ← List.take_append_drop 24 (((words1.drop 24).drop 24).drop 24), List.all_append, w_t4, w_t5]
  rfl
set_option maxRecDepth 65536 in
theorem w_rest : rest_1_c.before args0 about1 = true := by decide +kernel
set_option maxRecDepth 65536 in
theorem w_case : (Jvm.Cond.and given_1 narrow_1).before args0 about1 = true := by decide +kernel
theorem w_applies : (headSpec (Jvm.Cond.code x code maxLocals ret :: tables_1) room_1).applies x e0.platform about1 = true :=
  (Spec.applies_iff w_frames).mpr ⟨w_running, w_runnable, w_alone, w_named, w_hears, w_ripe, w_room, w_tables⟩
theorem atStart : AtStart classFile x code maxLocals ret World_1 tables_1 room_1 Calls_1 rest_1 Pre_1 launch0 p0 e0 about1 theMethod args0 below0 :=
  ⟨lists_1, trivial, launch0.admits_env _ _ _, launch0.least_env, fairChoices_fair.cas, fairChoices_fair.clock, w_frames, w_args, w_heap, w_applies, trivial, w_rest, w_case⟩
end start1
theorem witness_1 : WitnessClaimed_1 := ⟨start1.p0, start1.e0, start1.about1, start1.theMethod, start1.args0, start1.below0, start1.atStart⟩
end Jvm.Pilot.@@N@@
