import JvmDerived
import JvmDerived.Pilot.@@N@@Statement
import JvmDerived.Pilot.@@N@@Code
set_option linter.unusedVariables false
set_option linter.unusedSimpArgs false
namespace Jvm.Wk
open Jvm Jvm.ClassFile Sem Op Lib Bundle Jvm.Free Jvm.Stand Jvm.LawKit Jvm.RoadKit
abbrev Fd : Type := String × String × String × Value
abbrev Desc : Type := (String × List Fd) ⊕ (String × FieldType × List Value)
abbrev Ent : Type := Addr × Bool × Desc
def sl (Z : State) (f : Fd) : Nat := Jvm.RoadKit.slotOf Z f.1 f.2.1 f.2.2.1
def Dist (Z : State) : Desc → Prop
  | .inl (_, fs) => (fs.map (sl Z)).Pairwise (fun x y => x ≠ y)
  | .inr _ => True
def Sat (Z : State) (h : Heap) (a : Addr) : Desc → Prop
  | .inl (C, fs) => Exa Z h a C ∧ ∀ f ∈ fs, Fld Z h a f.1 f.2.1 f.2.2.1 f.2.2.2
  | .inr (ad, ty, vs) => ∃ c : Cell, Arr Z h a c ty ∧ c.slots = vs.toArray ∧ vs.length < 2147483648 ∧ (∀ v ∈ vs, fits ty v = true) ∧ (ad ≠ "" → Exa Z h a ad)
def Apart (x y : Ent) : Prop := (x.2.1 = true ∨ y.2.1 = true) → x.1 ≠ y.1
def Hp (Z : State) (EL : Bool × List (String × Nat)) (D : List Ent) (vm : Vm) (h : Heap) : Prop :=
  Ext Z.heap h ∧ CHv Z EL.2 vm h ∧ (∀ x ∈ D, Sat Z h x.1 x.2.2 ∧ (x.2.1 = true → Z.heap.size ≤ x.1 ∧ Safe Z EL.2 vm h x.1 ∧ Dist Z x.2.2)) ∧ D.Pairwise Apart
section Facts
variable {Z : State} {EL : Bool × List (String × Nat)} {D D' : List Ent} {vm vm1 : Vm} {h h' : Heap} {a b : Addr} {d d' : Desc} {s1 : Nat} {v : Value} {x y : Ent}
theorem Sat.ext (E : Ext h h') (S : Sat Z h a d) : Sat Z h' a d := by
  match d, S with
  | .inl (C, fs), S => exact ⟨S.1.ext E, fun f hf => (S.2 f hf).ext E⟩
  | .inr (ad, ty, vs), S => obtain ⟨c, A, r1, r2, r3, r4⟩ := S; exact ⟨c, A.ext E, r1, r2, r3, fun q => (r4 q).ext E⟩
theorem Sat.keep {ws : List Addr} (K : Keep h h' ws) (q : a ∉ ws) (S : Sat Z h a d) : Sat Z h' a d := by
  match d, S with
  | .inl (C, fs), S => exact ⟨S.1.keep K, fun f hf => (S.2 f hf).keep K q⟩
  | .inr (ad, ty, vs), S => obtain ⟨c, A, r1, r2, r3, r4⟩ := S; exact ⟨c, ⟨K.2.1 _ _ A.1 q, A.2⟩, r1, r2, r3, fun q => (r4 q).keep K⟩
theorem Sat.lt (S : Sat Z h a d) : a < h.size := by
  match d, S with
  | .inl (C, fs), S => exact S.1.lt
  | .inr (ad, ty, vs), S => obtain ⟨c, A, -⟩ := S; exact A.lt
theorem Apart.symm (q : Apart x y) : Apart y x := fun r e => q r.symm e.symm
theorem Hp.perm (P : D.Perm D') (H : Hp Z EL D vm h) : Hp Z EL D' vm h :=
  ⟨H.1, H.2.1, fun x hx => H.2.2.1 x (P.mem_iff.mpr hx), (P.pairwise_iff (fun q => Apart.symm q)).mp H.2.2.2⟩
theorem perm_front {α : Type} : ∀ (D : List α) (i : Nat) (x : α), D[i]? = some x → D.Perm (x :: D.eraseIdx i)
  | [], _, _, q => by simp at q
  | y :: D, 0, x, q => by simp at q; subst q; exact List.Perm.refl _
  | y :: D, i + 1, x, q => by
    have q' : D[i]? = some x := by simpa using q
    exact ((perm_front D i x q').cons y).trans (List.Perm.swap x y _)
theorem perm_set {α : Type} : ∀ (D : List α) (i : Nat) (x x' : α), D[i]? = some x → (D.set i x').Perm (x' :: D.eraseIdx i)
  | [], _, _, _, q => by simp at q
  | y :: D, 0, x, x', q => List.Perm.refl _
  | y :: D, i + 1, x, x', q => by
    have q' : D[i]? = some x := by simpa using q
    exact ((perm_set D i x x' q').cons y).trans (List.Perm.swap x' y _)
theorem Hp.new (H : Hp Z EL D vm h) (E : Ext h h') (S : Sat Z h' h.size d) (dd : Dist Z d) : Hp Z EL ((h.size, true, d) :: D) vm h' := by
  obtain ⟨h1, h2, h3, h4⟩ := H
  refine ⟨⟨Nat.le_trans h1.1 E.1, fun a c q => E.2 _ _ (h1.2 _ _ q)⟩, h2.ext E, fun x hx => ?_, List.pairwise_cons.mpr ⟨fun y hy _ => ?_, h4⟩⟩
  · rcases List.mem_cons.mp hx with rfl | hx
    · exact ⟨S, fun _ => ⟨h1.1, Safe.ext E h2 (Safe.new (Nat.le_refl _)), dd⟩⟩
    · exact ⟨(h3 x hx).1.ext E, fun w => ⟨((h3 x hx).2 w).1, Safe.ext E h2 ((h3 x hx).2 w).2.1, ((h3 x hx).2 w).2.2⟩⟩
  · have := (h3 y hy).1.lt
    exact fun e => by rw [← e] at this; exact Nat.lt_irrefl _ this
theorem Hp.keepHead (H : Hp Z EL ((a, true, d) :: D) vm h) (K : Keep h h' [a]) (S : Sat Z h' a d') (dd : Dist Z d') : Hp Z EL ((a, true, d') :: D) vm h' := by
  obtain ⟨h1, h2, h3, h4⟩ := H
  obtain ⟨g1, g2, -⟩ := (h3 _ (List.mem_cons_self ..)).2 rfl
  have hs : ∀ x ∈ [a], Safe Z EL.2 vm h x := fun x hx => by cases List.mem_singleton.mp hx; exact g2
  obtain ⟨p1, p2⟩ := List.pairwise_cons.mp h4
  refine ⟨⟨Nat.le_trans h1.1 K.1, fun b c q => K.2.1 _ _ (h1.2 _ _ q) fun z => ?_⟩, h2.keep K hs, fun x hx => ?_, List.pairwise_cons.mpr ⟨fun y hy r => p1 y hy (Or.inl rfl), p2⟩⟩
  · cases List.mem_singleton.mp z
    exact Nat.lt_irrefl _ (Nat.lt_of_lt_of_le (Array.getElem?_eq_some_iff.mp q).1 g1)
  · rcases List.mem_cons.mp hx with rfl | hx
    · exact ⟨S, fun _ => ⟨g1, Safe.keep K hs h2 g2, dd⟩⟩
    · have ne : x.1 ∉ [a] := fun z => p1 x hx (Or.inl rfl) (List.mem_singleton.mp z).symm
      have hx' := h3 x (List.mem_cons_of_mem _ hx)
      exact ⟨hx'.1.keep K ne, fun w => ⟨(hx'.2 w).1, Safe.keep K hs h2 (hx'.2 w).2.1, (hx'.2 w).2.2⟩⟩
theorem Hp.keepSet {i : Nat} (H : Hp Z EL D vm h) (hi : D[i]? = some (a, true, d)) (K : Keep h h' [a]) (S : Sat Z h' a d') (dd : Dist Z d') : Hp Z EL (D.set i (a, true, d')) vm h' :=
  ((H.perm (perm_front D i _ hi)).keepHead K S dd).perm (perm_set D i _ _ hi).symm
theorem Hp.toVm (H : Hp Z EL D vm h) (C : CHr Z EL.2 vm h vm1 h) : Hp Z EL D vm1 h :=
  ⟨H.1, C.1, fun x hx => ⟨(H.2.2.1 x hx).1, fun w => ⟨((H.2.2.1 x hx).2 w).1, C.safe (H.2.2.1 x hx).1.lt ((H.2.2.1 x hx).2 w).2.1, ((H.2.2.1 x hx).2 w).2.2⟩⟩, H.2.2.2⟩
theorem Hp.sub (H : Hp Z EL D vm h) (q : D'.Sublist D) : Hp Z EL D' vm h := ⟨H.1, H.2.1, fun x hx => H.2.2.1 x (q.subset hx), H.2.2.2.sublist q⟩
theorem Hp.read (H : Hp Z EL D vm h) (S : Sat Z h a d) (ne : ∀ x, Safe Z EL.2 vm h x → Z.heap.size ≤ x → x ≠ a) : Hp Z EL ((a, false, d) :: D) vm h := by
  refine ⟨H.1, H.2.1, fun x hx => ?_, List.pairwise_cons.mpr ⟨fun y hy r e => ?_, H.2.2.2⟩⟩
  · rcases List.mem_cons.mp hx with rfl | hx
    · exact ⟨S, fun w => by cases w⟩
    · exact H.2.2.1 x hx
  · rcases r with r | r
    · cases r
    · exact ne y.1 ((H.2.2.1 y hy).2 r).2.1 ((H.2.2.1 y hy).2 r).1 e.symm
end Facts
def Idx (j : Int32) (i : Nat) : Prop := ¬ j < 0 ∧ j.toNatClampNeg = i
theorem Idx.of_nat {i : Nat} (hi : i < 2147483648) : Idx (Nat.toInt32 i) i := by
  have e1 : (Nat.toInt32 i).toInt = i := len_toInt hi
  refine ⟨fun q => ?_, by simp [Int32.toNatClampNeg, e1]⟩
  rw [Int32.lt_iff_toInt_lt, e1] at q
  have : (0 : Int32).toInt = 0 := rfl
  omega
theorem Idx.toInt {j : Int32} {i : Nat} (q : Idx j i) : j.toInt = i := by
  have h1 : ¬ j.toInt < 0 := fun r => q.1 (by rw [Int32.lt_iff_toInt_lt]; exact r)
  have h2 := q.2
  simp only [Int32.toNatClampNeg] at h2
  omega
end Jvm.Wk
namespace Jvm.Wk
open Jvm Jvm.ClassFile Sem Op Lib Bundle Jvm.Free Jvm.Stand Jvm.LawKit Jvm.RoadKit
def ELok (Z : State) (EL : Bool × List (String × Nat)) : Prop := (∃ a0, EW Z a0 EL.2) ∧ (EL.1 = true → EL.2 = [])
def Res (Z : State) (EL : Bool × List (String × Nat)) (Q : Option Value → List Ent → Prop) (R : Room) (s : State) (o : Outcome) (t : State) : Prop :=
  ∃ v L, o = .returned v ∧ Fr Z.heap.size L ∧ (∃ D', Hp Z EL D' t.vm t.heap ∧ Q v D') ∧ ReturnedEndW s o t L R.cells R.slots ∧ (EL.1 = true → s.WarmedH t.vm)
def Here (Z : State) (EL : Bool × List (String × Nat)) (R : Room) (own nm : String) (bytes : ByteArray) (ml : Nat) (ret : Option FieldType) (D : List Ent) (k n : Nat)
    (p : Program) (l : Launch) (e : Env) (s : State) (m : MethodId) (args : Array Value) (below : List Frame) (meth : Method) (c : Code) (T : State) (vm0 : Vm) (k0 : Nat) (locs : List Loc) (cells slots : Nat) : Prop :=
  Stand p l e R (s.setVm vm0) m args below meth c T locs cells slots ∧ s.Since vm0 k0 ∧ k0 ≤ T.heap.size ∧ p.tables.exec = Jvm.exec ∧ c.code = bytes ∧ c.maxLocals = ml ∧ vm0.findClass own = some m.cls ∧ Z.Warmed39 vm0 ∧
    meth.sig.returnType = ret ∧ meth.locks = false ∧ meth.name = nm ∧ Fr Z.heap.size locs ∧ Hp Z EL D vm0 T.heap ∧ cells ≤ k ∧ slots ≤ n ∧ ELok Z EL ∧ (EL.1 = true → vm0 = s.vm)
def W (Z : State) (EL : Bool × List (String × Nat)) (R : Room) (own nm : String) (bytes : ByteArray) (ml : Nat) (ret : Option FieldType) (Q : Option Value → List Ent → Prop) (D : List Ent) (k n : Nat) (pc : Nat) (ls : Array Slot) (st : List Value) : Prop :=
  ∀ p l e s m args below meth c T vm0 k0 locs cells slots, Here Z EL R own nm bytes ml ret D k n p l e s m args below meth c T vm0 k0 locs cells slots →
    ∃ s₂ o, Steps p.tables e below (T.setTop (mkF m pc ls st)) s₂ ∧ s₂.status = .running ∧ Ended s₂ below o ∧ Res Z EL Q R s o s₂
def Con (Z : State) (EL : Bool × List (String × Nat)) (y : MethodName) (bytes : ByteArray) (maxL : Nat) (ret : Option FieldType) (rm : Room) (as : List Value) (D : List Ent) (Q : Option Value → List Ent → Prop) : Prop :=
  ELok Z EL → ∀ (l : Launch) (ws : List Cond), MetFree l y (head1 (Cond.code y bytes maxL ret :: ws) rm) (fun a U => a = as.toArray ∧ Z.Warmed39 U.vm ∧ Hp Z EL D U.vm U.heap) (fun _ _ _ _ _ => True) (fun _ U o U' => Res Z EL Q rm U o U')
theorem ld0 : Jvm.Sym.laidSlots [] = [] := rfl
theorem ld1 {v : Value} {vs : List Value} {L : List Slot} (h : v.category = 1) (e : Jvm.Sym.laidSlots vs = L) : Jvm.Sym.laidSlots (v :: vs) = .val v :: L := by simp [Jvm.Sym.laidSlots, h, e]
theorem hent_of {as : List Value} {L : List Slot} {ml : Nat} {ls : Array Slot} (e : Jvm.Sym.laidSlots as = L) (h : L ++ List.replicate (ml - L.length) .unset = ls.toList) : Jvm.Sym.laidSlots as ++ List.replicate (ml - (Jvm.Sym.laidSlots as).length) .unset = ls.toList := by rw [e]; exact h
section Walk
variable {Z : State} {EL : Bool × List (String × Nat)} {R : Room} {own nm : String} {bytes : ByteArray} {ml : Nat} {ret : Option FieldType} {Q : Option Value → List Ent → Prop} {D D' : List Ent} {k n pc : Nat} {ls ls' : Array Slot} {st : List Value} {a0 : Array Value}
theorem Con.of {y : MethodName} {as : List Value} (hpl : plainFor y = true) (hent : Jvm.Sym.laidSlots as ++ List.replicate (ml - (Jvm.Sym.laidSlots as).length) .unset = ls.toList) (hW : W Z EL R y.cls y.name bytes ml ret Q D 0 0 0 ls []) : Con Z EL y bytes ml ret R as D Q := by
  intro hE l ws
  refine MetFree.of_bodySF hpl hisR ?_
  intro p e s m args below meth c s₁ Bd hml0 hP hK
  obtain ⟨rfl, hZ, hh⟩ := hP
  have X0 : Stand p l e R s m as.toArray below meth c s₁ [] 0 0 := Stand.of_body Bd
  have e0 : s₁.heap = s.heap := by rw [Bd.state]; rfl
  have hown : s.vm.findClass y.cls = some m.cls := findClass_of_methodNamed Bd.named
  have hnm := (name_of_methodNamed Bd.named Bd.method).1
  obtain ⟨s₂, o, h1, r⟩ := hW p l e s m as.toArray below meth c s₁ s.vm 0 [] 0 0
    ⟨X0, (State.WarmedH.refl s).since 0, Nat.zero_le _, Bd.exec, Bd.bytes, hml0, hown, hZ, Bd.returns, Bd.notSynchronized, hnm, Fr.nil _, by rw [e0]; exact hh, Nat.le_refl _, Nat.le_refl _, hE, fun _ => rfl⟩
  exact ⟨s₂, o, (XT.entry (by simpa using hent)).trans h1, r⟩
theorem W.pure {pc' : Nat} {st' : List Value} (H : ∀ {p : Program} {e : Env} {below : List Frame} {T target : State} {m : MethodId} {c : Code}, At T m c below → p.tables.exec = Jvm.exec → c.code = bytes → Steps p.tables e below (T.setTop (mkF m pc' ls' st')) target → Steps p.tables e below (T.setTop (mkF m pc ls st)) target)
    (next : W Z EL R own nm bytes ml ret Q D k n pc' ls' st') : W Z EL R own nm bytes ml ret Q D k n pc ls st := by
  intro p l e s m args below meth c T vm0 k0 locs cells slots A
  obtain ⟨s₂, o, h1, r⟩ := next p l e s m args below meth c T vm0 k0 locs cells slots A
  exact ⟨s₂, o, H A.1.here A.2.2.2.1 A.2.2.2.2.1 h1, r⟩
theorem W.mono {k' n' : Nat} (hk : k ≤ k') (hn : n ≤ n') (next : W Z EL R own nm bytes ml ret Q D k' n' pc ls st) : W Z EL R own nm bytes ml ret Q D k n pc ls st := by
  intro p l e s m args below meth c T vm0 k0 locs cells slots A
  obtain ⟨X, hS, hk0, hx, hby, hml, hown, hZ, r1, r2, r3, hN, hH, hc, hl, hE, hNI⟩ := A
  exact next p l e s m args below meth c T vm0 k0 locs cells slots ⟨X, hS, hk0, hx, hby, hml, hown, hZ, r1, r2, r3, hN, hH, Nat.le_trans hc hk, Nat.le_trans hl hn, hE, hNI⟩
theorem W.heap (H : ∀ vm h, Hp Z EL D vm h → Hp Z EL D' vm h) (next : W Z EL R own nm bytes ml ret Q D' k n pc ls st) : W Z EL R own nm bytes ml ret Q D k n pc ls st := by
  intro p l e s m args below meth c T vm0 k0 locs cells slots A
  obtain ⟨X, hS, hk0, hx, hby, hml, hown, hZ, r1, r2, r3, hN, hH, hc, hl, hE, hNI⟩ := A
  exact next p l e s m args below meth c T vm0 k0 locs cells slots ⟨X, hS, hk0, hx, hby, hml, hown, hZ, r1, r2, r3, hN, H _ _ hH, hc, hl, hE, hNI⟩
theorem W.know {P : Prop} (H : ∀ vm h, Hp Z EL D vm h → P) (next : P → W Z EL R own nm bytes ml ret Q D k n pc ls st) : W Z EL R own nm bytes ml ret Q D k n pc ls st := by
  intro p l e s m args below meth c T vm0 k0 locs cells slots A
  exact next (H _ _ A.2.2.2.2.2.2.2.2.2.2.2.2.1) p l e s m args below meth c T vm0 k0 locs cells slots A
theorem W.perm (P : D.Perm D') (next : W Z EL R own nm bytes ml ret Q D' k n pc ls st) : W Z EL R own nm bytes ml ret Q D k n pc ls st := W.heap (fun _ _ H => H.perm P) next
theorem W.front (i : Nat) {x : Ent} (hi : D[i]? = some x) (hD : x :: D.eraseIdx i = D') (next : W Z EL R own nm bytes ml ret Q D' k n pc ls st) : W Z EL R own nm bytes ml ret Q D k n pc ls st := W.perm (hD ▸ perm_front D i x hi) next
theorem W.aload (i : Nat) {v : Value} (hd : decode bytes pc = .ok (.aload i, 2)) (hl : ls[i]? = some (.val v)) (hv : v.isRef = true) (next : W Z EL R own nm bytes ml ret Q D k n (pc + 2) ls (v :: st)) : W Z EL R own nm bytes ml ret Q D k n pc ls st :=
  W.pure (fun h hx hc hr => XS.aload (g := mkF _ pc ls st) h hx rfl (hb hc hd) hl hv hr) next
theorem W.aloadN {i : Fin 4} {v : Value} (hd : decode bytes pc = .ok (.aload_n i, 1)) (hl : ls[i.val]? = some (.val v)) (hv : v.isRef = true) (next : W Z EL R own nm bytes ml ret Q D k n (pc + 1) ls (v :: st)) : W Z EL R own nm bytes ml ret Q D k n pc ls st :=
  W.pure (fun h hx hc hr => XS.aloadN (g := mkF _ pc ls st) h hx rfl (hb hc hd) hl hv hr) next
theorem W.iload {i : Nat} {v : Int32} (hd : decode bytes pc = .ok (.iload i, 2)) (hl : ls[i]? = some (.val (.int v))) (next : W Z EL R own nm bytes ml ret Q D k n (pc + 2) ls (.int v :: st)) : W Z EL R own nm bytes ml ret Q D k n pc ls st :=
  W.pure (fun h hx hc hr => XS.iload (g := mkF _ pc ls st) h hx rfl (hb hc hd) hl hr) next
theorem W.iloadN {i : Fin 4} {v : Int32} (hd : decode bytes pc = .ok (.iload_n i, 1)) (hl : ls[i.val]? = some (.val (.int v))) (next : W Z EL R own nm bytes ml ret Q D k n (pc + 1) ls (.int v :: st)) : W Z EL R own nm bytes ml ret Q D k n pc ls st :=
  W.pure (fun h hx hc hr => XS.iloadN (g := mkF _ pc ls st) h hx rfl (hb hc hd) hl hr) next
theorem W.astore {i : Nat} {v : Value} (hd : decode bytes pc = .ok (.astore i, 2)) (hv : v.isRef = true) (hl : storeLocals ls i v = some ls') (next : W Z EL R own nm bytes ml ret Q D k n (pc + 2) ls' st) : W Z EL R own nm bytes ml ret Q D k n pc ls (v :: st) :=
  W.pure (fun h hx hc hr => XS.astore (g := mkF _ pc ls (v :: st)) h hx rfl (hb hc hd) rfl hv hl hr) next
theorem W.astoreN {i : Fin 4} {v : Value} (hd : decode bytes pc = .ok (.astore_n i, 1)) (hv : v.isRef = true) (hl : storeLocals ls i.val v = some ls') (next : W Z EL R own nm bytes ml ret Q D k n (pc + 1) ls' st) : W Z EL R own nm bytes ml ret Q D k n pc ls (v :: st) :=
  W.pure (fun h hx hc hr => XS.astoreN (g := mkF _ pc ls (v :: st)) h hx rfl (hb hc hd) rfl hv hl hr) next
theorem W.istore {i : Nat} {v : Int32} (hd : decode bytes pc = .ok (.istore i, 2)) (hl : storeLocals ls i (.int v) = some ls') (next : W Z EL R own nm bytes ml ret Q D k n (pc + 2) ls' st) : W Z EL R own nm bytes ml ret Q D k n pc ls (.int v :: st) :=
  W.pure (fun h hx hc hr => XS.istore (g := mkF _ pc ls (.int v :: st)) h hx rfl (hb hc hd) rfl hl hr) next
theorem W.istoreN {i : Fin 4} {v : Int32} (hd : decode bytes pc = .ok (.istore_n i, 1)) (hl : storeLocals ls i.val (.int v) = some ls') (next : W Z EL R own nm bytes ml ret Q D k n (pc + 1) ls' st) : W Z EL R own nm bytes ml ret Q D k n pc ls (.int v :: st) :=
  W.pure (fun h hx hc hr => XS.istoreN (g := mkF _ pc ls (.int v :: st)) h hx rfl (hb hc hd) rfl hl hr) next
theorem W.iconst {i : Int} (v : Int32) (hd : decode bytes pc = .ok (.iconst i, 1)) (hv : Int32.ofInt i = v) (next : W Z EL R own nm bytes ml ret Q D k n (pc + 1) ls (.int v :: st)) : W Z EL R own nm bytes ml ret Q D k n pc ls st :=
  W.pure (fun h hx hc hr => XT.iconstV (g := mkF _ pc ls st) h hx rfl v (hb hc hd) hv hr) next
theorem W.bipush {i : Int} (v : Int32) (hd : decode bytes pc = .ok (.bipush i, 2)) (hv : (Int8.ofInt i).toInt32 = v) (next : W Z EL R own nm bytes ml ret Q D k n (pc + 2) ls (.int v :: st)) : W Z EL R own nm bytes ml ret Q D k n pc ls st :=
  W.pure (fun h hx hc hr => XT.bipushV (g := mkF _ pc ls st) h hx rfl v (hb hc hd) hv hr) next
theorem W.sipush {i : Int} (v : Int32) (hd : decode bytes pc = .ok (.sipush i, 3)) (hv : (Int16.ofInt i).toInt32 = v) (next : W Z EL R own nm bytes ml ret Q D k n (pc + 3) ls (.int v :: st)) : W Z EL R own nm bytes ml ret Q D k n pc ls st :=
  W.pure (fun h hx hc hr => XT.sipushV (g := mkF _ pc ls st) h hx rfl v (hb hc hd) hv hr) next
theorem W.aconstNull (hd : decode bytes pc = .ok (.aconst_null, 1)) (next : W Z EL R own nm bytes ml ret Q D k n (pc + 1) ls (.null :: st)) : W Z EL R own nm bytes ml ret Q D k n pc ls st :=
  W.pure (fun h hx hc hr => XS.aconstNull (g := mkF _ pc ls st) h hx rfl (hb hc hd) hr) next
theorem W.iinc {i : Nat} {cst : Int} {x : Int32} (v : Int32) (hd : decode bytes pc = .ok (.iinc i cst, 3)) (hv : Int32.ofInt cst = v) (hl : ls[i]? = some (.val (.int x))) (hl' : storeLocals ls i (.int (x + v)) = some ls') (next : W Z EL R own nm bytes ml ret Q D k n (pc + 3) ls' st) : W Z EL R own nm bytes ml ret Q D k n pc ls st :=
  W.pure (fun h hx hc hr => XT.iincV (g := mkF _ pc ls st) h hx rfl v (hb hc hd) hv hl hl' hr) next
theorem W.popv {x : Value} (hd : decode bytes pc = .ok (.pop, 1)) (hc1 : x.category = 1) (next : W Z EL R own nm bytes ml ret Q D k n (pc + 1) ls st) : W Z EL R own nm bytes ml ret Q D k n pc ls (x :: st) :=
  W.pure (fun h hx hc hr => XT.pop (g := mkF _ pc ls (x :: st)) h hx rfl (hb hc hd) rfl hc1 hr) next
theorem W.dup {x : Value} (hd : decode bytes pc = .ok (.dup, 1)) (hc1 : x.category = 1) (next : W Z EL R own nm bytes ml ret Q D k n (pc + 1) ls (x :: x :: st)) : W Z EL R own nm bytes ml ret Q D k n pc ls (x :: st) :=
  W.pure (fun h hx hc hr => XS.dup (g := mkF _ pc ls (x :: st)) h hx rfl (hb hc hd) rfl hc1 hr) next
theorem W.iadd {x y : Int32} (hd : decode bytes pc = .ok (.iadd, 1)) (next : W Z EL R own nm bytes ml ret Q D k n (pc + 1) ls (.int (x + y) :: st)) : W Z EL R own nm bytes ml ret Q D k n pc ls (.int y :: .int x :: st) :=
  W.pure (fun h hx hc hr => XS.iadd (g := mkF _ pc ls (.int y :: .int x :: st)) h hx rfl (hb hc hd) rfl hr) next
theorem W.isub {x y : Int32} (hd : decode bytes pc = .ok (.isub, 1)) (next : W Z EL R own nm bytes ml ret Q D k n (pc + 1) ls (.int (x - y) :: st)) : W Z EL R own nm bytes ml ret Q D k n pc ls (.int y :: .int x :: st) :=
  W.pure (fun h hx hc hr => XS.isub (g := mkF _ pc ls (.int y :: .int x :: st)) h hx rfl (hb hc hd) rfl hr) next
theorem W.irem {x y : Int32} (hd : decode bytes pc = .ok (.irem, 1)) (hy : y ≠ 0) (next : W Z EL R own nm bytes ml ret Q D k n (pc + 1) ls (.int (x % y) :: st)) : W Z EL R own nm bytes ml ret Q D k n pc ls (.int y :: .int x :: st) := by
  intro p l e s m args below meth c T vm0 k0 locs cells slots A
  obtain ⟨s₂, o, h1, r⟩ := next p l e s m args below meth c T vm0 k0 locs cells slots A
  exact ⟨s₂, o, iremM (g := mkF m pc ls (.int y :: .int x :: st)) A.1 A.2.2.2.1 rfl (hb A.2.2.2.2.1 hd) rfl hy h1, r⟩
theorem W.iand {x y : Int32} (hd : decode bytes pc = .ok (.iand, 1)) (next : W Z EL R own nm bytes ml ret Q D k n (pc + 1) ls (.int (x &&& y) :: st)) : W Z EL R own nm bytes ml ret Q D k n pc ls (.int y :: .int x :: st) :=
  W.pure (fun h hx hc hr => XS.iand (g := mkF _ pc ls (.int y :: .int x :: st)) h hx rfl (hb hc hd) rfl hr) next
theorem W.ishr {x y : Int32} (hd : decode bytes pc = .ok (.ishr, 1)) (next : W Z EL R own nm bytes ml ret Q D k n (pc + 1) ls (.int (x >>> (y &&& 31)) :: st)) : W Z EL R own nm bytes ml ret Q D k n pc ls (.int y :: .int x :: st) :=
  W.pure (fun h hx hc hr => XT.ishr (g := mkF _ pc ls (.int y :: .int x :: st)) h hx rfl (hb hc hd) rfl hr) next
theorem W.iushr {x y : Int32} (hd : decode bytes pc = .ok (.iushr, 1)) (next : W Z EL R own nm bytes ml ret Q D k n (pc + 1) ls (.int (XT.ushr x y) :: st)) : W Z EL R own nm bytes ml ret Q D k n pc ls (.int y :: .int x :: st) :=
  W.pure (fun h hx hc hr => XT.iushr (g := mkF _ pc ls (.int y :: .int x :: st)) h hx rfl (hb hc hd) rfl hr) next
theorem W.i2b {x : Int32} (hd : decode bytes pc = .ok (.i2b, 1)) (next : W Z EL R own nm bytes ml ret Q D k n (pc + 1) ls (.int x.toInt8.toInt32 :: st)) : W Z EL R own nm bytes ml ret Q D k n pc ls (.int x :: st) :=
  W.pure (fun h hx hc hr => XT.i2b (g := mkF _ pc ls (.int x :: st)) h hx rfl (hb hc hd) rfl hr) next
theorem W.i2c {x : Int32} (hd : decode bytes pc = .ok (.i2c, 1)) (next : W Z EL R own nm bytes ml ret Q D k n (pc + 1) ls (.int x.toUInt32.toUInt16.toUInt32.toInt32 :: st)) : W Z EL R own nm bytes ml ret Q D k n pc ls (.int x :: st) :=
  W.pure (fun h hx hc hr => XT.i2c (g := mkF _ pc ls (.int x :: st)) h hx rfl (hb hc hd) rfl hr) next
theorem W.goto (pc' : Nat) {o : Int} (hd : decode bytes pc = .ok (.goto o, 3)) (ho : 0 ≤ (pc : Int) + o ∧ ((pc : Int) + o).toNat = pc') (next : W Z EL R own nm bytes ml ret Q D k n pc' ls st) : W Z EL R own nm bytes ml ret Q D k n pc ls st :=
  W.pure (fun h hx hc hr => XS.goto (g := mkF _ pc ls st) h hx rfl rfl (hb hc hd) ho.1 ho.2 hr) next
def Cd : ClassFile.Cond → Int32 → Int32 → Prop
  | .eq, x, y => x = y
  | .ne, x, y => ¬ x = y
  | .lt, x, y => x < y
  | .ge, x, y => ¬ x < y
  | .gt, x, y => y < x
  | .le, x, y => ¬ y < x
theorem Cd.yes {cd : ClassFile.Cond} {x y : Int32} (q : Cd cd x y) : if_icmp.holds cd x y = true := by
  cases cd <;> first | exact (teq q).1 | exact (feq q).2 | exact (tlt q).1 | exact (flt q).2.1 | exact (tlt q).2.2.1 | exact (flt q).2.2.2
theorem Cd.no {cd : ClassFile.Cond} {x y : Int32} (q : ¬ Cd cd x y) : if_icmp.holds cd x y = false := by
  cases cd <;> first | exact (feq q).1 | exact (teq (Classical.not_not.mp q)).2 | exact (flt q).1 | exact (tlt (Classical.not_not.mp q)).2.1 | exact (flt q).2.2.1 | exact (tlt (Classical.not_not.mp q)).2.2.2
theorem W.icmpY (pc' : Nat) {cd : ClassFile.Cond} {x y : Int32} {o : Int} (hd : decode bytes pc = .ok (.if_icmp cd o, 3)) (q : Cd cd x y) (ho : 0 ≤ (pc : Int) + o ∧ ((pc : Int) + o).toNat = pc') (next : W Z EL R own nm bytes ml ret Q D k n pc' ls st) : W Z EL R own nm bytes ml ret Q D k n pc ls (.int y :: .int x :: st) :=
  W.pure (fun h hx hc hr => XS.icmpYes (g := mkF _ pc ls (.int y :: .int x :: st)) h hx rfl rfl (hb hc hd) rfl q.yes ho.1 ho.2 hr) next
theorem W.icmpN {cd : ClassFile.Cond} {x y : Int32} {o : Int} (hd : decode bytes pc = .ok (.if_icmp cd o, 3)) (q : ¬ Cd cd x y) (next : W Z EL R own nm bytes ml ret Q D k n (pc + 3) ls st) : W Z EL R own nm bytes ml ret Q D k n pc ls (.int y :: .int x :: st) :=
  W.pure (fun h hx hc hr => XS.icmpNo (g := mkF _ pc ls (.int y :: .int x :: st)) h hx rfl (hb hc hd) rfl (Cd.no q) hr) next
theorem W.icmp (pc' : Nat) {cd : ClassFile.Cond} {x y : Int32} {o : Int} (hd : decode bytes pc = .ok (.if_icmp cd o, 3)) (ho : 0 ≤ (pc : Int) + o ∧ ((pc : Int) + o).toNat = pc') (nextY : Cd cd x y → W Z EL R own nm bytes ml ret Q D k n pc' ls st) (nextN : ¬ Cd cd x y → W Z EL R own nm bytes ml ret Q D k n (pc + 3) ls st) : W Z EL R own nm bytes ml ret Q D k n pc ls (.int y :: .int x :: st) := by
  by_cases q : Cd cd x y
  · exact W.icmpY pc' hd q ho (nextY q)
  · exact W.icmpN hd q (nextN q)
theorem W.ifY (pc' : Nat) {cd : ClassFile.Cond} {x : Int32} {o : Int} (hd : decode bytes pc = .ok (.ifCond cd o, 3)) (q : Cd cd x 0) (ho : 0 ≤ (pc : Int) + o ∧ ((pc : Int) + o).toNat = pc') (next : W Z EL R own nm bytes ml ret Q D k n pc' ls st) : W Z EL R own nm bytes ml ret Q D k n pc ls (.int x :: st) :=
  W.pure (fun h hx hc hr => XS.ifYes (g := mkF _ pc ls (.int x :: st)) h hx rfl rfl (hb hc hd) rfl ((if0 _ _).trans q.yes) ho.1 ho.2 hr) next
theorem W.ifN {cd : ClassFile.Cond} {x : Int32} {o : Int} (hd : decode bytes pc = .ok (.ifCond cd o, 3)) (q : ¬ Cd cd x 0) (next : W Z EL R own nm bytes ml ret Q D k n (pc + 3) ls st) : W Z EL R own nm bytes ml ret Q D k n pc ls (.int x :: st) :=
  W.pure (fun h hx hc hr => XS.ifNo (g := mkF _ pc ls (.int x :: st)) h hx rfl (hb hc hd) rfl ((if0 _ _).trans (Cd.no q)) hr) next
theorem W.if (pc' : Nat) {cd : ClassFile.Cond} {x : Int32} {o : Int} (hd : decode bytes pc = .ok (.ifCond cd o, 3)) (ho : 0 ≤ (pc : Int) + o ∧ ((pc : Int) + o).toNat = pc') (nextY : Cd cd x 0 → W Z EL R own nm bytes ml ret Q D k n pc' ls st) (nextN : ¬ Cd cd x 0 → W Z EL R own nm bytes ml ret Q D k n (pc + 3) ls st) : W Z EL R own nm bytes ml ret Q D k n pc ls (.int x :: st) := by
  by_cases q : Cd cd x 0
  · exact W.ifY pc' hd q ho (nextY q)
  · exact W.ifN hd q (nextN q)
theorem W.ifnonnullY (pc' : Nat) {o : Int} {a : Addr} (hd : decode bytes pc = .ok (.ifnonnull o, 3)) (ho : 0 ≤ (pc : Int) + o ∧ ((pc : Int) + o).toNat = pc') (next : W Z EL R own nm bytes ml ret Q D k n pc' ls st) : W Z EL R own nm bytes ml ret Q D k n pc ls (.ref a :: st) :=
  W.pure (fun h hx hc hr => XT.ifnonnullYes (g := mkF _ pc ls (.ref a :: st)) h hx rfl rfl (hb hc hd) rfl ho.1 ho.2 hr) next
def Ca : ClassFile.ACond → Value → Value → Prop
  | .eq, x, y => x = y
  | .ne, x, y => ¬ x = y
theorem Ca.yes {cd : ClassFile.ACond} {x y : Value} (q : Ca cd x y) : XT.acmp cd x y = true := by
  cases cd
  · exact XT.aa_eq_t q
  · exact XT.aa_ne_t q
theorem Ca.no {cd : ClassFile.ACond} {x y : Value} (q : ¬ Ca cd x y) : XT.acmp cd x y = false := by
  cases cd
  · exact XT.aa_eq_f q
  · exact XT.aa_ne_f (Classical.not_not.mp q)
theorem W.acmpY (pc' : Nat) {cd : ClassFile.ACond} {x y : Value} {o : Int} (hd : decode bytes pc = .ok (.if_acmp cd o, 3)) (hx1 : x.isRef = true) (hy1 : y.isRef = true) (q : Ca cd x y) (ho : 0 ≤ (pc : Int) + o ∧ ((pc : Int) + o).toNat = pc') (next : W Z EL R own nm bytes ml ret Q D k n pc' ls st) : W Z EL R own nm bytes ml ret Q D k n pc ls (y :: x :: st) :=
  W.pure (fun h hx hc hr => XT.acmpYes (g := mkF _ pc ls (y :: x :: st)) h hx rfl rfl (hb hc hd) rfl hx1 hy1 q.yes ho.1 ho.2 hr) next
theorem W.acmpN {cd : ClassFile.ACond} {x y : Value} {o : Int} (hd : decode bytes pc = .ok (.if_acmp cd o, 3)) (hx1 : x.isRef = true) (hy1 : y.isRef = true) (q : ¬ Ca cd x y) (next : W Z EL R own nm bytes ml ret Q D k n (pc + 3) ls st) : W Z EL R own nm bytes ml ret Q D k n pc ls (y :: x :: st) :=
  W.pure (fun h hx hc hr => XT.acmpNo (g := mkF _ pc ls (y :: x :: st)) h hx rfl (hb hc hd) rfl hx1 hy1 (Ca.no q) hr) next
theorem W.acmp (pc' : Nat) {cd : ClassFile.ACond} {x y : Value} {o : Int} (hd : decode bytes pc = .ok (.if_acmp cd o, 3)) (hx1 : x.isRef = true) (hy1 : y.isRef = true) (ho : 0 ≤ (pc : Int) + o ∧ ((pc : Int) + o).toNat = pc') (nextY : Ca cd x y → W Z EL R own nm bytes ml ret Q D k n pc' ls st) (nextN : ¬ Ca cd x y → W Z EL R own nm bytes ml ret Q D k n (pc + 3) ls st) : W Z EL R own nm bytes ml ret Q D k n pc ls (y :: x :: st) := by
  by_cases q : Ca cd x y
  · exact W.acmpY pc' hd hx1 hy1 q ho (nextY q)
  · exact W.acmpN hd hx1 hy1 q (nextN q)
end Walk
end Jvm.Wk
namespace Jvm.Wk
open Jvm Jvm.ClassFile Sem Op Lib Bundle Jvm.Free Jvm.Stand Jvm.LawKit Jvm.RoadKit
section Walk
variable {Z : State} {EL : Bool × List (String × Nat)} {R : Room} {own nm : String} {bytes : ByteArray} {ml : Nat} {ret : Option FieldType} {Q : Option Value → List Ent → Prop} {D D' : List Ent} {k n pc : Nat} {ls ls' : Array Slot} {st : List Value} {a0 : Array Value}
theorem W.still {pc' : Nat} {st' : List Value}
    (H : ∀ {p : Program} {l : Launch} {e : Env} {s : State} {m : MethodId} {args : Array Value} {below : List Frame} {meth : Method} {c : Code} {T : State} {locs : List Loc} {cells slots : Nat}, Stand p l e R s m args below meth c T locs cells slots → p.tables.exec = Jvm.exec → c.code = bytes → c.maxLocals = ml → s.vm.findClass own = some m.cls → Z.Warmed39 s.vm → (∃ vm, Hp Z EL D vm T.heap) →
      ∃ T', Stand p l e R s m args below meth c T' locs cells slots ∧ T'.heap = T.heap ∧ ∀ target, Steps p.tables e below (T'.setTop (mkF m pc' ls' st')) target → Steps p.tables e below (T.setTop (mkF m pc ls st)) target)
    (next : W Z EL R own nm bytes ml ret Q D k n pc' ls' st') : W Z EL R own nm bytes ml ret Q D k n pc ls st := by
  intro p l e s m args below meth c T vm0 k0 locs cells slots A
  obtain ⟨X, hS, hk0, hx, hby, hml, hown, hZ, r1, r2, r3, hN, hH, hc, hl, hE, hNI⟩ := A
  obtain ⟨T', X', e', stp⟩ := H X hx hby hml hown hZ ⟨_, hH⟩
  obtain ⟨s₂, o, h1, r⟩ := next p l e s m args below meth c T' vm0 k0 locs cells slots ⟨X', hS, by rw [e']; exact hk0, hx, hby, hml, hown, hZ, r1, r2, r3, hN, by rw [e']; exact hH, hc, hl, hE, hNI⟩
  exact ⟨s₂, o, stp _ h1, r⟩
theorem W.getf {a : Addr} {b : Bool} {C O f d R0 : String} {fs : List Fd} {v : Value} {idx : Nat} (hd : decode bytes pc = .ok (.getfield idx, 3)) (w : (Cond.fieldLink own idx R0 f d).before a0 Z = true) (via : Via Z R0 O f d) (hm : (a, b, .inl (C, fs)) ∈ D) (hf : (O, f, d, v) ∈ fs)
    (next : W Z EL R own nm bytes ml ret Q D k n (pc + 3) ls (v :: st)) : W Z EL R own nm bytes ml ret Q D k n pc ls (.ref a :: st) :=
  W.still (fun X hx hby hml hown hZ hH => by
    obtain ⟨vm, hH⟩ := hH
    exact getF (host := "") X hx hZ hown (Or.inl w) via rfl ((hH.2.2.1 _ hm).1.2 _ hf) (g := mkF _ pc ls (.ref a :: st)) rfl rfl (hb hby hd)) next
theorem W.gets {O f d R0 : String} {v : Value} {idx : Nat} (hd : decode bytes pc = .ok (.getstatic idx, 3)) (w : (Cond.fieldLink own idx R0 f d).before a0 Z = true) (via : Via Z R0 O f d) (F : Sta Z Z.heap O f d v)
    (next : W Z EL R own nm bytes ml ret Q D k n (pc + 3) ls (v :: st)) : W Z EL R own nm bytes ml ret Q D k n pc ls st :=
  W.still (fun X hx hby hml hown hZ hH => by
    obtain ⟨vm, hH⟩ := hH
    exact getS (host := "") X hx hZ hown w via rfl (F.ext hH.1) (g := mkF _ pc ls st) rfl (hb hby hd)) next
theorem W.alen {a : Addr} {b : Bool} {ad : String} {ty : FieldType} {vs : List Value} (z : Int32) (hd : decode bytes pc = .ok (.arraylength, 1)) (hm : (a, b, .inr (ad, ty, vs)) ∈ D) (hz : Nat.toInt32 vs.length = z)
    (next : W Z EL R own nm bytes ml ret Q D k n (pc + 1) ls (.int z :: st)) : W Z EL R own nm bytes ml ret Q D k n pc ls (.ref a :: st) :=
  W.still (fun X hx hby hml hown hZ hH => by
    obtain ⟨vm, hH⟩ := hH
    obtain ⟨c, A, r1, -⟩ := (hH.2.2.1 _ hm).1
    refine ⟨_, X, rfl, fun target ht => ?_⟩
    refine X.arraylength hx A.1 (State.isArrayOf_alike hZ.alike A.2.1) (g := mkF _ pc ls (.ref a :: st)) rfl rfl (hb hby hd) target ?_
    rw [r1]
    have : vs.toArray.size = vs.length := by simp
    rw [this, hz]; exact ht) next
theorem idx_in' {j : Int32} {i : Nat} {vs : List Value} {c : Cell} (r1 : c.slots = vs.toArray) (hj : Idx j i) (hi : i < vs.length) : ¬ (j < 0 ∨ c.slots.size ≤ j.toNatClampNeg) := by
  rw [r1, hj.2]; rintro (q | q)
  · exact hj.1 q
  · simp at q; omega
theorem idx_at' {j : Int32} {i : Nat} {vs : List Value} {c : Cell} {v : Value} (r1 : c.slots = vs.toArray) (hj : Idx j i) (hv : vs[i]? = some v) : c.slots[j.toNatClampNeg]? = some v := by
  rw [r1, hj.2]; simpa using hv
theorem lt_of_at {vs : List Value} {i : Nat} {v : Value} (hv : vs[i]? = some v) : i < vs.length := (List.getElem?_eq_some_iff.mp hv).1
theorem W.caload {a : Addr} {b : Bool} {ad : String} {vs : List Value} {j : Int32} (i : Nat) {v : Value} (hd : decode bytes pc = .ok (.caload, 1)) (hm : (a, b, .inr (ad, .char, vs)) ∈ D) (hj : Idx j i) (hv : vs[i]? = some v)
    (next : W Z EL R own nm bytes ml ret Q D k n (pc + 1) ls (v :: st)) : W Z EL R own nm bytes ml ret Q D k n pc ls (.int j :: .ref a :: st) :=
  W.still (fun X hx hby hml hown hZ hH => by
    obtain ⟨vm, hH⟩ := hH
    obtain ⟨c, A, r1, -⟩ := (hH.2.2.1 _ hm).1
    exact ⟨_, X, rfl, fun target ht => X.caload hx A.1 (State.isArrayOf_alike hZ.alike A.2.1) A.2.2 (idx_in' r1 hj (lt_of_at hv)) (idx_at' r1 hj hv) (g := mkF _ pc ls (.int j :: .ref a :: st)) rfl rfl (hb hby hd) target ht⟩) next
theorem W.baload {a : Addr} {b : Bool} {ad : String} {vs : List Value} {j : Int32} (i : Nat) {v : Value} (hd : decode bytes pc = .ok (.baload, 1)) (hm : (a, b, .inr (ad, .byte, vs)) ∈ D) (hj : Idx j i) (hv : vs[i]? = some v)
    (next : W Z EL R own nm bytes ml ret Q D k n (pc + 1) ls (v :: st)) : W Z EL R own nm bytes ml ret Q D k n pc ls (.int j :: .ref a :: st) :=
  W.still (fun X hx hby hml hown hZ hH => by
    obtain ⟨vm, hH⟩ := hH
    obtain ⟨c, A, r1, -⟩ := (hH.2.2.1 _ hm).1
    exact ⟨_, X, rfl, fun target ht => X.baloadBytes hx A.1 (State.isArrayOf_alike hZ.alike A.2.1) A.2.2 (idx_in' r1 hj (lt_of_at hv)) (idx_at' r1 hj hv) (g := mkF _ pc ls (.int j :: .ref a :: st)) rfl rfl (hb hby hd) target ht⟩) next
theorem W.ldcI {idx : Nat} {v : Int32} (hd : decode bytes pc = .ok (.ldc idx, 2)) (w : (Cond.constant own idx v).before a0 Z = true) (next : W Z EL R own nm bytes ml ret Q D k n (pc + 2) ls (.int v :: st)) : W Z EL R own nm bytes ml ret Q D k n pc ls st :=
  W.still (fun X hx hby hml hown hZ hH => ⟨_, X, rfl, fun target ht => X.ldcI hx hown (mvT hZ w) (g := mkF _ pc ls st) rfl (hb hby hd) ht⟩) next
theorem W.castY {a : Addr} {K : String} {idx : Nat} (hd : decode bytes pc = .ok (.checkcast idx, 3)) (w : (Cond.classLink own idx K).before a0 Z = true) (hI : ∀ vm h, Hp Z EL D vm h → Ins Z h a K true) (next : W Z EL R own nm bytes ml ret Q D k n (pc + 3) ls (.ref a :: st)) : W Z EL R own nm bytes ml ret Q D k n pc ls (.ref a :: st) :=
  W.still (fun X hx hby hml hown hZ hH => by
    obtain ⟨vm, hH⟩ := hH
    exact Jvm.RoadKit.castY X hx hZ hown w rfl (hI _ _ hH) (g := mkF _ pc ls (.ref a :: st)) rfl rfl (hb hby hd)) next
theorem W.instY {a : Addr} {K : String} {idx : Nat} (hd : decode bytes pc = .ok (.instanceof idx, 3)) (w : (Cond.classLink own idx K).before a0 Z = true) (hI : ∀ vm h, Hp Z EL D vm h → Ins Z h a K true) (next : W Z EL R own nm bytes ml ret Q D k n (pc + 3) ls (.int 1 :: st)) : W Z EL R own nm bytes ml ret Q D k n pc ls (.ref a :: st) :=
  W.still (fun X hx hby hml hown hZ hH => by
    obtain ⟨vm, hH⟩ := hH
    exact Jvm.RoadKit.instY X hx hZ hown w rfl (hI _ _ hH) (g := mkF _ pc ls (.ref a :: st)) rfl rfl (hb hby hd)) next
theorem W.instNo {a : Addr} {K C : String} {idx : Nat} (hd : decode bytes pc = .ok (.instanceof idx, 3)) (w : (Cond.classLink own idx K).before a0 Z = true) (hI : ∀ vm h, Hp Z EL D vm h → Exa Z h a C) (F : ∃ c t, Z.vm.findClass C = some c ∧ Z.vm.findClass K = some t ∧ Z.vm.assignable c t = false) (next : W Z EL R own nm bytes ml ret Q D k n (pc + 3) ls (.int 0 :: st)) : W Z EL R own nm bytes ml ret Q D k n pc ls (.ref a :: st) :=
  W.still (fun X hx hby hml hown hZ hH => by
    obtain ⟨vm, hH⟩ := hH
    exact Jvm.RoadKit.instNo X hx hZ hown w rfl (hI _ _ hH) F (g := mkF _ pc ls (.ref a :: st)) rfl rfl (hb hby hd)) next
theorem W.instNull {idx : Nat} (hd : decode bytes pc = .ok (.instanceof idx, 3)) (next : W Z EL R own nm bytes ml ret Q D k n (pc + 3) ls (.int 0 :: st)) : W Z EL R own nm bytes ml ret Q D k n pc ls (.null :: st) :=
  W.still (fun X hx hby hml hown hZ hH => ⟨_, X, rfl, fun target ht => X.instanceofNull hx (g := mkF _ pc ls (.null :: st)) rfl rfl (hb hby hd) target ht⟩) next
theorem Hp.exa {D : List Ent} {a : Addr} {b : Bool} {C : String} {fs : List Fd} (hm : (a, b, .inl (C, fs)) ∈ D) : ∀ vm h, Hp Z EL D vm h → Exa Z h a C := fun _ _ H => (H.2.2.1 _ hm).1.1
theorem Hp.ins {D : List Ent} {a : Addr} {b : Bool} {C : String} {fs : List Fd} (hm : (a, b, .inl (C, fs)) ∈ D) : ∀ vm h, Hp Z EL D vm h → Ins Z h a C true := fun _ _ H => Ins.self (H.2.2.1 _ hm).1.1
theorem W.initO {a : Addr} {idx : Nat} (Wt : Nat) (hd : decode bytes pc = .ok (.invokespecial idx, 3)) (w1 : (Cond.methodLink own idx Lib.objectInit).before a0 Z = true) (w2 : (Cond.instanceMethod Lib.objectInit).before a0 Z = true) (w3 : (Cond.code Lib.objectInit ⟨#[0xb1]⟩ 1 none).before a0 Z = true)
    (hls : ls.size = ml) (hW : (st.map fun v => v.category).sum = Wt) (hr : 1 ≤ R.frames ∧ Wt + 12 ≤ R.locals) (next : W Z EL R own nm bytes ml ret Q D k n (pc + 3) ls st) : W Z EL R own nm bytes ml ret Q D k n pc ls (.ref a :: st) :=
  W.still (fun X hx hby hml hown hZ hH => Jvm.RoadKit.initO X hx hZ hown w1 w2 w3 rfl (g := mkF _ pc ls (.ref a :: st)) rfl (by rw [hml]; exact hls) rfl (hb hby hd) hr.1 (W := Wt) (by show 2 * 0 + _ ≤ _; omega) hr.2) next
def LaidAll (Z : State) (a0 : Array Value) (C : String) : List Fd → Prop
  | [] => True
  | f :: r => (Laid Z a0 C f.1 f.2.1 f.2.2.1 ∧ ∃ ty, parseFieldDescriptor f.2.2.1 = some ty ∧ f.2.2.2 = defaultValue ty) ∧ LaidAll Z a0 C r
theorem LaidAll.mem {C : String} : ∀ {fs : List Fd}, LaidAll Z a0 C fs → ∀ f ∈ fs, Laid Z a0 C f.1 f.2.1 f.2.2.1 ∧ ∃ ty, parseFieldDescriptor f.2.2.1 = some ty ∧ f.2.2.2 = defaultValue ty
  | [], _, _, q => nomatch q
  | f :: r, L, g, q => by
    rcases List.mem_cons.mp q with rfl | q
    · exact L.1
    · exact LaidAll.mem L.2 g q
theorem LaidAll.dist {C : String} : ∀ {fs : List Fd}, LaidAll Z a0 C fs → (fs.map (·.2.1)).Pairwise (fun x y => x ≠ y) → (fs.map (sl Z)).Pairwise (fun x y => x ≠ y)
  | [], _, _ => List.Pairwise.nil
  | f :: r, L, N => by
    obtain ⟨n1, n2⟩ := List.pairwise_cons.mp N
    refine List.pairwise_cons.mpr ⟨fun y hy => ?_, LaidAll.dist L.2 n2⟩
    obtain ⟨g, hg, rfl⟩ := List.mem_map.mp hy
    obtain ⟨l1, t1, q1, -⟩ := L.1
    obtain ⟨l2, t2, q2, -⟩ := LaidAll.mem L.2 g hg
    exact slot_ne l1 l2 (n1 _ (List.mem_map.mpr ⟨g, hg, rfl⟩)) q1 q2
theorem W.new {C : String} {idx nn : Nat} {fs : List Fd} (hd : decode bytes pc = .ok (.new idx, 3)) (w : (Cond.classLink own idx C).before a0 Z = true) (wi : (Cond.instantiable C nn).before a0 Z = true) (wz : (Cond.initialized C).before a0 Z = true)
    (hfs : LaidAll Z a0 C fs) (hnm : (fs.map (·.2.1)).Pairwise (fun x y => x ≠ y)) (hr : k + 1 ≤ R.cells ∧ n + nn ≤ R.slots) (next : ∀ a, W Z EL R own nm bytes ml ret Q ((a, true, .inl (C, fs)) :: D) (k + 1) (n + nn) (pc + 3) ls (.ref a :: st)) : W Z EL R own nm bytes ml ret Q D k n pc ls st := by
  intro p l e s m args below meth c T vm0 k0 locs cells slots A
  obtain ⟨X, hS, hk0, hx, hby, hml, hown, hZ, r1, r2, r3, hN, hH, hc, hl, hE, hNI⟩ := A
  obtain ⟨T', h', X', e', E, A2, D2, -, stp⟩ := newO X hx hZ hown w wi wz rfl (g := mkF m pc ls st) rfl (hb hby hd) (by omega) (by omega)
  have H' : Hp Z EL ((T.heap.size, true, .inl (C, fs)) :: D) vm0 h' := hH.new E ⟨A2, fun f hf => by
    obtain ⟨l1, ty, q1, q2⟩ := hfs.mem f hf
    rw [q2]; exact D2 l1 q1⟩ (hfs.dist hnm)
  obtain ⟨s₂, o, h1, r⟩ := next T.heap.size p l e s m args below meth c T' vm0 k0 locs (cells + 1) (slots + nn) ⟨X', hS, by rw [e']; exact Nat.le_trans hk0 E.1, hx, hby, hml, hown, hZ, r1, r2, r3, hN, by rw [e']; exact H', by omega, by omega, hE, hNI⟩
  exact ⟨s₂, o, stp _ h1, r⟩
theorem fits_default (ty : FieldType) : fits ty (defaultValue ty) = true := by cases ty <;> rfl
theorem W.newarr {aty : ArrayType} {z : Int32} (N : Nat) {ad : String} {ty : FieldType} (hd : decode bytes pc = .ok (.newarray aty, 2)) (hty : newarray.typeOf aty = ty) (w : (Cond.arrayClass ty).before a0 Z = true) (hz : Idx z N) (had : "[" ++ ty.toString = ad) (hb8 : N * 8 ≤ 536870912) (hr : k + 1 ≤ R.cells ∧ n + N ≤ R.slots)
    (next : ∀ a, W Z EL R own nm bytes ml ret Q ((a, true, .inr (ad, ty, List.replicate N (defaultValue ty))) :: D) (k + 1) (n + N) (pc + 2) ls (.ref a :: st)) : W Z EL R own nm bytes ml ret Q D k n pc ls (.int z :: st) := by
  intro p l e s m args below meth c T vm0 k0 locs cells slots A
  subst hty
  obtain ⟨X, hS, hk0, hx, hby, hml, hown, hZ, r1, r2, r3, hN, hH, hc, hl, hE, hNI⟩ := A
  obtain ⟨T', h', cA, X', e', E, A2, E2, stp⟩ := newPE X hx hZ w rfl (g := mkF m pc ls (.int z :: st)) rfl (hb hby hd) rfl hz.1 (cap := N) (by rw [hz.2]; exact Nat.le_refl _) hb8 (by omega) (by omega) had
  have H' : Hp Z EL ((T.heap.size, true, .inr (ad, newarray.typeOf aty, List.replicate N (defaultValue (newarray.typeOf aty)))) :: D) vm0 h' := hH.new E ⟨_, A2, by simp [newA, hz.2], by simp; omega, fun v hv => by rw [(List.mem_replicate.mp hv).2]; exact fits_default _, fun _ => E2⟩ trivial
  obtain ⟨s₂, o, h1, r⟩ := next T.heap.size p l e s m args below meth c T' vm0 k0 locs (cells + 1) (slots + N) ⟨X', hS, by rw [e']; exact Nat.le_trans hk0 E.1, hx, hby, hml, hown, hZ, r1, r2, r3, hN, by rw [e']; exact H', by omega, by omega, hE, hNI⟩
  exact ⟨s₂, o, stp _ h1, r⟩
theorem pw_ne {l : List Nat} (P : l.Pairwise (fun x y => x ≠ y)) {i j : Nat} {x y : Nat} (hij : i ≠ j) (hi : l[i]? = some x) (hj : l[j]? = some y) : x ≠ y := by
  obtain ⟨i1, rfl⟩ := List.getElem?_eq_some_iff.mp hi
  obtain ⟨j1, rfl⟩ := List.getElem?_eq_some_iff.mp hj
  rw [List.pairwise_iff_getElem] at P
  rcases Nat.lt_or_gt_of_ne hij with q | q
  · exact P i j i1 j1 q
  · exact (P j i j1 i1 q).symm
theorem set_map_sl {fs : List Fd} {j : Nat} {f g : Fd} (hj : fs[j]? = some f) (e : sl Z g = sl Z f) : (fs.set j g).map (sl Z) = fs.map (sl Z) := by
  rw [List.map_set, e]
  apply List.ext_getElem?
  intro i
  rw [List.getElem?_set]
  split
  · rename_i q; subst q
    rw [List.getElem?_map, hj]
    have := (List.getElem?_eq_some_iff.mp hj).1
    simp [this]
  · rfl
theorem Sat.put {h h' : Heap} {a : Addr} {C O f d : String} {fs : List Fd} {j : Nat} {old v : Value} (S : Sat Z h a (.inl (C, fs))) (hD : Dist Z (.inl (C, fs))) (hj : fs[j]? = some (O, f, d, old)) (Wr1 : Wr h h' a (Jvm.RoadKit.slotOf Z O f d) v) : Sat Z h' a (.inl (C, fs.set j (O, f, d, v))) := by
  refine ⟨S.1.wr Wr1, fun g hg => ?_⟩
  obtain ⟨i, hi⟩ := List.mem_iff_getElem?.mp hg
  rw [List.getElem?_set] at hi
  split at hi
  · rename_i q; subst q
    split at hi
    · cases hi; exact (S.2 _ (List.mem_of_getElem? hj)).same Wr1
    · cases hi
  · rename_i q
    refine (S.2 g (List.mem_of_getElem? hi)).other Wr1 (Or.inr ?_)
    exact pw_ne hD (Ne.symm q) (x := sl Z g) (y := sl Z (O, f, d, old)) (by rw [List.getElem?_map, hi]; rfl) (by rw [List.getElem?_map, hj]; rfl)
theorem W.putf {a : Addr} {C O f d R0 : String} {fs : List Fd} {old v : Value} {idx kk : Nat} {ty : FieldType} (i j : Nat) (hd : decode bytes pc = .ok (.putfield idx, 3)) (w : (Cond.fieldLink own idx R0 f d).before a0 Z = true) (via : Via Z R0 O f d)
    (hi : D[i]? = some (a, true, .inl (C, fs))) (hj : fs[j]? = some (O, f, d, old)) (L : (Cond.lays C O f d).before a0 Z = true ∨ ((Cond.laysFinal C O f d).before a0 Z = true ∧ own = O ∧ nm = "<init>")) (wi : (Cond.instantiable C kk).before a0 Z = true)
    (hty : parseFieldDescriptor d = some ty) (hn : narrow ty v = v) (hf : fits ty v = true) (hD : D.set i (a, true, .inl (C, fs.set j (O, f, d, v))) = D')
    (next : W Z EL R own nm bytes ml ret Q D' k n (pc + 3) ls st) : W Z EL R own nm bytes ml ret Q D k n pc ls (v :: .ref a :: st) := by
  intro p l e s m args below meth c T vm0 k0 locs cells slots A
  obtain ⟨X, hS, hk0, hx, hby, hml, hown, hZ, r1, r2, r3, hN, hH, hc, hl, hE, hNI⟩ := A
  subst hD
  obtain ⟨S, g⟩ := hH.2.2.1 _ (List.mem_of_getElem? hi)
  obtain ⟨T', h', X', e', W1, stp⟩ := putF (host := "") X hx hZ hown (Or.inl w) via rfl (S.2 _ (List.mem_of_getElem? hj)) S.1 (L.imp id fun q => ⟨q.1, q.2.1, r3.trans q.2.2⟩) wi hty hn hf (g := mkF m pc ls (v :: .ref a :: st)) rfl rfl (hb hby hd)
  obtain ⟨g1, g2, g3⟩ := g rfl
  have H' := hH.keepSet (d' := .inl (C, fs.set j (O, f, d, v))) hi (Keep.of_wr W1) (Sat.put S g3 hj W1) (by show List.Pairwise _ _; rw [set_map_sl (Z := Z) (g := (O, f, d, v)) hj rfl]; exact g3)
  obtain ⟨s₂, o, q1, r⟩ := next p l e s m args below meth c T' vm0 k0 _ cells slots ⟨X', hS, by rw [e', W1.size]; exact hk0, hx, hby, hml, hown, hZ, r1, r2, r3, Fr.snoc X' hN g1, by rw [e']; exact H', hc, hl, hE, hNI⟩
  exact ⟨s₂, o, stp _ q1, r⟩
theorem Sat.store {h h' : Heap} {a : Addr} {ad : String} {ty : FieldType} {vs : List Value} {i : Nat} {v : Value} (S : Sat Z h a (.inr (ad, ty, vs))) (hv : fits ty v = true) (W1 : Wr h h' a i v) : Sat Z h' a (.inr (ad, ty, vs.set i v)) := by
  obtain ⟨c, A, r1, r2, r3, r4⟩ := S
  refine ⟨_, A.same W1, ?_, by simpa using r2, fun x hx => ?_, fun q => (r4 q).wr W1⟩
  · simp [Cell.setSlot, r1]
  · rcases List.mem_or_eq_of_mem_set hx with hx | rfl
    · exact r3 x hx
    · exact hv
theorem W.stA {a : Addr} {ad : String} {ty : FieldType} {vs : List Value} {i j : Nat} {v : Value} {st' : List Value} {pc' : Nat}
    (H : ∀ {p : Program} {l : Launch} {e : Env} {s : State} {m : MethodId} {args : Array Value} {below : List Frame} {meth : Method} {c : Code} {T : State} {locs : List Loc} {cells slots : Nat} {cl : Cell}, Stand p l e R s m args below meth c T locs cells slots → p.tables.exec = Jvm.exec → c.code = bytes → Z.Warmed39 s.vm → Arr Z T.heap a cl ty → cl.slots = vs.toArray →
      ∃ T' h', Stand p l e R s m args below meth c T' (locs ++ [⟨a, j⟩]) cells slots ∧ T'.heap = h' ∧ Wr T.heap h' a j v ∧ ∀ target, Steps p.tables e below (T'.setTop (mkF m pc' ls st')) target → Steps p.tables e below (T.setTop (mkF m pc ls st)) target)
    (hi : D[i]? = some (a, true, .inr (ad, ty, vs))) (hf : fits ty v = true) (hD : D.set i (a, true, .inr (ad, ty, vs.set j v)) = D')
    (next : W Z EL R own nm bytes ml ret Q D' k n pc' ls st') : W Z EL R own nm bytes ml ret Q D k n pc ls st := by
  intro p l e s m args below meth c T vm0 k0 locs cells slots A
  obtain ⟨X, hS, hk0, hx, hby, hml, hown, hZ, r1, r2, r3, hN, hH, hc, hl, hE, hNI⟩ := A
  subst hD
  obtain ⟨S, g⟩ := hH.2.2.1 _ (List.mem_of_getElem? hi)
  obtain ⟨cl, A, q1, -⟩ := id S
  obtain ⟨T', h', X', e', W1, stp⟩ := H X hx hby hZ A q1
  obtain ⟨g1, g2, g3⟩ := g rfl
  have H' := hH.keepSet hi (Keep.of_wr W1) (Sat.store S hf W1) trivial
  obtain ⟨s₂, o, q1, r⟩ := next p l e s m args below meth c T' vm0 k0 _ cells slots ⟨X', hS, by rw [e', W1.size]; exact hk0, hx, hby, hml, hown, hZ, r1, r2, r3, Fr.snoc X' hN g1, by rw [e']; exact H', hc, hl, hE, hNI⟩
  exact ⟨s₂, o, stp _ q1, r⟩
theorem W.castore {a : Addr} {ad : String} {vs : List Value} {z x x' : Int32} (i j : Nat) (hd : decode bytes pc = .ok (.castore, 1)) (hi : D[i]? = some (a, true, .inr (ad, .char, vs))) (hz : Idx z j) (hj : j < vs.length) (hx' : nar .char x = x')
    (hD : D.set i (a, true, .inr (ad, .char, vs.set j (.int x'))) = D') (next : W Z EL R own nm bytes ml ret Q D' k n (pc + 1) ls st) : W Z EL R own nm bytes ml ret Q D k n pc ls (.int x :: .int z :: .ref a :: st) :=
  W.stA (i := i) (j := j) (fun X hx hby hZ A q => by
    have r := stC X hx hZ rfl A (j := z) (x := x) (idx_in' q hz hj) (g := mkF _ pc ls (.int x :: .int z :: .ref a :: st)) rfl rfl (hb hby hd)
    rw [hz.2, hx'] at r; exact r) hi (by rw [← hx']; exact fits_nar_char x) hD next
theorem W.bastore {a : Addr} {ad : String} {vs : List Value} {z x x' : Int32} (i j : Nat) (hd : decode bytes pc = .ok (.bastore, 1)) (hi : D[i]? = some (a, true, .inr (ad, .byte, vs))) (hz : Idx z j) (hj : j < vs.length) (hx' : nar .byte x = x')
    (hD : D.set i (a, true, .inr (ad, .byte, vs.set j (.int x'))) = D') (next : W Z EL R own nm bytes ml ret Q D' k n (pc + 1) ls st) : W Z EL R own nm bytes ml ret Q D k n pc ls (.int x :: .int z :: .ref a :: st) :=
  W.stA (i := i) (j := j) (fun X hx hby hZ A q => by
    have r := stB X hx hZ rfl A (j := z) (x := x) (idx_in' q hz hj) (g := mkF _ pc ls (.int x :: .int z :: .ref a :: st)) rfl rfl (hb hby hd)
    rw [hz.2, hx'] at r; exact r) hi (by rw [← hx']; exact fits_nar_byte x) hD next
theorem W.out {v : Option Value} (hk : k ≤ R.cells ∧ n ≤ R.slots) (hv : ret = none → v = none) (q : Q v D)
    (H : ∀ {p : Program} {l : Launch} {e : Env} {s : State} {m : MethodId} {args : Array Value} {below : List Frame} {meth : Method} {c : Code} {T : State} {locs : List Loc} {cells slots : Nat} {fs : List Frame}, Stand p l e R s m args below meth c T locs cells slots → p.tables.exec = Jvm.exec → c.code = bytes → meth.sig.returnType = ret →
      (∀ (f : JFrame) (acts : List Action), f.method = m → f.locked = none → f.entered = [] → (doReturn e (T.setTop f) acts v).1 = T.setFrames fs) → Steps p.tables e below (T.setTop (mkF m pc ls st)) (T.setFrames fs)) : W Z EL R own nm bytes ml ret Q D k n pc ls st := by
  intro p l e s m args below meth c T vm0 k0 locs cells slots A
  obtain ⟨X, hS, hk0, hx, hby, hml, hown, hZ, r1, r2, r3, hN, hH, hc, hl, ⟨⟨b0, hE⟩, hNL⟩, hNI⟩ := A
  obtain ⟨fs, h1, h2, h3, ⟨h4, h5, h6, h7⟩⟩ := X.leaveW hS hk0 (v := v) (fun z => hv (r1 ▸ z)) r2
  refine ⟨_, _, H X hx hby r1 h1, h2, h3, v, locs, rfl, hN, ⟨D, (show Hp Z EL D T.vm T.heap from hH.toVm (CHv.at X hZ hE hH.2.1)), q⟩, ⟨h4, h5, h6, h7.mono (by omega) (by omega)⟩, fun q => ?_⟩
  have := X.warmed
  rw [hNI q] at this; exact this
theorem W.ireturn {x : Int32} {t : FieldType} (hd : decode bytes pc = .ok (.ireturn, 1)) (hret : ret = some t) (ht : t = .int ∨ t = .boolean ∨ t = .byte ∨ t = .char ∨ t = .short) (hn : narrow t (.int x) = .int x) (hk : k ≤ R.cells ∧ n ≤ R.slots) (q : Q (some (.int x)) D) : W Z EL R own nm bytes ml ret Q D k n pc ls (.int x :: st) :=
  W.out hk (fun z => by rw [hret] at z; cases z) q (fun X hx hby hr hl => retOut X hx (hr.trans hret) hn (Or.inl ⟨rfl, ht, x, rfl⟩) (hb hby hd) hl)
theorem W.areturn {v : Value} {t : FieldType} (hd : decode bytes pc = .ok (.areturn, 1)) (hret : ret = some t) (ht : t.isReference = true) (hv : v.isRef = true) (hk : k ≤ R.cells ∧ n ≤ R.slots) (q : Q (some v) D) : W Z EL R own nm bytes ml ret Q D k n pc ls (v :: st) :=
  W.out hk (fun z => by rw [hret] at z; cases z) q (fun X hx hby hr hl => retOut X hx (hr.trans hret) (by cases t <;> first | rfl | cases ht) (Or.inr (Or.inr (Or.inr (Or.inr ⟨rfl, ht, hv⟩)))) (hb hby hd) hl)
theorem W.return_ (hd : decode bytes pc = .ok (.return_, 1)) (hret : ret = none) (hk : k ≤ R.cells ∧ n ≤ R.slots) (q : Q none D) : W Z EL R own nm bytes ml ret Q D k n pc ls [] :=
  W.out hk (fun _ => rfl) q (fun X hx hby hr hl => X.returnOut hx (hr.trans hret) (hb hby hd) hl)
end Walk
end Jvm.Wk
namespace Jvm.Wk
open Jvm Jvm.ClassFile Sem Op Lib Bundle Jvm.Free Jvm.Stand Jvm.LawKit Jvm.RoadKit
section Calls
variable {Z : State} {EL : Bool × List (String × Nat)} {R : Room} {own nm : String} {bytes : ByteArray} {ml : Nat} {ret : Option FieldType} {Q : Option Value → List Ent → Prop} {D D' : List Ent} {k n pc : Nat} {ls ls' : Array Slot} {st : List Value} {a0 : Array Value}
variable {y : MethodName} {cb : ByteArray} {cm : Nat} {cr : Option FieldType} {rm : Room} {as : List Value} {Q' : Option Value → List Ent → Prop} {idx : Nat}
abbrev CPre (Z : State) (EL : Bool × List (String × Nat)) (R rm : Room) (D : List Ent) (vm0 : Vm) (as : List Value) : Pt → Array Value → Prop := fun A a => a = as.toArray ∧ Hp Z EL D vm0 A.U.heap ∧ A.cells + rm.cells ≤ R.cells ∧ A.slots + rm.slots ≤ R.slots
abbrev CPost (Z : State) (EL : Bool × List (String × Nat)) (rm : Room) (Q' : Option Value → List Ent → Prop) : Pt → Array Value → Option Value → Pt → Prop :=
  fun A _ v B => ∃ L D', Fr Z.heap.size L ∧ Hp Z EL D' B.U.vm B.U.heap ∧ Q' v D' ∧ B.locs = A.locs ++ L ∧ B.cells = A.cells + rm.cells ∧ B.slots = A.slots + rm.slots ∧ (EL.1 = true → A.U.WarmedH B.U.vm)
theorem conBack {p : Program} {l : Launch} {e : Env} {s : State} {args : Array Value} {below : List Frame} {vm0 : Vm} {len Wt : Nat} (hC : Con Z EL y cb cm cr rm as D Q') (hZ : Z.Warmed39 vm0) (wc : (Cond.code y cb cm cr).before a0 Z = true) (wz : (Cond.initialized y.cls).before a0 Z = true) (hE : ELok Z EL)
    (hf : rm.frames + 1 ≤ R.frames) (hl : Wt + (cm + 11) + rm.locals ≤ R.locals) : BackS l R p e below (s.setVm vm0) args y len Wt (CPre Z EL R rm D vm0 as) (CPost Z EL rm Q') := by
  obtain ⟨⟨b0, hE0⟩, hNL⟩ := id hE
  exact BackS.of_freeW (bytes := cb) (maxL := cm) (ret := cr) (E := fun _ first o t L k n => k = rm.cells ∧ n = rm.slots ∧ Fr Z.heap.size L ∧ (EL.1 = true → first.WarmedH t.vm) ∧ ∃ v, o = .returned v ∧ ∃ D', Hp Z EL D' t.vm t.heap ∧ Q' v D') (hC hE l []) hf hl
    (fun m meth c A a Y hp => have hU : Z.Warmed39 A.U.vm := wtrans (s := s.setVm vm0) hZ Y.warmed
      ⟨by show (Cond.and _ .tt).before a A.U = true; rw [Cond.before_and, mv hU wc]; rfl, mv hU wc, mv hU wz, hp.2.2.1, hp.2.2.2⟩)
    (fun m meth c A a g mk Y hp => ⟨hp.1, wtrans (s := s.setVm vm0) hZ Y.warmed, (show Hp Z EL D A.U.vm A.U.heap from hp.2.1.toVm (CHv.at Y hZ hE0 hp.2.1.2.1))⟩) (fun _ _ _ _ _ _ _ _ _ => trivial)
    (fun _ _ _ _ ⟨v, L, h1, h2, h3, h4, h5⟩ => ⟨L, _, _, h4, rfl, rfl, h2, h5, v, h1, h3⟩)
    (fun m meth c A a g mk v t L k n Y hp _ _ ⟨e1, e2, e3, e7, v', e4, D', e5, e6⟩ => by
      cases e4; subst e1 e2
      exact ⟨L, D', e3, e5, e6, rfl, rfl, rfl, e7⟩)
theorem W.afterCall {p : Program} {l : Launch} {e : Env} {s : State} {m : MethodId} {args : Array Value} {below : List Frame} {meth : Method} {c : Code} {T : State} {vm0 : Vm} {k0 : Nat} {locs : List Loc} {cells slots : Nat} {len : Nat} {rest : List Value} {aa : Array Value}
    (A : Here Z EL R own nm bytes ml ret D k n p l e s m args below meth c T vm0 k0 locs cells slots)
    (hB : ∃ (v : Option Value) (vm₁ : Vm) (B : Pt), (s.setVm vm0).WarmedH vm₁ ∧ Stand p l e R ((s.setVm vm0).setVm B.U.vm) m args below meth c B.U B.locs B.cells B.slots ∧ (s.setVm vm0).Since B.U.vm B.U.heap.size ∧ T.heap.size ≤ B.U.heap.size ∧ CPost Z EL rm Q' ⟨T.setVm vm₁, locs, cells, slots⟩ aa v B ∧
      Steps p.tables e below (T.setTop (mkF m pc ls st)) (B.U.setTop { mkF m pc ls st with pc := pc + len, stack := v.toList ++ rest }))
    (next : ∀ v D', Q' v D' → W Z EL R own nm bytes ml ret Q D' (k + rm.cells) (n + rm.slots) (pc + len) ls (v.toList ++ rest)) :
    ∃ s₂ o, Steps p.tables e below (T.setTop (mkF m pc ls st)) s₂ ∧ s₂.status = .running ∧ Ended s₂ below o ∧ Res Z EL Q R s o s₂ := by
  obtain ⟨X, hS, hk0, hx, hby, hml, hown, hZ, r1, r2, r3, hN, hH, hc, hl, hE, hNI⟩ := A
  obtain ⟨v, vm₁, ⟨U, L1, c1, n1⟩, hW1, X', hS', hg, ⟨L, D', hL, hH', hq, e1, e2, e3, e4⟩, stp⟩ := hB
  dsimp only [Pt.U, Pt.locs, Pt.cells, Pt.slots] at X' hS' hg hH' e1 e2 e3 e4 stp
  subst e1 e2 e3
  cases hb : EL.1 with
  | false =>
    obtain ⟨s₂, o, q1, r⟩ := next v D' hq p l e s m args below meth c U U.vm U.heap.size (locs ++ L) (cells + rm.cells) (slots + rm.slots)
      ⟨X', hS.trans hS' (Nat.le_trans hk0 hg), Nat.le_refl _, hx, hby, hml, (hS'.1.alike.findClass _ _).trans hown, State.Warmed39.trans (t := s.setVm vm0) hZ hS'.1, r1, r2, r3, Fr.app hN hL, hH', by omega, by omega, hE, fun q => by rw [hb] at q; cases q⟩
    exact ⟨s₂, o, stp.trans q1, r⟩
  | true =>
    have hWU : (s.setVm vm0).WarmedH U.vm := State.WarmedH.trans hW1 (e4 hb)
    have X2 : Stand p l e R (s.setVm vm0) m args below meth c U (locs ++ L) (cells + rm.cells) (slots + rm.slots) :=
      ⟨X.admits, X.cas, X.clock, X.frames, X.room, X.hears, X.method, X.code, X'.here, X'.tail, hWU, X'.limits, X'.bytes, X'.same.setVm vm0⟩
    have hn0 : EL.2 = [] := hE.2 hb
    have hH2 : Hp Z EL D' vm0 U.heap := ⟨hH'.1, by rw [hn0]; exact fun p hp => (by cases hp), fun x hx => ⟨(hH'.2.2.1 x hx).1, fun w => ⟨((hH'.2.2.1 x hx).2 w).1, (by rw [hn0]; rintro ⟨p, hp, -⟩; cases hp), ((hH'.2.2.1 x hx).2 w).2.2⟩⟩, hH'.2.2.2⟩
    obtain ⟨s₂, o, q1, r⟩ := next v D' hq p l e s m args below meth c U vm0 k0 (locs ++ L) (cells + rm.cells) (slots + rm.slots)
      ⟨X2, hS, Nat.le_trans hk0 hg, hx, hby, hml, hown, hZ, r1, r2, r3, Fr.app hN hL, hH2, by omega, by omega, hE, hNI⟩
    exact ⟨s₂, o, stp.trans q1, r⟩
abbrev Rooms (R rm : Room) (Wt cm k n : Nat) : Prop := rm.frames + 1 ≤ R.frames ∧ Wt + (cm + 11) + rm.locals ≤ R.locals ∧ k + rm.cells ≤ R.cells ∧ n + rm.slots ≤ R.slots
abbrev okCls (y : MethodName) : Prop := y.cls ≠ "java/lang/invoke/MethodHandle" ∧ y.cls ≠ "java/lang/invoke/VarHandle"
theorem W.callS {ps : List FieldType} {r : Option FieldType} (Wt : Nat) (rest : List Value) (hd : decode bytes pc = .ok (.invokestatic idx, 3)) (wl : (Cond.methodLink own idx y).before a0 Z = true) (ws : (Cond.static y).before a0 Z = true) (wz : (Cond.initialized y.cls).before a0 Z = true) (wc : (Cond.code y cb cm cr).before a0 Z = true)
    (hC : Con Z EL y cb cm cr rm as D Q') (hy : okCls y) (hps : parseMethodDescriptor y.desc = some ⟨ps, r⟩) (hlen : as.length = ps.length) (hst : as.reverse ++ rest = st) (hls : ls.size = ml) (hW : (rest.map fun v => v.category).sum = Wt) (hr : Rooms R rm Wt cm k n)
    (next : ∀ v D', Q' v D' → W Z EL R own nm bytes ml ret Q D' (k + rm.cells) (n + rm.slots) (pc + 3) ls (v.toList ++ rest)) : W Z EL R own nm bytes ml ret Q D k n pc ls st := by
  intro p l e s m args below meth c T vm0 k0 locs cells slots A
  obtain ⟨X, hS, hk0, hx, hby, hml, hown, hZ, r1, r2, r3, hN, hH, hc, hl, hE, hNI⟩ := id A
  subst hst
  exact W.afterCall A (callSS X hx hown (mvT hZ wl) (mvT hZ ws) (mvT hZ wz) (mvT hZ wc) hy (conBack (Wt := Wt) (len := 3) hC hZ wc wz hE hr.1 hr.2.1) (g := mkF m pc ls (as.reverse ++ rest)) rfl (by rw [hml]; exact hls) (lenOf hps hlen) rfl (by show 2 * 0 + _ ≤ _; omega) (hb hby hd) (fun _ _ => ⟨rfl, hH, by show cells + _ ≤ _; have := hr.2.2.1; omega, by show slots + _ ≤ _; have := hr.2.2.2; omega⟩)) next
theorem W.callSN {ps : List FieldType} {r : Option FieldType} {host : String} (Wt : Nat) (rest : List Value) (hd : decode bytes pc = .ok (.invokestatic idx, 3)) (wl : (Cond.methodLinkNest own idx y host).before a0 Z = true) (ws : (Cond.static y).before a0 Z = true) (wz : (Cond.initialized y.cls).before a0 Z = true) (wc : (Cond.code y cb cm cr).before a0 Z = true)
    (hC : Con Z EL y cb cm cr rm as D Q') (hy : okCls y) (hps : parseMethodDescriptor y.desc = some ⟨ps, r⟩) (hlen : as.length = ps.length) (hst : as.reverse ++ rest = st) (hls : ls.size = ml) (hW : (rest.map fun v => v.category).sum = Wt) (hr : Rooms R rm Wt cm k n)
    (next : ∀ v D', Q' v D' → W Z EL R own nm bytes ml ret Q D' (k + rm.cells) (n + rm.slots) (pc + 3) ls (v.toList ++ rest)) : W Z EL R own nm bytes ml ret Q D k n pc ls st := by
  intro p l e s m args below meth c T vm0 k0 locs cells slots A
  obtain ⟨X, hS, hk0, hx, hby, hml, hown, hZ, r1, r2, r3, hN, hH, hc, hl, hE, hNI⟩ := id A
  subst hst
  exact W.afterCall A (callSNS X hx hown (Cond.methodLinkNest_wide hZ wl) (mvT hZ ws) (mvT hZ wz) (mvT hZ wc) hy (conBack (Wt := Wt) (len := 3) hC hZ wc wz hE hr.1 hr.2.1) (g := mkF m pc ls (as.reverse ++ rest)) rfl (by rw [hml]; exact hls) (lenOf hps hlen) rfl (by show 2 * 0 + _ ≤ _; omega) (hb hby hd) (fun _ _ => ⟨rfl, hH, by show cells + _ ≤ _; have := hr.2.2.1; omega, by show slots + _ ≤ _; have := hr.2.2.2; omega⟩)) next
theorem W.callI {ps : List FieldType} {r : Option FieldType} {a : Addr} (Wt : Nat) (rest : List Value) (hd : decode bytes pc = .ok (.invokespecial idx, 3)) (hy1 : y.name = "<init>") (wl : (Cond.methodLink own idx y).before a0 Z = true) (wi : (Cond.instanceMethod y).before a0 Z = true) (wz : (Cond.initialized y.cls).before a0 Z = true) (wc : (Cond.code y cb cm none).before a0 Z = true)
    (hC : Con Z EL y cb cm none rm (.ref a :: as) D Q') (hy : okCls y) (hps : parseMethodDescriptor y.desc = some ⟨ps, r⟩) (hlen : as.length = ps.length) (hst : as.reverse ++ .ref a :: rest = st) (hls : ls.size = ml) (hW : (rest.map fun v => v.category).sum = Wt) (hr : Rooms R rm Wt cm k n)
    (next : ∀ v D', Q' v D' → W Z EL R own nm bytes ml ret Q D' (k + rm.cells) (n + rm.slots) (pc + 3) ls (v.toList ++ rest)) : W Z EL R own nm bytes ml ret Q D k n pc ls st := by
  intro p l e s m args below meth c T vm0 k0 locs cells slots A
  obtain ⟨X, hS, hk0, hx, hby, hml, hown, hZ, r1, r2, r3, hN, hH, hc, hl, hE, hNI⟩ := id A
  subst hst
  exact W.afterCall A (X.specialBackS hx hy1 hown (mvT hZ wl) (mvT hZ wi) (mvT hZ wc) hy (conBack (Wt := Wt) (len := 3) hC hZ wc wz hE hr.1 hr.2.1) (g := mkF m pc ls (as.reverse ++ .ref a :: rest)) rfl (by rw [hml]; exact hls) (Steps.refl _) (lenOf hps hlen) rfl (by show 2 * 0 + _ ≤ _; omega) (hb hby hd) (fun _ _ => ⟨rfl, hH, by show cells + _ ≤ _; have := hr.2.2.1; omega, by show slots + _ ≤ _; have := hr.2.2.2; omega⟩)) next
theorem W.callV {z : MethodName} {ps : List FieldType} {r : Option FieldType} {a : Addr} {C C' : String} (Wt : Nat) (rest : List Value) (hd : decode bytes pc = .ok (.invokevirtual idx, 3)) (wl : (Cond.methodLink own idx y).before a0 Z = true) (wdl : (Cond.declares y).before a0 Z = true) (wsy : (Cond.selects C' y y).before a0 Z = true) (wse : (Cond.selects C y z).before a0 Z = true) (wi : (Cond.instanceMethod z).before a0 Z = true) (wz : (Cond.initialized z.cls).before a0 Z = true) (wc : (Cond.code z cb cm cr).before a0 Z = true)
    (hI : ∀ vm h, Hp Z EL D vm h → Exa Z h a C) (hC : Con Z EL z cb cm cr rm (.ref a :: as) D Q') (hy : okCls y) (hps : parseMethodDescriptor y.desc = some ⟨ps, r⟩) (hlen : as.length = ps.length) (hst : as.reverse ++ .ref a :: rest = st) (hls : ls.size = ml) (hW : (rest.map fun v => v.category).sum = Wt) (hr : Rooms R rm Wt cm k n)
    (next : ∀ v D', Q' v D' → W Z EL R own nm bytes ml ret Q D' (k + rm.cells) (n + rm.slots) (pc + 3) ls (v.toList ++ rest)) : W Z EL R own nm bytes ml ret Q D k n pc ls st := by
  intro p l e s m args below meth c T vm0 k0 locs cells slots A
  obtain ⟨X, hS, hk0, hx, hby, hml, hown, hZ, r1, r2, r3, hN, hH, hc, hl, hE, hNI⟩ := id A
  subst hst
  obtain ⟨cq, kq, qa, qb, qc⟩ := isOf (s := s.setVm vm0) hZ rfl (hI _ _ hH)
  exact W.afterCall A (X.virtualBackS hx hown (mvT hZ wl) (mvT hZ wdl) (notFace_of_selects (args := #[]) (mvT hZ wsy)) (mvT hZ wse) (mvT hZ wi) hy (conBack (Wt := Wt) (len := 3) hC hZ wc wz hE hr.1 hr.2.1) qa qc (g := mkF m pc ls (as.reverse ++ .ref a :: rest)) rfl (by rw [hml]; exact hls) (Steps.refl _) (lenOf hps hlen) rfl (by show 2 * 0 + _ ≤ _; omega) (hb hby hd) (fun _ _ => ⟨rfl, hH, by show cells + _ ≤ _; have := hr.2.2.1; omega, by show slots + _ ≤ _; have := hr.2.2.2; omega⟩)) next
end Calls
end Jvm.Wk
namespace Jvm.Wk
open Jvm Jvm.ClassFile Sem Op Lib Bundle Jvm.Free Jvm.Stand Jvm.LawKit Jvm.RoadKit
abbrev vi (x : Int32) : Value := .int x
abbrev vr (a : Addr) : Value := .ref a
abbrev uu : Slot := .unset
abbrev ar (ad : String) (ty : FieldType) (vs : List Value) : Desc := .inr (ad, ty, vs)
theorem m0 {α : Type} {x : α} {l : List α} : x ∈ x :: l := List.mem_cons_self ..
theorem mS {α : Type} {x y : α} {l : List α} (h : x ∈ l) : x ∈ y :: l := List.mem_cons_of_mem _ h
theorem m1 {α : Type} {x y1 : α} {l : List α} : x ∈ y1 :: x :: l := mS m0
theorem m2 {α : Type} {x y1 y2 : α} {l : List α} : x ∈ y1 :: y2 :: x :: l := mS m1
theorem m3 {α : Type} {x y1 y2 y3 : α} {l : List α} : x ∈ y1 :: y2 :: y3 :: x :: l := mS m2
theorem m4 {α : Type} {x y1 y2 y3 y4 : α} {l : List α} : x ∈ y1 :: y2 :: y3 :: y4 :: x :: l := mS m3
theorem m5 {α : Type} {x y1 y2 y3 y4 y5 : α} {l : List α} : x ∈ y1 :: y2 :: y3 :: y4 :: y5 :: x :: l := mS m4
theorem m6 {α : Type} {x y1 y2 y3 y4 y5 y6 : α} {l : List α} : x ∈ y1 :: y2 :: y3 :: y4 :: y5 :: y6 :: x :: l := mS m5
theorem m7 {α : Type} {x y1 y2 y3 y4 y5 y6 y7 : α} {l : List α} : x ∈ y1 :: y2 :: y3 :: y4 :: y5 :: y6 :: y7 :: x :: l := mS m6
theorem m8 {α : Type} {x y1 y2 y3 y4 y5 y6 y7 y8 : α} {l : List α} : x ∈ y1 :: y2 :: y3 :: y4 :: y5 :: y6 :: y7 :: y8 :: x :: l := mS m7
theorem m9 {α : Type} {x y1 y2 y3 y4 y5 y6 y7 y8 y9 : α} {l : List α} : x ∈ y1 :: y2 :: y3 :: y4 :: y5 :: y6 :: y7 :: y8 :: y9 :: x :: l := mS m8
theorem m10 {α : Type} {x y1 y2 y3 y4 y5 y6 y7 y8 y9 y10 : α} {l : List α} : x ∈ y1 :: y2 :: y3 :: y4 :: y5 :: y6 :: y7 :: y8 :: y9 :: y10 :: x :: l := mS m9
theorem m11 {α : Type} {x y1 y2 y3 y4 y5 y6 y7 y8 y9 y10 y11 : α} {l : List α} : x ∈ y1 :: y2 :: y3 :: y4 :: y5 :: y6 :: y7 :: y8 :: y9 :: y10 :: y11 :: x :: l := mS m10
theorem m12 {α : Type} {x y1 y2 y3 y4 y5 y6 y7 y8 y9 y10 y11 y12 : α} {l : List α} : x ∈ y1 :: y2 :: y3 :: y4 :: y5 :: y6 :: y7 :: y8 :: y9 :: y10 :: y11 :: y12 :: x :: l := mS m11
theorem m13 {α : Type} {x y1 y2 y3 y4 y5 y6 y7 y8 y9 y10 y11 y12 y13 : α} {l : List α} : x ∈ y1 :: y2 :: y3 :: y4 :: y5 :: y6 :: y7 :: y8 :: y9 :: y10 :: y11 :: y12 :: y13 :: x :: l := mS m12
theorem m14 {α : Type} {x y1 y2 y3 y4 y5 y6 y7 y8 y9 y10 y11 y12 y13 y14 : α} {l : List α} : x ∈ y1 :: y2 :: y3 :: y4 :: y5 :: y6 :: y7 :: y8 :: y9 :: y10 :: y11 :: y12 :: y13 :: y14 :: x :: l := mS m13
theorem m15 {α : Type} {x y1 y2 y3 y4 y5 y6 y7 y8 y9 y10 y11 y12 y13 y14 y15 : α} {l : List α} : x ∈ y1 :: y2 :: y3 :: y4 :: y5 :: y6 :: y7 :: y8 :: y9 :: y10 :: y11 :: y12 :: y13 :: y14 :: y15 :: x :: l := mS m14
theorem m16 {α : Type} {x y1 y2 y3 y4 y5 y6 y7 y8 y9 y10 y11 y12 y13 y14 y15 y16 : α} {l : List α} : x ∈ y1 :: y2 :: y3 :: y4 :: y5 :: y6 :: y7 :: y8 :: y9 :: y10 :: y11 :: y12 :: y13 :: y14 :: y15 :: y16 :: x :: l := mS m15
theorem i_lt {x y : Int32} (h : x < y) : x.toInt < y.toInt := Int32.lt_iff_toInt_lt.mp h
theorem i_nlt {x y : Int32} (h : ¬ x < y) : y.toInt ≤ x.toInt := by rw [Int32.lt_iff_toInt_lt] at h; omega
theorem i_eq {x y : Int32} (h : x = y) : x.toInt = y.toInt := by rw [h]
theorem i_ne {x y : Int32} (h : ¬ x = y) : x.toInt ≠ y.toInt := fun e => h (Int32.toInt_inj.mp e)
theorem eqI {x y : Int32} (h : x.toInt = y.toInt) : x = y := Int32.toInt_inj.mp h
section C
variable {x y : Int32}
theorem y_eq (h : x.toInt = y.toInt) : Cd .eq x y := eqI h
theorem n_eq (h : x.toInt ≠ y.toInt) : ¬ Cd .eq x y := fun e => h (i_eq e)
theorem y_ne (h : x.toInt ≠ y.toInt) : Cd .ne x y := fun e => h (i_eq e)
theorem n_ne (h : x.toInt = y.toInt) : ¬ Cd .ne x y := fun e => e (eqI h)
theorem y_lt (h : x.toInt < y.toInt) : Cd .lt x y := Int32.lt_iff_toInt_lt.mpr h
theorem n_lt (h : y.toInt ≤ x.toInt) : ¬ Cd .lt x y := fun e => by have := i_lt e; omega
theorem y_ge (h : y.toInt ≤ x.toInt) : Cd .ge x y := fun e => by have := i_lt e; omega
theorem n_ge (h : x.toInt < y.toInt) : ¬ Cd .ge x y := fun e => e (Int32.lt_iff_toInt_lt.mpr h)
theorem y_gt (h : y.toInt < x.toInt) : Cd .gt x y := Int32.lt_iff_toInt_lt.mpr h
theorem n_gt (h : x.toInt ≤ y.toInt) : ¬ Cd .gt x y := fun e => by have := i_lt e; omega
theorem y_le (h : x.toInt ≤ y.toInt) : Cd .le x y := fun e => by have := i_lt e; omega
theorem t_eq (h : Cd .eq x y) : x.toInt = y.toInt := i_eq h
theorem f_eq (h : ¬ Cd .eq x y) : x.toInt ≠ y.toInt := i_ne h
theorem t_ne (h : Cd .ne x y) : x.toInt ≠ y.toInt := i_ne h
theorem f_ne (h : ¬ Cd .ne x y) : x.toInt = y.toInt := i_eq (Classical.not_not.mp h)
theorem t_lt (h : Cd .lt x y) : x.toInt < y.toInt := i_lt h
theorem f_lt (h : ¬ Cd .lt x y) : y.toInt ≤ x.toInt := i_nlt h
theorem t_ge (h : Cd .ge x y) : y.toInt ≤ x.toInt := i_nlt h
theorem f_ge (h : ¬ Cd .ge x y) : x.toInt < y.toInt := i_lt (Classical.not_not.mp h)
theorem t_gt (h : Cd .gt x y) : y.toInt < x.toInt := i_lt h
theorem f_gt (h : ¬ Cd .gt x y) : x.toInt ≤ y.toInt := i_nlt h
theorem t_le (h : Cd .le x y) : x.toInt ≤ y.toInt := i_nlt h
theorem f_le (h : ¬ Cd .le x y) : y.toInt < x.toInt := i_lt (Classical.not_not.mp h)
end C
theorem a_add (x y : Int32) : ((x + y).toInt - (x.toInt + y.toInt)) % 4294967296 = 0 ∧ -2147483648 ≤ (x + y).toInt ∧ (x + y).toInt < 2147483648 := ⟨c_iadd x y, rng32 _⟩
theorem a_sub (x y : Int32) : ((x - y).toInt - (x.toInt - y.toInt)) % 4294967296 = 0 ∧ -2147483648 ≤ (x - y).toInt ∧ (x - y).toInt < 2147483648 := ⟨c_isub x y, rng32 _⟩
theorem a_and (x m : Int32) (k : Nat) (M : Int) (hk : k ≤ 31) (hm : m.toBitVec.toNat = 2 ^ k - 1) (hM : ((2 ^ k : Nat) : Int) = M) : (x &&& m).toInt = x.toInt % M := by rw [← hM]; exact c_mask x m k hk hm
theorem a_ushr (x q : Int32) (k : Nat) (M : Int) (hk : q.toBitVec.toNat % 32 = k) (h0 : 0 < k) (hM : ((2 ^ k : Nat) : Int) = M) : (XT.ushr x q).toInt = (x.toInt % 4294967296) / M := by rw [← hM]; exact c_iushr x q k hk h0
theorem a_rem (x y : Int32) (d : Int) (hy : y.toInt = d) (hd : 0 < d) : (0 ≤ x.toInt → (x % y).toInt = x.toInt % d) ∧ (x.toInt < 0 → (x % y).toInt = -((-x.toInt) % d)) := c_irem x y d hy
theorem a_i2c (x : Int32) : (x.toUInt32.toUInt16.toUInt32.toInt32.toInt - x.toInt) % 65536 = 0 ∧ 0 ≤ x.toUInt32.toUInt16.toUInt32.toInt32.toInt ∧ x.toUInt32.toUInt16.toUInt32.toInt32.toInt < 65536 := c_i2c x
theorem a_i2b (x : Int32) : (x.toInt8.toInt32.toInt - x.toInt) % 256 = 0 ∧ -128 ≤ x.toInt8.toInt32.toInt ∧ x.toInt8.toInt32.toInt < 128 := c_i2b x
theorem z_i2c {x : Int32} (h : 0 ≤ x.toInt ∧ x.toInt ≤ 65535) : x.toUInt32.toUInt16.toUInt32.toInt32 = x := eqI (by have := a_i2c x; omega)
theorem z_i2b {x : Int32} (h : -128 ≤ x.toInt ∧ x.toInt ≤ 127) : x.toInt8.toInt32 = x := eqI (by have := a_i2b x; omega)
theorem z_and {x m : Int32} (k : Nat) (M : Int) (hk : k ≤ 31) (hm : m.toBitVec.toNat = 2 ^ k - 1) (hM : ((2 ^ k : Nat) : Int) = M) (h : 0 ≤ x.toInt ∧ x.toInt < M) : x &&& m = x := eqI (by have := a_and x m k M hk hm hM; rw [this]; exact Int.emod_eq_of_lt h.1 h.2)
theorem z_narC {x : Int32} (h : 0 ≤ x.toInt ∧ x.toInt ≤ 65535) : nar .char x = x := z_i2c h
theorem z_narB {x : Int32} (h : -128 ≤ x.toInt ∧ x.toInt ≤ 127) : nar .byte x = x := z_i2b h
theorem nw_char {x : Int32} (h : 0 ≤ x.toInt ∧ x.toInt ≤ 65535) : narrow .char (.int x) = .int x := by have e := z_i2c h; have := XT.narrow_c x; rw [e] at this; exact this
theorem nw_byte {x : Int32} (h : -128 ≤ x.toInt ∧ x.toInt ≤ 127) : narrow .byte (.int x) = .int x := by have e := z_i2b h; have := XT.narrow_b x; rw [e] at this; exact this
theorem nw_bool {x : Int32} (h : 0 ≤ x.toInt ∧ x.toInt ≤ 1) : narrow .boolean (.int x) = .int x := by
  have : x = 0 ∨ x = 1 := by
    rcases (by omega : x.toInt = 0 ∨ x.toInt = 1) with q | q
    · exact Or.inl (eqI q)
    · exact Or.inr (eqI q)
  rcases this with rfl | rfl <;> rfl
theorem ft_byte {x : Int32} (h : -128 ≤ x.toInt ∧ x.toInt ≤ 127) : fits .byte (.int x) = true := by have := fits_nar_byte x; rw [z_i2b h] at this; exact this
end Jvm.Wk
namespace Jvm.Wk
open Jvm Jvm.ClassFile Sem Op Lib Bundle Jvm.Free Jvm.Stand Jvm.LawKit Jvm.RoadKit
section Walk
variable {Z : State} {EL : Bool × List (String × Nat)} {R : Room} {own nm : String} {bytes : ByteArray} {ml : Nat} {ret : Option FieldType} {Q : Option Value → List Ent → Prop} {D D' : List Ent} {k n pc : Nat} {ls ls' : Array Slot} {st : List Value} {a0 : Array Value}
theorem W.dropAt (i : Nat) (hD : D.eraseIdx i = D') (next : W Z EL R own nm bytes ml ret Q D' k n pc ls st) : W Z EL R own nm bytes ml ret Q D k n pc ls st := W.heap (fun _ _ H => hD ▸ H.sub (List.eraseIdx_sublist ..)) next
theorem Hp.ne {i j : Nat} {x y : Ent} {vm : Vm} {h : Heap} (H : Hp Z EL D vm h) (hij : i ≠ j) (hi : D[i]? = some x) (hj : D[j]? = some y) (w : x.2.1 = true ∨ y.2.1 = true) : x.1 ≠ y.1 := by
  have P := H.2.2.2
  obtain ⟨i1, rfl⟩ := List.getElem?_eq_some_iff.mp hi
  obtain ⟨j1, rfl⟩ := List.getElem?_eq_some_iff.mp hj
  rw [List.pairwise_iff_getElem] at P
  rcases Nat.lt_or_gt_of_ne hij with q | q
  · exact P i j i1 j1 q w
  · exact (P j i j1 i1 q w.symm).symm
theorem W.isubK {x y : Int32} (z : Int32) (hd : decode bytes pc = .ok (.isub, 1)) (hz : x - y = z) (next : W Z EL R own nm bytes ml ret Q D k n (pc + 1) ls (.int z :: st)) : W Z EL R own nm bytes ml ret Q D k n pc ls (.int y :: .int x :: st) := W.isub hd (hz ▸ next)
theorem W.iandK {x y : Int32} (z : Int32) (hd : decode bytes pc = .ok (.iand, 1)) (hz : x &&& y = z) (next : W Z EL R own nm bytes ml ret Q D k n (pc + 1) ls (.int z :: st)) : W Z EL R own nm bytes ml ret Q D k n pc ls (.int y :: .int x :: st) := W.iand hd (hz ▸ next)
theorem W.ishrK {x y : Int32} (z : Int32) (hd : decode bytes pc = .ok (.ishr, 1)) (hz : x >>> (y &&& 31) = z) (next : W Z EL R own nm bytes ml ret Q D k n (pc + 1) ls (.int z :: st)) : W Z EL R own nm bytes ml ret Q D k n pc ls (.int y :: .int x :: st) := W.ishr hd (hz ▸ next)
theorem W.iushrK {x y : Int32} (z : Int32) (hd : decode bytes pc = .ok (.iushr, 1)) (hz : XT.ushr x y = z) (next : W Z EL R own nm bytes ml ret Q D k n (pc + 1) ls (.int z :: st)) : W Z EL R own nm bytes ml ret Q D k n pc ls (.int y :: .int x :: st) := W.iushr hd (hz ▸ next)
theorem W.i2bK {x : Int32} (z : Int32) (hd : decode bytes pc = .ok (.i2b, 1)) (hz : x.toInt8.toInt32 = z) (next : W Z EL R own nm bytes ml ret Q D k n (pc + 1) ls (.int z :: st)) : W Z EL R own nm bytes ml ret Q D k n pc ls (.int x :: st) := W.i2b hd (hz ▸ next)
theorem W.i2cK {x : Int32} (z : Int32) (hd : decode bytes pc = .ok (.i2c, 1)) (hz : x.toUInt32.toUInt16.toUInt32.toInt32 = z) (next : W Z EL R own nm bytes ml ret Q D k n (pc + 1) ls (.int z :: st)) : W Z EL R own nm bytes ml ret Q D k n pc ls (.int x :: st) := W.i2c hd (hz ▸ next)
theorem W.iincK {i : Nat} {cst : Int} {x : Int32} (v r : Int32) (hd : decode bytes pc = .ok (.iinc i cst, 3)) (hv : Int32.ofInt cst = v) (hl : ls[i]? = some (.val (.int x))) (hr : x + v = r) (hl' : storeLocals ls i (.int r) = some ls') (next : W Z EL R own nm bytes ml ret Q D k n (pc + 3) ls' st) : W Z EL R own nm bytes ml ret Q D k n pc ls st :=
  W.iinc v hd hv hl (hr ▸ hl') next
end Walk
section L
variable {x y : Int64}
end L
def si (Z : State) (C n d : String) : Int32 := match (Term.static C n d).eval #[] Z none [] Z with | some (.int x) => x | _ => 0
def sv (Z : State) (C n d : String) : Value := match (Term.static C n d).eval #[] Z none [] Z with | some v => v | none => .null
theorem eval_static {Z : State} {a b : Array Value} {C n d : String} : (Term.static C n d).eval a Z none [] Z = (Term.static C n d).eval b Z none [] Z := rfl
theorem si_of {Z : State} {C n d : String} {x : Int32} {a : Array Value} (h : (Term.static C n d).eval a Z none [] Z = some (.int x)) : si Z C n d = x := by
  unfold si; rw [eval_static (b := a), h]
theorem sv_of {Z : State} {C n d : String} {x : Value} {a : Array Value} (h : (Term.static C n d).eval a Z none [] Z = some x) : sv Z C n d = x := by
  unfold sv; rw [eval_static (b := a), h]
end Jvm.Wk
namespace Jvm.Wk
open Jvm Jvm.ClassFile Sem Op Lib Bundle Jvm.Free Jvm.Stand Jvm.LawKit Jvm.RoadKit
section Natives
variable {Z : State} {EL : Bool × List (String × Nat)} {R : Room} {own nm : String} {bytes : ByteArray} {ml : Nat} {ret : Option FieldType} {Q : Option Value → List Ent → Prop} {D D' : List Ent} {k n pc : Nat} {ls ls' : Array Slot} {st : List Value} {a0 : Array Value} {idx : Nat}
end Natives
end Jvm.Wk
namespace Jvm.Wk
open Jvm Jvm.ClassFile Sem Op Lib Bundle Jvm.Free Jvm.Stand Jvm.LawKit Jvm.RoadKit
section Start
variable {s : State} {args : Array Value} {C n d C' n' d' K : String}
theorem sf_int (hi : (Cond.initializedFor C n d).before args s = true) (h : (Cond.isInt (.static C n d)).before args s = true) : Sta s s.heap C n d (.int (si s C n d)) := by
  obtain ⟨x, e⟩ := is_v (Cond.before_iff.mp h)
  rw [si_of e]; exact Sta.start e (Or.inl hi)
theorem sf_nz (h : (Cond.isInt (.static C n d)).before args s = true) (hz : (Cond.not (.eq (.static C n d) (.int 0))).before args s = true) : (si s C n d).toInt ≠ 0 := by
  obtain ⟨x, e⟩ := is_v (Cond.before_iff.mp h)
  rw [si_of e]
  intro q
  have : x = 0 := eqI q
  subst this
  have h2 := not_v (Cond.before_iff.mp hz)
  rw [eq_i e (Term.int_eval 0) rfl] at h2
  cases h2
theorem sf_isref (h : (Cond.isRef (.static C n d)).before args s = true) : (sv s C n d).isRef = true := by
  obtain ⟨x, e, r⟩ := isR_v (Cond.before_iff.mp h)
  rw [sv_of e]; exact r
theorem sf_ref (hi : (Cond.initializedFor C n d).before args s = true) (h : (Cond.isRef (.static C n d)).before args s = true) : Sta s s.heap C n d (sv s C n d) := by
  obtain ⟨x, e, r⟩ := isR_v (Cond.before_iff.mp h)
  rw [sv_of e]; exact Sta.start e (Or.inl hi)
end Start
theorem CHv.nil {Z : State} {vm : Vm} {h : Heap} : CHv Z [] vm h := fun p hp => by cases hp
theorem Hp.start {Z : State} {EL : Bool × List (String × Nat)} (H : CHv Z EL.2 Z.vm Z.heap) : Hp Z EL [] Z.vm Z.heap := ⟨⟨Nat.le_refl _, fun _ _ q => q⟩, H, fun x hx => (by cases hx), List.Pairwise.nil⟩
end Jvm.Wk
namespace Jvm.Wk
open Jvm Jvm.ClassFile Sem Op Lib Bundle Jvm.Free Jvm.Stand Jvm.LawKit Jvm.RoadKit
theorem Con.mono {Z : State} {EL : Bool × List (String × Nat)} {y : MethodName} {bytes : ByteArray} {maxL : Nat} {ret : Option FieldType} {rm : Room} {as : List Value} {D : List Ent} {Q Q' : Option Value → List Ent → Prop} (h : Con Z EL y bytes maxL ret rm as D Q) (q : ∀ v D', Q v D' → Q' v D') : Con Z EL y bytes maxL ret rm as D Q' := by
  intro hE l ws
  refine MetFree.mono (h hE l ws) (fun _ _ p => p) (fun _ _ _ _ _ p => p) ?_
  intro a s o t _ r
  obtain ⟨v, L, h1, h2, ⟨D', h3, h4⟩, h5⟩ := r
  exact ⟨v, L, h1, h2, ⟨D', h3, q v D' h4⟩, h5⟩
end Jvm.Wk
namespace Jvm.Wk
open Jvm Jvm.ClassFile Sem Op Lib Bundle Jvm.Free Jvm.Stand Jvm.LawKit Jvm.RoadKit
theorem eq_int_val {s : State} {args : Array Value} {t : Term} {c : Int32} (h : (Cond.eq t (.int c)).value args s none s [] = some true) : t.eval args s none [] s = some (.int c) := by
  obtain ⟨x, y, e1, e2, -, -⟩ := cmp_v (Or.inl h)
  have c1 : y = .int c := Option.some.inj (e2.symm.trans (Term.int_eval c))
  subst c1
  cases x <;> simp [Cond.value, e1, e2] at h
  rw [e1, h]
end Jvm.Wk
namespace Jvm.Wk
open Jvm Jvm.ClassFile Sem Op Lib Bundle Jvm.Free Jvm.Stand Jvm.LawKit Jvm.RoadKit
def ta (Z : State) (t : Term) : Addr := match t.eval #[] Z none [] Z with | some (.ref a) => a | _ => 0
section Old
variable {s : State} {args : Array Value} {t : Term} {O f d K : String} {EL : Bool × List (String × Nat)} {D : List Ent} {a : Addr} {de : Desc}
theorem ta_of (e : t.eval #[] s none [] s = t.eval args s none [] s) (h : t.eval args s none [] s = some (.ref a)) : ta s t = a := by
  unfold ta; rw [e, h]
theorem t_exa (e : t.eval #[] s none [] s = t.eval args s none [] s) (h : (Cond.exactly t K).value args s none s [] = some true) : Exa s s.heap (ta s t) K := by
  obtain ⟨x, hx⟩ := exa_v h
  rw [ta_of e hx]; exact Exa.start hx h
theorem t_sta {C n dd : String} (hi : (Cond.initializedFor C n dd).before args s = true ∨ ((Cond.initialized C).before args s = true ∧ (Cond.laysStatic C n dd).before args s = true)) (h : ∃ x, (Term.static C n dd).eval args s none [] s = some (.ref x)) : Sta s s.heap C n dd (.ref (ta s (.static C n dd))) := by
  obtain ⟨x, hx⟩ := h
  rw [ta_of (args := args) (t := .static C n dd) rfl hx]; exact Sta.start hx hi
theorem t_fldI {c : Int32} (e : t.eval #[] s none [] s = t.eval args s none [] s) (h : (Cond.eq (.field t O f d) (.int c)).value args s none s [] = some true) : Fld s s.heap (ta s t) O f d (.int c) := by
  have h1 := eq_int_val h
  obtain ⟨x, hx⟩ := fld_v h1
  rw [ta_of e hx]
  exact Fld.start ((fld_at hx).symm.trans h1)
theorem t_fldR (e : t.eval #[] s none [] s = t.eval args s none [] s) (h : ∃ b, (Term.field t O f d).eval args s none [] s = some (.ref b)) : Fld s s.heap (ta s t) O f d (.ref (ta s (.field t O f d))) := by
  obtain ⟨b, h1⟩ := h
  obtain ⟨x, hx⟩ := fld_v h1
  have e2 : (Term.field t O f d).eval #[] s none [] s = (Term.field t O f d).eval args s none [] s := by
    rw [fld_at hx]; rw [hx] at e; rw [fld_at e]
  rw [ta_of e hx, ta_of e2 h1]
  exact Fld.start ((fld_at hx).symm.trans h1)
def Elems (s : State) (args : Array Value) (t : Term) : Nat → List Value → Prop
  | _, [] => True
  | i, v :: r => (Term.elem t (.int (Nat.toInt32 i))).eval args s none [] s = some v ∧ Elems s args t (i + 1) r
theorem Elems.get : ∀ {vs : List Value} {i : Nat}, Elems s args t i vs → ∀ {j : Nat} {v : Value}, vs[j]? = some v → (Term.elem t (.int (Nat.toInt32 (i + j)))).eval args s none [] s = some v
  | [], _, _, _, _, q => by simp at q
  | w :: r, i, H, 0, v, q => by simp at q; subst q; exact H.1
  | w :: r, i, H, j + 1, v, q => by
    have := Elems.get H.2 (j := j) (v := v) (by simpa using q)
    rw [show i + (j + 1) = i + 1 + j by omega]; exact this
theorem t_arr {ty : FieldType} {n : Int32} {vs : List Value} (e : t.eval #[] s none [] s = t.eval args s none [] s) (h : (Cond.arrayOf t ty).value args s none s [] = some true) (hl : (Cond.eq (.length t) (.int n)).value args s none s [] = some true) (hn : Idx n vs.length) (he : Elems s args t 0 vs) (hf : ∀ v ∈ vs, fits ty v = true) : Sat s s.heap (ta s t) (.inr ("", ty, vs)) := by
  obtain ⟨x, hx⟩ := arr_v h
  rw [ta_of e hx]
  obtain ⟨c, A⟩ := Arr.start hx h
  have hlen := eq_int_val hl
  have hat : s.arrayAt? x = some c := A.fin (Vm.Alike.refl _)
  have h31 := SBG.length_lt hx hat hlen
  have hsz : c.slots.size = vs.length := by
    rw [len_f hx hat h31] at hlen
    have q : c.slots.size.toInt32 = n := by injection hlen with q; injection q
    have q1 : (c.slots.size.toInt32).toInt = c.slots.size := len_toInt h31
    have := hn.toInt
    rw [← q, q1] at this; omega
  have hv31 : vs.length < 2147483648 := by omega
  refine ⟨c, A, ?_, hv31, hf, fun q => absurd rfl q⟩
  apply Array.ext_getElem?
  intro i
  by_cases hi : i < vs.length
  · have g := Elems.get he (j := i) (v := vs[i]) (by simp [hi])
    rw [Nat.zero_add] at g
    have r := (elem_in g hx (Term.int_eval _) A.1).2
    rw [(Idx.of_nat (by omega : i < 2147483648)).2] at r
    rw [r]; simp [hi]
  · rw [Array.getElem?_eq_none (by omega), Array.getElem?_eq_none (by simpa using Nat.le_of_not_lt hi)]
theorem Hp.readOld (H : Hp s EL D s.vm s.heap) (S : Sat s s.heap a de) : Hp s EL ((a, false, de) :: D) s.vm s.heap := H.read S fun x _ q e => by
  exact Nat.lt_irrefl _ (Nat.lt_of_lt_of_le S.lt (e ▸ q))
theorem framed_of {s t : State} {o : Outcome} {L L' : List Loc} {k n k' n' : Nat} (q : ReturnedEndW s o t L k n) (N : Fr s.heap.size L) (hk : k ≤ k') (hn : n ≤ n') (hW : s.WarmedH t.vm) : (∃ v : Option Value, o = Outcome.returned v) ∧ s.WarmedH t.vm ∧ s.sameButNew { t with vm := s.vm } L' k' n' :=
  ⟨q.1, hW, (q.2.2.2.sift fun y hy => Or.inr (N y hy)).mono hk hn⟩
end Old
end Jvm.Wk
namespace Jvm.Wk
theorem allF {P : Fd → Prop} {f : Fd} {L : List Fd} (h : P f) (r : ∀ g ∈ L, P g) : ∀ g ∈ f :: L, P g := fun g q => (List.mem_cons.mp q).elim (fun e => e ▸ h) (r g)
end Jvm.Wk
namespace Jvm.Wk
open Jvm Jvm.ClassFile Sem Op Lib Bundle Jvm.Free Jvm.Stand Jvm.LawKit Jvm.RoadKit
theorem nsNo {Z : State} {a0 : Array Value} {C S K : String} {n : Nat} (w : (Cond.superclass C S).before a0 Z = true) (wr : (Cond.noSuperclass S).before a0 Z = true) (wk : (Cond.instantiable K n).before a0 Z = true) (h1 : S ≠ K) (h2 : C ≠ K) : ∃ c t, Z.vm.findClass C = some c ∧ Z.vm.findClass K = some t ∧ Z.vm.assignable c t = false := by
  obtain ⟨t, kt, i1, i2, i3, i4, -⟩ := Cond.instantiable_spec wk
  obtain ⟨r, kr, e1, e2, e3, -, -⟩ := Cond.noSuperclass_spec wr
  have nr := ids_ne e1 i1 h1
  have n0 : NS Z S K := ⟨r, t, e1, i1, fun fuel => by
    cases fuel with
    | zero => rfl
    | succ f => simp [Vm.isSubclassAux, nr, e2, e3]⟩
  obtain ⟨c, t', g1, g2, g3⟩ := NS.step w n0 h2
  cases g2.symm.trans i1
  obtain ⟨p, k, kp, j1, j2, j3, j4, j5, -, j7⟩ := Cond.superclass_spec g1 w
  have nc := ids_ne g1 i1 h2
  have i5 : kt.isInterface = false := by
    cases q : kt.isInterface with
    | false => rfl
    | true => simp [q] at i4
  refine ⟨c, t, g1, i1, ?_⟩
  show Z.vm.assignableAux (255 + 1) c t = false
  simp [Vm.assignableAux, nc, j2, i2, j5, i3, i5, Vm.isSubclass, g3]
end Jvm.Wk
namespace Jvm.Wk
open Jvm Jvm.ClassFile Sem Op Lib Bundle Jvm.Free Jvm.Stand Jvm.LawKit Jvm.RoadKit
end Jvm.Wk
namespace Jvm.Wk
open Jvm Jvm.ClassFile Sem Op Lib Bundle Jvm.Free Jvm.Stand Jvm.LawKit Jvm.RoadKit
end Jvm.Wk

namespace Jvm.Pilot.@@N@@
open Jvm Jvm.ClassFile Sem Op Lib Jvm.Free Jvm.Stand Jvm.LawKit Jvm.RoadKit Bundle Jvm.Wk Jvm.Pilot.@@N@@.Jvm.D
abbrev EL : Bool × List (String × Nat) := (true, [])
def csv (Z : State) : Int32 := si Z "java/lang/String" "COMPACT_STRINGS" "Z"
def sfv (Z : State) : Value := sv Z "jdk/internal/util/Preconditions" "SIOOBE_FORMATTER" "Ljava/util/function/BiFunction;"
def og1 (Z : State) : Addr := ta Z (Jvm.Term.static "com/example/cunctator/cunctator/JobKey" "TOPIC_RULE" "Lcom/example/cunctator/cunctator/JobKey$NameRule;")
def og2 (Z : State) : Addr := ta Z (Jvm.Term.field (Jvm.Term.static "com/example/cunctator/cunctator/JobKey" "TOPIC_RULE" "Lcom/example/cunctator/cunctator/JobKey$NameRule;") "com/example/cunctator/cunctator/JobKey$NameRule" "symbols" "Ljava/lang/String;")
def og3 (Z : State) : Addr := ta Z (Jvm.Term.field (Jvm.Term.field (Jvm.Term.static "com/example/cunctator/cunctator/JobKey" "TOPIC_RULE" "Lcom/example/cunctator/cunctator/JobKey$NameRule;") "com/example/cunctator/cunctator/JobKey$NameRule" "symbols" "Ljava/lang/String;") "java/lang/String" "value" "[B")
def og4 (Z : State) : Addr := ta Z (Jvm.Term.static "com/example/cunctator/cunctator/JobKey" "ID_RULE" "Lcom/example/cunctator/cunctator/JobKey$NameRule;")
def og5 (Z : State) : Addr := ta Z (Jvm.Term.field (Jvm.Term.static "com/example/cunctator/cunctator/JobKey" "ID_RULE" "Lcom/example/cunctator/cunctator/JobKey$NameRule;") "com/example/cunctator/cunctator/JobKey$NameRule" "symbols" "Ljava/lang/String;")
def og6 (Z : State) : Addr := ta Z (Jvm.Term.field (Jvm.Term.field (Jvm.Term.static "com/example/cunctator/cunctator/JobKey" "ID_RULE" "Lcom/example/cunctator/cunctator/JobKey$NameRule;") "com/example/cunctator/cunctator/JobKey$NameRule" "symbols" "Ljava/lang/String;") "java/lang/String" "value" "[B")
def SF (Z : State) : Prop := Sta Z Z.heap "java/lang/String" "COMPACT_STRINGS" "Z" (.int (csv Z)) ∧ (csv Z).toInt ≠ 0 ∧ (sfv Z).isRef = true ∧ Sta Z Z.heap "jdk/internal/util/Preconditions" "SIOOBE_FORMATTER" "Ljava/util/function/BiFunction;" (sfv Z) ∧ Sta Z Z.heap "com/example/cunctator/cunctator/JobKey" "TOPIC_RULE" "Lcom/example/cunctator/cunctator/JobKey$NameRule;" (.ref (og1 Z)) ∧ Sta Z Z.heap "com/example/cunctator/cunctator/JobKey" "ID_RULE" "Lcom/example/cunctator/cunctator/JobKey$NameRule;" (.ref (og4 Z)) ∧ True
set_option maxRecDepth 65536
abbrev HW (a0 : Array Value) (Z : State) : Prop := ∀ d ∈ tables_1, d.before a0 Z = true
abbrev rmm (a b c d : Nat) : Room := { frames := a, cells := b, slots := c, locals := d }
abbrev oString (f0 f1 : Value) : Desc := .inl ("java/lang/String", [("java/lang/String", "value", "[B", f0), ("java/lang/String", "coder", "B", f1)])
abbrev oJobKey_NameRule (f0 f1 : Value) : Desc := .inl ("com/example/cunctator/cunctator/JobKey$NameRule", [("com/example/cunctator/cunctator/JobKey$NameRule", "maxLength", "I", f0), ("com/example/cunctator/cunctator/JobKey$NameRule", "symbols", "Ljava/lang/String;", f1)])
theorem w0 {Z a0} (hw : HW a0 Z) : ((Jvm.Cond.constant "com/example/cunctator/cunctator/JobKeyEqualsPinLaw" (13 : Nat) (65535 : Int32)) : Jvm.Cond).before a0 Z = true := hw _ (List.mem_of_getElem? (i := 0) rfl)
theorem d1_0 : decode method_2_code 0 = .ok (.iload_n 1, 1) := by decide +kernel
theorem d1_1 : decode method_2_code 1 = .ok (.ifCond .eq 8, 3) := by decide +kernel
theorem d1_9 : decode method_2_code 9 = .ok (.bipush 65, 2) := by decide +kernel
theorem d1_11 : decode method_2_code 11 = .ok (.istore_n 2, 1) := by decide +kernel
theorem d1_12 : decode method_2_code 12 = .ok (.iload_n 0, 1) := by decide +kernel
theorem d1_13 : decode method_2_code 13 = .ok (.ldc 7, 2) := by decide +kernel
theorem w5 {Z a0} (hw : HW a0 Z) : ((Jvm.Cond.constant "com/example/cunctator/cunctator/JobKeyEqualsPinLaw" (7 : Nat) (2147483647 : Int32)) : Jvm.Cond).before a0 Z = true := hw _ (List.mem_of_getElem? (i := 5) rfl)
theorem d1_15 : decode method_2_code 15 = .ok (.iand, 1) := by decide +kernel
theorem d1_16 : decode method_2_code 16 = .ok (.iload_n 2, 1) := by decide +kernel
theorem d1_17 : decode method_2_code 17 = .ok (.irem, 1) := by decide +kernel
theorem d1_18 : decode method_2_code 18 = .ok (.istore_n 3, 1) := by decide +kernel
theorem d1_19 : decode method_2_code 19 = .ok (.iload_n 3, 1) := by decide +kernel
theorem d1_20 : decode method_2_code 20 = .ok (.bipush 26, 2) := by decide +kernel
theorem d1_22 : decode method_2_code 22 = .ok (.if_icmp .ge 9, 3) := by decide +kernel
theorem d1_31 : decode method_2_code 31 = .ok (.iload_n 3, 1) := by decide +kernel
theorem d1_32 : decode method_2_code 32 = .ok (.bipush 52, 2) := by decide +kernel
theorem d1_34 : decode method_2_code 34 = .ok (.if_icmp .ge 12, 3) := by decide +kernel
theorem d1_46 : decode method_2_code 46 = .ok (.iload_n 3, 1) := by decide +kernel
theorem d1_47 : decode method_2_code 47 = .ok (.bipush 62, 2) := by decide +kernel
theorem d1_49 : decode method_2_code 49 = .ok (.if_icmp .ge 12, 3) := by decide +kernel
theorem d1_61 : decode method_2_code 61 = .ok (.iload_n 3, 1) := by decide +kernel
theorem d1_62 : decode method_2_code 62 = .ok (.bipush 62, 2) := by decide +kernel
theorem d1_64 : decode method_2_code 64 = .ok (.if_icmp .ne 6, 3) := by decide +kernel
theorem d1_70 : decode method_2_code 70 = .ok (.iload_n 3, 1) := by decide +kernel
theorem d1_71 : decode method_2_code 71 = .ok (.bipush 63, 2) := by decide +kernel
theorem d1_73 : decode method_2_code 73 = .ok (.if_icmp .ne 6, 3) := by decide +kernel
theorem d1_79 : decode method_2_code 79 = .ok (.iload_n 3, 1) := by decide +kernel
theorem d1_80 : decode method_2_code 80 = .ok (.bipush 64, 2) := by decide +kernel
theorem d1_82 : decode method_2_code 82 = .ok (.if_icmp .ne 6, 3) := by decide +kernel
theorem q65 : (65 : Int32).toInt = 65 := by decide
theorem arem_65 (x : Int32) : (0 ≤ x.toInt → (x % (65 : Int32)).toInt = x.toInt % 65) ∧ (x.toInt < 0 → (x % (65 : Int32)).toInt = -((-x.toInt) % 65)) := a_rem x 65 65 (by decide) (by decide)
theorem q64 : (64 : Int32).toInt = 64 := by decide
theorem q26 : (26 : Int32).toInt = 26 := by decide
theorem q52 : (52 : Int32).toInt = 52 := by decide
theorem q62 : (62 : Int32).toInt = 62 := by decide
theorem q63 : (63 : Int32).toInt = 63 := by decide
theorem d1_85 : decode method_2_code 85 = .ok (.bipush 45, 2) := by decide +kernel
theorem d1_87 : decode method_2_code 87 = .ok (.ireturn, 1) := by decide +kernel
theorem d1_76 : decode method_2_code 76 = .ok (.bipush 95, 2) := by decide +kernel
theorem d1_78 : decode method_2_code 78 = .ok (.ireturn, 1) := by decide +kernel
theorem d1_67 : decode method_2_code 67 = .ok (.bipush 46, 2) := by decide +kernel
theorem d1_69 : decode method_2_code 69 = .ok (.ireturn, 1) := by decide +kernel
theorem d1_52 : decode method_2_code 52 = .ok (.bipush 48, 2) := by decide +kernel
theorem d1_54 : decode method_2_code 54 = .ok (.iload_n 3, 1) := by decide +kernel
theorem d1_55 : decode method_2_code 55 = .ok (.bipush 52, 2) := by decide +kernel
theorem d1_57 : decode method_2_code 57 = .ok (.isub, 1) := by decide +kernel
theorem d1_58 : decode method_2_code 58 = .ok (.iadd, 1) := by decide +kernel
theorem d1_59 : decode method_2_code 59 = .ok (.i2c, 1) := by decide +kernel
theorem d1_60 : decode method_2_code 60 = .ok (.ireturn, 1) := by decide +kernel
theorem q48 : (48 : Int32).toInt = 48 := by decide
theorem d1_37 : decode method_2_code 37 = .ok (.bipush 97, 2) := by decide +kernel
theorem d1_39 : decode method_2_code 39 = .ok (.iload_n 3, 1) := by decide +kernel
theorem d1_40 : decode method_2_code 40 = .ok (.bipush 26, 2) := by decide +kernel
theorem d1_42 : decode method_2_code 42 = .ok (.isub, 1) := by decide +kernel
theorem d1_43 : decode method_2_code 43 = .ok (.iadd, 1) := by decide +kernel
theorem d1_44 : decode method_2_code 44 = .ok (.i2c, 1) := by decide +kernel
theorem q97 : (97 : Int32).toInt = 97 := by decide
theorem d1_45 : decode method_2_code 45 = .ok (.ireturn, 1) := by decide +kernel
theorem d1_25 : decode method_2_code 25 = .ok (.bipush 65, 2) := by decide +kernel
theorem d1_27 : decode method_2_code 27 = .ok (.iload_n 3, 1) := by decide +kernel
theorem d1_28 : decode method_2_code 28 = .ok (.iadd, 1) := by decide +kernel
theorem d1_29 : decode method_2_code 29 = .ok (.i2c, 1) := by decide +kernel
theorem d1_30 : decode method_2_code 30 = .ok (.ireturn, 1) := by decide +kernel
theorem c1_pick {Z a0} (hw : HW a0 Z) (hs : SF Z) {x1 : Int32} (hx1 : 0 ≤ x1.toInt ∧ x1.toInt ≤ 65535) {F : List Ent} : Con Z EL (⟨"com/example/cunctator/cunctator/JobKeyEqualsPinLaw", "pick", "(IZ)C"⟩ : MethodName) method_2_code 4 (Option.some Jvm.ClassFile.FieldType.char) (rmm 0 0 0 0) [(vi x1), (vi 0)] (F) (fun v D' => (Cd .ge (x1 % (65 : Int32)) (26 : Int32) ∧ Cd .ge (x1 % (65 : Int32)) (52 : Int32) ∧ Cd .ge (x1 % (65 : Int32)) (62 : Int32) ∧ Cd .ne (x1 % (65 : Int32)) (62 : Int32) ∧ Cd .ne (x1 % (65 : Int32)) (63 : Int32) ∧ v = some (vi 45) ∧ F = D') ∨ (Cd .ge (x1 % (65 : Int32)) (26 : Int32) ∧ Cd .ge (x1 % (65 : Int32)) (52 : Int32) ∧ Cd .ge (x1 % (65 : Int32)) (62 : Int32) ∧ Cd .ne (x1 % (65 : Int32)) (62 : Int32) ∧ ¬ Cd .ne (x1 % (65 : Int32)) (63 : Int32) ∧ v = some (vi 95) ∧ F = D') ∨ (Cd .ge (x1 % (65 : Int32)) (26 : Int32) ∧ Cd .ge (x1 % (65 : Int32)) (52 : Int32) ∧ Cd .ge (x1 % (65 : Int32)) (62 : Int32) ∧ ¬ Cd .ne (x1 % (65 : Int32)) (62 : Int32) ∧ v = some (vi 46) ∧ F = D') ∨ (Cd .ge (x1 % (65 : Int32)) (26 : Int32) ∧ Cd .ge (x1 % (65 : Int32)) (52 : Int32) ∧ ¬ Cd .ge (x1 % (65 : Int32)) (62 : Int32) ∧ v = some (vi ((48 : Int32) + ((x1 % (65 : Int32)) - (52 : Int32))).toUInt32.toUInt16.toUInt32.toInt32) ∧ F = D') ∨ (Cd .ge (x1 % (65 : Int32)) (26 : Int32) ∧ ¬ Cd .ge (x1 % (65 : Int32)) (52 : Int32) ∧ v = some (vi ((97 : Int32) + ((x1 % (65 : Int32)) - (26 : Int32)))) ∧ F = D') ∨ (¬ Cd .ge (x1 % (65 : Int32)) (26 : Int32) ∧ v = some (vi ((65 : Int32) + (x1 % (65 : Int32)))) ∧ F = D')) := by
  refine Con.of (ls := #[iv x1, iv 0, uu, uu]) (by decide +kernel) rfl ?_
  show W Z EL _ "com/example/cunctator/cunctator/JobKeyEqualsPinLaw" "pick" _ _ _ _ _ _ _ _ _ _
  refine W.iloadN (pc := 0) d1_0 rfl ?_
  refine W.ifY (pc := 1) 9 d1_1 (y_eq (by decide)) (by decide) ?_
  refine W.bipush (pc := 9) (65) d1_9 (by decide) ?_
  refine W.istoreN (pc := 11) (ls' := #[iv x1, iv 0, iv 65, uu]) d1_11 rfl ?_
  refine W.iloadN (pc := 12) d1_12 rfl ?_
  refine W.ldcI (pc := 13) d1_13 (w5 hw) ?_
  refine W.iandK (pc := 15) x1 d1_15 (z_and 31 2147483648 (by decide) (by decide) (by decide) (by omega)) ?_
  refine W.iloadN (pc := 16) d1_16 rfl ?_
  refine W.irem (pc := 17) d1_17 (by decide) ?_
  refine W.istoreN (pc := 18) (ls' := #[iv x1, iv 0, iv 65, iv (x1 % (65 : Int32))]) d1_18 rfl ?_
  refine W.iloadN (pc := 19) d1_19 rfl ?_
  refine W.bipush (pc := 20) (26) d1_20 (by decide) ?_
  refine W.icmp (pc := 22) 31 d1_22 (by decide) (fun h1 => ?_) (fun h1 => ?_)
  ·
   have ih1 := t_ge h1
   refine W.iloadN (pc := 31) d1_31 rfl ?_
   refine W.bipush (pc := 32) (52) d1_32 (by decide) ?_
   refine W.icmp (pc := 34) 46 d1_34 (by decide) (fun h2 => ?_) (fun h2 => ?_)
   ·
    have ih2 := t_ge h2
    refine W.iloadN (pc := 46) d1_46 rfl ?_
    refine W.bipush (pc := 47) (62) d1_47 (by decide) ?_
    refine W.icmp (pc := 49) 61 d1_49 (by decide) (fun h3 => ?_) (fun h3 => ?_)
    ·
     have ih3 := t_ge h3
     refine W.iloadN (pc := 61) d1_61 rfl ?_
     refine W.bipush (pc := 62) (62) d1_62 (by decide) ?_
     refine W.icmp (pc := 64) 70 d1_64 (by decide) (fun h4 => ?_) (fun h4 => ?_)
     ·
      have ih4 := t_ne h4
      refine W.iloadN (pc := 70) d1_70 rfl ?_
      refine W.bipush (pc := 71) (63) d1_71 (by decide) ?_
      refine W.icmp (pc := 73) 79 d1_73 (by decide) (fun h5 => ?_) (fun h5 => ?_)
      ·
       have ih5 := t_ne h5
       refine W.iloadN (pc := 79) d1_79 rfl ?_
       refine W.bipush (pc := 80) (64) d1_80 (by decide) ?_
       refine W.icmpN (pc := 82) d1_82 (n_ne (by have := q65; have := arem_65 x1; have := q64; have := q26; have := q52; have := q62; have := q63; omega)) ?_
       refine W.bipush (pc := 85) (45) d1_85 (by decide) ?_
       exact W.ireturn (pc := 87) d1_87 rfl (Or.inr (Or.inr (Or.inr (Or.inl rfl)))) (nw_char (by decide)) (by decide) (Or.inl ⟨h1, h2, h3, h4, h5, rfl, rfl⟩)
      ·
       have ih5 := f_ne h5
       refine W.bipush (pc := 76) (95) d1_76 (by decide) ?_
       exact W.ireturn (pc := 78) d1_78 rfl (Or.inr (Or.inr (Or.inr (Or.inl rfl)))) (nw_char (by decide)) (by decide) (Or.inr (Or.inl ⟨h1, h2, h3, h4, h5, rfl, rfl⟩))
     ·
      have ih4 := f_ne h4
      refine W.bipush (pc := 67) (46) d1_67 (by decide) ?_
      exact W.ireturn (pc := 69) d1_69 rfl (Or.inr (Or.inr (Or.inr (Or.inl rfl)))) (nw_char (by decide)) (by decide) (Or.inr (Or.inr (Or.inl ⟨h1, h2, h3, h4, rfl, rfl⟩)))
    ·
     have ih3 := f_ge h3
     refine W.bipush (pc := 52) (48) d1_52 (by decide) ?_
     refine W.iloadN (pc := 54) d1_54 rfl ?_
     refine W.bipush (pc := 55) (52) d1_55 (by decide) ?_
     refine W.isub (pc := 57) d1_57 ?_
     refine W.iadd (pc := 58) d1_58 ?_
     refine W.i2c (pc := 59) d1_59 ?_
     exact W.ireturn (pc := 60) d1_60 rfl (Or.inr (Or.inr (Or.inr (Or.inl rfl)))) (nw_char (by have := q48; have := q65; have := arem_65 x1; have := q52; have := a_sub (x1 % (65 : Int32)) (52 : Int32); have := a_add (48 : Int32) ((x1 % (65 : Int32)) - (52 : Int32)); have := a_i2c ((48 : Int32) + ((x1 % (65 : Int32)) - (52 : Int32))); have := q26; have := q62; omega)) (by decide) (Or.inr (Or.inr (Or.inr (Or.inl ⟨h1, h2, h3, rfl, rfl⟩))))
   ·
    have ih2 := f_ge h2
    refine W.bipush (pc := 37) (97) d1_37 (by decide) ?_
    refine W.iloadN (pc := 39) d1_39 rfl ?_
    refine W.bipush (pc := 40) (26) d1_40 (by decide) ?_
    refine W.isub (pc := 42) d1_42 ?_
    refine W.iadd (pc := 43) d1_43 ?_
    refine W.i2cK (pc := 44) ((97 : Int32) + ((x1 % (65 : Int32)) - (26 : Int32))) d1_44 (z_i2c (by have := q97; have := q65; have := arem_65 x1; have := q26; have := a_sub (x1 % (65 : Int32)) (26 : Int32); have := a_add (97 : Int32) ((x1 % (65 : Int32)) - (26 : Int32)); have := q52; omega)) ?_
    exact W.ireturn (pc := 45) d1_45 rfl (Or.inr (Or.inr (Or.inr (Or.inl rfl)))) (nw_char (by have := q97; have := q65; have := arem_65 x1; have := q26; have := a_sub (x1 % (65 : Int32)) (26 : Int32); have := a_add (97 : Int32) ((x1 % (65 : Int32)) - (26 : Int32)); have := q52; omega)) (by decide) (Or.inr (Or.inr (Or.inr (Or.inr (Or.inl ⟨h1, h2, rfl, rfl⟩)))))
  ·
   have ih1 := f_ge h1
   refine W.bipush (pc := 25) (65) d1_25 (by decide) ?_
   refine W.iloadN (pc := 27) d1_27 rfl ?_
   refine W.iadd (pc := 28) d1_28 ?_
   refine W.i2cK (pc := 29) ((65 : Int32) + (x1 % (65 : Int32))) d1_29 (z_i2c (by have := q65; have := arem_65 x1; have := a_add (65 : Int32) (x1 % (65 : Int32)); have := q26; omega)) ?_
   exact W.ireturn (pc := 30) d1_30 rfl (Or.inr (Or.inr (Or.inr (Or.inl rfl)))) (nw_char (by have := q65; have := arem_65 x1; have := a_add (65 : Int32) (x1 % (65 : Int32)); have := q26; omega)) (by decide) (Or.inr (Or.inr (Or.inr (Or.inr (Or.inr ⟨h1, rfl, rfl⟩)))))
theorem q45 : (45 : Int32).toInt = 45 := by decide
theorem q95 : (95 : Int32).toInt = 95 := by decide
theorem q46 : (46 : Int32).toInt = 46 := by decide
theorem c1_pickm {Z a0} (hw : HW a0 Z) (hs : SF Z) {x1 : Int32} (hx1 : 0 ≤ x1.toInt ∧ x1.toInt ≤ 65535) {F : List Ent} : Con Z EL (⟨"com/example/cunctator/cunctator/JobKeyEqualsPinLaw", "pick", "(IZ)C"⟩ : MethodName) method_2_code 4 (Option.some Jvm.ClassFile.FieldType.char) (rmm 0 0 0 0) [(vi x1), (vi 0)] (F) (fun v D' => ∃ r : Int32, ((45 ≤ r.toInt ∧ r.toInt ≤ 46) ∨ (48 ≤ r.toInt ∧ r.toInt ≤ 57) ∨ (65 ≤ r.toInt ∧ r.toInt ≤ 90) ∨ r.toInt = 95 ∨ (97 ≤ r.toInt ∧ r.toInt ≤ 122)) ∧ v = some (.int r) ∧ F = D') := Con.mono (c1_pick hw hs (x1 := x1) (hx1 := hx1)) (fun v D' h => by
  rcases h with ⟨h0, h1, h2, h3, h4, rfl, rfl⟩ | ⟨h0, h1, h2, h3, h4, rfl, rfl⟩ | ⟨h0, h1, h2, h3, rfl, rfl⟩ | ⟨h0, h1, h2, rfl, rfl⟩ | ⟨h0, h1, rfl, rfl⟩ | ⟨h0, rfl, rfl⟩
  · exact ⟨_, by have := t_ge h0; have := t_ge h1; have := t_ge h2; have := t_ne h3; have := t_ne h4; have := q45; have := q65; have := arem_65 x1; have := q26; have := q52; have := q62; have := q63; omega, rfl, rfl⟩
  · exact ⟨_, by have := t_ge h0; have := t_ge h1; have := t_ge h2; have := t_ne h3; have := f_ne h4; have := q95; have := q65; have := arem_65 x1; have := q26; have := q52; have := q62; have := q63; omega, rfl, rfl⟩
  · exact ⟨_, by have := t_ge h0; have := t_ge h1; have := t_ge h2; have := f_ne h3; have := q46; have := q65; have := arem_65 x1; have := q26; have := q52; have := q62; omega, rfl, rfl⟩
  · exact ⟨_, by have := t_ge h0; have := t_ge h1; have := f_ge h2; have := q48; have := q65; have := arem_65 x1; have := q52; have := a_sub (x1 % (65 : Int32)) (52 : Int32); have := a_add (48 : Int32) ((x1 % (65 : Int32)) - (52 : Int32)); have := a_i2c ((48 : Int32) + ((x1 % (65 : Int32)) - (52 : Int32))); have := q26; have := q62; omega, rfl, rfl⟩
  · exact ⟨_, by have := t_ge h0; have := f_ge h1; have := q97; have := q65; have := arem_65 x1; have := q26; have := a_sub (x1 % (65 : Int32)) (26 : Int32); have := a_add (97 : Int32) ((x1 % (65 : Int32)) - (26 : Int32)); have := q52; omega, rfl, rfl⟩
  · exact ⟨_, by have := f_ge h0; have := q65; have := arem_65 x1; have := a_add (65 : Int32) (x1 % (65 : Int32)); have := q26; omega, rfl, rfl⟩)
theorem q65535 : (65535 : Int32).toInt = 65535 := by decide
theorem am_65535 (x : Int32) : (x &&& (65535 : Int32)).toInt = x.toInt % 65536 := a_and x 65535 16 65536 (by decide) (by decide) (by decide)
theorem pd_IZ_C : parseMethodDescriptor "(IZ)C" = some ⟨[.int, .boolean], some .char⟩ := by decide +kernel
theorem w1 {Z a0} (hw : HW a0 Z) : ((Jvm.Cond.methodLink "com/example/cunctator/cunctator/JobKeyEqualsPinLaw" (14 : Nat) ({ cls := "com/example/cunctator/cunctator/JobKeyEqualsPinLaw", name := "pick", desc := "(IZ)C" } : Jvm.MethodName)) : Jvm.Cond).before a0 Z = true := hw _ (List.mem_of_getElem? (i := 1) rfl)
theorem w2 {Z a0} (hw : HW a0 Z) : ((Jvm.Cond.static ({ cls := "com/example/cunctator/cunctator/JobKeyEqualsPinLaw", name := "pick", desc := "(IZ)C" } : Jvm.MethodName)) : Jvm.Cond).before a0 Z = true := hw _ (List.mem_of_getElem? (i := 2) rfl)
theorem w3 {Z a0} (hw : HW a0 Z) : ((Jvm.Cond.initialized "com/example/cunctator/cunctator/JobKeyEqualsPinLaw") : Jvm.Cond).before a0 Z = true := hw _ (List.mem_of_getElem? (i := 3) rfl)
theorem w4 {Z a0} (hw : HW a0 Z) : ((Jvm.Cond.code ({ cls := "com/example/cunctator/cunctator/JobKeyEqualsPinLaw", name := "pick", desc := "(IZ)C" } : Jvm.MethodName) method_2_code (4 : Nat) (Option.some Jvm.ClassFile.FieldType.char)) : Jvm.Cond).before a0 Z = true := hw _ (List.mem_of_getElem? (i := 4) rfl)
theorem q16 : (16 : Int32).toInt = 16 := by decide
theorem aushr_16 (x : Int32) : (XT.ushr x (16 : Int32)).toInt = (x.toInt % 4294967296) / 65536 := a_ushr x 16 16 65536 (by decide) (by decide) (by decide)
theorem d1_4 : decode method_2_code 4 = .ok (.bipush 66, 2) := by decide +kernel
theorem d1_6 : decode method_2_code 6 = .ok (.goto 5, 3) := by decide +kernel
theorem d1_88 : decode method_2_code 88 = .ok (.bipush 58, 2) := by decide +kernel
theorem d1_90 : decode method_2_code 90 = .ok (.ireturn, 1) := by decide +kernel
theorem q66 : (66 : Int32).toInt = 66 := by decide
theorem arem_66 (x : Int32) : (0 ≤ x.toInt → (x % (66 : Int32)).toInt = x.toInt % 66) ∧ (x.toInt < 0 → (x % (66 : Int32)).toInt = -((-x.toInt) % 66)) := a_rem x 66 66 (by decide) (by decide)
theorem c2_pick {Z a0} (hw : HW a0 Z) (hs : SF Z) {x1 : Int32} (hx1 : 0 ≤ x1.toInt ∧ x1.toInt ≤ 65535) {F : List Ent} : Con Z EL (⟨"com/example/cunctator/cunctator/JobKeyEqualsPinLaw", "pick", "(IZ)C"⟩ : MethodName) method_2_code 4 (Option.some Jvm.ClassFile.FieldType.char) (rmm 0 0 0 0) [(vi x1), (vi 1)] (F) (fun v D' => (Cd .ge (x1 % (66 : Int32)) (26 : Int32) ∧ Cd .ge (x1 % (66 : Int32)) (52 : Int32) ∧ Cd .ge (x1 % (66 : Int32)) (62 : Int32) ∧ Cd .ne (x1 % (66 : Int32)) (62 : Int32) ∧ Cd .ne (x1 % (66 : Int32)) (63 : Int32) ∧ Cd .ne (x1 % (66 : Int32)) (64 : Int32) ∧ v = some (vi 58) ∧ F = D') ∨ (Cd .ge (x1 % (66 : Int32)) (26 : Int32) ∧ Cd .ge (x1 % (66 : Int32)) (52 : Int32) ∧ Cd .ge (x1 % (66 : Int32)) (62 : Int32) ∧ Cd .ne (x1 % (66 : Int32)) (62 : Int32) ∧ Cd .ne (x1 % (66 : Int32)) (63 : Int32) ∧ ¬ Cd .ne (x1 % (66 : Int32)) (64 : Int32) ∧ v = some (vi 45) ∧ F = D') ∨ (Cd .ge (x1 % (66 : Int32)) (26 : Int32) ∧ Cd .ge (x1 % (66 : Int32)) (52 : Int32) ∧ Cd .ge (x1 % (66 : Int32)) (62 : Int32) ∧ Cd .ne (x1 % (66 : Int32)) (62 : Int32) ∧ ¬ Cd .ne (x1 % (66 : Int32)) (63 : Int32) ∧ v = some (vi 95) ∧ F = D') ∨ (Cd .ge (x1 % (66 : Int32)) (26 : Int32) ∧ Cd .ge (x1 % (66 : Int32)) (52 : Int32) ∧ Cd .ge (x1 % (66 : Int32)) (62 : Int32) ∧ ¬ Cd .ne (x1 % (66 : Int32)) (62 : Int32) ∧ v = some (vi 46) ∧ F = D') ∨ (Cd .ge (x1 % (66 : Int32)) (26 : Int32) ∧ Cd .ge (x1 % (66 : Int32)) (52 : Int32) ∧ ¬ Cd .ge (x1 % (66 : Int32)) (62 : Int32) ∧ v = some (vi ((48 : Int32) + ((x1 % (66 : Int32)) - (52 : Int32))).toUInt32.toUInt16.toUInt32.toInt32) ∧ F = D') ∨ (Cd .ge (x1 % (66 : Int32)) (26 : Int32) ∧ ¬ Cd .ge (x1 % (66 : Int32)) (52 : Int32) ∧ v = some (vi ((97 : Int32) + ((x1 % (66 : Int32)) - (26 : Int32)))) ∧ F = D') ∨ (¬ Cd .ge (x1 % (66 : Int32)) (26 : Int32) ∧ v = some (vi ((65 : Int32) + (x1 % (66 : Int32)))) ∧ F = D')) := by
  refine Con.of (ls := #[iv x1, iv 1, uu, uu]) (by decide +kernel) rfl ?_
  show W Z EL _ "com/example/cunctator/cunctator/JobKeyEqualsPinLaw" "pick" _ _ _ _ _ _ _ _ _ _
  refine W.iloadN (pc := 0) d1_0 rfl ?_
  refine W.ifN (pc := 1) d1_1 (n_eq (by decide)) ?_
  refine W.bipush (pc := 4) (66) d1_4 (by decide) ?_
  refine W.goto (pc := 6) 11 d1_6 (by decide) ?_
  refine W.istoreN (pc := 11) (ls' := #[iv x1, iv 1, iv 66, uu]) d1_11 rfl ?_
  refine W.iloadN (pc := 12) d1_12 rfl ?_
  refine W.ldcI (pc := 13) d1_13 (w5 hw) ?_
  refine W.iandK (pc := 15) x1 d1_15 (z_and 31 2147483648 (by decide) (by decide) (by decide) (by omega)) ?_
  refine W.iloadN (pc := 16) d1_16 rfl ?_
  refine W.irem (pc := 17) d1_17 (by decide) ?_
  refine W.istoreN (pc := 18) (ls' := #[iv x1, iv 1, iv 66, iv (x1 % (66 : Int32))]) d1_18 rfl ?_
  refine W.iloadN (pc := 19) d1_19 rfl ?_
  refine W.bipush (pc := 20) (26) d1_20 (by decide) ?_
  refine W.icmp (pc := 22) 31 d1_22 (by decide) (fun h1 => ?_) (fun h1 => ?_)
  ·
   have ih1 := t_ge h1
   refine W.iloadN (pc := 31) d1_31 rfl ?_
   refine W.bipush (pc := 32) (52) d1_32 (by decide) ?_
   refine W.icmp (pc := 34) 46 d1_34 (by decide) (fun h2 => ?_) (fun h2 => ?_)
   ·
    have ih2 := t_ge h2
    refine W.iloadN (pc := 46) d1_46 rfl ?_
    refine W.bipush (pc := 47) (62) d1_47 (by decide) ?_
    refine W.icmp (pc := 49) 61 d1_49 (by decide) (fun h3 => ?_) (fun h3 => ?_)
    ·
     have ih3 := t_ge h3
     refine W.iloadN (pc := 61) d1_61 rfl ?_
     refine W.bipush (pc := 62) (62) d1_62 (by decide) ?_
     refine W.icmp (pc := 64) 70 d1_64 (by decide) (fun h4 => ?_) (fun h4 => ?_)
     ·
      have ih4 := t_ne h4
      refine W.iloadN (pc := 70) d1_70 rfl ?_
      refine W.bipush (pc := 71) (63) d1_71 (by decide) ?_
      refine W.icmp (pc := 73) 79 d1_73 (by decide) (fun h5 => ?_) (fun h5 => ?_)
      ·
       have ih5 := t_ne h5
       refine W.iloadN (pc := 79) d1_79 rfl ?_
       refine W.bipush (pc := 80) (64) d1_80 (by decide) ?_
       refine W.icmp (pc := 82) 88 d1_82 (by decide) (fun h6 => ?_) (fun h6 => ?_)
       ·
        have ih6 := t_ne h6
        refine W.bipush (pc := 88) (58) d1_88 (by decide) ?_
        exact W.ireturn (pc := 90) d1_90 rfl (Or.inr (Or.inr (Or.inr (Or.inl rfl)))) (nw_char (by decide)) (by decide) (Or.inl ⟨h1, h2, h3, h4, h5, h6, rfl, rfl⟩)
       ·
        have ih6 := f_ne h6
        refine W.bipush (pc := 85) (45) d1_85 (by decide) ?_
        exact W.ireturn (pc := 87) d1_87 rfl (Or.inr (Or.inr (Or.inr (Or.inl rfl)))) (nw_char (by decide)) (by decide) (Or.inr (Or.inl ⟨h1, h2, h3, h4, h5, h6, rfl, rfl⟩))
      ·
       have ih5 := f_ne h5
       refine W.bipush (pc := 76) (95) d1_76 (by decide) ?_
       exact W.ireturn (pc := 78) d1_78 rfl (Or.inr (Or.inr (Or.inr (Or.inl rfl)))) (nw_char (by decide)) (by decide) (Or.inr (Or.inr (Or.inl ⟨h1, h2, h3, h4, h5, rfl, rfl⟩)))
     ·
      have ih4 := f_ne h4
      refine W.bipush (pc := 67) (46) d1_67 (by decide) ?_
      exact W.ireturn (pc := 69) d1_69 rfl (Or.inr (Or.inr (Or.inr (Or.inl rfl)))) (nw_char (by decide)) (by decide) (Or.inr (Or.inr (Or.inr (Or.inl ⟨h1, h2, h3, h4, rfl, rfl⟩))))
    ·
     have ih3 := f_ge h3
     refine W.bipush (pc := 52) (48) d1_52 (by decide) ?_
     refine W.iloadN (pc := 54) d1_54 rfl ?_
     refine W.bipush (pc := 55) (52) d1_55 (by decide) ?_
     refine W.isub (pc := 57) d1_57 ?_
     refine W.iadd (pc := 58) d1_58 ?_
     refine W.i2c (pc := 59) d1_59 ?_
     exact W.ireturn (pc := 60) d1_60 rfl (Or.inr (Or.inr (Or.inr (Or.inl rfl)))) (nw_char (by have := q48; have := q66; have := arem_66 x1; have := q52; have := a_sub (x1 % (66 : Int32)) (52 : Int32); have := a_add (48 : Int32) ((x1 % (66 : Int32)) - (52 : Int32)); have := a_i2c ((48 : Int32) + ((x1 % (66 : Int32)) - (52 : Int32))); have := q26; have := q62; omega)) (by decide) (Or.inr (Or.inr (Or.inr (Or.inr (Or.inl ⟨h1, h2, h3, rfl, rfl⟩)))))
   ·
    have ih2 := f_ge h2
    refine W.bipush (pc := 37) (97) d1_37 (by decide) ?_
    refine W.iloadN (pc := 39) d1_39 rfl ?_
    refine W.bipush (pc := 40) (26) d1_40 (by decide) ?_
    refine W.isub (pc := 42) d1_42 ?_
    refine W.iadd (pc := 43) d1_43 ?_
    refine W.i2cK (pc := 44) ((97 : Int32) + ((x1 % (66 : Int32)) - (26 : Int32))) d1_44 (z_i2c (by have := q97; have := q66; have := arem_66 x1; have := q26; have := a_sub (x1 % (66 : Int32)) (26 : Int32); have := a_add (97 : Int32) ((x1 % (66 : Int32)) - (26 : Int32)); have := q52; omega)) ?_
    exact W.ireturn (pc := 45) d1_45 rfl (Or.inr (Or.inr (Or.inr (Or.inl rfl)))) (nw_char (by have := q97; have := q66; have := arem_66 x1; have := q26; have := a_sub (x1 % (66 : Int32)) (26 : Int32); have := a_add (97 : Int32) ((x1 % (66 : Int32)) - (26 : Int32)); have := q52; omega)) (by decide) (Or.inr (Or.inr (Or.inr (Or.inr (Or.inr (Or.inl ⟨h1, h2, rfl, rfl⟩))))))
  ·
   have ih1 := f_ge h1
   refine W.bipush (pc := 25) (65) d1_25 (by decide) ?_
   refine W.iloadN (pc := 27) d1_27 rfl ?_
   refine W.iadd (pc := 28) d1_28 ?_
   refine W.i2cK (pc := 29) ((65 : Int32) + (x1 % (66 : Int32))) d1_29 (z_i2c (by have := q65; have := q66; have := arem_66 x1; have := a_add (65 : Int32) (x1 % (66 : Int32)); have := q26; omega)) ?_
   exact W.ireturn (pc := 30) d1_30 rfl (Or.inr (Or.inr (Or.inr (Or.inl rfl)))) (nw_char (by have := q65; have := q66; have := arem_66 x1; have := a_add (65 : Int32) (x1 % (66 : Int32)); have := q26; omega)) (by decide) (Or.inr (Or.inr (Or.inr (Or.inr (Or.inr (Or.inr ⟨h1, rfl, rfl⟩))))))
theorem q58 : (58 : Int32).toInt = 58 := by decide
theorem c2_pickm {Z a0} (hw : HW a0 Z) (hs : SF Z) {x1 : Int32} (hx1 : 0 ≤ x1.toInt ∧ x1.toInt ≤ 65535) {F : List Ent} : Con Z EL (⟨"com/example/cunctator/cunctator/JobKeyEqualsPinLaw", "pick", "(IZ)C"⟩ : MethodName) method_2_code 4 (Option.some Jvm.ClassFile.FieldType.char) (rmm 0 0 0 0) [(vi x1), (vi 1)] (F) (fun v D' => ∃ r : Int32, ((45 ≤ r.toInt ∧ r.toInt ≤ 46) ∨ (48 ≤ r.toInt ∧ r.toInt ≤ 58) ∨ (65 ≤ r.toInt ∧ r.toInt ≤ 90) ∨ r.toInt = 95 ∨ (97 ≤ r.toInt ∧ r.toInt ≤ 122)) ∧ v = some (.int r) ∧ F = D') := Con.mono (c2_pick hw hs (x1 := x1) (hx1 := hx1)) (fun v D' h => by
  rcases h with ⟨h0, h1, h2, h3, h4, h5, rfl, rfl⟩ | ⟨h0, h1, h2, h3, h4, h5, rfl, rfl⟩ | ⟨h0, h1, h2, h3, h4, rfl, rfl⟩ | ⟨h0, h1, h2, h3, rfl, rfl⟩ | ⟨h0, h1, h2, rfl, rfl⟩ | ⟨h0, h1, rfl, rfl⟩ | ⟨h0, rfl, rfl⟩
  · exact ⟨_, by have := t_ge h0; have := t_ge h1; have := t_ge h2; have := t_ne h3; have := t_ne h4; have := t_ne h5; have := q58; have := q66; have := arem_66 x1; have := q26; have := q52; have := q62; have := q63; have := q64; omega, rfl, rfl⟩
  · exact ⟨_, by have := t_ge h0; have := t_ge h1; have := t_ge h2; have := t_ne h3; have := t_ne h4; have := f_ne h5; have := q45; have := q66; have := arem_66 x1; have := q26; have := q52; have := q62; have := q63; have := q64; omega, rfl, rfl⟩
  · exact ⟨_, by have := t_ge h0; have := t_ge h1; have := t_ge h2; have := t_ne h3; have := f_ne h4; have := q95; have := q66; have := arem_66 x1; have := q26; have := q52; have := q62; have := q63; omega, rfl, rfl⟩
  · exact ⟨_, by have := t_ge h0; have := t_ge h1; have := t_ge h2; have := f_ne h3; have := q46; have := q66; have := arem_66 x1; have := q26; have := q52; have := q62; omega, rfl, rfl⟩
  · exact ⟨_, by have := t_ge h0; have := t_ge h1; have := f_ge h2; have := q48; have := q66; have := arem_66 x1; have := q52; have := a_sub (x1 % (66 : Int32)) (52 : Int32); have := a_add (48 : Int32) ((x1 % (66 : Int32)) - (52 : Int32)); have := a_i2c ((48 : Int32) + ((x1 % (66 : Int32)) - (52 : Int32))); have := q26; have := q62; omega, rfl, rfl⟩
  · exact ⟨_, by have := t_ge h0; have := f_ge h1; have := q97; have := q66; have := arem_66 x1; have := q26; have := a_sub (x1 % (66 : Int32)) (26 : Int32); have := a_add (97 : Int32) ((x1 % (66 : Int32)) - (26 : Int32)); have := q52; omega, rfl, rfl⟩
  · exact ⟨_, by have := f_ge h0; have := q65; have := q66; have := arem_66 x1; have := a_add (65 : Int32) (x1 % (66 : Int32)); have := q26; omega, rfl, rfl⟩)
theorem q1 : (1 : Int32).toInt = 1 := by decide
theorem am_1 (x : Int32) : (x &&& (1 : Int32)).toInt = x.toInt % 2 := a_and x 1 1 2 (by decide) (by decide) (by decide)
theorem q0 : (0 : Int32).toInt = 0 := by decide
theorem q2 : (2 : Int32).toInt = 2 := by decide
theorem d2_0 : decode method_3_code 0 = .ok (.iload_n 2, 1) := by decide +kernel
theorem d2_1 : decode method_3_code 1 = .ok (.ifCond .eq 22, 3) := by decide +kernel
theorem d2_23 : decode method_3_code 23 = .ok (.new 8, 3) := by decide +kernel
theorem w38 {Z a0} (hw : HW a0 Z) : ((Jvm.Cond.laysFinal "java/lang/String" "java/lang/String" "value" "[B") : Jvm.Cond).before a0 Z = true := hw _ (List.mem_of_getElem? (i := 38) rfl)
theorem w36 {Z a0} (hw : HW a0 Z) : ((Jvm.Cond.laysFinal "java/lang/String" "java/lang/String" "coder" "B") : Jvm.Cond).before a0 Z = true := hw _ (List.mem_of_getElem? (i := 36) rfl)
theorem laString {Z a0} (hw : HW a0 Z) : LaidAll Z a0 "java/lang/String" [("java/lang/String", "value", "[B", .null), ("java/lang/String", "coder", "B", (vi 0))] := ⟨⟨Or.inr (w38 hw), (.array .byte), by decide, rfl⟩, ⟨⟨Or.inr (w36 hw), .byte, by decide, rfl⟩, trivial⟩⟩
theorem w9 {Z a0} (hw : HW a0 Z) : ((Jvm.Cond.classLink "com/example/cunctator/cunctator/JobKeyEqualsPinLaw" (8 : Nat) "java/lang/String") : Jvm.Cond).before a0 Z = true := hw _ (List.mem_of_getElem? (i := 9) rfl)
theorem w10 {Z a0} (hw : HW a0 Z) : ((Jvm.Cond.instantiable "java/lang/String" (4 : Nat)) : Jvm.Cond).before a0 Z = true := hw _ (List.mem_of_getElem? (i := 10) rfl)
theorem w11 {Z a0} (hw : HW a0 Z) : ((Jvm.Cond.initialized "java/lang/String") : Jvm.Cond).before a0 Z = true := hw _ (List.mem_of_getElem? (i := 11) rfl)
theorem d2_26 : decode method_3_code 26 = .ok (.dup, 1) := by decide +kernel
theorem d2_27 : decode method_3_code 27 = .ok (.iconst 1, 1) := by decide +kernel
theorem d2_28 : decode method_3_code 28 = .ok (.newarray .char, 2) := by decide +kernel
theorem w12 {Z a0} (hw : HW a0 Z) : ((Jvm.Cond.arrayClass Jvm.ClassFile.FieldType.char) : Jvm.Cond).before a0 Z = true := hw _ (List.mem_of_getElem? (i := 12) rfl)
theorem ix1 : Idx (1 : Int32) 1 := by unfold Idx; decide
theorem d2_30 : decode method_3_code 30 = .ok (.dup, 1) := by decide +kernel
theorem d2_31 : decode method_3_code 31 = .ok (.iconst 0, 1) := by decide +kernel
theorem d2_32 : decode method_3_code 32 = .ok (.iload_n 0, 1) := by decide +kernel
theorem d2_33 : decode method_3_code 33 = .ok (.castore, 1) := by decide +kernel
theorem ix0 : Idx (0 : Int32) 0 := by unfold Idx; decide
theorem d2_34 : decode method_3_code 34 = .ok (.invokespecial 10, 3) := by decide +kernel
theorem d3_0 : decode jdk_42_method_3_code 0 = .ok (.aload_n 0, 1) := by decide +kernel
theorem d3_1 : decode jdk_42_method_3_code 1 = .ok (.aload_n 1, 1) := by decide +kernel
theorem d3_2 : decode jdk_42_method_3_code 2 = .ok (.iconst 0, 1) := by decide +kernel
theorem d3_3 : decode jdk_42_method_3_code 3 = .ok (.aload_n 1, 1) := by decide +kernel
theorem d3_4 : decode jdk_42_method_3_code 4 = .ok (.arraylength, 1) := by decide +kernel
theorem d3_5 : decode jdk_42_method_3_code 5 = .ok (.aconst_null, 1) := by decide +kernel
theorem d3_6 : decode jdk_42_method_3_code 6 = .ok (.invokespecial 27, 3) := by decide +kernel
theorem d4_0 : decode jdk_42_method_149_code 0 = .ok (.aload_n 0, 1) := by decide +kernel
theorem d4_1 : decode jdk_42_method_149_code 1 = .ok (.invokespecial 1, 3) := by decide +kernel
theorem w20 {Z a0} (hw : HW a0 Z) : ((Jvm.Cond.methodLink "java/lang/String" (1 : Nat) ({ cls := "java/lang/Object", name := "<init>", desc := "()V" } : Jvm.MethodName)) : Jvm.Cond).before a0 Z = true := hw _ (List.mem_of_getElem? (i := 20) rfl)
theorem w21 {Z a0} (hw : HW a0 Z) : ((Jvm.Cond.instanceMethod ({ cls := "java/lang/Object", name := "<init>", desc := "()V" } : Jvm.MethodName)) : Jvm.Cond).before a0 Z = true := hw _ (List.mem_of_getElem? (i := 21) rfl)
theorem w22 {Z a0} (hw : HW a0 Z) : ((Jvm.Cond.code ({ cls := "java/lang/Object", name := "<init>", desc := "()V" } : Jvm.MethodName) object_method_1_code (1 : Nat) (Option.none : Option Jvm.ClassFile.FieldType)) : Jvm.Cond).before a0 Z = true := hw _ (List.mem_of_getElem? (i := 22) rfl)
theorem d4_4 : decode jdk_42_method_149_code 4 = .ok (.iload_n 3, 1) := by decide +kernel
theorem d4_5 : decode jdk_42_method_149_code 5 = .ok (.ifCond .ne 22, 3) := by decide +kernel
theorem d4_27 : decode jdk_42_method_149_code 27 = .ok (.getstatic 38, 3) := by decide +kernel
theorem w23 {Z a0} (hw : HW a0 Z) : ((Jvm.Cond.fieldLink "java/lang/String" (38 : Nat) "java/lang/String" "COMPACT_STRINGS" "Z") : Jvm.Cond).before a0 Z = true := hw _ (List.mem_of_getElem? (i := 23) rfl)
theorem d4_30 : decode jdk_42_method_149_code 30 = .ok (.ifCond .eq 28, 3) := by decide +kernel
theorem d4_33 : decode jdk_42_method_149_code 33 = .ok (.aload_n 1, 1) := by decide +kernel
theorem d4_34 : decode jdk_42_method_149_code 34 = .ok (.iload_n 2, 1) := by decide +kernel
theorem d4_35 : decode jdk_42_method_149_code 35 = .ok (.iload_n 3, 1) := by decide +kernel
theorem d4_36 : decode jdk_42_method_149_code 36 = .ok (.invokestatic 177, 3) := by decide +kernel
theorem d6_0 : decode jdk_52_method_16_code 0 = .ok (.iload_n 2, 1) := by decide +kernel
theorem d6_1 : decode jdk_52_method_16_code 1 = .ok (.newarray .byte, 2) := by decide +kernel
theorem w28 {Z a0} (hw : HW a0 Z) : ((Jvm.Cond.arrayClass Jvm.ClassFile.FieldType.byte) : Jvm.Cond).before a0 Z = true := hw _ (List.mem_of_getElem? (i := 28) rfl)
theorem d6_3 : decode jdk_52_method_16_code 3 = .ok (.astore_n 3, 1) := by decide +kernel
theorem d6_4 : decode jdk_52_method_16_code 4 = .ok (.aload_n 0, 1) := by decide +kernel
theorem d6_5 : decode jdk_52_method_16_code 5 = .ok (.iload_n 1, 1) := by decide +kernel
theorem d6_6 : decode jdk_52_method_16_code 6 = .ok (.aload_n 3, 1) := by decide +kernel
theorem d6_7 : decode jdk_52_method_16_code 7 = .ok (.iconst 0, 1) := by decide +kernel
theorem d6_8 : decode jdk_52_method_16_code 8 = .ok (.iload_n 2, 1) := by decide +kernel
theorem d6_9 : decode jdk_52_method_16_code 9 = .ok (.invokestatic 115, 3) := by decide +kernel
theorem d7_0 : decode jdk_52_method_21_code 0 = .ok (.iconst 0, 1) := by decide +kernel
theorem d7_1 : decode jdk_52_method_21_code 1 = .ok (.istore 5, 2) := by decide +kernel
theorem d7_3 : decode jdk_52_method_21_code 3 = .ok (.iload 5, 2) := by decide +kernel
theorem d7_5 : decode jdk_52_method_21_code 5 = .ok (.iload 4, 2) := by decide +kernel
theorem d7_7 : decode jdk_52_method_21_code 7 = .ok (.if_icmp .ge 37, 3) := by decide +kernel
theorem d7_10 : decode jdk_52_method_21_code 10 = .ok (.aload_n 0, 1) := by decide +kernel
theorem d7_11 : decode jdk_52_method_21_code 11 = .ok (.iload_n 1, 1) := by decide +kernel
theorem d7_12 : decode jdk_52_method_21_code 12 = .ok (.caload, 1) := by decide +kernel
theorem d7_13 : decode jdk_52_method_21_code 13 = .ok (.istore 6, 2) := by decide +kernel
theorem d7_15 : decode jdk_52_method_21_code 15 = .ok (.iload 6, 2) := by decide +kernel
theorem d7_17 : decode jdk_52_method_21_code 17 = .ok (.sipush 255, 3) := by decide +kernel
theorem d7_20 : decode jdk_52_method_21_code 20 = .ok (.if_icmp .le 6, 3) := by decide +kernel
theorem q255 : (255 : Int32).toInt = 255 := by decide
theorem d7_26 : decode jdk_52_method_21_code 26 = .ok (.aload_n 2, 1) := by decide +kernel
theorem d7_27 : decode jdk_52_method_21_code 27 = .ok (.iload_n 3, 1) := by decide +kernel
theorem d7_28 : decode jdk_52_method_21_code 28 = .ok (.iload 6, 2) := by decide +kernel
theorem d7_30 : decode jdk_52_method_21_code 30 = .ok (.i2b, 1) := by decide +kernel
theorem d7_31 : decode jdk_52_method_21_code 31 = .ok (.bastore, 1) := by decide +kernel
theorem d7_32 : decode jdk_52_method_21_code 32 = .ok (.iinc 1 1, 3) := by decide +kernel
theorem d7_35 : decode jdk_52_method_21_code 35 = .ok (.iinc 3 1, 3) := by decide +kernel
theorem d7_38 : decode jdk_52_method_21_code 38 = .ok (.iinc 5 1, 3) := by decide +kernel
theorem d7_41 : decode jdk_52_method_21_code 41 = .ok (.goto (-38), 3) := by decide +kernel
theorem d7_44 : decode jdk_52_method_21_code 44 = .ok (.iload 4, 2) := by decide +kernel
theorem d7_46 : decode jdk_52_method_21_code 46 = .ok (.ireturn, 1) := by decide +kernel
theorem c7_compress {Z a0} (hw : HW a0 Z) (hs : SF Z) {p1 p2 : Addr} {x1 : Int32} (hx1 : (45 ≤ x1.toInt ∧ x1.toInt ≤ 46) ∨ (48 ≤ x1.toInt ∧ x1.toInt ≤ 57) ∨ (65 ≤ x1.toInt ∧ x1.toInt ≤ 90) ∨ x1.toInt = 95 ∨ (97 ≤ x1.toInt ∧ x1.toInt ≤ 122)) {ad_p2 : String} {w_p1 : Bool} {ad_p1 : String} {F : List Ent} (mp1 : (p1, w_p1, ar ad_p1 .char [(vi x1)]) ∈ F) : Con Z EL (⟨"java/lang/StringUTF16", "compress", "([CI[BII)I"⟩ : MethodName) jdk_52_method_21_code 7 (Option.some Jvm.ClassFile.FieldType.int) (rmm 0 0 0 0) [(vr p1), (vi 0), (vr p2), (vi 0), (vi 1)] ((p2, true, ar ad_p2 .byte [(vi 0)]) :: F) (fun v D' => (v = some (vi 1) ∧ (p2, true, ar ad_p2 .byte [(vi x1)]) :: F = D')) := by
  refine Con.of (ls := #[rv p1, iv 0, rv p2, iv 0, iv 1, uu, uu]) (by decide +kernel) rfl ?_
  show W Z EL _ "java/lang/StringUTF16" "compress" _ _ _ _ _ _ _ _ _ _
  refine W.iconst (pc := 0) (0) d7_0 (by decide) ?_
  refine W.istore (pc := 1) (ls' := #[rv p1, iv 0, rv p2, iv 0, iv 1, iv 0, uu]) d7_1 rfl ?_
  refine W.iload (pc := 3) d7_3 rfl ?_
  refine W.iload (pc := 5) d7_5 rfl ?_
  refine W.icmpN (pc := 7) d7_7 (n_ge (by decide)) ?_
  refine W.aloadN (pc := 10) d7_10 rfl rfl ?_
  refine W.iloadN (pc := 11) d7_11 rfl ?_
  refine W.caload (pc := 12) 0 d7_12 (mS mp1) ix0 rfl ?_
  refine W.istore (pc := 13) (ls' := #[rv p1, iv 0, rv p2, iv 0, iv 1, iv 0, iv x1]) d7_13 rfl ?_
  refine W.iload (pc := 15) d7_15 rfl ?_
  refine W.sipush (pc := 17) (255) d7_17 (by decide) ?_
  refine W.icmpY (pc := 20) 26 d7_20 (y_le (by have := q255; omega)) (by decide) ?_
  refine W.aloadN (pc := 26) d7_26 rfl rfl ?_
  refine W.iloadN (pc := 27) d7_27 rfl ?_
  refine W.iload (pc := 28) d7_28 rfl ?_
  refine W.i2bK (pc := 30) x1 d7_30 (z_i2b (by omega)) ?_
  refine W.bastore (pc := 31) (D' := (p2, true, ar ad_p2 .byte [(vi x1)]) :: F) 0 0 d7_31 rfl ix0 (Nat.le_of_ble_eq_true rfl) (z_narB (by omega)) rfl ?_
  refine W.iincK (pc := 32) (ls' := #[rv p1, iv 1, rv p2, iv 0, iv 1, iv 0, iv x1]) (1) (1 : Int32) d7_32 (by decide) rfl (by decide) rfl ?_
  refine W.iincK (pc := 35) (ls' := #[rv p1, iv 1, rv p2, iv 1, iv 1, iv 0, iv x1]) (1) (1 : Int32) d7_35 (by decide) rfl (by decide) rfl ?_
  refine W.iincK (pc := 38) (ls' := #[rv p1, iv 1, rv p2, iv 1, iv 1, iv 1, iv x1]) (1) (1 : Int32) d7_38 (by decide) rfl (by decide) rfl ?_
  refine W.goto (pc := 41) 3 d7_41 (by decide) ?_
  refine W.iload (pc := 3) d7_3 rfl ?_
  refine W.iload (pc := 5) d7_5 rfl ?_
  refine W.icmpY (pc := 7) 44 d7_7 (y_ge (by decide)) (by decide) ?_
  refine W.iload (pc := 44) d7_44 rfl ?_
  exact W.ireturn (pc := 46) d7_46 rfl (Or.inl rfl) rfl (by decide) ⟨rfl, rfl⟩
theorem pd__CI_BII_I : parseMethodDescriptor "([CI[BII)I" = some ⟨[(.array .char), .int, (.array .byte), .int, .int], some .int⟩ := by decide +kernel
theorem w29 {Z a0} (hw : HW a0 Z) : ((Jvm.Cond.methodLink "java/lang/StringUTF16" (115 : Nat) ({ cls := "java/lang/StringUTF16", name := "compress", desc := "([CI[BII)I" } : Jvm.MethodName)) : Jvm.Cond).before a0 Z = true := hw _ (List.mem_of_getElem? (i := 29) rfl)
theorem w30 {Z a0} (hw : HW a0 Z) : ((Jvm.Cond.static ({ cls := "java/lang/StringUTF16", name := "compress", desc := "([CI[BII)I" } : Jvm.MethodName)) : Jvm.Cond).before a0 Z = true := hw _ (List.mem_of_getElem? (i := 30) rfl)
theorem w26 {Z a0} (hw : HW a0 Z) : ((Jvm.Cond.initialized "java/lang/StringUTF16") : Jvm.Cond).before a0 Z = true := hw _ (List.mem_of_getElem? (i := 26) rfl)
theorem w31 {Z a0} (hw : HW a0 Z) : ((Jvm.Cond.code ({ cls := "java/lang/StringUTF16", name := "compress", desc := "([CI[BII)I" } : Jvm.MethodName) jdk_52_method_21_code (7 : Nat) (Option.some Jvm.ClassFile.FieldType.int)) : Jvm.Cond).before a0 Z = true := hw _ (List.mem_of_getElem? (i := 31) rfl)
theorem d6_12 : decode jdk_52_method_16_code 12 = .ok (.istore 4, 2) := by decide +kernel
theorem d6_14 : decode jdk_52_method_16_code 14 = .ok (.iload 4, 2) := by decide +kernel
theorem d6_16 : decode jdk_52_method_16_code 16 = .ok (.iload_n 2, 1) := by decide +kernel
theorem d6_17 : decode jdk_52_method_16_code 17 = .ok (.if_icmp .eq 40, 3) := by decide +kernel
theorem d6_57 : decode jdk_52_method_16_code 57 = .ok (.aload_n 3, 1) := by decide +kernel
theorem d6_58 : decode jdk_52_method_16_code 58 = .ok (.areturn, 1) := by decide +kernel
theorem c6_compress {Z a0} (hw : HW a0 Z) (hs : SF Z) {p1 : Addr} {x1 : Int32} (hx1 : (45 ≤ x1.toInt ∧ x1.toInt ≤ 46) ∨ (48 ≤ x1.toInt ∧ x1.toInt ≤ 57) ∨ (65 ≤ x1.toInt ∧ x1.toInt ≤ 90) ∨ x1.toInt = 95 ∨ (97 ≤ x1.toInt ∧ x1.toInt ≤ 122)) {w_p1 : Bool} {ad_p1 : String} {F : List Ent} (mp1 : (p1, w_p1, ar ad_p1 .char [(vi x1)]) ∈ F) : Con Z EL (⟨"java/lang/StringUTF16", "compress", "([CII)[B"⟩ : MethodName) jdk_52_method_16_code 6 (Option.some (Jvm.ClassFile.FieldType.array Jvm.ClassFile.FieldType.byte)) (rmm 1 1 1 18) [(vr p1), (vi 0), (vi 1)] (F) (fun v D' => (∃ a1 : Addr, v = some (vr a1) ∧ (a1, true, ar "[B" .byte [(vi x1)]) :: F = D')) := by
  refine Con.of (ls := #[rv p1, iv 0, iv 1, uu, uu, uu]) (by decide +kernel) rfl ?_
  show W Z EL _ "java/lang/StringUTF16" "compress" _ _ _ _ _ _ _ _ _ _
  refine W.iloadN (pc := 0) d6_0 rfl ?_
  refine W.newarr (pc := 1) 1 (ad := "[B") (ty := .byte) d6_1 rfl (w28 hw) ix1 rfl (by decide) (by decide) (fun a1 => ?_)
  show W _ _ _ _ _ _ _ _ _ _ _ _ 3 _ [(vr a1)]
  refine W.astoreN (pc := 3) (ls' := #[rv p1, iv 0, iv 1, rv a1, uu, uu]) d6_3 rfl rfl ?_
  refine W.aloadN (pc := 4) d6_4 rfl rfl ?_
  refine W.iloadN (pc := 5) d6_5 rfl ?_
  refine W.aloadN (pc := 6) d6_6 rfl rfl ?_
  refine W.iconst (pc := 7) (0) d6_7 (by decide) ?_
  refine W.iloadN (pc := 8) d6_8 rfl ?_
  refine W.callS (pc := 9) (as := [(vr p1), (vi 0), (vr a1), (vi 0), (vi 1)]) 0 [] d6_9 (w29 hw) (w30 hw) (w26 hw) (w31 hw) (c7_compress hw hs (hx1 := hx1) (mp1 := mp1)) (by decide) pd__CI_BII_I rfl rfl rfl rfl (by decide) (fun v D' h => ?_)
  obtain ⟨rfl, rfl⟩ := h
  show W _ _ _ _ _ _ _ _ _ _ _ _ 12 _ [(vi 1)]
  refine W.istore (pc := 12) (ls' := #[rv p1, iv 0, iv 1, rv a1, iv 1, uu]) d6_12 rfl ?_
  refine W.iload (pc := 14) d6_14 rfl ?_
  refine W.iloadN (pc := 16) d6_16 rfl ?_
  refine W.icmpY (pc := 17) 57 d6_17 (y_eq (by decide)) (by decide) ?_
  refine W.aloadN (pc := 57) d6_57 rfl rfl ?_
  exact W.areturn (pc := 58) d6_58 rfl rfl rfl (by decide) ⟨a1, rfl, rfl⟩
theorem pd__CII__B : parseMethodDescriptor "([CII)[B" = some ⟨[(.array .char), .int, .int], some (.array .byte)⟩ := by decide +kernel
theorem w24 {Z a0} (hw : HW a0 Z) : ((Jvm.Cond.methodLink "java/lang/String" (177 : Nat) ({ cls := "java/lang/StringUTF16", name := "compress", desc := "([CII)[B" } : Jvm.MethodName)) : Jvm.Cond).before a0 Z = true := hw _ (List.mem_of_getElem? (i := 24) rfl)
theorem w25 {Z a0} (hw : HW a0 Z) : ((Jvm.Cond.static ({ cls := "java/lang/StringUTF16", name := "compress", desc := "([CII)[B" } : Jvm.MethodName)) : Jvm.Cond).before a0 Z = true := hw _ (List.mem_of_getElem? (i := 25) rfl)
theorem w27 {Z a0} (hw : HW a0 Z) : ((Jvm.Cond.code ({ cls := "java/lang/StringUTF16", name := "compress", desc := "([CII)[B" } : Jvm.MethodName) jdk_52_method_16_code (6 : Nat) (Option.some (Jvm.ClassFile.FieldType.array Jvm.ClassFile.FieldType.byte))) : Jvm.Cond).before a0 Z = true := hw _ (List.mem_of_getElem? (i := 27) rfl)
theorem d4_39 : decode jdk_42_method_149_code 39 = .ok (.astore 5, 2) := by decide +kernel
theorem d4_41 : decode jdk_42_method_149_code 41 = .ok (.aload_n 0, 1) := by decide +kernel
theorem d4_42 : decode jdk_42_method_149_code 42 = .ok (.aload 5, 2) := by decide +kernel
theorem d4_44 : decode jdk_42_method_149_code 44 = .ok (.iload_n 3, 1) := by decide +kernel
theorem d4_45 : decode jdk_42_method_149_code 45 = .ok (.invokestatic 47, 3) := by decide +kernel
theorem d8_0 : decode jdk_52_method_15_code 0 = .ok (.iload_n 1, 1) := by decide +kernel
theorem d8_1 : decode jdk_52_method_15_code 1 = .ok (.aload_n 0, 1) := by decide +kernel
theorem d8_2 : decode jdk_52_method_15_code 2 = .ok (.arraylength, 1) := by decide +kernel
theorem d8_3 : decode jdk_52_method_15_code 3 = .ok (.isub, 1) := by decide +kernel
theorem d8_4 : decode jdk_52_method_15_code 4 = .ok (.bipush 31, 2) := by decide +kernel
theorem d8_6 : decode jdk_52_method_15_code 6 = .ok (.iushr, 1) := by decide +kernel
theorem d8_7 : decode jdk_52_method_15_code 7 = .ok (.i2b, 1) := by decide +kernel
theorem d8_8 : decode jdk_52_method_15_code 8 = .ok (.ireturn, 1) := by decide +kernel
theorem c8_coderFromArrayLen {Z a0} (hw : HW a0 Z) (hs : SF Z) {p1 : Addr} {x1 : Int32} (hx1 : (45 ≤ x1.toInt ∧ x1.toInt ≤ 46) ∨ (48 ≤ x1.toInt ∧ x1.toInt ≤ 57) ∨ (65 ≤ x1.toInt ∧ x1.toInt ≤ 90) ∨ x1.toInt = 95 ∨ (97 ≤ x1.toInt ∧ x1.toInt ≤ 122)) {w_p1 : Bool} {ad_p1 : String} {F : List Ent} (mp1 : (p1, w_p1, ar ad_p1 .byte [(vi x1)]) ∈ F) : Con Z EL (⟨"java/lang/StringUTF16", "coderFromArrayLen", "([BI)B"⟩ : MethodName) jdk_52_method_15_code 2 (Option.some Jvm.ClassFile.FieldType.byte) (rmm 0 0 0 0) [(vr p1), (vi 1)] (F) (fun v D' => (v = some (vi 0) ∧ F = D')) := by
  refine Con.of (ls := #[rv p1, iv 1]) (by decide +kernel) rfl ?_
  show W Z EL _ "java/lang/StringUTF16" "coderFromArrayLen" _ _ _ _ _ _ _ _ _ _
  refine W.iloadN (pc := 0) d8_0 rfl ?_
  refine W.aloadN (pc := 1) d8_1 rfl rfl ?_
  refine W.alen (pc := 2) (1) d8_2 mp1 rfl ?_
  refine W.isubK (pc := 3) (0 : Int32) d8_3 (by decide) ?_
  refine W.bipush (pc := 4) (31) d8_4 (by decide) ?_
  refine W.iushrK (pc := 6) (0 : Int32) d8_6 (by decide) ?_
  refine W.i2bK (pc := 7) (0 : Int32) d8_7 (by decide) ?_
  exact W.ireturn (pc := 8) d8_8 rfl (Or.inr (Or.inr (Or.inl rfl))) (nw_byte (by decide)) (by decide) ⟨rfl, rfl⟩
theorem pd__BI_B : parseMethodDescriptor "([BI)B" = some ⟨[(.array .byte), .int], some .byte⟩ := by decide +kernel
theorem w32 {Z a0} (hw : HW a0 Z) : ((Jvm.Cond.methodLink "java/lang/String" (47 : Nat) ({ cls := "java/lang/StringUTF16", name := "coderFromArrayLen", desc := "([BI)B" } : Jvm.MethodName)) : Jvm.Cond).before a0 Z = true := hw _ (List.mem_of_getElem? (i := 32) rfl)
theorem w33 {Z a0} (hw : HW a0 Z) : ((Jvm.Cond.static ({ cls := "java/lang/StringUTF16", name := "coderFromArrayLen", desc := "([BI)B" } : Jvm.MethodName)) : Jvm.Cond).before a0 Z = true := hw _ (List.mem_of_getElem? (i := 33) rfl)
theorem w34 {Z a0} (hw : HW a0 Z) : ((Jvm.Cond.code ({ cls := "java/lang/StringUTF16", name := "coderFromArrayLen", desc := "([BI)B" } : Jvm.MethodName) jdk_52_method_15_code (2 : Nat) (Option.some Jvm.ClassFile.FieldType.byte)) : Jvm.Cond).before a0 Z = true := hw _ (List.mem_of_getElem? (i := 34) rfl)
theorem d4_48 : decode jdk_42_method_149_code 48 = .ok (.putfield 15, 3) := by decide +kernel
theorem pfB : parseFieldDescriptor "B" = some .byte := by decide
theorem w35 {Z a0} (hw : HW a0 Z) : ((Jvm.Cond.fieldLink "java/lang/String" (15 : Nat) "java/lang/String" "coder" "B") : Jvm.Cond).before a0 Z = true := hw _ (List.mem_of_getElem? (i := 35) rfl)
theorem d4_51 : decode jdk_42_method_149_code 51 = .ok (.aload_n 0, 1) := by decide +kernel
theorem d4_52 : decode jdk_42_method_149_code 52 = .ok (.aload 5, 2) := by decide +kernel
theorem d4_54 : decode jdk_42_method_149_code 54 = .ok (.putfield 9, 3) := by decide +kernel
theorem pf_B : parseFieldDescriptor "[B" = some (.array .byte) := by decide
theorem w37 {Z a0} (hw : HW a0 Z) : ((Jvm.Cond.fieldLink "java/lang/String" (9 : Nat) "java/lang/String" "value" "[B") : Jvm.Cond).before a0 Z = true := hw _ (List.mem_of_getElem? (i := 37) rfl)
theorem d4_57 : decode jdk_42_method_149_code 57 = .ok (.return_, 1) := by decide +kernel
theorem c5_init {Z a0} (hw : HW a0 Z) (hs : SF Z) {p1 p2 : Addr} {x1 : Int32} (hx1 : (45 ≤ x1.toInt ∧ x1.toInt ≤ 46) ∨ (48 ≤ x1.toInt ∧ x1.toInt ≤ 57) ∨ (65 ≤ x1.toInt ∧ x1.toInt ≤ 90) ∨ x1.toInt = 95 ∨ (97 ≤ x1.toInt ∧ x1.toInt ≤ 122)) {w_p2 : Bool} {ad_p2 : String} {F : List Ent} (mp2 : (p2, w_p2, ar ad_p2 .char [(vi x1)]) ∈ F) : Con Z EL (⟨"java/lang/String", "<init>", "([CIILjava/lang/Void;)V"⟩ : MethodName) jdk_42_method_149_code 6 (Option.none : Option Jvm.ClassFile.FieldType) (rmm 2 1 1 35) [(vr p1), (vr p2), (vi 0), (vi 1), .null] ((p1, true, oString .null (vi 0)) :: F) (fun v D' => (∃ a1 : Addr, v = none ∧ (a1, true, ar "[B" .byte [(vi x1)]) :: (p1, true, oString (vr a1) (vi 0)) :: F = D')) := by
  refine Con.of (ls := #[rv p1, rv p2, iv 0, iv 1, .val .null, uu]) (by decide +kernel) rfl ?_
  show W Z EL _ "java/lang/String" "<init>" _ _ _ _ _ _ _ _ _ _
  refine W.aloadN (pc := 0) d4_0 rfl rfl ?_
  refine W.initO (pc := 1) 0 d4_1 (w20 hw) (w21 hw) (w22 hw) rfl rfl (by decide) ?_
  refine W.iloadN (pc := 4) d4_4 rfl ?_
  refine W.ifY (pc := 5) 27 d4_5 (y_ne (by decide)) (by decide) ?_
  refine W.gets (pc := 27) d4_27 (w23 hw) Via.refl hs.1 ?_
  refine W.ifN (pc := 30) d4_30 (n_eq (by have := hs.2.1; have := q0; omega)) ?_
  refine W.aloadN (pc := 33) d4_33 rfl rfl ?_
  refine W.iloadN (pc := 34) d4_34 rfl ?_
  refine W.iloadN (pc := 35) d4_35 rfl ?_
  refine W.callS (pc := 36) (as := [(vr p2), (vi 0), (vi 1)]) 0 [] d4_36 (w24 hw) (w25 hw) (w26 hw) (w27 hw) (c6_compress hw hs (hx1 := hx1) (mp1 := (mS mp2))) (by decide) pd__CII__B rfl rfl rfl rfl (by decide) (fun v D' h => ?_)
  obtain ⟨a1, rfl, rfl⟩ := h
  show W _ _ _ _ _ _ _ _ _ _ _ _ 39 _ [(vr a1)]
  refine W.astore (pc := 39) (ls' := #[rv p1, rv p2, iv 0, iv 1, .val .null, rv a1]) d4_39 rfl rfl ?_
  refine W.aloadN (pc := 41) d4_41 rfl rfl ?_
  refine W.aload (pc := 42) 5 d4_42 rfl rfl ?_
  refine W.iloadN (pc := 44) d4_44 rfl ?_
  refine W.callS (pc := 45) (as := [(vr a1), (vi 1)]) 1 [(vr p1)] d4_45 (w32 hw) (w33 hw) (w26 hw) (w34 hw) (c8_coderFromArrayLen hw hs (hx1 := hx1) (mp1 := m0)) (by decide) pd__BI_B rfl rfl rfl rfl (by decide) (fun v D' h => ?_)
  obtain ⟨rfl, rfl⟩ := h
  show W _ _ _ _ _ _ _ _ _ _ _ _ 48 _ [(vi 0), (vr p1)]
  refine W.putf (pc := 48) (D' := (a1, true, ar "[B" .byte [(vi x1)]) :: (p1, true, oString .null (vi 0)) :: F) 1 1 d4_48 (w35 hw) Via.refl rfl rfl (Or.inr ⟨(w36 hw), rfl, rfl⟩) (w10 hw) pfB (nw_byte (by decide)) (ft_byte (by decide)) rfl ?_
  refine W.aloadN (pc := 51) d4_51 rfl rfl ?_
  refine W.aload (pc := 52) 5 d4_52 rfl rfl ?_
  refine W.putf (pc := 54) (D' := (a1, true, ar "[B" .byte [(vi x1)]) :: (p1, true, oString (vr a1) (vi 0)) :: F) 1 0 d4_54 (w37 hw) Via.refl rfl rfl (Or.inr ⟨(w38 hw), rfl, rfl⟩) (w10 hw) pf_B rfl rfl rfl ?_
  exact W.return_ (pc := 57) d4_57 rfl (by decide) ⟨a1, rfl, rfl⟩
theorem pd__CIILjava_lang_Void__V : parseMethodDescriptor "([CIILjava/lang/Void;)V" = some ⟨[(.array .char), .int, .int, (.object "java/lang/Void")], none⟩ := by decide +kernel
theorem w16 {Z a0} (hw : HW a0 Z) : ((Jvm.Cond.methodLink "java/lang/String" (27 : Nat) ({ cls := "java/lang/String", name := "<init>", desc := "([CIILjava/lang/Void;)V" } : Jvm.MethodName)) : Jvm.Cond).before a0 Z = true := hw _ (List.mem_of_getElem? (i := 16) rfl)
theorem w17 {Z a0} (hw : HW a0 Z) : ((Jvm.Cond.instanceMethod ({ cls := "java/lang/String", name := "<init>", desc := "([CIILjava/lang/Void;)V" } : Jvm.MethodName)) : Jvm.Cond).before a0 Z = true := hw _ (List.mem_of_getElem? (i := 17) rfl)
theorem w19 {Z a0} (hw : HW a0 Z) : ((Jvm.Cond.code ({ cls := "java/lang/String", name := "<init>", desc := "([CIILjava/lang/Void;)V" } : Jvm.MethodName) jdk_42_method_149_code (6 : Nat) (Option.none : Option Jvm.ClassFile.FieldType)) : Jvm.Cond).before a0 Z = true := hw _ (List.mem_of_getElem? (i := 19) rfl)
theorem d3_9 : decode jdk_42_method_3_code 9 = .ok (.return_, 1) := by decide +kernel
theorem c4_init {Z a0} (hw : HW a0 Z) (hs : SF Z) {p1 p2 : Addr} {x1 : Int32} (hx1 : (45 ≤ x1.toInt ∧ x1.toInt ≤ 46) ∨ (48 ≤ x1.toInt ∧ x1.toInt ≤ 57) ∨ (65 ≤ x1.toInt ∧ x1.toInt ≤ 90) ∨ x1.toInt = 95 ∨ (97 ≤ x1.toInt ∧ x1.toInt ≤ 122)) {w_p2 : Bool} {ad_p2 : String} {F : List Ent} (mp2 : (p2, w_p2, ar ad_p2 .char [(vi x1)]) ∈ F) : Con Z EL (⟨"java/lang/String", "<init>", "([C)V"⟩ : MethodName) jdk_42_method_3_code 2 (Option.none : Option Jvm.ClassFile.FieldType) (rmm 3 1 1 52) [(vr p1), (vr p2)] ((p1, true, oString .null (vi 0)) :: F) (fun v D' => (∃ a1 : Addr, v = none ∧ (a1, true, ar "[B" .byte [(vi x1)]) :: (p1, true, oString (vr a1) (vi 0)) :: F = D')) := by
  refine Con.of (ls := #[rv p1, rv p2]) (by decide +kernel) rfl ?_
  show W Z EL _ "java/lang/String" "<init>" _ _ _ _ _ _ _ _ _ _
  refine W.aloadN (pc := 0) d3_0 rfl rfl ?_
  refine W.aloadN (pc := 1) d3_1 rfl rfl ?_
  refine W.iconst (pc := 2) (0) d3_2 (by decide) ?_
  refine W.aloadN (pc := 3) d3_3 rfl rfl ?_
  refine W.alen (pc := 4) (1) d3_4 (mS mp2) rfl ?_
  refine W.aconstNull (pc := 5) d3_5 ?_
  refine W.callI (pc := 6) (as := [(vr p2), (vi 0), (vi 1), .null]) 0 [] d3_6 rfl (w16 hw) (w17 hw) (w11 hw) (w19 hw) (c5_init hw hs (hx1 := hx1) (mp2 := mp2)) (by decide) pd__CIILjava_lang_Void__V rfl rfl rfl rfl (by decide) (fun v D' h => ?_)
  obtain ⟨a1, rfl, rfl⟩ := h
  show W _ _ _ _ _ _ _ _ _ _ _ _ 9 _ []
  exact W.return_ (pc := 9) d3_9 rfl (by decide) ⟨a1, rfl, rfl⟩
theorem pd__C_V : parseMethodDescriptor "([C)V" = some ⟨[(.array .char)], none⟩ := by decide +kernel
theorem w13 {Z a0} (hw : HW a0 Z) : ((Jvm.Cond.methodLink "com/example/cunctator/cunctator/JobKeyEqualsPinLaw" (10 : Nat) ({ cls := "java/lang/String", name := "<init>", desc := "([C)V" } : Jvm.MethodName)) : Jvm.Cond).before a0 Z = true := hw _ (List.mem_of_getElem? (i := 13) rfl)
theorem w14 {Z a0} (hw : HW a0 Z) : ((Jvm.Cond.instanceMethod ({ cls := "java/lang/String", name := "<init>", desc := "([C)V" } : Jvm.MethodName)) : Jvm.Cond).before a0 Z = true := hw _ (List.mem_of_getElem? (i := 14) rfl)
theorem w15 {Z a0} (hw : HW a0 Z) : ((Jvm.Cond.code ({ cls := "java/lang/String", name := "<init>", desc := "([C)V" } : Jvm.MethodName) jdk_42_method_3_code (2 : Nat) (Option.none : Option Jvm.ClassFile.FieldType)) : Jvm.Cond).before a0 Z = true := hw _ (List.mem_of_getElem? (i := 15) rfl)
theorem d2_37 : decode method_3_code 37 = .ok (.areturn, 1) := by decide +kernel
theorem d2_4 : decode method_3_code 4 = .ok (.new 8, 3) := by decide +kernel
theorem d2_7 : decode method_3_code 7 = .ok (.dup, 1) := by decide +kernel
theorem d2_8 : decode method_3_code 8 = .ok (.iconst 2, 1) := by decide +kernel
theorem d2_9 : decode method_3_code 9 = .ok (.newarray .char, 2) := by decide +kernel
theorem ix2 : Idx (2 : Int32) 2 := by unfold Idx; decide
theorem d2_11 : decode method_3_code 11 = .ok (.dup, 1) := by decide +kernel
theorem d2_12 : decode method_3_code 12 = .ok (.iconst 0, 1) := by decide +kernel
theorem d2_13 : decode method_3_code 13 = .ok (.iload_n 0, 1) := by decide +kernel
theorem d2_14 : decode method_3_code 14 = .ok (.castore, 1) := by decide +kernel
theorem d2_15 : decode method_3_code 15 = .ok (.dup, 1) := by decide +kernel
theorem d2_16 : decode method_3_code 16 = .ok (.iconst 1, 1) := by decide +kernel
theorem d2_17 : decode method_3_code 17 = .ok (.iload_n 1, 1) := by decide +kernel
theorem d2_18 : decode method_3_code 18 = .ok (.castore, 1) := by decide +kernel
theorem d2_19 : decode method_3_code 19 = .ok (.invokespecial 10, 3) := by decide +kernel
theorem c12_compress {Z a0} (hw : HW a0 Z) (hs : SF Z) {p1 p2 : Addr} {x1 : Int32} (hx1 : (45 ≤ x1.toInt ∧ x1.toInt ≤ 46) ∨ (48 ≤ x1.toInt ∧ x1.toInt ≤ 57) ∨ (65 ≤ x1.toInt ∧ x1.toInt ≤ 90) ∨ x1.toInt = 95 ∨ (97 ≤ x1.toInt ∧ x1.toInt ≤ 122)) {x2 : Int32} (hx2 : (45 ≤ x2.toInt ∧ x2.toInt ≤ 46) ∨ (48 ≤ x2.toInt ∧ x2.toInt ≤ 57) ∨ (65 ≤ x2.toInt ∧ x2.toInt ≤ 90) ∨ x2.toInt = 95 ∨ (97 ≤ x2.toInt ∧ x2.toInt ≤ 122)) {ad_p2 : String} {w_p1 : Bool} {ad_p1 : String} {F : List Ent} (mp1 : (p1, w_p1, ar ad_p1 .char [(vi x1), (vi x2)]) ∈ F) : Con Z EL (⟨"java/lang/StringUTF16", "compress", "([CI[BII)I"⟩ : MethodName) jdk_52_method_21_code 7 (Option.some Jvm.ClassFile.FieldType.int) (rmm 0 0 0 0) [(vr p1), (vi 0), (vr p2), (vi 0), (vi 2)] ((p2, true, ar ad_p2 .byte [(vi 0), (vi 0)]) :: F) (fun v D' => (v = some (vi 2) ∧ (p2, true, ar ad_p2 .byte [(vi x1), (vi x2)]) :: F = D')) := by
  refine Con.of (ls := #[rv p1, iv 0, rv p2, iv 0, iv 2, uu, uu]) (by decide +kernel) rfl ?_
  show W Z EL _ "java/lang/StringUTF16" "compress" _ _ _ _ _ _ _ _ _ _
  refine W.iconst (pc := 0) (0) d7_0 (by decide) ?_
  refine W.istore (pc := 1) (ls' := #[rv p1, iv 0, rv p2, iv 0, iv 2, iv 0, uu]) d7_1 rfl ?_
  refine W.iload (pc := 3) d7_3 rfl ?_
  refine W.iload (pc := 5) d7_5 rfl ?_
  refine W.icmpN (pc := 7) d7_7 (n_ge (by decide)) ?_
  refine W.aloadN (pc := 10) d7_10 rfl rfl ?_
  refine W.iloadN (pc := 11) d7_11 rfl ?_
  refine W.caload (pc := 12) 0 d7_12 (mS mp1) ix0 rfl ?_
  refine W.istore (pc := 13) (ls' := #[rv p1, iv 0, rv p2, iv 0, iv 2, iv 0, iv x1]) d7_13 rfl ?_
  refine W.iload (pc := 15) d7_15 rfl ?_
  refine W.sipush (pc := 17) (255) d7_17 (by decide) ?_
  refine W.icmpY (pc := 20) 26 d7_20 (y_le (by have := q255; omega)) (by decide) ?_
  refine W.aloadN (pc := 26) d7_26 rfl rfl ?_
  refine W.iloadN (pc := 27) d7_27 rfl ?_
  refine W.iload (pc := 28) d7_28 rfl ?_
  refine W.i2bK (pc := 30) x1 d7_30 (z_i2b (by omega)) ?_
  refine W.bastore (pc := 31) (D' := (p2, true, ar ad_p2 .byte [(vi x1), (vi 0)]) :: F) 0 0 d7_31 rfl ix0 (Nat.le_of_ble_eq_true rfl) (z_narB (by omega)) rfl ?_
  refine W.iincK (pc := 32) (ls' := #[rv p1, iv 1, rv p2, iv 0, iv 2, iv 0, iv x1]) (1) (1 : Int32) d7_32 (by decide) rfl (by decide) rfl ?_
  refine W.iincK (pc := 35) (ls' := #[rv p1, iv 1, rv p2, iv 1, iv 2, iv 0, iv x1]) (1) (1 : Int32) d7_35 (by decide) rfl (by decide) rfl ?_
  refine W.iincK (pc := 38) (ls' := #[rv p1, iv 1, rv p2, iv 1, iv 2, iv 1, iv x1]) (1) (1 : Int32) d7_38 (by decide) rfl (by decide) rfl ?_
  refine W.goto (pc := 41) 3 d7_41 (by decide) ?_
  refine W.iload (pc := 3) d7_3 rfl ?_
  refine W.iload (pc := 5) d7_5 rfl ?_
  refine W.icmpN (pc := 7) d7_7 (n_ge (by decide)) ?_
  refine W.aloadN (pc := 10) d7_10 rfl rfl ?_
  refine W.iloadN (pc := 11) d7_11 rfl ?_
  refine W.caload (pc := 12) 1 d7_12 (mS mp1) ix1 rfl ?_
  refine W.istore (pc := 13) (ls' := #[rv p1, iv 1, rv p2, iv 1, iv 2, iv 1, iv x2]) d7_13 rfl ?_
  refine W.iload (pc := 15) d7_15 rfl ?_
  refine W.sipush (pc := 17) (255) d7_17 (by decide) ?_
  refine W.icmpY (pc := 20) 26 d7_20 (y_le (by have := q255; omega)) (by decide) ?_
  refine W.aloadN (pc := 26) d7_26 rfl rfl ?_
  refine W.iloadN (pc := 27) d7_27 rfl ?_
  refine W.iload (pc := 28) d7_28 rfl ?_
  refine W.i2bK (pc := 30) x2 d7_30 (z_i2b (by omega)) ?_
  refine W.bastore (pc := 31) (D' := (p2, true, ar ad_p2 .byte [(vi x1), (vi x2)]) :: F) 0 1 d7_31 rfl ix1 (Nat.le_of_ble_eq_true rfl) (z_narB (by omega)) rfl ?_
  refine W.iincK (pc := 32) (ls' := #[rv p1, iv 2, rv p2, iv 1, iv 2, iv 1, iv x2]) (1) (2 : Int32) d7_32 (by decide) rfl (by decide) rfl ?_
  refine W.iincK (pc := 35) (ls' := #[rv p1, iv 2, rv p2, iv 2, iv 2, iv 1, iv x2]) (1) (2 : Int32) d7_35 (by decide) rfl (by decide) rfl ?_
  refine W.iincK (pc := 38) (ls' := #[rv p1, iv 2, rv p2, iv 2, iv 2, iv 2, iv x2]) (1) (2 : Int32) d7_38 (by decide) rfl (by decide) rfl ?_
  refine W.goto (pc := 41) 3 d7_41 (by decide) ?_
  refine W.iload (pc := 3) d7_3 rfl ?_
  refine W.iload (pc := 5) d7_5 rfl ?_
  refine W.icmpY (pc := 7) 44 d7_7 (y_ge (by decide)) (by decide) ?_
  refine W.iload (pc := 44) d7_44 rfl ?_
  exact W.ireturn (pc := 46) d7_46 rfl (Or.inl rfl) rfl (by decide) ⟨rfl, rfl⟩
theorem c11_compress {Z a0} (hw : HW a0 Z) (hs : SF Z) {p1 : Addr} {x1 : Int32} (hx1 : (45 ≤ x1.toInt ∧ x1.toInt ≤ 46) ∨ (48 ≤ x1.toInt ∧ x1.toInt ≤ 57) ∨ (65 ≤ x1.toInt ∧ x1.toInt ≤ 90) ∨ x1.toInt = 95 ∨ (97 ≤ x1.toInt ∧ x1.toInt ≤ 122)) {x2 : Int32} (hx2 : (45 ≤ x2.toInt ∧ x2.toInt ≤ 46) ∨ (48 ≤ x2.toInt ∧ x2.toInt ≤ 57) ∨ (65 ≤ x2.toInt ∧ x2.toInt ≤ 90) ∨ x2.toInt = 95 ∨ (97 ≤ x2.toInt ∧ x2.toInt ≤ 122)) {w_p1 : Bool} {ad_p1 : String} {F : List Ent} (mp1 : (p1, w_p1, ar ad_p1 .char [(vi x1), (vi x2)]) ∈ F) : Con Z EL (⟨"java/lang/StringUTF16", "compress", "([CII)[B"⟩ : MethodName) jdk_52_method_16_code 6 (Option.some (Jvm.ClassFile.FieldType.array Jvm.ClassFile.FieldType.byte)) (rmm 1 1 2 18) [(vr p1), (vi 0), (vi 2)] (F) (fun v D' => (∃ a1 : Addr, v = some (vr a1) ∧ (a1, true, ar "[B" .byte [(vi x1), (vi x2)]) :: F = D')) := by
  refine Con.of (ls := #[rv p1, iv 0, iv 2, uu, uu, uu]) (by decide +kernel) rfl ?_
  show W Z EL _ "java/lang/StringUTF16" "compress" _ _ _ _ _ _ _ _ _ _
  refine W.iloadN (pc := 0) d6_0 rfl ?_
  refine W.newarr (pc := 1) 2 (ad := "[B") (ty := .byte) d6_1 rfl (w28 hw) ix2 rfl (by decide) (by decide) (fun a1 => ?_)
  show W _ _ _ _ _ _ _ _ _ _ _ _ 3 _ [(vr a1)]
  refine W.astoreN (pc := 3) (ls' := #[rv p1, iv 0, iv 2, rv a1, uu, uu]) d6_3 rfl rfl ?_
  refine W.aloadN (pc := 4) d6_4 rfl rfl ?_
  refine W.iloadN (pc := 5) d6_5 rfl ?_
  refine W.aloadN (pc := 6) d6_6 rfl rfl ?_
  refine W.iconst (pc := 7) (0) d6_7 (by decide) ?_
  refine W.iloadN (pc := 8) d6_8 rfl ?_
  refine W.callS (pc := 9) (as := [(vr p1), (vi 0), (vr a1), (vi 0), (vi 2)]) 0 [] d6_9 (w29 hw) (w30 hw) (w26 hw) (w31 hw) (c12_compress hw hs (hx1 := hx1) (hx2 := hx2) (mp1 := mp1)) (by decide) pd__CI_BII_I rfl rfl rfl rfl (by decide) (fun v D' h => ?_)
  obtain ⟨rfl, rfl⟩ := h
  show W _ _ _ _ _ _ _ _ _ _ _ _ 12 _ [(vi 2)]
  refine W.istore (pc := 12) (ls' := #[rv p1, iv 0, iv 2, rv a1, iv 2, uu]) d6_12 rfl ?_
  refine W.iload (pc := 14) d6_14 rfl ?_
  refine W.iloadN (pc := 16) d6_16 rfl ?_
  refine W.icmpY (pc := 17) 57 d6_17 (y_eq (by decide)) (by decide) ?_
  refine W.aloadN (pc := 57) d6_57 rfl rfl ?_
  exact W.areturn (pc := 58) d6_58 rfl rfl rfl (by decide) ⟨a1, rfl, rfl⟩
theorem c13_coderFromArrayLen {Z a0} (hw : HW a0 Z) (hs : SF Z) {p1 : Addr} {x1 : Int32} (hx1 : (45 ≤ x1.toInt ∧ x1.toInt ≤ 46) ∨ (48 ≤ x1.toInt ∧ x1.toInt ≤ 57) ∨ (65 ≤ x1.toInt ∧ x1.toInt ≤ 90) ∨ x1.toInt = 95 ∨ (97 ≤ x1.toInt ∧ x1.toInt ≤ 122)) {x2 : Int32} (hx2 : (45 ≤ x2.toInt ∧ x2.toInt ≤ 46) ∨ (48 ≤ x2.toInt ∧ x2.toInt ≤ 57) ∨ (65 ≤ x2.toInt ∧ x2.toInt ≤ 90) ∨ x2.toInt = 95 ∨ (97 ≤ x2.toInt ∧ x2.toInt ≤ 122)) {w_p1 : Bool} {ad_p1 : String} {F : List Ent} (mp1 : (p1, w_p1, ar ad_p1 .byte [(vi x1), (vi x2)]) ∈ F) : Con Z EL (⟨"java/lang/StringUTF16", "coderFromArrayLen", "([BI)B"⟩ : MethodName) jdk_52_method_15_code 2 (Option.some Jvm.ClassFile.FieldType.byte) (rmm 0 0 0 0) [(vr p1), (vi 2)] (F) (fun v D' => (v = some (vi 0) ∧ F = D')) := by
  refine Con.of (ls := #[rv p1, iv 2]) (by decide +kernel) rfl ?_
  show W Z EL _ "java/lang/StringUTF16" "coderFromArrayLen" _ _ _ _ _ _ _ _ _ _
  refine W.iloadN (pc := 0) d8_0 rfl ?_
  refine W.aloadN (pc := 1) d8_1 rfl rfl ?_
  refine W.alen (pc := 2) (2) d8_2 mp1 rfl ?_
  refine W.isubK (pc := 3) (0 : Int32) d8_3 (by decide) ?_
  refine W.bipush (pc := 4) (31) d8_4 (by decide) ?_
  refine W.iushrK (pc := 6) (0 : Int32) d8_6 (by decide) ?_
  refine W.i2bK (pc := 7) (0 : Int32) d8_7 (by decide) ?_
  exact W.ireturn (pc := 8) d8_8 rfl (Or.inr (Or.inr (Or.inl rfl))) (nw_byte (by decide)) (by decide) ⟨rfl, rfl⟩
theorem c10_init {Z a0} (hw : HW a0 Z) (hs : SF Z) {p1 p2 : Addr} {x1 : Int32} (hx1 : (45 ≤ x1.toInt ∧ x1.toInt ≤ 46) ∨ (48 ≤ x1.toInt ∧ x1.toInt ≤ 57) ∨ (65 ≤ x1.toInt ∧ x1.toInt ≤ 90) ∨ x1.toInt = 95 ∨ (97 ≤ x1.toInt ∧ x1.toInt ≤ 122)) {x2 : Int32} (hx2 : (45 ≤ x2.toInt ∧ x2.toInt ≤ 46) ∨ (48 ≤ x2.toInt ∧ x2.toInt ≤ 57) ∨ (65 ≤ x2.toInt ∧ x2.toInt ≤ 90) ∨ x2.toInt = 95 ∨ (97 ≤ x2.toInt ∧ x2.toInt ≤ 122)) {w_p2 : Bool} {ad_p2 : String} {F : List Ent} (mp2 : (p2, w_p2, ar ad_p2 .char [(vi x1), (vi x2)]) ∈ F) : Con Z EL (⟨"java/lang/String", "<init>", "([CIILjava/lang/Void;)V"⟩ : MethodName) jdk_42_method_149_code 6 (Option.none : Option Jvm.ClassFile.FieldType) (rmm 2 1 2 35) [(vr p1), (vr p2), (vi 0), (vi 2), .null] ((p1, true, oString .null (vi 0)) :: F) (fun v D' => (∃ a1 : Addr, v = none ∧ (a1, true, ar "[B" .byte [(vi x1), (vi x2)]) :: (p1, true, oString (vr a1) (vi 0)) :: F = D')) := by
  refine Con.of (ls := #[rv p1, rv p2, iv 0, iv 2, .val .null, uu]) (by decide +kernel) rfl ?_
  show W Z EL _ "java/lang/String" "<init>" _ _ _ _ _ _ _ _ _ _
  refine W.aloadN (pc := 0) d4_0 rfl rfl ?_
  refine W.initO (pc := 1) 0 d4_1 (w20 hw) (w21 hw) (w22 hw) rfl rfl (by decide) ?_
  refine W.iloadN (pc := 4) d4_4 rfl ?_
  refine W.ifY (pc := 5) 27 d4_5 (y_ne (by decide)) (by decide) ?_
  refine W.gets (pc := 27) d4_27 (w23 hw) Via.refl hs.1 ?_
  refine W.ifN (pc := 30) d4_30 (n_eq (by have := hs.2.1; have := q0; omega)) ?_
  refine W.aloadN (pc := 33) d4_33 rfl rfl ?_
  refine W.iloadN (pc := 34) d4_34 rfl ?_
  refine W.iloadN (pc := 35) d4_35 rfl ?_
  refine W.callS (pc := 36) (as := [(vr p2), (vi 0), (vi 2)]) 0 [] d4_36 (w24 hw) (w25 hw) (w26 hw) (w27 hw) (c11_compress hw hs (hx1 := hx1) (hx2 := hx2) (mp1 := (mS mp2))) (by decide) pd__CII__B rfl rfl rfl rfl (by decide) (fun v D' h => ?_)
  obtain ⟨a1, rfl, rfl⟩ := h
  show W _ _ _ _ _ _ _ _ _ _ _ _ 39 _ [(vr a1)]
  refine W.astore (pc := 39) (ls' := #[rv p1, rv p2, iv 0, iv 2, .val .null, rv a1]) d4_39 rfl rfl ?_
  refine W.aloadN (pc := 41) d4_41 rfl rfl ?_
  refine W.aload (pc := 42) 5 d4_42 rfl rfl ?_
  refine W.iloadN (pc := 44) d4_44 rfl ?_
  refine W.callS (pc := 45) (as := [(vr a1), (vi 2)]) 1 [(vr p1)] d4_45 (w32 hw) (w33 hw) (w26 hw) (w34 hw) (c13_coderFromArrayLen hw hs (hx1 := hx1) (hx2 := hx2) (mp1 := m0)) (by decide) pd__BI_B rfl rfl rfl rfl (by decide) (fun v D' h => ?_)
  obtain ⟨rfl, rfl⟩ := h
  show W _ _ _ _ _ _ _ _ _ _ _ _ 48 _ [(vi 0), (vr p1)]
  refine W.putf (pc := 48) (D' := (a1, true, ar "[B" .byte [(vi x1), (vi x2)]) :: (p1, true, oString .null (vi 0)) :: F) 1 1 d4_48 (w35 hw) Via.refl rfl rfl (Or.inr ⟨(w36 hw), rfl, rfl⟩) (w10 hw) pfB (nw_byte (by decide)) (ft_byte (by decide)) rfl ?_
  refine W.aloadN (pc := 51) d4_51 rfl rfl ?_
  refine W.aload (pc := 52) 5 d4_52 rfl rfl ?_
  refine W.putf (pc := 54) (D' := (a1, true, ar "[B" .byte [(vi x1), (vi x2)]) :: (p1, true, oString (vr a1) (vi 0)) :: F) 1 0 d4_54 (w37 hw) Via.refl rfl rfl (Or.inr ⟨(w38 hw), rfl, rfl⟩) (w10 hw) pf_B rfl rfl rfl ?_
  exact W.return_ (pc := 57) d4_57 rfl (by decide) ⟨a1, rfl, rfl⟩
theorem c9_init {Z a0} (hw : HW a0 Z) (hs : SF Z) {p1 p2 : Addr} {x1 : Int32} (hx1 : (45 ≤ x1.toInt ∧ x1.toInt ≤ 46) ∨ (48 ≤ x1.toInt ∧ x1.toInt ≤ 57) ∨ (65 ≤ x1.toInt ∧ x1.toInt ≤ 90) ∨ x1.toInt = 95 ∨ (97 ≤ x1.toInt ∧ x1.toInt ≤ 122)) {x2 : Int32} (hx2 : (45 ≤ x2.toInt ∧ x2.toInt ≤ 46) ∨ (48 ≤ x2.toInt ∧ x2.toInt ≤ 57) ∨ (65 ≤ x2.toInt ∧ x2.toInt ≤ 90) ∨ x2.toInt = 95 ∨ (97 ≤ x2.toInt ∧ x2.toInt ≤ 122)) {w_p2 : Bool} {ad_p2 : String} {F : List Ent} (mp2 : (p2, w_p2, ar ad_p2 .char [(vi x1), (vi x2)]) ∈ F) : Con Z EL (⟨"java/lang/String", "<init>", "([C)V"⟩ : MethodName) jdk_42_method_3_code 2 (Option.none : Option Jvm.ClassFile.FieldType) (rmm 3 1 2 52) [(vr p1), (vr p2)] ((p1, true, oString .null (vi 0)) :: F) (fun v D' => (∃ a1 : Addr, v = none ∧ (a1, true, ar "[B" .byte [(vi x1), (vi x2)]) :: (p1, true, oString (vr a1) (vi 0)) :: F = D')) := by
  refine Con.of (ls := #[rv p1, rv p2]) (by decide +kernel) rfl ?_
  show W Z EL _ "java/lang/String" "<init>" _ _ _ _ _ _ _ _ _ _
  refine W.aloadN (pc := 0) d3_0 rfl rfl ?_
  refine W.aloadN (pc := 1) d3_1 rfl rfl ?_
  refine W.iconst (pc := 2) (0) d3_2 (by decide) ?_
  refine W.aloadN (pc := 3) d3_3 rfl rfl ?_
  refine W.alen (pc := 4) (2) d3_4 (mS mp2) rfl ?_
  refine W.aconstNull (pc := 5) d3_5 ?_
  refine W.callI (pc := 6) (as := [(vr p2), (vi 0), (vi 2), .null]) 0 [] d3_6 rfl (w16 hw) (w17 hw) (w11 hw) (w19 hw) (c10_init hw hs (hx1 := hx1) (hx2 := hx2) (mp2 := mp2)) (by decide) pd__CIILjava_lang_Void__V rfl rfl rfl rfl (by decide) (fun v D' h => ?_)
  obtain ⟨a1, rfl, rfl⟩ := h
  show W _ _ _ _ _ _ _ _ _ _ _ _ 9 _ []
  exact W.return_ (pc := 9) d3_9 rfl (by decide) ⟨a1, rfl, rfl⟩
theorem d2_22 : decode method_3_code 22 = .ok (.areturn, 1) := by decide +kernel
theorem c3_make {Z a0} (hw : HW a0 Z) (hs : SF Z) {x1 : Int32} (hx1 : (45 ≤ x1.toInt ∧ x1.toInt ≤ 46) ∨ (48 ≤ x1.toInt ∧ x1.toInt ≤ 57) ∨ (65 ≤ x1.toInt ∧ x1.toInt ≤ 90) ∨ x1.toInt = 95 ∨ (97 ≤ x1.toInt ∧ x1.toInt ≤ 122)) {x2 : Int32} (hx2 : (45 ≤ x2.toInt ∧ x2.toInt ≤ 46) ∨ (48 ≤ x2.toInt ∧ x2.toInt ≤ 57) ∨ (65 ≤ x2.toInt ∧ x2.toInt ≤ 90) ∨ x2.toInt = 95 ∨ (97 ≤ x2.toInt ∧ x2.toInt ≤ 122)) {x3 : Int32} (hx3 : 0 ≤ x3.toInt ∧ x3.toInt ≤ 1) {F : List Ent} : Con Z EL (⟨"com/example/cunctator/cunctator/JobKeyEqualsPinLaw", "make", "(CCZ)Ljava/lang/String;"⟩ : MethodName) method_3_code 3 (Option.some (Jvm.ClassFile.FieldType.object "java/lang/String")) (rmm 4 3 8 66) [(vi x1), (vi x2), (vi x3)] (F) (fun v D' => (∃ a1 a3 : Addr, Cd .eq x3 (0 : Int32) ∧ v = some (vr a1) ∧ (a3, true, ar "[B" .byte [(vi x1)]) :: (a1, true, oString (vr a3) (vi 0)) :: F = D') ∨ (∃ a4 a6 : Addr, ¬ Cd .eq x3 (0 : Int32) ∧ v = some (vr a4) ∧ (a6, true, ar "[B" .byte [(vi x1), (vi x2)]) :: (a4, true, oString (vr a6) (vi 0)) :: F = D')) := by
  refine Con.of (ls := #[iv x1, iv x2, iv x3]) (by decide +kernel) rfl ?_
  show W Z EL _ "com/example/cunctator/cunctator/JobKeyEqualsPinLaw" "make" _ _ _ _ _ _ _ _ _ _
  refine W.iloadN (pc := 0) d2_0 rfl ?_
  refine W.if (pc := 1) 23 d2_1 (by decide) (fun h1 => ?_) (fun h1 => ?_)
  ·
   have ih1 := t_eq h1
   refine W.new (pc := 23) d2_23 (w9 hw) (w10 hw) (w11 hw) (laString hw) (by decide) (by decide) (fun a1 => ?_)
   show W _ _ _ _ _ _ _ _ _ _ _ _ 26 _ [(vr a1)]
   refine W.dup (pc := 26) d2_26 rfl ?_
   refine W.iconst (pc := 27) (1) d2_27 (by decide) ?_
   refine W.newarr (pc := 28) 1 (ad := "[C") (ty := .char) d2_28 rfl (w12 hw) ix1 rfl (by decide) (by decide) (fun a2 => ?_)
   show W _ _ _ _ _ _ _ _ _ _ _ _ 30 _ [(vr a2), (vr a1), (vr a1)]
   refine W.dup (pc := 30) d2_30 rfl ?_
   refine W.iconst (pc := 31) (0) d2_31 (by decide) ?_
   refine W.iloadN (pc := 32) d2_32 rfl ?_
   refine W.castore (pc := 33) (D' := (a2, true, ar "[C" .char [(vi x1)]) :: (a1, true, oString .null (vi 0)) :: F) 0 0 d2_33 rfl ix0 (Nat.le_of_ble_eq_true rfl) (z_narC (by have := q0; omega)) rfl ?_
   refine W.front 1 (D' := (a1, true, oString .null (vi 0)) :: (a2, true, ar "[C" .char [(vi x1)]) :: F) rfl rfl ?_
   refine W.callI (pc := 34) (as := [(vr a2)]) 1 [(vr a1)] d2_34 rfl (w13 hw) (w14 hw) (w11 hw) (w15 hw) (c4_init hw hs (hx1 := hx1) (mp2 := m0)) (by decide) pd__C_V rfl rfl rfl rfl (by decide) (fun v D' h => ?_)
   obtain ⟨a3, rfl, rfl⟩ := h
   show W _ _ _ _ _ _ _ _ _ _ _ _ 37 _ [(vr a1)]
   refine W.dropAt 2 (D' := (a3, true, ar "[B" .byte [(vi x1)]) :: (a1, true, oString (vr a3) (vi 0)) :: F) rfl ?_
   exact W.areturn (pc := 37) d2_37 rfl rfl rfl (by decide) (Or.inl ⟨a1, a3, h1, rfl, rfl⟩)
  ·
   have ih1 := f_eq h1
   refine W.new (pc := 4) d2_4 (w9 hw) (w10 hw) (w11 hw) (laString hw) (by decide) (by decide) (fun a4 => ?_)
   show W _ _ _ _ _ _ _ _ _ _ _ _ 7 _ [(vr a4)]
   refine W.dup (pc := 7) d2_7 rfl ?_
   refine W.iconst (pc := 8) (2) d2_8 (by decide) ?_
   refine W.newarr (pc := 9) 2 (ad := "[C") (ty := .char) d2_9 rfl (w12 hw) ix2 rfl (by decide) (by decide) (fun a5 => ?_)
   show W _ _ _ _ _ _ _ _ _ _ _ _ 11 _ [(vr a5), (vr a4), (vr a4)]
   refine W.dup (pc := 11) d2_11 rfl ?_
   refine W.iconst (pc := 12) (0) d2_12 (by decide) ?_
   refine W.iloadN (pc := 13) d2_13 rfl ?_
   refine W.castore (pc := 14) (D' := (a5, true, ar "[C" .char [(vi x1), (vi 0)]) :: (a4, true, oString .null (vi 0)) :: F) 0 0 d2_14 rfl ix0 (Nat.le_of_ble_eq_true rfl) (z_narC (by have := q0; omega)) rfl ?_
   refine W.dup (pc := 15) d2_15 rfl ?_
   refine W.iconst (pc := 16) (1) d2_16 (by decide) ?_
   refine W.iloadN (pc := 17) d2_17 rfl ?_
   refine W.castore (pc := 18) (D' := (a5, true, ar "[C" .char [(vi x1), (vi x2)]) :: (a4, true, oString .null (vi 0)) :: F) 0 1 d2_18 rfl ix1 (Nat.le_of_ble_eq_true rfl) (z_narC (by have := q0; omega)) rfl ?_
   refine W.front 1 (D' := (a4, true, oString .null (vi 0)) :: (a5, true, ar "[C" .char [(vi x1), (vi x2)]) :: F) rfl rfl ?_
   refine W.callI (pc := 19) (as := [(vr a5)]) 1 [(vr a4)] d2_19 rfl (w13 hw) (w14 hw) (w11 hw) (w15 hw) (c9_init hw hs (hx1 := hx1) (hx2 := hx2) (mp2 := m0)) (by decide) pd__C_V rfl rfl rfl rfl (by decide) (fun v D' h => ?_)
   obtain ⟨a6, rfl, rfl⟩ := h
   show W _ _ _ _ _ _ _ _ _ _ _ _ 22 _ [(vr a4)]
   refine W.dropAt 2 (D' := (a6, true, ar "[B" .byte [(vi x1), (vi x2)]) :: (a4, true, oString (vr a6) (vi 0)) :: F) rfl ?_
   exact W.areturn (pc := 22) d2_22 rfl rfl rfl (by decide) (Or.inr ⟨a4, a6, h1, rfl, rfl⟩)
theorem pd_CCZ_Ljava_lang_String_ : parseMethodDescriptor "(CCZ)Ljava/lang/String;" = some ⟨[.char, .char, .boolean], some (.object "java/lang/String")⟩ := by decide +kernel
theorem w6 {Z a0} (hw : HW a0 Z) : ((Jvm.Cond.methodLink "com/example/cunctator/cunctator/JobKeyEqualsPinLaw" (20 : Nat) ({ cls := "com/example/cunctator/cunctator/JobKeyEqualsPinLaw", name := "make", desc := "(CCZ)Ljava/lang/String;" } : Jvm.MethodName)) : Jvm.Cond).before a0 Z = true := hw _ (List.mem_of_getElem? (i := 6) rfl)
theorem w7 {Z a0} (hw : HW a0 Z) : ((Jvm.Cond.static ({ cls := "com/example/cunctator/cunctator/JobKeyEqualsPinLaw", name := "make", desc := "(CCZ)Ljava/lang/String;" } : Jvm.MethodName)) : Jvm.Cond).before a0 Z = true := hw _ (List.mem_of_getElem? (i := 7) rfl)
theorem w8 {Z a0} (hw : HW a0 Z) : ((Jvm.Cond.code ({ cls := "com/example/cunctator/cunctator/JobKeyEqualsPinLaw", name := "make", desc := "(CCZ)Ljava/lang/String;" } : Jvm.MethodName) method_3_code (3 : Nat) (Option.some (Jvm.ClassFile.FieldType.object "java/lang/String"))) : Jvm.Cond).before a0 Z = true := hw _ (List.mem_of_getElem? (i := 8) rfl)
theorem c18_compress {Z a0} (hw : HW a0 Z) (hs : SF Z) {p1 p2 : Addr} {x1 : Int32} (hx1 : (45 ≤ x1.toInt ∧ x1.toInt ≤ 46) ∨ (48 ≤ x1.toInt ∧ x1.toInt ≤ 58) ∨ (65 ≤ x1.toInt ∧ x1.toInt ≤ 90) ∨ x1.toInt = 95 ∨ (97 ≤ x1.toInt ∧ x1.toInt ≤ 122)) {ad_p2 : String} {w_p1 : Bool} {ad_p1 : String} {F : List Ent} (mp1 : (p1, w_p1, ar ad_p1 .char [(vi x1)]) ∈ F) : Con Z EL (⟨"java/lang/StringUTF16", "compress", "([CI[BII)I"⟩ : MethodName) jdk_52_method_21_code 7 (Option.some Jvm.ClassFile.FieldType.int) (rmm 0 0 0 0) [(vr p1), (vi 0), (vr p2), (vi 0), (vi 1)] ((p2, true, ar ad_p2 .byte [(vi 0)]) :: F) (fun v D' => (v = some (vi 1) ∧ (p2, true, ar ad_p2 .byte [(vi x1)]) :: F = D')) := by
  refine Con.of (ls := #[rv p1, iv 0, rv p2, iv 0, iv 1, uu, uu]) (by decide +kernel) rfl ?_
  show W Z EL _ "java/lang/StringUTF16" "compress" _ _ _ _ _ _ _ _ _ _
  refine W.iconst (pc := 0) (0) d7_0 (by decide) ?_
  refine W.istore (pc := 1) (ls' := #[rv p1, iv 0, rv p2, iv 0, iv 1, iv 0, uu]) d7_1 rfl ?_
  refine W.iload (pc := 3) d7_3 rfl ?_
  refine W.iload (pc := 5) d7_5 rfl ?_
  refine W.icmpN (pc := 7) d7_7 (n_ge (by decide)) ?_
  refine W.aloadN (pc := 10) d7_10 rfl rfl ?_
  refine W.iloadN (pc := 11) d7_11 rfl ?_
  refine W.caload (pc := 12) 0 d7_12 (mS mp1) ix0 rfl ?_
  refine W.istore (pc := 13) (ls' := #[rv p1, iv 0, rv p2, iv 0, iv 1, iv 0, iv x1]) d7_13 rfl ?_
  refine W.iload (pc := 15) d7_15 rfl ?_
  refine W.sipush (pc := 17) (255) d7_17 (by decide) ?_
  refine W.icmpY (pc := 20) 26 d7_20 (y_le (by have := q255; omega)) (by decide) ?_
  refine W.aloadN (pc := 26) d7_26 rfl rfl ?_
  refine W.iloadN (pc := 27) d7_27 rfl ?_
  refine W.iload (pc := 28) d7_28 rfl ?_
  refine W.i2bK (pc := 30) x1 d7_30 (z_i2b (by omega)) ?_
  refine W.bastore (pc := 31) (D' := (p2, true, ar ad_p2 .byte [(vi x1)]) :: F) 0 0 d7_31 rfl ix0 (Nat.le_of_ble_eq_true rfl) (z_narB (by omega)) rfl ?_
  refine W.iincK (pc := 32) (ls' := #[rv p1, iv 1, rv p2, iv 0, iv 1, iv 0, iv x1]) (1) (1 : Int32) d7_32 (by decide) rfl (by decide) rfl ?_
  refine W.iincK (pc := 35) (ls' := #[rv p1, iv 1, rv p2, iv 1, iv 1, iv 0, iv x1]) (1) (1 : Int32) d7_35 (by decide) rfl (by decide) rfl ?_
  refine W.iincK (pc := 38) (ls' := #[rv p1, iv 1, rv p2, iv 1, iv 1, iv 1, iv x1]) (1) (1 : Int32) d7_38 (by decide) rfl (by decide) rfl ?_
  refine W.goto (pc := 41) 3 d7_41 (by decide) ?_
  refine W.iload (pc := 3) d7_3 rfl ?_
  refine W.iload (pc := 5) d7_5 rfl ?_
  refine W.icmpY (pc := 7) 44 d7_7 (y_ge (by decide)) (by decide) ?_
  refine W.iload (pc := 44) d7_44 rfl ?_
  exact W.ireturn (pc := 46) d7_46 rfl (Or.inl rfl) rfl (by decide) ⟨rfl, rfl⟩
theorem c17_compress {Z a0} (hw : HW a0 Z) (hs : SF Z) {p1 : Addr} {x1 : Int32} (hx1 : (45 ≤ x1.toInt ∧ x1.toInt ≤ 46) ∨ (48 ≤ x1.toInt ∧ x1.toInt ≤ 58) ∨ (65 ≤ x1.toInt ∧ x1.toInt ≤ 90) ∨ x1.toInt = 95 ∨ (97 ≤ x1.toInt ∧ x1.toInt ≤ 122)) {w_p1 : Bool} {ad_p1 : String} {F : List Ent} (mp1 : (p1, w_p1, ar ad_p1 .char [(vi x1)]) ∈ F) : Con Z EL (⟨"java/lang/StringUTF16", "compress", "([CII)[B"⟩ : MethodName) jdk_52_method_16_code 6 (Option.some (Jvm.ClassFile.FieldType.array Jvm.ClassFile.FieldType.byte)) (rmm 1 1 1 18) [(vr p1), (vi 0), (vi 1)] (F) (fun v D' => (∃ a1 : Addr, v = some (vr a1) ∧ (a1, true, ar "[B" .byte [(vi x1)]) :: F = D')) := by
  refine Con.of (ls := #[rv p1, iv 0, iv 1, uu, uu, uu]) (by decide +kernel) rfl ?_
  show W Z EL _ "java/lang/StringUTF16" "compress" _ _ _ _ _ _ _ _ _ _
  refine W.iloadN (pc := 0) d6_0 rfl ?_
  refine W.newarr (pc := 1) 1 (ad := "[B") (ty := .byte) d6_1 rfl (w28 hw) ix1 rfl (by decide) (by decide) (fun a1 => ?_)
  show W _ _ _ _ _ _ _ _ _ _ _ _ 3 _ [(vr a1)]
  refine W.astoreN (pc := 3) (ls' := #[rv p1, iv 0, iv 1, rv a1, uu, uu]) d6_3 rfl rfl ?_
  refine W.aloadN (pc := 4) d6_4 rfl rfl ?_
  refine W.iloadN (pc := 5) d6_5 rfl ?_
  refine W.aloadN (pc := 6) d6_6 rfl rfl ?_
  refine W.iconst (pc := 7) (0) d6_7 (by decide) ?_
  refine W.iloadN (pc := 8) d6_8 rfl ?_
  refine W.callS (pc := 9) (as := [(vr p1), (vi 0), (vr a1), (vi 0), (vi 1)]) 0 [] d6_9 (w29 hw) (w30 hw) (w26 hw) (w31 hw) (c18_compress hw hs (hx1 := hx1) (mp1 := mp1)) (by decide) pd__CI_BII_I rfl rfl rfl rfl (by decide) (fun v D' h => ?_)
  obtain ⟨rfl, rfl⟩ := h
  show W _ _ _ _ _ _ _ _ _ _ _ _ 12 _ [(vi 1)]
  refine W.istore (pc := 12) (ls' := #[rv p1, iv 0, iv 1, rv a1, iv 1, uu]) d6_12 rfl ?_
  refine W.iload (pc := 14) d6_14 rfl ?_
  refine W.iloadN (pc := 16) d6_16 rfl ?_
  refine W.icmpY (pc := 17) 57 d6_17 (y_eq (by decide)) (by decide) ?_
  refine W.aloadN (pc := 57) d6_57 rfl rfl ?_
  exact W.areturn (pc := 58) d6_58 rfl rfl rfl (by decide) ⟨a1, rfl, rfl⟩
theorem c19_coderFromArrayLen {Z a0} (hw : HW a0 Z) (hs : SF Z) {p1 : Addr} {x1 : Int32} (hx1 : (45 ≤ x1.toInt ∧ x1.toInt ≤ 46) ∨ (48 ≤ x1.toInt ∧ x1.toInt ≤ 58) ∨ (65 ≤ x1.toInt ∧ x1.toInt ≤ 90) ∨ x1.toInt = 95 ∨ (97 ≤ x1.toInt ∧ x1.toInt ≤ 122)) {w_p1 : Bool} {ad_p1 : String} {F : List Ent} (mp1 : (p1, w_p1, ar ad_p1 .byte [(vi x1)]) ∈ F) : Con Z EL (⟨"java/lang/StringUTF16", "coderFromArrayLen", "([BI)B"⟩ : MethodName) jdk_52_method_15_code 2 (Option.some Jvm.ClassFile.FieldType.byte) (rmm 0 0 0 0) [(vr p1), (vi 1)] (F) (fun v D' => (v = some (vi 0) ∧ F = D')) := by
  refine Con.of (ls := #[rv p1, iv 1]) (by decide +kernel) rfl ?_
  show W Z EL _ "java/lang/StringUTF16" "coderFromArrayLen" _ _ _ _ _ _ _ _ _ _
  refine W.iloadN (pc := 0) d8_0 rfl ?_
  refine W.aloadN (pc := 1) d8_1 rfl rfl ?_
  refine W.alen (pc := 2) (1) d8_2 mp1 rfl ?_
  refine W.isubK (pc := 3) (0 : Int32) d8_3 (by decide) ?_
  refine W.bipush (pc := 4) (31) d8_4 (by decide) ?_
  refine W.iushrK (pc := 6) (0 : Int32) d8_6 (by decide) ?_
  refine W.i2bK (pc := 7) (0 : Int32) d8_7 (by decide) ?_
  exact W.ireturn (pc := 8) d8_8 rfl (Or.inr (Or.inr (Or.inl rfl))) (nw_byte (by decide)) (by decide) ⟨rfl, rfl⟩
theorem c16_init {Z a0} (hw : HW a0 Z) (hs : SF Z) {p1 p2 : Addr} {x1 : Int32} (hx1 : (45 ≤ x1.toInt ∧ x1.toInt ≤ 46) ∨ (48 ≤ x1.toInt ∧ x1.toInt ≤ 58) ∨ (65 ≤ x1.toInt ∧ x1.toInt ≤ 90) ∨ x1.toInt = 95 ∨ (97 ≤ x1.toInt ∧ x1.toInt ≤ 122)) {w_p2 : Bool} {ad_p2 : String} {F : List Ent} (mp2 : (p2, w_p2, ar ad_p2 .char [(vi x1)]) ∈ F) : Con Z EL (⟨"java/lang/String", "<init>", "([CIILjava/lang/Void;)V"⟩ : MethodName) jdk_42_method_149_code 6 (Option.none : Option Jvm.ClassFile.FieldType) (rmm 2 1 1 35) [(vr p1), (vr p2), (vi 0), (vi 1), .null] ((p1, true, oString .null (vi 0)) :: F) (fun v D' => (∃ a1 : Addr, v = none ∧ (a1, true, ar "[B" .byte [(vi x1)]) :: (p1, true, oString (vr a1) (vi 0)) :: F = D')) := by
  refine Con.of (ls := #[rv p1, rv p2, iv 0, iv 1, .val .null, uu]) (by decide +kernel) rfl ?_
  show W Z EL _ "java/lang/String" "<init>" _ _ _ _ _ _ _ _ _ _
  refine W.aloadN (pc := 0) d4_0 rfl rfl ?_
  refine W.initO (pc := 1) 0 d4_1 (w20 hw) (w21 hw) (w22 hw) rfl rfl (by decide) ?_
  refine W.iloadN (pc := 4) d4_4 rfl ?_
  refine W.ifY (pc := 5) 27 d4_5 (y_ne (by decide)) (by decide) ?_
  refine W.gets (pc := 27) d4_27 (w23 hw) Via.refl hs.1 ?_
  refine W.ifN (pc := 30) d4_30 (n_eq (by have := hs.2.1; have := q0; omega)) ?_
  refine W.aloadN (pc := 33) d4_33 rfl rfl ?_
  refine W.iloadN (pc := 34) d4_34 rfl ?_
  refine W.iloadN (pc := 35) d4_35 rfl ?_
  refine W.callS (pc := 36) (as := [(vr p2), (vi 0), (vi 1)]) 0 [] d4_36 (w24 hw) (w25 hw) (w26 hw) (w27 hw) (c17_compress hw hs (hx1 := hx1) (mp1 := (mS mp2))) (by decide) pd__CII__B rfl rfl rfl rfl (by decide) (fun v D' h => ?_)
  obtain ⟨a1, rfl, rfl⟩ := h
  show W _ _ _ _ _ _ _ _ _ _ _ _ 39 _ [(vr a1)]
  refine W.astore (pc := 39) (ls' := #[rv p1, rv p2, iv 0, iv 1, .val .null, rv a1]) d4_39 rfl rfl ?_
  refine W.aloadN (pc := 41) d4_41 rfl rfl ?_
  refine W.aload (pc := 42) 5 d4_42 rfl rfl ?_
  refine W.iloadN (pc := 44) d4_44 rfl ?_
  refine W.callS (pc := 45) (as := [(vr a1), (vi 1)]) 1 [(vr p1)] d4_45 (w32 hw) (w33 hw) (w26 hw) (w34 hw) (c19_coderFromArrayLen hw hs (hx1 := hx1) (mp1 := m0)) (by decide) pd__BI_B rfl rfl rfl rfl (by decide) (fun v D' h => ?_)
  obtain ⟨rfl, rfl⟩ := h
  show W _ _ _ _ _ _ _ _ _ _ _ _ 48 _ [(vi 0), (vr p1)]
  refine W.putf (pc := 48) (D' := (a1, true, ar "[B" .byte [(vi x1)]) :: (p1, true, oString .null (vi 0)) :: F) 1 1 d4_48 (w35 hw) Via.refl rfl rfl (Or.inr ⟨(w36 hw), rfl, rfl⟩) (w10 hw) pfB (nw_byte (by decide)) (ft_byte (by decide)) rfl ?_
  refine W.aloadN (pc := 51) d4_51 rfl rfl ?_
  refine W.aload (pc := 52) 5 d4_52 rfl rfl ?_
  refine W.putf (pc := 54) (D' := (a1, true, ar "[B" .byte [(vi x1)]) :: (p1, true, oString (vr a1) (vi 0)) :: F) 1 0 d4_54 (w37 hw) Via.refl rfl rfl (Or.inr ⟨(w38 hw), rfl, rfl⟩) (w10 hw) pf_B rfl rfl rfl ?_
  exact W.return_ (pc := 57) d4_57 rfl (by decide) ⟨a1, rfl, rfl⟩
theorem c15_init {Z a0} (hw : HW a0 Z) (hs : SF Z) {p1 p2 : Addr} {x1 : Int32} (hx1 : (45 ≤ x1.toInt ∧ x1.toInt ≤ 46) ∨ (48 ≤ x1.toInt ∧ x1.toInt ≤ 58) ∨ (65 ≤ x1.toInt ∧ x1.toInt ≤ 90) ∨ x1.toInt = 95 ∨ (97 ≤ x1.toInt ∧ x1.toInt ≤ 122)) {w_p2 : Bool} {ad_p2 : String} {F : List Ent} (mp2 : (p2, w_p2, ar ad_p2 .char [(vi x1)]) ∈ F) : Con Z EL (⟨"java/lang/String", "<init>", "([C)V"⟩ : MethodName) jdk_42_method_3_code 2 (Option.none : Option Jvm.ClassFile.FieldType) (rmm 3 1 1 52) [(vr p1), (vr p2)] ((p1, true, oString .null (vi 0)) :: F) (fun v D' => (∃ a1 : Addr, v = none ∧ (a1, true, ar "[B" .byte [(vi x1)]) :: (p1, true, oString (vr a1) (vi 0)) :: F = D')) := by
  refine Con.of (ls := #[rv p1, rv p2]) (by decide +kernel) rfl ?_
  show W Z EL _ "java/lang/String" "<init>" _ _ _ _ _ _ _ _ _ _
  refine W.aloadN (pc := 0) d3_0 rfl rfl ?_
  refine W.aloadN (pc := 1) d3_1 rfl rfl ?_
  refine W.iconst (pc := 2) (0) d3_2 (by decide) ?_
  refine W.aloadN (pc := 3) d3_3 rfl rfl ?_
  refine W.alen (pc := 4) (1) d3_4 (mS mp2) rfl ?_
  refine W.aconstNull (pc := 5) d3_5 ?_
  refine W.callI (pc := 6) (as := [(vr p2), (vi 0), (vi 1), .null]) 0 [] d3_6 rfl (w16 hw) (w17 hw) (w11 hw) (w19 hw) (c16_init hw hs (hx1 := hx1) (mp2 := mp2)) (by decide) pd__CIILjava_lang_Void__V rfl rfl rfl rfl (by decide) (fun v D' h => ?_)
  obtain ⟨a1, rfl, rfl⟩ := h
  show W _ _ _ _ _ _ _ _ _ _ _ _ 9 _ []
  exact W.return_ (pc := 9) d3_9 rfl (by decide) ⟨a1, rfl, rfl⟩
theorem c23_compress {Z a0} (hw : HW a0 Z) (hs : SF Z) {p1 p2 : Addr} {x1 : Int32} (hx1 : (45 ≤ x1.toInt ∧ x1.toInt ≤ 46) ∨ (48 ≤ x1.toInt ∧ x1.toInt ≤ 58) ∨ (65 ≤ x1.toInt ∧ x1.toInt ≤ 90) ∨ x1.toInt = 95 ∨ (97 ≤ x1.toInt ∧ x1.toInt ≤ 122)) {x2 : Int32} (hx2 : (45 ≤ x2.toInt ∧ x2.toInt ≤ 46) ∨ (48 ≤ x2.toInt ∧ x2.toInt ≤ 58) ∨ (65 ≤ x2.toInt ∧ x2.toInt ≤ 90) ∨ x2.toInt = 95 ∨ (97 ≤ x2.toInt ∧ x2.toInt ≤ 122)) {ad_p2 : String} {w_p1 : Bool} {ad_p1 : String} {F : List Ent} (mp1 : (p1, w_p1, ar ad_p1 .char [(vi x1), (vi x2)]) ∈ F) : Con Z EL (⟨"java/lang/StringUTF16", "compress", "([CI[BII)I"⟩ : MethodName) jdk_52_method_21_code 7 (Option.some Jvm.ClassFile.FieldType.int) (rmm 0 0 0 0) [(vr p1), (vi 0), (vr p2), (vi 0), (vi 2)] ((p2, true, ar ad_p2 .byte [(vi 0), (vi 0)]) :: F) (fun v D' => (v = some (vi 2) ∧ (p2, true, ar ad_p2 .byte [(vi x1), (vi x2)]) :: F = D')) := by
  refine Con.of (ls := #[rv p1, iv 0, rv p2, iv 0, iv 2, uu, uu]) (by decide +kernel) rfl ?_
  show W Z EL _ "java/lang/StringUTF16" "compress" _ _ _ _ _ _ _ _ _ _
  refine W.iconst (pc := 0) (0) d7_0 (by decide) ?_
  refine W.istore (pc := 1) (ls' := #[rv p1, iv 0, rv p2, iv 0, iv 2, iv 0, uu]) d7_1 rfl ?_
  refine W.iload (pc := 3) d7_3 rfl ?_
  refine W.iload (pc := 5) d7_5 rfl ?_
  refine W.icmpN (pc := 7) d7_7 (n_ge (by decide)) ?_
  refine W.aloadN (pc := 10) d7_10 rfl rfl ?_
  refine W.iloadN (pc := 11) d7_11 rfl ?_
  refine W.caload (pc := 12) 0 d7_12 (mS mp1) ix0 rfl ?_
  refine W.istore (pc := 13) (ls' := #[rv p1, iv 0, rv p2, iv 0, iv 2, iv 0, iv x1]) d7_13 rfl ?_
  refine W.iload (pc := 15) d7_15 rfl ?_
  refine W.sipush (pc := 17) (255) d7_17 (by decide) ?_
  refine W.icmpY (pc := 20) 26 d7_20 (y_le (by have := q255; omega)) (by decide) ?_
  refine W.aloadN (pc := 26) d7_26 rfl rfl ?_
  refine W.iloadN (pc := 27) d7_27 rfl ?_
  refine W.iload (pc := 28) d7_28 rfl ?_
  refine W.i2bK (pc := 30) x1 d7_30 (z_i2b (by omega)) ?_
  refine W.bastore (pc := 31) (D' := (p2, true, ar ad_p2 .byte [(vi x1), (vi 0)]) :: F) 0 0 d7_31 rfl ix0 (Nat.le_of_ble_eq_true rfl) (z_narB (by omega)) rfl ?_
  refine W.iincK (pc := 32) (ls' := #[rv p1, iv 1, rv p2, iv 0, iv 2, iv 0, iv x1]) (1) (1 : Int32) d7_32 (by decide) rfl (by decide) rfl ?_
  refine W.iincK (pc := 35) (ls' := #[rv p1, iv 1, rv p2, iv 1, iv 2, iv 0, iv x1]) (1) (1 : Int32) d7_35 (by decide) rfl (by decide) rfl ?_
  refine W.iincK (pc := 38) (ls' := #[rv p1, iv 1, rv p2, iv 1, iv 2, iv 1, iv x1]) (1) (1 : Int32) d7_38 (by decide) rfl (by decide) rfl ?_
  refine W.goto (pc := 41) 3 d7_41 (by decide) ?_
  refine W.iload (pc := 3) d7_3 rfl ?_
  refine W.iload (pc := 5) d7_5 rfl ?_
  refine W.icmpN (pc := 7) d7_7 (n_ge (by decide)) ?_
  refine W.aloadN (pc := 10) d7_10 rfl rfl ?_
  refine W.iloadN (pc := 11) d7_11 rfl ?_
  refine W.caload (pc := 12) 1 d7_12 (mS mp1) ix1 rfl ?_
  refine W.istore (pc := 13) (ls' := #[rv p1, iv 1, rv p2, iv 1, iv 2, iv 1, iv x2]) d7_13 rfl ?_
  refine W.iload (pc := 15) d7_15 rfl ?_
  refine W.sipush (pc := 17) (255) d7_17 (by decide) ?_
  refine W.icmpY (pc := 20) 26 d7_20 (y_le (by have := q255; omega)) (by decide) ?_
  refine W.aloadN (pc := 26) d7_26 rfl rfl ?_
  refine W.iloadN (pc := 27) d7_27 rfl ?_
  refine W.iload (pc := 28) d7_28 rfl ?_
  refine W.i2bK (pc := 30) x2 d7_30 (z_i2b (by omega)) ?_
  refine W.bastore (pc := 31) (D' := (p2, true, ar ad_p2 .byte [(vi x1), (vi x2)]) :: F) 0 1 d7_31 rfl ix1 (Nat.le_of_ble_eq_true rfl) (z_narB (by omega)) rfl ?_
  refine W.iincK (pc := 32) (ls' := #[rv p1, iv 2, rv p2, iv 1, iv 2, iv 1, iv x2]) (1) (2 : Int32) d7_32 (by decide) rfl (by decide) rfl ?_
  refine W.iincK (pc := 35) (ls' := #[rv p1, iv 2, rv p2, iv 2, iv 2, iv 1, iv x2]) (1) (2 : Int32) d7_35 (by decide) rfl (by decide) rfl ?_
  refine W.iincK (pc := 38) (ls' := #[rv p1, iv 2, rv p2, iv 2, iv 2, iv 2, iv x2]) (1) (2 : Int32) d7_38 (by decide) rfl (by decide) rfl ?_
  refine W.goto (pc := 41) 3 d7_41 (by decide) ?_
  refine W.iload (pc := 3) d7_3 rfl ?_
  refine W.iload (pc := 5) d7_5 rfl ?_
  refine W.icmpY (pc := 7) 44 d7_7 (y_ge (by decide)) (by decide) ?_
  refine W.iload (pc := 44) d7_44 rfl ?_
  exact W.ireturn (pc := 46) d7_46 rfl (Or.inl rfl) rfl (by decide) ⟨rfl, rfl⟩
theorem c22_compress {Z a0} (hw : HW a0 Z) (hs : SF Z) {p1 : Addr} {x1 : Int32} (hx1 : (45 ≤ x1.toInt ∧ x1.toInt ≤ 46) ∨ (48 ≤ x1.toInt ∧ x1.toInt ≤ 58) ∨ (65 ≤ x1.toInt ∧ x1.toInt ≤ 90) ∨ x1.toInt = 95 ∨ (97 ≤ x1.toInt ∧ x1.toInt ≤ 122)) {x2 : Int32} (hx2 : (45 ≤ x2.toInt ∧ x2.toInt ≤ 46) ∨ (48 ≤ x2.toInt ∧ x2.toInt ≤ 58) ∨ (65 ≤ x2.toInt ∧ x2.toInt ≤ 90) ∨ x2.toInt = 95 ∨ (97 ≤ x2.toInt ∧ x2.toInt ≤ 122)) {w_p1 : Bool} {ad_p1 : String} {F : List Ent} (mp1 : (p1, w_p1, ar ad_p1 .char [(vi x1), (vi x2)]) ∈ F) : Con Z EL (⟨"java/lang/StringUTF16", "compress", "([CII)[B"⟩ : MethodName) jdk_52_method_16_code 6 (Option.some (Jvm.ClassFile.FieldType.array Jvm.ClassFile.FieldType.byte)) (rmm 1 1 2 18) [(vr p1), (vi 0), (vi 2)] (F) (fun v D' => (∃ a1 : Addr, v = some (vr a1) ∧ (a1, true, ar "[B" .byte [(vi x1), (vi x2)]) :: F = D')) := by
  refine Con.of (ls := #[rv p1, iv 0, iv 2, uu, uu, uu]) (by decide +kernel) rfl ?_
  show W Z EL _ "java/lang/StringUTF16" "compress" _ _ _ _ _ _ _ _ _ _
  refine W.iloadN (pc := 0) d6_0 rfl ?_
  refine W.newarr (pc := 1) 2 (ad := "[B") (ty := .byte) d6_1 rfl (w28 hw) ix2 rfl (by decide) (by decide) (fun a1 => ?_)
  show W _ _ _ _ _ _ _ _ _ _ _ _ 3 _ [(vr a1)]
  refine W.astoreN (pc := 3) (ls' := #[rv p1, iv 0, iv 2, rv a1, uu, uu]) d6_3 rfl rfl ?_
  refine W.aloadN (pc := 4) d6_4 rfl rfl ?_
  refine W.iloadN (pc := 5) d6_5 rfl ?_
  refine W.aloadN (pc := 6) d6_6 rfl rfl ?_
  refine W.iconst (pc := 7) (0) d6_7 (by decide) ?_
  refine W.iloadN (pc := 8) d6_8 rfl ?_
  refine W.callS (pc := 9) (as := [(vr p1), (vi 0), (vr a1), (vi 0), (vi 2)]) 0 [] d6_9 (w29 hw) (w30 hw) (w26 hw) (w31 hw) (c23_compress hw hs (hx1 := hx1) (hx2 := hx2) (mp1 := mp1)) (by decide) pd__CI_BII_I rfl rfl rfl rfl (by decide) (fun v D' h => ?_)
  obtain ⟨rfl, rfl⟩ := h
  show W _ _ _ _ _ _ _ _ _ _ _ _ 12 _ [(vi 2)]
  refine W.istore (pc := 12) (ls' := #[rv p1, iv 0, iv 2, rv a1, iv 2, uu]) d6_12 rfl ?_
  refine W.iload (pc := 14) d6_14 rfl ?_
  refine W.iloadN (pc := 16) d6_16 rfl ?_
  refine W.icmpY (pc := 17) 57 d6_17 (y_eq (by decide)) (by decide) ?_
  refine W.aloadN (pc := 57) d6_57 rfl rfl ?_
  exact W.areturn (pc := 58) d6_58 rfl rfl rfl (by decide) ⟨a1, rfl, rfl⟩
theorem c24_coderFromArrayLen {Z a0} (hw : HW a0 Z) (hs : SF Z) {p1 : Addr} {x1 : Int32} (hx1 : (45 ≤ x1.toInt ∧ x1.toInt ≤ 46) ∨ (48 ≤ x1.toInt ∧ x1.toInt ≤ 58) ∨ (65 ≤ x1.toInt ∧ x1.toInt ≤ 90) ∨ x1.toInt = 95 ∨ (97 ≤ x1.toInt ∧ x1.toInt ≤ 122)) {x2 : Int32} (hx2 : (45 ≤ x2.toInt ∧ x2.toInt ≤ 46) ∨ (48 ≤ x2.toInt ∧ x2.toInt ≤ 58) ∨ (65 ≤ x2.toInt ∧ x2.toInt ≤ 90) ∨ x2.toInt = 95 ∨ (97 ≤ x2.toInt ∧ x2.toInt ≤ 122)) {w_p1 : Bool} {ad_p1 : String} {F : List Ent} (mp1 : (p1, w_p1, ar ad_p1 .byte [(vi x1), (vi x2)]) ∈ F) : Con Z EL (⟨"java/lang/StringUTF16", "coderFromArrayLen", "([BI)B"⟩ : MethodName) jdk_52_method_15_code 2 (Option.some Jvm.ClassFile.FieldType.byte) (rmm 0 0 0 0) [(vr p1), (vi 2)] (F) (fun v D' => (v = some (vi 0) ∧ F = D')) := by
  refine Con.of (ls := #[rv p1, iv 2]) (by decide +kernel) rfl ?_
  show W Z EL _ "java/lang/StringUTF16" "coderFromArrayLen" _ _ _ _ _ _ _ _ _ _
  refine W.iloadN (pc := 0) d8_0 rfl ?_
  refine W.aloadN (pc := 1) d8_1 rfl rfl ?_
  refine W.alen (pc := 2) (2) d8_2 mp1 rfl ?_
  refine W.isubK (pc := 3) (0 : Int32) d8_3 (by decide) ?_
  refine W.bipush (pc := 4) (31) d8_4 (by decide) ?_
  refine W.iushrK (pc := 6) (0 : Int32) d8_6 (by decide) ?_
  refine W.i2bK (pc := 7) (0 : Int32) d8_7 (by decide) ?_
  exact W.ireturn (pc := 8) d8_8 rfl (Or.inr (Or.inr (Or.inl rfl))) (nw_byte (by decide)) (by decide) ⟨rfl, rfl⟩
theorem c21_init {Z a0} (hw : HW a0 Z) (hs : SF Z) {p1 p2 : Addr} {x1 : Int32} (hx1 : (45 ≤ x1.toInt ∧ x1.toInt ≤ 46) ∨ (48 ≤ x1.toInt ∧ x1.toInt ≤ 58) ∨ (65 ≤ x1.toInt ∧ x1.toInt ≤ 90) ∨ x1.toInt = 95 ∨ (97 ≤ x1.toInt ∧ x1.toInt ≤ 122)) {x2 : Int32} (hx2 : (45 ≤ x2.toInt ∧ x2.toInt ≤ 46) ∨ (48 ≤ x2.toInt ∧ x2.toInt ≤ 58) ∨ (65 ≤ x2.toInt ∧ x2.toInt ≤ 90) ∨ x2.toInt = 95 ∨ (97 ≤ x2.toInt ∧ x2.toInt ≤ 122)) {w_p2 : Bool} {ad_p2 : String} {F : List Ent} (mp2 : (p2, w_p2, ar ad_p2 .char [(vi x1), (vi x2)]) ∈ F) : Con Z EL (⟨"java/lang/String", "<init>", "([CIILjava/lang/Void;)V"⟩ : MethodName) jdk_42_method_149_code 6 (Option.none : Option Jvm.ClassFile.FieldType) (rmm 2 1 2 35) [(vr p1), (vr p2), (vi 0), (vi 2), .null] ((p1, true, oString .null (vi 0)) :: F) (fun v D' => (∃ a1 : Addr, v = none ∧ (a1, true, ar "[B" .byte [(vi x1), (vi x2)]) :: (p1, true, oString (vr a1) (vi 0)) :: F = D')) := by
  refine Con.of (ls := #[rv p1, rv p2, iv 0, iv 2, .val .null, uu]) (by decide +kernel) rfl ?_
  show W Z EL _ "java/lang/String" "<init>" _ _ _ _ _ _ _ _ _ _
  refine W.aloadN (pc := 0) d4_0 rfl rfl ?_
  refine W.initO (pc := 1) 0 d4_1 (w20 hw) (w21 hw) (w22 hw) rfl rfl (by decide) ?_
  refine W.iloadN (pc := 4) d4_4 rfl ?_
  refine W.ifY (pc := 5) 27 d4_5 (y_ne (by decide)) (by decide) ?_
  refine W.gets (pc := 27) d4_27 (w23 hw) Via.refl hs.1 ?_
  refine W.ifN (pc := 30) d4_30 (n_eq (by have := hs.2.1; have := q0; omega)) ?_
  refine W.aloadN (pc := 33) d4_33 rfl rfl ?_
  refine W.iloadN (pc := 34) d4_34 rfl ?_
  refine W.iloadN (pc := 35) d4_35 rfl ?_
  refine W.callS (pc := 36) (as := [(vr p2), (vi 0), (vi 2)]) 0 [] d4_36 (w24 hw) (w25 hw) (w26 hw) (w27 hw) (c22_compress hw hs (hx1 := hx1) (hx2 := hx2) (mp1 := (mS mp2))) (by decide) pd__CII__B rfl rfl rfl rfl (by decide) (fun v D' h => ?_)
  obtain ⟨a1, rfl, rfl⟩ := h
  show W _ _ _ _ _ _ _ _ _ _ _ _ 39 _ [(vr a1)]
  refine W.astore (pc := 39) (ls' := #[rv p1, rv p2, iv 0, iv 2, .val .null, rv a1]) d4_39 rfl rfl ?_
  refine W.aloadN (pc := 41) d4_41 rfl rfl ?_
  refine W.aload (pc := 42) 5 d4_42 rfl rfl ?_
  refine W.iloadN (pc := 44) d4_44 rfl ?_
  refine W.callS (pc := 45) (as := [(vr a1), (vi 2)]) 1 [(vr p1)] d4_45 (w32 hw) (w33 hw) (w26 hw) (w34 hw) (c24_coderFromArrayLen hw hs (hx1 := hx1) (hx2 := hx2) (mp1 := m0)) (by decide) pd__BI_B rfl rfl rfl rfl (by decide) (fun v D' h => ?_)
  obtain ⟨rfl, rfl⟩ := h
  show W _ _ _ _ _ _ _ _ _ _ _ _ 48 _ [(vi 0), (vr p1)]
  refine W.putf (pc := 48) (D' := (a1, true, ar "[B" .byte [(vi x1), (vi x2)]) :: (p1, true, oString .null (vi 0)) :: F) 1 1 d4_48 (w35 hw) Via.refl rfl rfl (Or.inr ⟨(w36 hw), rfl, rfl⟩) (w10 hw) pfB (nw_byte (by decide)) (ft_byte (by decide)) rfl ?_
  refine W.aloadN (pc := 51) d4_51 rfl rfl ?_
  refine W.aload (pc := 52) 5 d4_52 rfl rfl ?_
  refine W.putf (pc := 54) (D' := (a1, true, ar "[B" .byte [(vi x1), (vi x2)]) :: (p1, true, oString (vr a1) (vi 0)) :: F) 1 0 d4_54 (w37 hw) Via.refl rfl rfl (Or.inr ⟨(w38 hw), rfl, rfl⟩) (w10 hw) pf_B rfl rfl rfl ?_
  exact W.return_ (pc := 57) d4_57 rfl (by decide) ⟨a1, rfl, rfl⟩
theorem c20_init {Z a0} (hw : HW a0 Z) (hs : SF Z) {p1 p2 : Addr} {x1 : Int32} (hx1 : (45 ≤ x1.toInt ∧ x1.toInt ≤ 46) ∨ (48 ≤ x1.toInt ∧ x1.toInt ≤ 58) ∨ (65 ≤ x1.toInt ∧ x1.toInt ≤ 90) ∨ x1.toInt = 95 ∨ (97 ≤ x1.toInt ∧ x1.toInt ≤ 122)) {x2 : Int32} (hx2 : (45 ≤ x2.toInt ∧ x2.toInt ≤ 46) ∨ (48 ≤ x2.toInt ∧ x2.toInt ≤ 58) ∨ (65 ≤ x2.toInt ∧ x2.toInt ≤ 90) ∨ x2.toInt = 95 ∨ (97 ≤ x2.toInt ∧ x2.toInt ≤ 122)) {w_p2 : Bool} {ad_p2 : String} {F : List Ent} (mp2 : (p2, w_p2, ar ad_p2 .char [(vi x1), (vi x2)]) ∈ F) : Con Z EL (⟨"java/lang/String", "<init>", "([C)V"⟩ : MethodName) jdk_42_method_3_code 2 (Option.none : Option Jvm.ClassFile.FieldType) (rmm 3 1 2 52) [(vr p1), (vr p2)] ((p1, true, oString .null (vi 0)) :: F) (fun v D' => (∃ a1 : Addr, v = none ∧ (a1, true, ar "[B" .byte [(vi x1), (vi x2)]) :: (p1, true, oString (vr a1) (vi 0)) :: F = D')) := by
  refine Con.of (ls := #[rv p1, rv p2]) (by decide +kernel) rfl ?_
  show W Z EL _ "java/lang/String" "<init>" _ _ _ _ _ _ _ _ _ _
  refine W.aloadN (pc := 0) d3_0 rfl rfl ?_
  refine W.aloadN (pc := 1) d3_1 rfl rfl ?_
  refine W.iconst (pc := 2) (0) d3_2 (by decide) ?_
  refine W.aloadN (pc := 3) d3_3 rfl rfl ?_
  refine W.alen (pc := 4) (2) d3_4 (mS mp2) rfl ?_
  refine W.aconstNull (pc := 5) d3_5 ?_
  refine W.callI (pc := 6) (as := [(vr p2), (vi 0), (vi 2), .null]) 0 [] d3_6 rfl (w16 hw) (w17 hw) (w11 hw) (w19 hw) (c21_init hw hs (hx1 := hx1) (hx2 := hx2) (mp2 := mp2)) (by decide) pd__CIILjava_lang_Void__V rfl rfl rfl rfl (by decide) (fun v D' h => ?_)
  obtain ⟨a1, rfl, rfl⟩ := h
  show W _ _ _ _ _ _ _ _ _ _ _ _ 9 _ []
  exact W.return_ (pc := 9) d3_9 rfl (by decide) ⟨a1, rfl, rfl⟩
theorem c14_make {Z a0} (hw : HW a0 Z) (hs : SF Z) {x1 : Int32} (hx1 : (45 ≤ x1.toInt ∧ x1.toInt ≤ 46) ∨ (48 ≤ x1.toInt ∧ x1.toInt ≤ 58) ∨ (65 ≤ x1.toInt ∧ x1.toInt ≤ 90) ∨ x1.toInt = 95 ∨ (97 ≤ x1.toInt ∧ x1.toInt ≤ 122)) {x2 : Int32} (hx2 : (45 ≤ x2.toInt ∧ x2.toInt ≤ 46) ∨ (48 ≤ x2.toInt ∧ x2.toInt ≤ 58) ∨ (65 ≤ x2.toInt ∧ x2.toInt ≤ 90) ∨ x2.toInt = 95 ∨ (97 ≤ x2.toInt ∧ x2.toInt ≤ 122)) {x3 : Int32} (hx3 : 0 ≤ x3.toInt ∧ x3.toInt ≤ 1) {F : List Ent} : Con Z EL (⟨"com/example/cunctator/cunctator/JobKeyEqualsPinLaw", "make", "(CCZ)Ljava/lang/String;"⟩ : MethodName) method_3_code 3 (Option.some (Jvm.ClassFile.FieldType.object "java/lang/String")) (rmm 4 3 8 66) [(vi x1), (vi x2), (vi x3)] (F) (fun v D' => (∃ a1 a3 : Addr, Cd .eq x3 (0 : Int32) ∧ v = some (vr a1) ∧ (a3, true, ar "[B" .byte [(vi x1)]) :: (a1, true, oString (vr a3) (vi 0)) :: F = D') ∨ (∃ a4 a6 : Addr, ¬ Cd .eq x3 (0 : Int32) ∧ v = some (vr a4) ∧ (a6, true, ar "[B" .byte [(vi x1), (vi x2)]) :: (a4, true, oString (vr a6) (vi 0)) :: F = D')) := by
  refine Con.of (ls := #[iv x1, iv x2, iv x3]) (by decide +kernel) rfl ?_
  show W Z EL _ "com/example/cunctator/cunctator/JobKeyEqualsPinLaw" "make" _ _ _ _ _ _ _ _ _ _
  refine W.iloadN (pc := 0) d2_0 rfl ?_
  refine W.if (pc := 1) 23 d2_1 (by decide) (fun h1 => ?_) (fun h1 => ?_)
  ·
   have ih1 := t_eq h1
   refine W.new (pc := 23) d2_23 (w9 hw) (w10 hw) (w11 hw) (laString hw) (by decide) (by decide) (fun a1 => ?_)
   show W _ _ _ _ _ _ _ _ _ _ _ _ 26 _ [(vr a1)]
   refine W.dup (pc := 26) d2_26 rfl ?_
   refine W.iconst (pc := 27) (1) d2_27 (by decide) ?_
   refine W.newarr (pc := 28) 1 (ad := "[C") (ty := .char) d2_28 rfl (w12 hw) ix1 rfl (by decide) (by decide) (fun a2 => ?_)
   show W _ _ _ _ _ _ _ _ _ _ _ _ 30 _ [(vr a2), (vr a1), (vr a1)]
   refine W.dup (pc := 30) d2_30 rfl ?_
   refine W.iconst (pc := 31) (0) d2_31 (by decide) ?_
   refine W.iloadN (pc := 32) d2_32 rfl ?_
   refine W.castore (pc := 33) (D' := (a2, true, ar "[C" .char [(vi x1)]) :: (a1, true, oString .null (vi 0)) :: F) 0 0 d2_33 rfl ix0 (Nat.le_of_ble_eq_true rfl) (z_narC (by have := q0; omega)) rfl ?_
   refine W.front 1 (D' := (a1, true, oString .null (vi 0)) :: (a2, true, ar "[C" .char [(vi x1)]) :: F) rfl rfl ?_
   refine W.callI (pc := 34) (as := [(vr a2)]) 1 [(vr a1)] d2_34 rfl (w13 hw) (w14 hw) (w11 hw) (w15 hw) (c15_init hw hs (hx1 := hx1) (mp2 := m0)) (by decide) pd__C_V rfl rfl rfl rfl (by decide) (fun v D' h => ?_)
   obtain ⟨a3, rfl, rfl⟩ := h
   show W _ _ _ _ _ _ _ _ _ _ _ _ 37 _ [(vr a1)]
   refine W.dropAt 2 (D' := (a3, true, ar "[B" .byte [(vi x1)]) :: (a1, true, oString (vr a3) (vi 0)) :: F) rfl ?_
   exact W.areturn (pc := 37) d2_37 rfl rfl rfl (by decide) (Or.inl ⟨a1, a3, h1, rfl, rfl⟩)
  ·
   have ih1 := f_eq h1
   refine W.new (pc := 4) d2_4 (w9 hw) (w10 hw) (w11 hw) (laString hw) (by decide) (by decide) (fun a4 => ?_)
   show W _ _ _ _ _ _ _ _ _ _ _ _ 7 _ [(vr a4)]
   refine W.dup (pc := 7) d2_7 rfl ?_
   refine W.iconst (pc := 8) (2) d2_8 (by decide) ?_
   refine W.newarr (pc := 9) 2 (ad := "[C") (ty := .char) d2_9 rfl (w12 hw) ix2 rfl (by decide) (by decide) (fun a5 => ?_)
   show W _ _ _ _ _ _ _ _ _ _ _ _ 11 _ [(vr a5), (vr a4), (vr a4)]
   refine W.dup (pc := 11) d2_11 rfl ?_
   refine W.iconst (pc := 12) (0) d2_12 (by decide) ?_
   refine W.iloadN (pc := 13) d2_13 rfl ?_
   refine W.castore (pc := 14) (D' := (a5, true, ar "[C" .char [(vi x1), (vi 0)]) :: (a4, true, oString .null (vi 0)) :: F) 0 0 d2_14 rfl ix0 (Nat.le_of_ble_eq_true rfl) (z_narC (by have := q0; omega)) rfl ?_
   refine W.dup (pc := 15) d2_15 rfl ?_
   refine W.iconst (pc := 16) (1) d2_16 (by decide) ?_
   refine W.iloadN (pc := 17) d2_17 rfl ?_
   refine W.castore (pc := 18) (D' := (a5, true, ar "[C" .char [(vi x1), (vi x2)]) :: (a4, true, oString .null (vi 0)) :: F) 0 1 d2_18 rfl ix1 (Nat.le_of_ble_eq_true rfl) (z_narC (by have := q0; omega)) rfl ?_
   refine W.front 1 (D' := (a4, true, oString .null (vi 0)) :: (a5, true, ar "[C" .char [(vi x1), (vi x2)]) :: F) rfl rfl ?_
   refine W.callI (pc := 19) (as := [(vr a5)]) 1 [(vr a4)] d2_19 rfl (w13 hw) (w14 hw) (w11 hw) (w15 hw) (c20_init hw hs (hx1 := hx1) (hx2 := hx2) (mp2 := m0)) (by decide) pd__C_V rfl rfl rfl rfl (by decide) (fun v D' h => ?_)
   obtain ⟨a6, rfl, rfl⟩ := h
   show W _ _ _ _ _ _ _ _ _ _ _ _ 22 _ [(vr a4)]
   refine W.dropAt 2 (D' := (a6, true, ar "[B" .byte [(vi x1), (vi x2)]) :: (a4, true, oString (vr a6) (vi 0)) :: F) rfl ?_
   exact W.areturn (pc := 22) d2_22 rfl rfl rfl (by decide) (Or.inr ⟨a4, a6, h1, rfl, rfl⟩)
theorem w100 {Z a0} (hw : HW a0 Z) : ((Jvm.Cond.laysFinal "com/example/cunctator/cunctator/JobKey" "com/example/cunctator/cunctator/JobKey" "topic" "Ljava/lang/String;") : Jvm.Cond).before a0 Z = true := hw _ (List.mem_of_getElem? (i := 100) rfl)
theorem w107 {Z a0} (hw : HW a0 Z) : ((Jvm.Cond.laysFinal "com/example/cunctator/cunctator/JobKey" "com/example/cunctator/cunctator/JobKey" "id" "Ljava/lang/String;") : Jvm.Cond).before a0 Z = true := hw _ (List.mem_of_getElem? (i := 107) rfl)
theorem laJobKey {Z a0} (hw : HW a0 Z) : LaidAll Z a0 "com/example/cunctator/cunctator/JobKey" [("com/example/cunctator/cunctator/JobKey", "topic", "Ljava/lang/String;", .null), ("com/example/cunctator/cunctator/JobKey", "id", "Ljava/lang/String;", .null)] := ⟨⟨Or.inr (w100 hw), (.object "java/lang/String"), by decide, rfl⟩, ⟨⟨Or.inr (w107 hw), (.object "java/lang/String"), by decide, rfl⟩, trivial⟩⟩
theorem w39 {Z a0} (hw : HW a0 Z) : ((Jvm.Cond.classLink "com/example/cunctator/cunctator/JobKeyEqualsPinLaw" (24 : Nat) "com/example/cunctator/cunctator/JobKey") : Jvm.Cond).before a0 Z = true := hw _ (List.mem_of_getElem? (i := 39) rfl)
theorem w40 {Z a0} (hw : HW a0 Z) : ((Jvm.Cond.instantiable "com/example/cunctator/cunctator/JobKey" (2 : Nat)) : Jvm.Cond).before a0 Z = true := hw _ (List.mem_of_getElem? (i := 40) rfl)
theorem w41 {Z a0} (hw : HW a0 Z) : ((Jvm.Cond.initialized "com/example/cunctator/cunctator/JobKey") : Jvm.Cond).before a0 Z = true := hw _ (List.mem_of_getElem? (i := 41) rfl)
theorem d9_0 : decode prog_8_method_1_code 0 = .ok (.aload_n 0, 1) := by decide +kernel
theorem d9_1 : decode prog_8_method_1_code 1 = .ok (.invokespecial 1, 3) := by decide +kernel
theorem w45 {Z a0} (hw : HW a0 Z) : ((Jvm.Cond.methodLink "com/example/cunctator/cunctator/JobKey" (1 : Nat) ({ cls := "java/lang/Object", name := "<init>", desc := "()V" } : Jvm.MethodName)) : Jvm.Cond).before a0 Z = true := hw _ (List.mem_of_getElem? (i := 45) rfl)
theorem d9_4 : decode prog_8_method_1_code 4 = .ok (.aload_n 0, 1) := by decide +kernel
theorem d9_5 : decode prog_8_method_1_code 5 = .ok (.aload_n 1, 1) := by decide +kernel
theorem d9_6 : decode prog_8_method_1_code 6 = .ok (.invokestatic 7, 3) := by decide +kernel
theorem d10_0 : decode prog_8_method_2_code 0 = .ok (.getstatic 23, 3) := by decide +kernel
theorem w49 {Z a0} (hw : HW a0 Z) : ((Jvm.Cond.fieldLink "com/example/cunctator/cunctator/JobKey" (23 : Nat) "com/example/cunctator/cunctator/JobKey" "TOPIC_RULE" "Lcom/example/cunctator/cunctator/JobKey$NameRule;") : Jvm.Cond).before a0 Z = true := hw _ (List.mem_of_getElem? (i := 49) rfl)
theorem d10_3 : decode prog_8_method_2_code 3 = .ok (.aload_n 0, 1) := by decide +kernel
theorem d10_4 : decode prog_8_method_2_code 4 = .ok (.invokevirtual 27, 3) := by decide +kernel
theorem d11_0 : decode prog_9_method_2_code 0 = .ok (.aload_n 1, 1) := by decide +kernel
theorem d11_1 : decode prog_9_method_2_code 1 = .ok (.ifnonnull 10, 3) := by decide +kernel
theorem d11_11 : decode prog_9_method_2_code 11 = .ok (.aload_n 1, 1) := by decide +kernel
theorem d11_12 : decode prog_9_method_2_code 12 = .ok (.invokevirtual 44, 3) := by decide +kernel
theorem d12_0 : decode jdk_42_method_55_code 0 = .ok (.aload_n 0, 1) := by decide +kernel
theorem d12_1 : decode jdk_42_method_55_code 1 = .ok (.getfield 9, 3) := by decide +kernel
theorem d12_4 : decode jdk_42_method_55_code 4 = .ok (.arraylength, 1) := by decide +kernel
theorem d12_5 : decode jdk_42_method_55_code 5 = .ok (.ifCond .ne 7, 3) := by decide +kernel
theorem d12_12 : decode jdk_42_method_55_code 12 = .ok (.iconst 0, 1) := by decide +kernel
theorem d12_13 : decode jdk_42_method_55_code 13 = .ok (.ireturn, 1) := by decide +kernel
theorem c28_isEmpty {Z a0} (hw : HW a0 Z) (hs : SF Z) {p1 p2 : Addr} {x1 : Int32} (hx1 : (45 ≤ x1.toInt ∧ x1.toInt ≤ 46) ∨ (48 ≤ x1.toInt ∧ x1.toInt ≤ 57) ∨ (65 ≤ x1.toInt ∧ x1.toInt ≤ 90) ∨ x1.toInt = 95 ∨ (97 ≤ x1.toInt ∧ x1.toInt ≤ 122)) {w_p1 : Bool} {w_p2 : Bool} {ad_p2 : String} {F : List Ent} (mp1 : (p1, w_p1, oString (vr p2) (vi 0)) ∈ F) (mp2 : (p2, w_p2, ar ad_p2 .byte [(vi x1)]) ∈ F) : Con Z EL (⟨"java/lang/String", "isEmpty", "()Z"⟩ : MethodName) jdk_42_method_55_code 1 (Option.some Jvm.ClassFile.FieldType.boolean) (rmm 0 0 0 0) [(vr p1)] (F) (fun v D' => (v = some (vi 0) ∧ F = D')) := by
  refine Con.of (ls := #[rv p1]) (by decide +kernel) rfl ?_
  show W Z EL _ "java/lang/String" "isEmpty" _ _ _ _ _ _ _ _ _ _
  refine W.aloadN (pc := 0) d12_0 rfl rfl ?_
  refine W.getf (pc := 1) d12_1 (w37 hw) Via.refl mp1 m0 ?_
  refine W.alen (pc := 4) (1) d12_4 mp2 rfl ?_
  refine W.ifY (pc := 5) 12 d12_5 (y_ne (by decide)) (by decide) ?_
  refine W.iconst (pc := 12) (0) d12_12 (by decide) ?_
  exact W.ireturn (pc := 13) d12_13 rfl (Or.inr (Or.inl rfl)) (nw_bool (by decide)) (by decide) ⟨rfl, rfl⟩
theorem pd__Z : parseMethodDescriptor "()Z" = some ⟨[], some .boolean⟩ := by decide +kernel
theorem w57 {Z a0} (hw : HW a0 Z) : ((Jvm.Cond.methodLink "com/example/cunctator/cunctator/JobKey$NameRule" (44 : Nat) ({ cls := "java/lang/String", name := "isEmpty", desc := "()Z" } : Jvm.MethodName)) : Jvm.Cond).before a0 Z = true := hw _ (List.mem_of_getElem? (i := 57) rfl)
theorem w58 {Z a0} (hw : HW a0 Z) : ((Jvm.Cond.declares ({ cls := "java/lang/String", name := "isEmpty", desc := "()Z" } : Jvm.MethodName)) : Jvm.Cond).before a0 Z = true := hw _ (List.mem_of_getElem? (i := 58) rfl)
theorem w60 {Z a0} (hw : HW a0 Z) : ((Jvm.Cond.selects "java/lang/String" ({ cls := "java/lang/String", name := "isEmpty", desc := "()Z" } : Jvm.MethodName) ({ cls := "java/lang/String", name := "isEmpty", desc := "()Z" } : Jvm.MethodName)) : Jvm.Cond).before a0 Z = true := hw _ (List.mem_of_getElem? (i := 60) rfl)
theorem w59 {Z a0} (hw : HW a0 Z) : ((Jvm.Cond.instanceMethod ({ cls := "java/lang/String", name := "isEmpty", desc := "()Z" } : Jvm.MethodName)) : Jvm.Cond).before a0 Z = true := hw _ (List.mem_of_getElem? (i := 59) rfl)
theorem w61 {Z a0} (hw : HW a0 Z) : ((Jvm.Cond.code ({ cls := "java/lang/String", name := "isEmpty", desc := "()Z" } : Jvm.MethodName) jdk_42_method_55_code (1 : Nat) (Option.some Jvm.ClassFile.FieldType.boolean)) : Jvm.Cond).before a0 Z = true := hw _ (List.mem_of_getElem? (i := 61) rfl)
theorem d11_15 : decode prog_9_method_2_code 15 = .ok (.ifCond .eq 10, 3) := by decide +kernel
theorem d11_25 : decode prog_9_method_2_code 25 = .ok (.iconst 0, 1) := by decide +kernel
theorem d11_26 : decode prog_9_method_2_code 26 = .ok (.istore_n 2, 1) := by decide +kernel
theorem d11_27 : decode prog_9_method_2_code 27 = .ok (.iload_n 2, 1) := by decide +kernel
theorem d11_28 : decode prog_9_method_2_code 28 = .ok (.aload_n 1, 1) := by decide +kernel
theorem d11_29 : decode prog_9_method_2_code 29 = .ok (.invokevirtual 50, 3) := by decide +kernel
theorem d13_0 : decode jdk_42_method_54_code 0 = .ok (.aload_n 0, 1) := by decide +kernel
theorem d13_1 : decode jdk_42_method_54_code 1 = .ok (.getfield 9, 3) := by decide +kernel
theorem d13_4 : decode jdk_42_method_54_code 4 = .ok (.arraylength, 1) := by decide +kernel
theorem d13_5 : decode jdk_42_method_54_code 5 = .ok (.aload_n 0, 1) := by decide +kernel
theorem d13_6 : decode jdk_42_method_54_code 6 = .ok (.invokevirtual 335, 3) := by decide +kernel
theorem d14_0 : decode jdk_42_method_152_code 0 = .ok (.getstatic 38, 3) := by decide +kernel
theorem d14_3 : decode jdk_42_method_152_code 3 = .ok (.ifCond .eq 10, 3) := by decide +kernel
theorem d14_6 : decode jdk_42_method_152_code 6 = .ok (.aload_n 0, 1) := by decide +kernel
theorem d14_7 : decode jdk_42_method_152_code 7 = .ok (.getfield 15, 3) := by decide +kernel
theorem d14_10 : decode jdk_42_method_152_code 10 = .ok (.goto 4, 3) := by decide +kernel
theorem d14_14 : decode jdk_42_method_152_code 14 = .ok (.ireturn, 1) := by decide +kernel
theorem c30_coder {Z a0} (hw : HW a0 Z) (hs : SF Z) {p1 p2 : Addr} {w_p1 : Bool} {F : List Ent} (mp1 : (p1, w_p1, oString (vr p2) (vi 0)) ∈ F) : Con Z EL (⟨"java/lang/String", "coder", "()B"⟩ : MethodName) jdk_42_method_152_code 1 (Option.some Jvm.ClassFile.FieldType.byte) (rmm 0 0 0 0) [(vr p1)] (F) (fun v D' => (v = some (vi 0) ∧ F = D')) := by
  refine Con.of (ls := #[rv p1]) (by decide +kernel) rfl ?_
  show W Z EL _ "java/lang/String" "coder" _ _ _ _ _ _ _ _ _ _
  refine W.gets (pc := 0) d14_0 (w23 hw) Via.refl hs.1 ?_
  refine W.ifN (pc := 3) d14_3 (n_eq (by have := hs.2.1; have := q0; omega)) ?_
  refine W.aloadN (pc := 6) d14_6 rfl rfl ?_
  refine W.getf (pc := 7) d14_7 (w35 hw) Via.refl mp1 m1 ?_
  refine W.goto (pc := 10) 14 d14_10 (by decide) ?_
  exact W.ireturn (pc := 14) d14_14 rfl (Or.inr (Or.inr (Or.inl rfl))) (nw_byte (by decide)) (by decide) ⟨rfl, rfl⟩
theorem pd__B : parseMethodDescriptor "()B" = some ⟨[], some .byte⟩ := by decide +kernel
theorem w67 {Z a0} (hw : HW a0 Z) : ((Jvm.Cond.methodLink "java/lang/String" (335 : Nat) ({ cls := "java/lang/String", name := "coder", desc := "()B" } : Jvm.MethodName)) : Jvm.Cond).before a0 Z = true := hw _ (List.mem_of_getElem? (i := 67) rfl)
theorem w68 {Z a0} (hw : HW a0 Z) : ((Jvm.Cond.declares ({ cls := "java/lang/String", name := "coder", desc := "()B" } : Jvm.MethodName)) : Jvm.Cond).before a0 Z = true := hw _ (List.mem_of_getElem? (i := 68) rfl)
theorem w70 {Z a0} (hw : HW a0 Z) : ((Jvm.Cond.selects "java/lang/String" ({ cls := "java/lang/String", name := "coder", desc := "()B" } : Jvm.MethodName) ({ cls := "java/lang/String", name := "coder", desc := "()B" } : Jvm.MethodName)) : Jvm.Cond).before a0 Z = true := hw _ (List.mem_of_getElem? (i := 70) rfl)
theorem w69 {Z a0} (hw : HW a0 Z) : ((Jvm.Cond.instanceMethod ({ cls := "java/lang/String", name := "coder", desc := "()B" } : Jvm.MethodName)) : Jvm.Cond).before a0 Z = true := hw _ (List.mem_of_getElem? (i := 69) rfl)
theorem w71 {Z a0} (hw : HW a0 Z) : ((Jvm.Cond.code ({ cls := "java/lang/String", name := "coder", desc := "()B" } : Jvm.MethodName) jdk_42_method_152_code (1 : Nat) (Option.some Jvm.ClassFile.FieldType.byte)) : Jvm.Cond).before a0 Z = true := hw _ (List.mem_of_getElem? (i := 71) rfl)
theorem d13_9 : decode jdk_42_method_54_code 9 = .ok (.ishr, 1) := by decide +kernel
theorem d13_10 : decode jdk_42_method_54_code 10 = .ok (.ireturn, 1) := by decide +kernel
theorem c29_length {Z a0} (hw : HW a0 Z) (hs : SF Z) {p1 p2 : Addr} {x1 : Int32} (hx1 : (45 ≤ x1.toInt ∧ x1.toInt ≤ 46) ∨ (48 ≤ x1.toInt ∧ x1.toInt ≤ 57) ∨ (65 ≤ x1.toInt ∧ x1.toInt ≤ 90) ∨ x1.toInt = 95 ∨ (97 ≤ x1.toInt ∧ x1.toInt ≤ 122)) {w_p1 : Bool} {w_p2 : Bool} {ad_p2 : String} {F : List Ent} (mp1 : (p1, w_p1, oString (vr p2) (vi 0)) ∈ F) (mp2 : (p2, w_p2, ar ad_p2 .byte [(vi x1)]) ∈ F) : Con Z EL (⟨"java/lang/String", "length", "()I"⟩ : MethodName) jdk_42_method_54_code 1 (Option.some Jvm.ClassFile.FieldType.int) (rmm 1 0 0 13) [(vr p1)] (F) (fun v D' => (v = some (vi 1) ∧ F = D')) := by
  refine Con.of (ls := #[rv p1]) (by decide +kernel) rfl ?_
  show W Z EL _ "java/lang/String" "length" _ _ _ _ _ _ _ _ _ _
  refine W.aloadN (pc := 0) d13_0 rfl rfl ?_
  refine W.getf (pc := 1) d13_1 (w37 hw) Via.refl mp1 m0 ?_
  refine W.alen (pc := 4) (1) d13_4 mp2 rfl ?_
  refine W.aloadN (pc := 5) d13_5 rfl rfl ?_
  refine W.callV (pc := 6) (as := []) 1 [(vi 1)] d13_6 (w67 hw) (w68 hw) (w70 hw) (w70 hw) (w69 hw) (w11 hw) (w71 hw) (Hp.exa mp1) (c30_coder hw hs (mp1 := mp1)) (by decide) pd__B rfl rfl rfl rfl (by decide) (fun v D' h => ?_)
  obtain ⟨rfl, rfl⟩ := h
  show W _ _ _ _ _ _ _ _ _ _ _ _ 9 _ [(vi 0), (vi 1)]
  refine W.ishrK (pc := 9) (1 : Int32) d13_9 (by decide) ?_
  exact W.ireturn (pc := 10) d13_10 rfl (Or.inl rfl) rfl (by decide) ⟨rfl, rfl⟩
theorem pd__I : parseMethodDescriptor "()I" = some ⟨[], some .int⟩ := by decide +kernel
theorem w62 {Z a0} (hw : HW a0 Z) : ((Jvm.Cond.methodLink "com/example/cunctator/cunctator/JobKey$NameRule" (50 : Nat) ({ cls := "java/lang/String", name := "length", desc := "()I" } : Jvm.MethodName)) : Jvm.Cond).before a0 Z = true := hw _ (List.mem_of_getElem? (i := 62) rfl)
theorem w63 {Z a0} (hw : HW a0 Z) : ((Jvm.Cond.declares ({ cls := "java/lang/String", name := "length", desc := "()I" } : Jvm.MethodName)) : Jvm.Cond).before a0 Z = true := hw _ (List.mem_of_getElem? (i := 63) rfl)
theorem w65 {Z a0} (hw : HW a0 Z) : ((Jvm.Cond.selects "java/lang/String" ({ cls := "java/lang/String", name := "length", desc := "()I" } : Jvm.MethodName) ({ cls := "java/lang/String", name := "length", desc := "()I" } : Jvm.MethodName)) : Jvm.Cond).before a0 Z = true := hw _ (List.mem_of_getElem? (i := 65) rfl)
theorem w64 {Z a0} (hw : HW a0 Z) : ((Jvm.Cond.instanceMethod ({ cls := "java/lang/String", name := "length", desc := "()I" } : Jvm.MethodName)) : Jvm.Cond).before a0 Z = true := hw _ (List.mem_of_getElem? (i := 64) rfl)
theorem w66 {Z a0} (hw : HW a0 Z) : ((Jvm.Cond.code ({ cls := "java/lang/String", name := "length", desc := "()I" } : Jvm.MethodName) jdk_42_method_54_code (1 : Nat) (Option.some Jvm.ClassFile.FieldType.int)) : Jvm.Cond).before a0 Z = true := hw _ (List.mem_of_getElem? (i := 66) rfl)
theorem d11_32 : decode prog_9_method_2_code 32 = .ok (.if_icmp .ge 58, 3) := by decide +kernel
theorem d11_35 : decode prog_9_method_2_code 35 = .ok (.aload_n 1, 1) := by decide +kernel
theorem d11_36 : decode prog_9_method_2_code 36 = .ok (.iload_n 2, 1) := by decide +kernel
theorem d11_37 : decode prog_9_method_2_code 37 = .ok (.invokevirtual 54, 3) := by decide +kernel
theorem d15_0 : decode jdk_42_method_56_code 0 = .ok (.aload_n 0, 1) := by decide +kernel
theorem d15_1 : decode jdk_42_method_56_code 1 = .ok (.invokevirtual 492, 3) := by decide +kernel
theorem d16_0 : decode jdk_42_method_154_code 0 = .ok (.getstatic 38, 3) := by decide +kernel
theorem d16_3 : decode jdk_42_method_154_code 3 = .ok (.ifCond .eq 14, 3) := by decide +kernel
theorem d16_6 : decode jdk_42_method_154_code 6 = .ok (.aload_n 0, 1) := by decide +kernel
theorem d16_7 : decode jdk_42_method_154_code 7 = .ok (.getfield 15, 3) := by decide +kernel
theorem d16_10 : decode jdk_42_method_154_code 10 = .ok (.ifCond .ne 7, 3) := by decide +kernel
theorem d16_13 : decode jdk_42_method_154_code 13 = .ok (.iconst 1, 1) := by decide +kernel
theorem d16_14 : decode jdk_42_method_154_code 14 = .ok (.goto 4, 3) := by decide +kernel
theorem d16_18 : decode jdk_42_method_154_code 18 = .ok (.ireturn, 1) := by decide +kernel
theorem c32_isLatin1 {Z a0} (hw : HW a0 Z) (hs : SF Z) {p1 p2 : Addr} {w_p1 : Bool} {F : List Ent} (mp1 : (p1, w_p1, oString (vr p2) (vi 0)) ∈ F) : Con Z EL (⟨"java/lang/String", "isLatin1", "()Z"⟩ : MethodName) jdk_42_method_154_code 1 (Option.some Jvm.ClassFile.FieldType.boolean) (rmm 0 0 0 0) [(vr p1)] (F) (fun v D' => (v = some (vi 1) ∧ F = D')) := by
  refine Con.of (ls := #[rv p1]) (by decide +kernel) rfl ?_
  show W Z EL _ "java/lang/String" "isLatin1" _ _ _ _ _ _ _ _ _ _
  refine W.gets (pc := 0) d16_0 (w23 hw) Via.refl hs.1 ?_
  refine W.ifN (pc := 3) d16_3 (n_eq (by have := hs.2.1; have := q0; omega)) ?_
  refine W.aloadN (pc := 6) d16_6 rfl rfl ?_
  refine W.getf (pc := 7) d16_7 (w35 hw) Via.refl mp1 m1 ?_
  refine W.ifN (pc := 10) d16_10 (n_ne (by decide)) ?_
  refine W.iconst (pc := 13) (1) d16_13 (by decide) ?_
  refine W.goto (pc := 14) 18 d16_14 (by decide) ?_
  exact W.ireturn (pc := 18) d16_18 rfl (Or.inr (Or.inl rfl)) (nw_bool (by decide)) (by decide) ⟨rfl, rfl⟩
theorem w77 {Z a0} (hw : HW a0 Z) : ((Jvm.Cond.methodLink "java/lang/String" (492 : Nat) ({ cls := "java/lang/String", name := "isLatin1", desc := "()Z" } : Jvm.MethodName)) : Jvm.Cond).before a0 Z = true := hw _ (List.mem_of_getElem? (i := 77) rfl)
theorem w78 {Z a0} (hw : HW a0 Z) : ((Jvm.Cond.declares ({ cls := "java/lang/String", name := "isLatin1", desc := "()Z" } : Jvm.MethodName)) : Jvm.Cond).before a0 Z = true := hw _ (List.mem_of_getElem? (i := 78) rfl)
theorem w80 {Z a0} (hw : HW a0 Z) : ((Jvm.Cond.selects "java/lang/String" ({ cls := "java/lang/String", name := "isLatin1", desc := "()Z" } : Jvm.MethodName) ({ cls := "java/lang/String", name := "isLatin1", desc := "()Z" } : Jvm.MethodName)) : Jvm.Cond).before a0 Z = true := hw _ (List.mem_of_getElem? (i := 80) rfl)
theorem w79 {Z a0} (hw : HW a0 Z) : ((Jvm.Cond.instanceMethod ({ cls := "java/lang/String", name := "isLatin1", desc := "()Z" } : Jvm.MethodName)) : Jvm.Cond).before a0 Z = true := hw _ (List.mem_of_getElem? (i := 79) rfl)
theorem w81 {Z a0} (hw : HW a0 Z) : ((Jvm.Cond.code ({ cls := "java/lang/String", name := "isLatin1", desc := "()Z" } : Jvm.MethodName) jdk_42_method_154_code (1 : Nat) (Option.some Jvm.ClassFile.FieldType.boolean)) : Jvm.Cond).before a0 Z = true := hw _ (List.mem_of_getElem? (i := 81) rfl)
theorem d15_4 : decode jdk_42_method_56_code 4 = .ok (.ifCond .eq 12, 3) := by decide +kernel
theorem d15_7 : decode jdk_42_method_56_code 7 = .ok (.aload_n 0, 1) := by decide +kernel
theorem d15_8 : decode jdk_42_method_56_code 8 = .ok (.getfield 9, 3) := by decide +kernel
theorem d15_11 : decode jdk_42_method_56_code 11 = .ok (.iload_n 1, 1) := by decide +kernel
theorem d15_12 : decode jdk_42_method_56_code 12 = .ok (.invokestatic 495, 3) := by decide +kernel
theorem d17_0 : decode jdk_43_method_2_code 0 = .ok (.iload_n 1, 1) := by decide +kernel
theorem d17_1 : decode jdk_43_method_2_code 1 = .ok (.aload_n 0, 1) := by decide +kernel
theorem d17_2 : decode jdk_43_method_2_code 2 = .ok (.arraylength, 1) := by decide +kernel
theorem d17_3 : decode jdk_43_method_2_code 3 = .ok (.invokestatic 9, 3) := by decide +kernel
theorem d18_0 : decode jdk_42_method_155_code 0 = .ok (.iload_n 0, 1) := by decide +kernel
theorem d18_1 : decode jdk_42_method_155_code 1 = .ok (.iload_n 1, 1) := by decide +kernel
theorem d18_2 : decode jdk_42_method_155_code 2 = .ok (.getstatic 1053, 3) := by decide +kernel
theorem w89 {Z a0} (hw : HW a0 Z) : ((Jvm.Cond.fieldLink "java/lang/String" (1053 : Nat) "jdk/internal/util/Preconditions" "SIOOBE_FORMATTER" "Ljava/util/function/BiFunction;") : Jvm.Cond).before a0 Z = true := hw _ (List.mem_of_getElem? (i := 89) rfl)
theorem d18_5 : decode jdk_42_method_155_code 5 = .ok (.invokestatic 1059, 3) := by decide +kernel
theorem d19_0 : decode jdk_41_method_11_code 0 = .ok (.iload_n 0, 1) := by decide +kernel
theorem d19_1 : decode jdk_41_method_11_code 1 = .ok (.ifCond .lt 8, 3) := by decide +kernel
theorem d19_4 : decode jdk_41_method_11_code 4 = .ok (.iload_n 0, 1) := by decide +kernel
theorem d19_5 : decode jdk_41_method_11_code 5 = .ok (.iload_n 1, 1) := by decide +kernel
theorem d19_6 : decode jdk_41_method_11_code 6 = .ok (.if_icmp .lt 10, 3) := by decide +kernel
theorem d19_16 : decode jdk_41_method_11_code 16 = .ok (.iload_n 0, 1) := by decide +kernel
theorem d19_17 : decode jdk_41_method_11_code 17 = .ok (.ireturn, 1) := by decide +kernel
theorem c35_checkIndex {Z a0} (hw : HW a0 Z) (hs : SF Z) {F : List Ent} : Con Z EL (⟨"jdk/internal/util/Preconditions", "checkIndex", "(IILjava/util/function/BiFunction;)I"⟩ : MethodName) jdk_41_method_11_code 3 (Option.some Jvm.ClassFile.FieldType.int) (rmm 0 0 0 0) [(vi 0), (vi 1), (sfv Z)] (F) (fun v D' => (v = some (vi 0) ∧ F = D')) := by
  refine Con.of (ls := #[iv 0, iv 1, .val (sfv Z)]) (by decide +kernel) (hent_of (ld1 rfl (ld1 rfl (ld1 (XT.cat1 hs.2.2.1) ld0))) rfl) ?_
  show W Z EL _ "jdk/internal/util/Preconditions" "checkIndex" _ _ _ _ _ _ _ _ _ _
  refine W.iloadN (pc := 0) d19_0 rfl ?_
  refine W.ifN (pc := 1) d19_1 (n_lt (by decide)) ?_
  refine W.iloadN (pc := 4) d19_4 rfl ?_
  refine W.iloadN (pc := 5) d19_5 rfl ?_
  refine W.icmpY (pc := 6) 16 d19_6 (y_lt (by decide)) (by decide) ?_
  refine W.iloadN (pc := 16) d19_16 rfl ?_
  exact W.ireturn (pc := 17) d19_17 rfl (Or.inl rfl) rfl (by decide) ⟨rfl, rfl⟩
theorem pd_IILjava_util_function_BiFunction__I : parseMethodDescriptor "(IILjava/util/function/BiFunction;)I" = some ⟨[.int, .int, (.object "java/util/function/BiFunction")], some .int⟩ := by decide +kernel
theorem w91 {Z a0} (hw : HW a0 Z) : ((Jvm.Cond.methodLink "java/lang/String" (1059 : Nat) ({ cls := "jdk/internal/util/Preconditions", name := "checkIndex", desc := "(IILjava/util/function/BiFunction;)I" } : Jvm.MethodName)) : Jvm.Cond).before a0 Z = true := hw _ (List.mem_of_getElem? (i := 91) rfl)
theorem w92 {Z a0} (hw : HW a0 Z) : ((Jvm.Cond.static ({ cls := "jdk/internal/util/Preconditions", name := "checkIndex", desc := "(IILjava/util/function/BiFunction;)I" } : Jvm.MethodName)) : Jvm.Cond).before a0 Z = true := hw _ (List.mem_of_getElem? (i := 92) rfl)
theorem w90 {Z a0} (hw : HW a0 Z) : ((Jvm.Cond.initialized "jdk/internal/util/Preconditions") : Jvm.Cond).before a0 Z = true := hw _ (List.mem_of_getElem? (i := 90) rfl)
theorem w93 {Z a0} (hw : HW a0 Z) : ((Jvm.Cond.code ({ cls := "jdk/internal/util/Preconditions", name := "checkIndex", desc := "(IILjava/util/function/BiFunction;)I" } : Jvm.MethodName) jdk_41_method_11_code (3 : Nat) (Option.some Jvm.ClassFile.FieldType.int)) : Jvm.Cond).before a0 Z = true := hw _ (List.mem_of_getElem? (i := 93) rfl)
theorem d18_8 : decode jdk_42_method_155_code 8 = .ok (.pop, 1) := by decide +kernel
theorem d18_9 : decode jdk_42_method_155_code 9 = .ok (.return_, 1) := by decide +kernel
theorem c34_checkIndex {Z a0} (hw : HW a0 Z) (hs : SF Z) {F : List Ent} : Con Z EL (⟨"java/lang/String", "checkIndex", "(II)V"⟩ : MethodName) jdk_42_method_155_code 2 (Option.none : Option Jvm.ClassFile.FieldType) (rmm 1 0 0 14) [(vi 0), (vi 1)] (F) (fun v D' => (v = none ∧ F = D')) := by
  refine Con.of (ls := #[iv 0, iv 1]) (by decide +kernel) rfl ?_
  show W Z EL _ "java/lang/String" "checkIndex" _ _ _ _ _ _ _ _ _ _
  refine W.iloadN (pc := 0) d18_0 rfl ?_
  refine W.iloadN (pc := 1) d18_1 rfl ?_
  refine W.gets (pc := 2) d18_2 (w89 hw) Via.refl hs.2.2.2.1 ?_
  refine W.callS (pc := 5) (as := [(vi 0), (vi 1), (sfv Z)]) 0 [] d18_5 (w91 hw) (w92 hw) (w90 hw) (w93 hw) (c35_checkIndex hw hs) (by decide) pd_IILjava_util_function_BiFunction__I rfl rfl rfl rfl (by decide) (fun v D' h => ?_)
  obtain ⟨rfl, rfl⟩ := h
  show W _ _ _ _ _ _ _ _ _ _ _ _ 8 _ [(vi 0)]
  refine W.popv (pc := 8) d18_8 rfl ?_
  exact W.return_ (pc := 9) d18_9 rfl (by decide) ⟨rfl, rfl⟩
theorem pd_II_V : parseMethodDescriptor "(II)V" = some ⟨[.int, .int], none⟩ := by decide +kernel
theorem w86 {Z a0} (hw : HW a0 Z) : ((Jvm.Cond.methodLink "java/lang/StringLatin1" (9 : Nat) ({ cls := "java/lang/String", name := "checkIndex", desc := "(II)V" } : Jvm.MethodName)) : Jvm.Cond).before a0 Z = true := hw _ (List.mem_of_getElem? (i := 86) rfl)
theorem w87 {Z a0} (hw : HW a0 Z) : ((Jvm.Cond.static ({ cls := "java/lang/String", name := "checkIndex", desc := "(II)V" } : Jvm.MethodName)) : Jvm.Cond).before a0 Z = true := hw _ (List.mem_of_getElem? (i := 87) rfl)
theorem w88 {Z a0} (hw : HW a0 Z) : ((Jvm.Cond.code ({ cls := "java/lang/String", name := "checkIndex", desc := "(II)V" } : Jvm.MethodName) jdk_42_method_155_code (2 : Nat) (Option.none : Option Jvm.ClassFile.FieldType)) : Jvm.Cond).before a0 Z = true := hw _ (List.mem_of_getElem? (i := 88) rfl)
theorem d17_6 : decode jdk_43_method_2_code 6 = .ok (.aload_n 0, 1) := by decide +kernel
theorem d17_7 : decode jdk_43_method_2_code 7 = .ok (.iload_n 1, 1) := by decide +kernel
theorem d17_8 : decode jdk_43_method_2_code 8 = .ok (.baload, 1) := by decide +kernel
theorem d17_9 : decode jdk_43_method_2_code 9 = .ok (.sipush 255, 3) := by decide +kernel
theorem d17_12 : decode jdk_43_method_2_code 12 = .ok (.iand, 1) := by decide +kernel
theorem d17_13 : decode jdk_43_method_2_code 13 = .ok (.i2c, 1) := by decide +kernel
theorem d17_14 : decode jdk_43_method_2_code 14 = .ok (.ireturn, 1) := by decide +kernel
theorem c33_charAt {Z a0} (hw : HW a0 Z) (hs : SF Z) {p1 : Addr} {x1 : Int32} (hx1 : (45 ≤ x1.toInt ∧ x1.toInt ≤ 46) ∨ (48 ≤ x1.toInt ∧ x1.toInt ≤ 57) ∨ (65 ≤ x1.toInt ∧ x1.toInt ≤ 90) ∨ x1.toInt = 95 ∨ (97 ≤ x1.toInt ∧ x1.toInt ≤ 122)) {w_p1 : Bool} {ad_p1 : String} {F : List Ent} (mp1 : (p1, w_p1, ar ad_p1 .byte [(vi x1)]) ∈ F) : Con Z EL (⟨"java/lang/StringLatin1", "charAt", "([BI)C"⟩ : MethodName) jdk_43_method_2_code 2 (Option.some Jvm.ClassFile.FieldType.char) (rmm 2 0 0 27) [(vr p1), (vi 0)] (F) (fun v D' => (v = some (vi x1) ∧ F = D')) := by
  refine Con.of (ls := #[rv p1, iv 0]) (by decide +kernel) rfl ?_
  show W Z EL _ "java/lang/StringLatin1" "charAt" _ _ _ _ _ _ _ _ _ _
  refine W.iloadN (pc := 0) d17_0 rfl ?_
  refine W.aloadN (pc := 1) d17_1 rfl rfl ?_
  refine W.alen (pc := 2) (1) d17_2 mp1 rfl ?_
  refine W.callS (pc := 3) (as := [(vi 0), (vi 1)]) 0 [] d17_3 (w86 hw) (w87 hw) (w11 hw) (w88 hw) (c34_checkIndex hw hs) (by decide) pd_II_V rfl rfl rfl rfl (by decide) (fun v D' h => ?_)
  obtain ⟨rfl, rfl⟩ := h
  show W _ _ _ _ _ _ _ _ _ _ _ _ 6 _ []
  refine W.aloadN (pc := 6) d17_6 rfl rfl ?_
  refine W.iloadN (pc := 7) d17_7 rfl ?_
  refine W.baload (pc := 8) 0 d17_8 mp1 ix0 rfl ?_
  refine W.sipush (pc := 9) (255) d17_9 (by decide) ?_
  refine W.iandK (pc := 12) x1 d17_12 (z_and 8 256 (by decide) (by decide) (by decide) (by omega)) ?_
  refine W.i2cK (pc := 13) x1 d17_13 (z_i2c (by omega)) ?_
  exact W.ireturn (pc := 14) d17_14 rfl (Or.inr (Or.inr (Or.inr (Or.inl rfl)))) (nw_char (by omega)) (by decide) ⟨rfl, rfl⟩
theorem pd__BI_C : parseMethodDescriptor "([BI)C" = some ⟨[(.array .byte), .int], some .char⟩ := by decide +kernel
theorem w82 {Z a0} (hw : HW a0 Z) : ((Jvm.Cond.methodLink "java/lang/String" (495 : Nat) ({ cls := "java/lang/StringLatin1", name := "charAt", desc := "([BI)C" } : Jvm.MethodName)) : Jvm.Cond).before a0 Z = true := hw _ (List.mem_of_getElem? (i := 82) rfl)
theorem w83 {Z a0} (hw : HW a0 Z) : ((Jvm.Cond.static ({ cls := "java/lang/StringLatin1", name := "charAt", desc := "([BI)C" } : Jvm.MethodName)) : Jvm.Cond).before a0 Z = true := hw _ (List.mem_of_getElem? (i := 83) rfl)
theorem w84 {Z a0} (hw : HW a0 Z) : ((Jvm.Cond.initialized "java/lang/StringLatin1") : Jvm.Cond).before a0 Z = true := hw _ (List.mem_of_getElem? (i := 84) rfl)
theorem w85 {Z a0} (hw : HW a0 Z) : ((Jvm.Cond.code ({ cls := "java/lang/StringLatin1", name := "charAt", desc := "([BI)C" } : Jvm.MethodName) jdk_43_method_2_code (2 : Nat) (Option.some Jvm.ClassFile.FieldType.char)) : Jvm.Cond).before a0 Z = true := hw _ (List.mem_of_getElem? (i := 85) rfl)
theorem d15_15 : decode jdk_42_method_56_code 15 = .ok (.ireturn, 1) := by decide +kernel
theorem c31_charAt {Z a0} (hw : HW a0 Z) (hs : SF Z) {p1 p2 : Addr} {x1 : Int32} (hx1 : (45 ≤ x1.toInt ∧ x1.toInt ≤ 46) ∨ (48 ≤ x1.toInt ∧ x1.toInt ≤ 57) ∨ (65 ≤ x1.toInt ∧ x1.toInt ≤ 90) ∨ x1.toInt = 95 ∨ (97 ≤ x1.toInt ∧ x1.toInt ≤ 122)) {w_p1 : Bool} {w_p2 : Bool} {ad_p2 : String} {F : List Ent} (mp1 : (p1, w_p1, oString (vr p2) (vi 0)) ∈ F) (mp2 : (p2, w_p2, ar ad_p2 .byte [(vi x1)]) ∈ F) : Con Z EL (⟨"java/lang/String", "charAt", "(I)C"⟩ : MethodName) jdk_42_method_56_code 2 (Option.some Jvm.ClassFile.FieldType.char) (rmm 3 0 0 40) [(vr p1), (vi 0)] (F) (fun v D' => (v = some (vi x1) ∧ F = D')) := by
  refine Con.of (ls := #[rv p1, iv 0]) (by decide +kernel) rfl ?_
  show W Z EL _ "java/lang/String" "charAt" _ _ _ _ _ _ _ _ _ _
  refine W.aloadN (pc := 0) d15_0 rfl rfl ?_
  refine W.callV (pc := 1) (as := []) 0 [] d15_1 (w77 hw) (w78 hw) (w80 hw) (w80 hw) (w79 hw) (w11 hw) (w81 hw) (Hp.exa mp1) (c32_isLatin1 hw hs (mp1 := mp1)) (by decide) pd__Z rfl rfl rfl rfl (by decide) (fun v D' h => ?_)
  obtain ⟨rfl, rfl⟩ := h
  show W _ _ _ _ _ _ _ _ _ _ _ _ 4 _ [(vi 1)]
  refine W.ifN (pc := 4) d15_4 (n_eq (by decide)) ?_
  refine W.aloadN (pc := 7) d15_7 rfl rfl ?_
  refine W.getf (pc := 8) d15_8 (w37 hw) Via.refl mp1 m0 ?_
  refine W.iloadN (pc := 11) d15_11 rfl ?_
  refine W.callS (pc := 12) (as := [(vr p2), (vi 0)]) 0 [] d15_12 (w82 hw) (w83 hw) (w84 hw) (w85 hw) (c33_charAt hw hs (hx1 := hx1) (mp1 := mp2)) (by decide) pd__BI_C rfl rfl rfl rfl (by decide) (fun v D' h => ?_)
  obtain ⟨rfl, rfl⟩ := h
  show W _ _ _ _ _ _ _ _ _ _ _ _ 15 _ [(vi x1)]
  exact W.ireturn (pc := 15) d15_15 rfl (Or.inr (Or.inr (Or.inr (Or.inl rfl)))) (nw_char (by omega)) (by decide) ⟨rfl, rfl⟩
theorem pd_I_C : parseMethodDescriptor "(I)C" = some ⟨[.int], some .char⟩ := by decide +kernel
theorem w72 {Z a0} (hw : HW a0 Z) : ((Jvm.Cond.methodLink "com/example/cunctator/cunctator/JobKey$NameRule" (54 : Nat) ({ cls := "java/lang/String", name := "charAt", desc := "(I)C" } : Jvm.MethodName)) : Jvm.Cond).before a0 Z = true := hw _ (List.mem_of_getElem? (i := 72) rfl)
theorem w73 {Z a0} (hw : HW a0 Z) : ((Jvm.Cond.declares ({ cls := "java/lang/String", name := "charAt", desc := "(I)C" } : Jvm.MethodName)) : Jvm.Cond).before a0 Z = true := hw _ (List.mem_of_getElem? (i := 73) rfl)
theorem w75 {Z a0} (hw : HW a0 Z) : ((Jvm.Cond.selects "java/lang/String" ({ cls := "java/lang/String", name := "charAt", desc := "(I)C" } : Jvm.MethodName) ({ cls := "java/lang/String", name := "charAt", desc := "(I)C" } : Jvm.MethodName)) : Jvm.Cond).before a0 Z = true := hw _ (List.mem_of_getElem? (i := 75) rfl)
theorem w74 {Z a0} (hw : HW a0 Z) : ((Jvm.Cond.instanceMethod ({ cls := "java/lang/String", name := "charAt", desc := "(I)C" } : Jvm.MethodName)) : Jvm.Cond).before a0 Z = true := hw _ (List.mem_of_getElem? (i := 74) rfl)
theorem w76 {Z a0} (hw : HW a0 Z) : ((Jvm.Cond.code ({ cls := "java/lang/String", name := "charAt", desc := "(I)C" } : Jvm.MethodName) jdk_42_method_56_code (2 : Nat) (Option.some Jvm.ClassFile.FieldType.char)) : Jvm.Cond).before a0 Z = true := hw _ (List.mem_of_getElem? (i := 76) rfl)
theorem d11_40 : decode prog_9_method_2_code 40 = .ok (.istore_n 3, 1) := by decide +kernel
theorem d11_41 : decode prog_9_method_2_code 41 = .ok (.iload_n 3, 1) := by decide +kernel
theorem d11_42 : decode prog_9_method_2_code 42 = .ok (.invokestatic 58, 3) := by decide +kernel
theorem d20_0 : decode prog_8_method_9_code 0 = .ok (.iload_n 0, 1) := by decide +kernel
theorem d20_1 : decode prog_8_method_9_code 1 = .ok (.bipush 65, 2) := by decide +kernel
theorem d20_3 : decode prog_8_method_9_code 3 = .ok (.if_icmp .lt 9, 3) := by decide +kernel
theorem d20_12 : decode prog_8_method_9_code 12 = .ok (.iload_n 0, 1) := by decide +kernel
theorem d20_13 : decode prog_8_method_9_code 13 = .ok (.bipush 97, 2) := by decide +kernel
theorem d20_15 : decode prog_8_method_9_code 15 = .ok (.if_icmp .lt 9, 3) := by decide +kernel
theorem d20_24 : decode prog_8_method_9_code 24 = .ok (.iload_n 0, 1) := by decide +kernel
theorem d20_25 : decode prog_8_method_9_code 25 = .ok (.bipush 48, 2) := by decide +kernel
theorem d20_27 : decode prog_8_method_9_code 27 = .ok (.if_icmp .lt 13, 3) := by decide +kernel
theorem d20_40 : decode prog_8_method_9_code 40 = .ok (.iconst 0, 1) := by decide +kernel
theorem d20_41 : decode prog_8_method_9_code 41 = .ok (.ireturn, 1) := by decide +kernel
theorem d20_30 : decode prog_8_method_9_code 30 = .ok (.iload_n 0, 1) := by decide +kernel
theorem d20_31 : decode prog_8_method_9_code 31 = .ok (.bipush 57, 2) := by decide +kernel
theorem d20_33 : decode prog_8_method_9_code 33 = .ok (.if_icmp .gt 7, 3) := by decide +kernel
theorem q57 : (57 : Int32).toInt = 57 := by decide
theorem d20_36 : decode prog_8_method_9_code 36 = .ok (.iconst 1, 1) := by decide +kernel
theorem d20_37 : decode prog_8_method_9_code 37 = .ok (.goto 4, 3) := by decide +kernel
theorem d20_6 : decode prog_8_method_9_code 6 = .ok (.iload_n 0, 1) := by decide +kernel
theorem d20_7 : decode prog_8_method_9_code 7 = .ok (.bipush 90, 2) := by decide +kernel
theorem d20_9 : decode prog_8_method_9_code 9 = .ok (.if_icmp .le 27, 3) := by decide +kernel
theorem q90 : (90 : Int32).toInt = 90 := by decide
theorem d20_18 : decode prog_8_method_9_code 18 = .ok (.iload_n 0, 1) := by decide +kernel
theorem d20_19 : decode prog_8_method_9_code 19 = .ok (.bipush 122, 2) := by decide +kernel
theorem d20_21 : decode prog_8_method_9_code 21 = .ok (.if_icmp .le 15, 3) := by decide +kernel
theorem q122 : (122 : Int32).toInt = 122 := by decide
theorem c36_isAsciiLetterOrDigit {Z a0} (hw : HW a0 Z) (hs : SF Z) {x1 : Int32} (hx1 : (45 ≤ x1.toInt ∧ x1.toInt ≤ 46) ∨ (48 ≤ x1.toInt ∧ x1.toInt ≤ 57) ∨ (65 ≤ x1.toInt ∧ x1.toInt ≤ 90) ∨ x1.toInt = 95 ∨ (97 ≤ x1.toInt ∧ x1.toInt ≤ 122)) {F : List Ent} : Con Z EL (⟨"com/example/cunctator/cunctator/JobKey", "isAsciiLetterOrDigit", "(C)Z"⟩ : MethodName) prog_8_method_9_code 1 (Option.some Jvm.ClassFile.FieldType.boolean) (rmm 0 0 0 0) [(vi x1)] (F) (fun v D' => (Cd .lt x1 (65 : Int32) ∧ Cd .lt x1 (48 : Int32) ∧ v = some (vi 0) ∧ F = D') ∨ (Cd .lt x1 (65 : Int32) ∧ ¬ Cd .lt x1 (48 : Int32) ∧ v = some (vi 1) ∧ F = D') ∨ (¬ Cd .lt x1 (65 : Int32) ∧ Cd .le x1 (90 : Int32) ∧ v = some (vi 1) ∧ F = D') ∨ (¬ Cd .lt x1 (65 : Int32) ∧ ¬ Cd .le x1 (90 : Int32) ∧ Cd .lt x1 (97 : Int32) ∧ v = some (vi 0) ∧ F = D') ∨ (¬ Cd .lt x1 (65 : Int32) ∧ ¬ Cd .le x1 (90 : Int32) ∧ ¬ Cd .lt x1 (97 : Int32) ∧ v = some (vi 1) ∧ F = D')) := by
  refine Con.of (ls := #[iv x1]) (by decide +kernel) rfl ?_
  show W Z EL _ "com/example/cunctator/cunctator/JobKey" "isAsciiLetterOrDigit" _ _ _ _ _ _ _ _ _ _
  refine W.iloadN (pc := 0) d20_0 rfl ?_
  refine W.bipush (pc := 1) (65) d20_1 (by decide) ?_
  refine W.icmp (pc := 3) 12 d20_3 (by decide) (fun h1 => ?_) (fun h1 => ?_)
  ·
   have ih1 := t_lt h1
   refine W.iloadN (pc := 12) d20_12 rfl ?_
   refine W.bipush (pc := 13) (97) d20_13 (by decide) ?_
   refine W.icmpY (pc := 15) 24 d20_15 (y_lt (by have := q97; have := q65; omega)) (by decide) ?_
   refine W.iloadN (pc := 24) d20_24 rfl ?_
   refine W.bipush (pc := 25) (48) d20_25 (by decide) ?_
   refine W.icmp (pc := 27) 40 d20_27 (by decide) (fun h2 => ?_) (fun h2 => ?_)
   ·
    have ih2 := t_lt h2
    refine W.iconst (pc := 40) (0) d20_40 (by decide) ?_
    exact W.ireturn (pc := 41) d20_41 rfl (Or.inr (Or.inl rfl)) (nw_bool (by decide)) (by decide) (Or.inl ⟨h1, h2, rfl, rfl⟩)
   ·
    have ih2 := f_lt h2
    refine W.iloadN (pc := 30) d20_30 rfl ?_
    refine W.bipush (pc := 31) (57) d20_31 (by decide) ?_
    refine W.icmpN (pc := 33) d20_33 (n_gt (by have := q57; have := q65; have := q48; omega)) ?_
    refine W.iconst (pc := 36) (1) d20_36 (by decide) ?_
    refine W.goto (pc := 37) 41 d20_37 (by decide) ?_
    exact W.ireturn (pc := 41) d20_41 rfl (Or.inr (Or.inl rfl)) (nw_bool (by decide)) (by decide) (Or.inr (Or.inl ⟨h1, h2, rfl, rfl⟩))
  ·
   have ih1 := f_lt h1
   refine W.iloadN (pc := 6) d20_6 rfl ?_
   refine W.bipush (pc := 7) (90) d20_7 (by decide) ?_
   refine W.icmp (pc := 9) 36 d20_9 (by decide) (fun h3 => ?_) (fun h3 => ?_)
   ·
    have ih3 := t_le h3
    refine W.iconst (pc := 36) (1) d20_36 (by decide) ?_
    refine W.goto (pc := 37) 41 d20_37 (by decide) ?_
    exact W.ireturn (pc := 41) d20_41 rfl (Or.inr (Or.inl rfl)) (nw_bool (by decide)) (by decide) (Or.inr (Or.inr (Or.inl ⟨h1, h3, rfl, rfl⟩)))
   ·
    have ih3 := f_le h3
    refine W.iloadN (pc := 12) d20_12 rfl ?_
    refine W.bipush (pc := 13) (97) d20_13 (by decide) ?_
    refine W.icmp (pc := 15) 24 d20_15 (by decide) (fun h4 => ?_) (fun h4 => ?_)
    ·
     have ih4 := t_lt h4
     refine W.iloadN (pc := 24) d20_24 rfl ?_
     refine W.bipush (pc := 25) (48) d20_25 (by decide) ?_
     refine W.icmpN (pc := 27) d20_27 (n_lt (by have := q48; have := q65; have := q90; have := q97; omega)) ?_
     refine W.iloadN (pc := 30) d20_30 rfl ?_
     refine W.bipush (pc := 31) (57) d20_31 (by decide) ?_
     refine W.icmpY (pc := 33) 40 d20_33 (y_gt (by have := q57; have := q65; have := q90; have := q97; omega)) (by decide) ?_
     refine W.iconst (pc := 40) (0) d20_40 (by decide) ?_
     exact W.ireturn (pc := 41) d20_41 rfl (Or.inr (Or.inl rfl)) (nw_bool (by decide)) (by decide) (Or.inr (Or.inr (Or.inr (Or.inl ⟨h1, h3, h4, rfl, rfl⟩))))
    ·
     have ih4 := f_lt h4
     refine W.iloadN (pc := 18) d20_18 rfl ?_
     refine W.bipush (pc := 19) (122) d20_19 (by decide) ?_
     refine W.icmpY (pc := 21) 36 d20_21 (y_le (by have := q122; have := q65; have := q90; have := q97; omega)) (by decide) ?_
     refine W.iconst (pc := 36) (1) d20_36 (by decide) ?_
     refine W.goto (pc := 37) 41 d20_37 (by decide) ?_
     exact W.ireturn (pc := 41) d20_41 rfl (Or.inr (Or.inl rfl)) (nw_bool (by decide)) (by decide) (Or.inr (Or.inr (Or.inr (Or.inr ⟨h1, h3, h4, rfl, rfl⟩))))
theorem pd_C_Z : parseMethodDescriptor "(C)Z" = some ⟨[.char], some .boolean⟩ := by decide +kernel
theorem w94 {Z a0} (hw : HW a0 Z) : ((Jvm.Cond.methodLinkNest "com/example/cunctator/cunctator/JobKey$NameRule" (58 : Nat) ({ cls := "com/example/cunctator/cunctator/JobKey", name := "isAsciiLetterOrDigit", desc := "(C)Z" } : Jvm.MethodName) "com/example/cunctator/cunctator/JobKey") : Jvm.Cond).before a0 Z = true := hw _ (List.mem_of_getElem? (i := 94) rfl)
theorem w95 {Z a0} (hw : HW a0 Z) : ((Jvm.Cond.static ({ cls := "com/example/cunctator/cunctator/JobKey", name := "isAsciiLetterOrDigit", desc := "(C)Z" } : Jvm.MethodName)) : Jvm.Cond).before a0 Z = true := hw _ (List.mem_of_getElem? (i := 95) rfl)
theorem w96 {Z a0} (hw : HW a0 Z) : ((Jvm.Cond.code ({ cls := "com/example/cunctator/cunctator/JobKey", name := "isAsciiLetterOrDigit", desc := "(C)Z" } : Jvm.MethodName) prog_8_method_9_code (1 : Nat) (Option.some Jvm.ClassFile.FieldType.boolean)) : Jvm.Cond).before a0 Z = true := hw _ (List.mem_of_getElem? (i := 96) rfl)
theorem d11_45 : decode prog_9_method_2_code 45 = .ok (.ifCond .ne 39, 3) := by decide +kernel
theorem d11_48 : decode prog_9_method_2_code 48 = .ok (.aload_n 0, 1) := by decide +kernel
theorem d11_49 : decode prog_9_method_2_code 49 = .ok (.getfield 13, 3) := by decide +kernel
theorem w129 {Z a0} (hw : HW a0 Z) : ((Jvm.Cond.fieldLink "com/example/cunctator/cunctator/JobKey$NameRule" (13 : Nat) "com/example/cunctator/cunctator/JobKey$NameRule" "symbols" "Ljava/lang/String;") : Jvm.Cond).before a0 Z = true := hw _ (List.mem_of_getElem? (i := 129) rfl)
theorem d11_52 : decode prog_9_method_2_code 52 = .ok (.iload_n 3, 1) := by decide +kernel
theorem d11_53 : decode prog_9_method_2_code 53 = .ok (.invokevirtual 64, 3) := by decide +kernel
theorem d26_0 : decode jdk_42_method_79_code 0 = .ok (.aload_n 0, 1) := by decide +kernel
theorem d26_1 : decode jdk_42_method_79_code 1 = .ok (.iload_n 1, 1) := by decide +kernel
theorem d26_2 : decode jdk_42_method_79_code 2 = .ok (.iconst 0, 1) := by decide +kernel
theorem d26_3 : decode jdk_42_method_79_code 3 = .ok (.invokevirtual 633, 3) := by decide +kernel
theorem d27_0 : decode jdk_42_method_80_code 0 = .ok (.aload_n 0, 1) := by decide +kernel
theorem d27_1 : decode jdk_42_method_80_code 1 = .ok (.invokevirtual 492, 3) := by decide +kernel
theorem d27_4 : decode jdk_42_method_80_code 4 = .ok (.ifCond .eq 19, 3) := by decide +kernel
theorem d27_7 : decode jdk_42_method_80_code 7 = .ok (.aload_n 0, 1) := by decide +kernel
theorem d27_8 : decode jdk_42_method_80_code 8 = .ok (.getfield 9, 3) := by decide +kernel
theorem d27_11 : decode jdk_42_method_80_code 11 = .ok (.iload_n 1, 1) := by decide +kernel
theorem d27_12 : decode jdk_42_method_80_code 12 = .ok (.iload_n 2, 1) := by decide +kernel
theorem d27_13 : decode jdk_42_method_80_code 13 = .ok (.aload_n 0, 1) := by decide +kernel
theorem d27_14 : decode jdk_42_method_80_code 14 = .ok (.invokevirtual 505, 3) := by decide +kernel
theorem c39_length {Z a0} (hw : HW a0 Z) (hs : SF Z) {w_og2Z : Bool} {w_og3Z : Bool} {ad_og3Z : String} {F : List Ent} (mog2Z : ((og2 Z), w_og2Z, oString (vr (og3 Z)) (vi 0)) ∈ F) (mog3Z : ((og3 Z), w_og3Z, ar ad_og3Z .byte [(vi 46), (vi 95), (vi 45)]) ∈ F) : Con Z EL (⟨"java/lang/String", "length", "()I"⟩ : MethodName) jdk_42_method_54_code 1 (Option.some Jvm.ClassFile.FieldType.int) (rmm 1 0 0 13) [(vr (og2 Z))] (F) (fun v D' => (v = some (vi 3) ∧ F = D')) := by
  refine Con.of (ls := #[rv (og2 Z)]) (by decide +kernel) rfl ?_
  show W Z EL _ "java/lang/String" "length" _ _ _ _ _ _ _ _ _ _
  refine W.aloadN (pc := 0) d13_0 rfl rfl ?_
  refine W.getf (pc := 1) d13_1 (w37 hw) Via.refl mog2Z m0 ?_
  refine W.alen (pc := 4) (3) d13_4 mog3Z rfl ?_
  refine W.aloadN (pc := 5) d13_5 rfl rfl ?_
  refine W.callV (pc := 6) (as := []) 1 [(vi 3)] d13_6 (w67 hw) (w68 hw) (w70 hw) (w70 hw) (w69 hw) (w11 hw) (w71 hw) (Hp.exa mog2Z) (c30_coder hw hs (mp1 := mog2Z)) (by decide) pd__B rfl rfl rfl rfl (by decide) (fun v D' h => ?_)
  obtain ⟨rfl, rfl⟩ := h
  show W _ _ _ _ _ _ _ _ _ _ _ _ 9 _ [(vi 0), (vi 3)]
  refine W.ishrK (pc := 9) (3 : Int32) d13_9 (by decide) ?_
  exact W.ireturn (pc := 10) d13_10 rfl (Or.inl rfl) rfl (by decide) ⟨rfl, rfl⟩
theorem w141 {Z a0} (hw : HW a0 Z) : ((Jvm.Cond.methodLink "java/lang/String" (505 : Nat) ({ cls := "java/lang/String", name := "length", desc := "()I" } : Jvm.MethodName)) : Jvm.Cond).before a0 Z = true := hw _ (List.mem_of_getElem? (i := 141) rfl)
theorem d27_17 : decode jdk_42_method_80_code 17 = .ok (.invokestatic 637, 3) := by decide +kernel
theorem d28_0 : decode jdk_43_method_22_code 0 = .ok (.iload_n 1, 1) := by decide +kernel
theorem d28_1 : decode jdk_43_method_22_code 1 = .ok (.invokestatic 88, 3) := by decide +kernel
theorem d29_0 : decode jdk_43_method_4_code 0 = .ok (.iload_n 0, 1) := by decide +kernel
theorem d29_1 : decode jdk_43_method_4_code 1 = .ok (.ifCond .lt 14, 3) := by decide +kernel
theorem d29_4 : decode jdk_43_method_4_code 4 = .ok (.iload_n 0, 1) := by decide +kernel
theorem d29_5 : decode jdk_43_method_4_code 5 = .ok (.sipush 255, 3) := by decide +kernel
theorem d29_8 : decode jdk_43_method_4_code 8 = .ok (.if_icmp .gt 7, 3) := by decide +kernel
theorem d29_11 : decode jdk_43_method_4_code 11 = .ok (.iconst 1, 1) := by decide +kernel
theorem d29_12 : decode jdk_43_method_4_code 12 = .ok (.goto 4, 3) := by decide +kernel
theorem d29_16 : decode jdk_43_method_4_code 16 = .ok (.ireturn, 1) := by decide +kernel
theorem c41_canEncode {Z a0} (hw : HW a0 Z) (hs : SF Z) {x1 : Int32} (hx1 : (45 ≤ x1.toInt ∧ x1.toInt ≤ 46) ∨ (48 ≤ x1.toInt ∧ x1.toInt ≤ 57) ∨ (65 ≤ x1.toInt ∧ x1.toInt ≤ 90) ∨ x1.toInt = 95 ∨ (97 ≤ x1.toInt ∧ x1.toInt ≤ 122)) {F : List Ent} : Con Z EL (⟨"java/lang/StringLatin1", "canEncode", "(I)Z"⟩ : MethodName) jdk_43_method_4_code 1 (Option.some Jvm.ClassFile.FieldType.boolean) (rmm 0 0 0 0) [(vi x1)] (F) (fun v D' => (v = some (vi 1) ∧ F = D')) := by
  refine Con.of (ls := #[iv x1]) (by decide +kernel) rfl ?_
  show W Z EL _ "java/lang/StringLatin1" "canEncode" _ _ _ _ _ _ _ _ _ _
  refine W.iloadN (pc := 0) d29_0 rfl ?_
  refine W.ifN (pc := 1) d29_1 (n_lt (by have := q0; omega)) ?_
  refine W.iloadN (pc := 4) d29_4 rfl ?_
  refine W.sipush (pc := 5) (255) d29_5 (by decide) ?_
  refine W.icmpN (pc := 8) d29_8 (n_gt (by have := q255; omega)) ?_
  refine W.iconst (pc := 11) (1) d29_11 (by decide) ?_
  refine W.goto (pc := 12) 16 d29_12 (by decide) ?_
  exact W.ireturn (pc := 16) d29_16 rfl (Or.inr (Or.inl rfl)) (nw_bool (by decide)) (by decide) ⟨rfl, rfl⟩
theorem pd_I_Z : parseMethodDescriptor "(I)Z" = some ⟨[.int], some .boolean⟩ := by decide +kernel
theorem w145 {Z a0} (hw : HW a0 Z) : ((Jvm.Cond.methodLink "java/lang/StringLatin1" (88 : Nat) ({ cls := "java/lang/StringLatin1", name := "canEncode", desc := "(I)Z" } : Jvm.MethodName)) : Jvm.Cond).before a0 Z = true := hw _ (List.mem_of_getElem? (i := 145) rfl)
theorem w146 {Z a0} (hw : HW a0 Z) : ((Jvm.Cond.static ({ cls := "java/lang/StringLatin1", name := "canEncode", desc := "(I)Z" } : Jvm.MethodName)) : Jvm.Cond).before a0 Z = true := hw _ (List.mem_of_getElem? (i := 146) rfl)
theorem w147 {Z a0} (hw : HW a0 Z) : ((Jvm.Cond.code ({ cls := "java/lang/StringLatin1", name := "canEncode", desc := "(I)Z" } : Jvm.MethodName) jdk_43_method_4_code (1 : Nat) (Option.some Jvm.ClassFile.FieldType.boolean)) : Jvm.Cond).before a0 Z = true := hw _ (List.mem_of_getElem? (i := 147) rfl)
theorem d28_4 : decode jdk_43_method_22_code 4 = .ok (.ifCond .ne 5, 3) := by decide +kernel
theorem d28_9 : decode jdk_43_method_22_code 9 = .ok (.iload_n 2, 1) := by decide +kernel
theorem d28_10 : decode jdk_43_method_22_code 10 = .ok (.iconst 0, 1) := by decide +kernel
theorem d28_11 : decode jdk_43_method_22_code 11 = .ok (.invokestatic 92, 3) := by decide +kernel
theorem d30_0 : decode jdk_29_method_65_code 0 = .ok (.iload_n 0, 1) := by decide +kernel
theorem d30_1 : decode jdk_29_method_65_code 1 = .ok (.iload_n 1, 1) := by decide +kernel
theorem d30_2 : decode jdk_29_method_65_code 2 = .ok (.if_icmp .lt 7, 3) := by decide +kernel
theorem d30_5 : decode jdk_29_method_65_code 5 = .ok (.iload_n 0, 1) := by decide +kernel
theorem d30_6 : decode jdk_29_method_65_code 6 = .ok (.goto 4, 3) := by decide +kernel
theorem d30_10 : decode jdk_29_method_65_code 10 = .ok (.ireturn, 1) := by decide +kernel
theorem c42_max {Z a0} (hw : HW a0 Z) (hs : SF Z) {F : List Ent} : Con Z EL (⟨"java/lang/Math", "max", "(II)I"⟩ : MethodName) jdk_29_method_65_code 2 (Option.some Jvm.ClassFile.FieldType.int) (rmm 0 0 0 0) [(vi 0), (vi 0)] (F) (fun v D' => (v = some (vi 0) ∧ F = D')) := by
  refine Con.of (ls := #[iv 0, iv 0]) (by decide +kernel) rfl ?_
  show W Z EL _ "java/lang/Math" "max" _ _ _ _ _ _ _ _ _ _
  refine W.iloadN (pc := 0) d30_0 rfl ?_
  refine W.iloadN (pc := 1) d30_1 rfl ?_
  refine W.icmpN (pc := 2) d30_2 (n_lt (by decide)) ?_
  refine W.iloadN (pc := 5) d30_5 rfl ?_
  refine W.goto (pc := 6) 10 d30_6 (by decide) ?_
  exact W.ireturn (pc := 10) d30_10 rfl (Or.inl rfl) rfl (by decide) ⟨rfl, rfl⟩
theorem pd_II_I : parseMethodDescriptor "(II)I" = some ⟨[.int, .int], some .int⟩ := by decide +kernel
theorem w148 {Z a0} (hw : HW a0 Z) : ((Jvm.Cond.methodLink "java/lang/StringLatin1" (92 : Nat) ({ cls := "java/lang/Math", name := "max", desc := "(II)I" } : Jvm.MethodName)) : Jvm.Cond).before a0 Z = true := hw _ (List.mem_of_getElem? (i := 148) rfl)
theorem w149 {Z a0} (hw : HW a0 Z) : ((Jvm.Cond.static ({ cls := "java/lang/Math", name := "max", desc := "(II)I" } : Jvm.MethodName)) : Jvm.Cond).before a0 Z = true := hw _ (List.mem_of_getElem? (i := 149) rfl)
theorem w150 {Z a0} (hw : HW a0 Z) : ((Jvm.Cond.initialized "java/lang/Math") : Jvm.Cond).before a0 Z = true := hw _ (List.mem_of_getElem? (i := 150) rfl)
theorem w151 {Z a0} (hw : HW a0 Z) : ((Jvm.Cond.code ({ cls := "java/lang/Math", name := "max", desc := "(II)I" } : Jvm.MethodName) jdk_29_method_65_code (2 : Nat) (Option.some Jvm.ClassFile.FieldType.int)) : Jvm.Cond).before a0 Z = true := hw _ (List.mem_of_getElem? (i := 151) rfl)
theorem d28_14 : decode jdk_43_method_22_code 14 = .ok (.istore_n 2, 1) := by decide +kernel
theorem d28_15 : decode jdk_43_method_22_code 15 = .ok (.iload_n 3, 1) := by decide +kernel
theorem d28_16 : decode jdk_43_method_22_code 16 = .ok (.aload_n 0, 1) := by decide +kernel
theorem d28_17 : decode jdk_43_method_22_code 17 = .ok (.arraylength, 1) := by decide +kernel
theorem d28_18 : decode jdk_43_method_22_code 18 = .ok (.invokestatic 38, 3) := by decide +kernel
theorem d31_0 : decode jdk_29_method_69_code 0 = .ok (.iload_n 0, 1) := by decide +kernel
theorem d31_1 : decode jdk_29_method_69_code 1 = .ok (.iload_n 1, 1) := by decide +kernel
theorem d31_2 : decode jdk_29_method_69_code 2 = .ok (.if_icmp .gt 7, 3) := by decide +kernel
theorem d31_5 : decode jdk_29_method_69_code 5 = .ok (.iload_n 0, 1) := by decide +kernel
theorem d31_6 : decode jdk_29_method_69_code 6 = .ok (.goto 4, 3) := by decide +kernel
theorem d31_10 : decode jdk_29_method_69_code 10 = .ok (.ireturn, 1) := by decide +kernel
theorem c43_min {Z a0} (hw : HW a0 Z) (hs : SF Z) {F : List Ent} : Con Z EL (⟨"java/lang/Math", "min", "(II)I"⟩ : MethodName) jdk_29_method_69_code 2 (Option.some Jvm.ClassFile.FieldType.int) (rmm 0 0 0 0) [(vi 3), (vi 3)] (F) (fun v D' => (v = some (vi 3) ∧ F = D')) := by
  refine Con.of (ls := #[iv 3, iv 3]) (by decide +kernel) rfl ?_
  show W Z EL _ "java/lang/Math" "min" _ _ _ _ _ _ _ _ _ _
  refine W.iloadN (pc := 0) d31_0 rfl ?_
  refine W.iloadN (pc := 1) d31_1 rfl ?_
  refine W.icmpN (pc := 2) d31_2 (n_gt (by decide)) ?_
  refine W.iloadN (pc := 5) d31_5 rfl ?_
  refine W.goto (pc := 6) 10 d31_6 (by decide) ?_
  exact W.ireturn (pc := 10) d31_10 rfl (Or.inl rfl) rfl (by decide) ⟨rfl, rfl⟩
theorem w152 {Z a0} (hw : HW a0 Z) : ((Jvm.Cond.methodLink "java/lang/StringLatin1" (38 : Nat) ({ cls := "java/lang/Math", name := "min", desc := "(II)I" } : Jvm.MethodName)) : Jvm.Cond).before a0 Z = true := hw _ (List.mem_of_getElem? (i := 152) rfl)
theorem w153 {Z a0} (hw : HW a0 Z) : ((Jvm.Cond.static ({ cls := "java/lang/Math", name := "min", desc := "(II)I" } : Jvm.MethodName)) : Jvm.Cond).before a0 Z = true := hw _ (List.mem_of_getElem? (i := 153) rfl)
theorem w154 {Z a0} (hw : HW a0 Z) : ((Jvm.Cond.code ({ cls := "java/lang/Math", name := "min", desc := "(II)I" } : Jvm.MethodName) jdk_29_method_69_code (2 : Nat) (Option.some Jvm.ClassFile.FieldType.int)) : Jvm.Cond).before a0 Z = true := hw _ (List.mem_of_getElem? (i := 154) rfl)
theorem d28_21 : decode jdk_43_method_22_code 21 = .ok (.istore_n 3, 1) := by decide +kernel
theorem d28_22 : decode jdk_43_method_22_code 22 = .ok (.iload_n 2, 1) := by decide +kernel
theorem d28_23 : decode jdk_43_method_22_code 23 = .ok (.iload_n 3, 1) := by decide +kernel
theorem d28_24 : decode jdk_43_method_22_code 24 = .ok (.if_icmp .lt 5, 3) := by decide +kernel
theorem d28_29 : decode jdk_43_method_22_code 29 = .ok (.aload_n 0, 1) := by decide +kernel
theorem d28_30 : decode jdk_43_method_22_code 30 = .ok (.iload_n 1, 1) := by decide +kernel
theorem d28_31 : decode jdk_43_method_22_code 31 = .ok (.iload_n 2, 1) := by decide +kernel
theorem d28_32 : decode jdk_43_method_22_code 32 = .ok (.iload_n 3, 1) := by decide +kernel
theorem d28_33 : decode jdk_43_method_22_code 33 = .ok (.invokestatic 95, 3) := by decide +kernel
theorem d32_0 : decode jdk_43_method_23_code 0 = .ok (.iload_n 1, 1) := by decide +kernel
theorem d32_1 : decode jdk_43_method_23_code 1 = .ok (.i2b, 1) := by decide +kernel
theorem d32_2 : decode jdk_43_method_23_code 2 = .ok (.istore 4, 2) := by decide +kernel
theorem d32_4 : decode jdk_43_method_23_code 4 = .ok (.iload_n 2, 1) := by decide +kernel
theorem d32_5 : decode jdk_43_method_23_code 5 = .ok (.istore 5, 2) := by decide +kernel
theorem d32_7 : decode jdk_43_method_23_code 7 = .ok (.iload 5, 2) := by decide +kernel
theorem d32_9 : decode jdk_43_method_23_code 9 = .ok (.iload_n 3, 1) := by decide +kernel
theorem d32_10 : decode jdk_43_method_23_code 10 = .ok (.if_icmp .ge 21, 3) := by decide +kernel
theorem d32_13 : decode jdk_43_method_23_code 13 = .ok (.aload_n 0, 1) := by decide +kernel
theorem d32_14 : decode jdk_43_method_23_code 14 = .ok (.iload 5, 2) := by decide +kernel
theorem d32_16 : decode jdk_43_method_23_code 16 = .ok (.baload, 1) := by decide +kernel
theorem d32_17 : decode jdk_43_method_23_code 17 = .ok (.iload 4, 2) := by decide +kernel
theorem d32_19 : decode jdk_43_method_23_code 19 = .ok (.if_icmp .ne 6, 3) := by decide +kernel
theorem d32_25 : decode jdk_43_method_23_code 25 = .ok (.iinc 5 1, 3) := by decide +kernel
theorem d32_28 : decode jdk_43_method_23_code 28 = .ok (.goto (-21), 3) := by decide +kernel
theorem d32_31 : decode jdk_43_method_23_code 31 = .ok (.iconst (-1), 1) := by decide +kernel
theorem d32_32 : decode jdk_43_method_23_code 32 = .ok (.ireturn, 1) := by decide +kernel
theorem d32_22 : decode jdk_43_method_23_code 22 = .ok (.iload 5, 2) := by decide +kernel
theorem d32_24 : decode jdk_43_method_23_code 24 = .ok (.ireturn, 1) := by decide +kernel
theorem c44_indexOfChar {Z a0} (hw : HW a0 Z) (hs : SF Z) {x1 : Int32} (hx1 : (45 ≤ x1.toInt ∧ x1.toInt ≤ 46) ∨ (48 ≤ x1.toInt ∧ x1.toInt ≤ 57) ∨ (65 ≤ x1.toInt ∧ x1.toInt ≤ 90) ∨ x1.toInt = 95 ∨ (97 ≤ x1.toInt ∧ x1.toInt ≤ 122)) {w_og3Z : Bool} {ad_og3Z : String} {F : List Ent} (mog3Z : ((og3 Z), w_og3Z, ar ad_og3Z .byte [(vi 46), (vi 95), (vi 45)]) ∈ F) : Con Z EL (⟨"java/lang/StringLatin1", "indexOfChar", "([BIII)I"⟩ : MethodName) jdk_43_method_23_code 6 (Option.some Jvm.ClassFile.FieldType.int) (rmm 0 0 0 0) [(vr (og3 Z)), (vi x1), (vi 0), (vi 3)] (F) (fun v D' => (Cd .ne (46 : Int32) x1 ∧ Cd .ne (95 : Int32) x1 ∧ Cd .ne (45 : Int32) x1 ∧ v = some (vi (-1)) ∧ F = D') ∨ (Cd .ne (46 : Int32) x1 ∧ Cd .ne (95 : Int32) x1 ∧ ¬ Cd .ne (45 : Int32) x1 ∧ v = some (vi 2) ∧ F = D') ∨ (Cd .ne (46 : Int32) x1 ∧ ¬ Cd .ne (95 : Int32) x1 ∧ v = some (vi 1) ∧ F = D') ∨ (¬ Cd .ne (46 : Int32) x1 ∧ v = some (vi 0) ∧ F = D')) := by
  refine Con.of (ls := #[rv (og3 Z), iv x1, iv 0, iv 3, uu, uu]) (by decide +kernel) rfl ?_
  show W Z EL _ "java/lang/StringLatin1" "indexOfChar" _ _ _ _ _ _ _ _ _ _
  refine W.iloadN (pc := 0) d32_0 rfl ?_
  refine W.i2bK (pc := 1) x1 d32_1 (z_i2b (by omega)) ?_
  refine W.istore (pc := 2) (ls' := #[rv (og3 Z), iv x1, iv 0, iv 3, iv x1, uu]) d32_2 rfl ?_
  refine W.iloadN (pc := 4) d32_4 rfl ?_
  refine W.istore (pc := 5) (ls' := #[rv (og3 Z), iv x1, iv 0, iv 3, iv x1, iv 0]) d32_5 rfl ?_
  refine W.iload (pc := 7) d32_7 rfl ?_
  refine W.iloadN (pc := 9) d32_9 rfl ?_
  refine W.icmpN (pc := 10) d32_10 (n_ge (by decide)) ?_
  refine W.aloadN (pc := 13) d32_13 rfl rfl ?_
  refine W.iload (pc := 14) d32_14 rfl ?_
  refine W.baload (pc := 16) 0 d32_16 mog3Z ix0 rfl ?_
  refine W.iload (pc := 17) d32_17 rfl ?_
  refine W.icmp (pc := 19) 25 d32_19 (by decide) (fun h1 => ?_) (fun h1 => ?_)
  ·
   have ih1 := t_ne h1
   refine W.iincK (pc := 25) (ls' := #[rv (og3 Z), iv x1, iv 0, iv 3, iv x1, iv 1]) (1) (1 : Int32) d32_25 (by decide) rfl (by decide) rfl ?_
   refine W.goto (pc := 28) 7 d32_28 (by decide) ?_
   refine W.iload (pc := 7) d32_7 rfl ?_
   refine W.iloadN (pc := 9) d32_9 rfl ?_
   refine W.icmpN (pc := 10) d32_10 (n_ge (by decide)) ?_
   refine W.aloadN (pc := 13) d32_13 rfl rfl ?_
   refine W.iload (pc := 14) d32_14 rfl ?_
   refine W.baload (pc := 16) 1 d32_16 mog3Z ix1 rfl ?_
   refine W.iload (pc := 17) d32_17 rfl ?_
   refine W.icmp (pc := 19) 25 d32_19 (by decide) (fun h2 => ?_) (fun h2 => ?_)
   ·
    have ih2 := t_ne h2
    refine W.iincK (pc := 25) (ls' := #[rv (og3 Z), iv x1, iv 0, iv 3, iv x1, iv 2]) (1) (2 : Int32) d32_25 (by decide) rfl (by decide) rfl ?_
    refine W.goto (pc := 28) 7 d32_28 (by decide) ?_
    refine W.iload (pc := 7) d32_7 rfl ?_
    refine W.iloadN (pc := 9) d32_9 rfl ?_
    refine W.icmpN (pc := 10) d32_10 (n_ge (by decide)) ?_
    refine W.aloadN (pc := 13) d32_13 rfl rfl ?_
    refine W.iload (pc := 14) d32_14 rfl ?_
    refine W.baload (pc := 16) 2 d32_16 mog3Z ix2 rfl ?_
    refine W.iload (pc := 17) d32_17 rfl ?_
    refine W.icmp (pc := 19) 25 d32_19 (by decide) (fun h3 => ?_) (fun h3 => ?_)
    ·
     have ih3 := t_ne h3
     refine W.iincK (pc := 25) (ls' := #[rv (og3 Z), iv x1, iv 0, iv 3, iv x1, iv 3]) (1) (3 : Int32) d32_25 (by decide) rfl (by decide) rfl ?_
     refine W.goto (pc := 28) 7 d32_28 (by decide) ?_
     refine W.iload (pc := 7) d32_7 rfl ?_
     refine W.iloadN (pc := 9) d32_9 rfl ?_
     refine W.icmpY (pc := 10) 31 d32_10 (y_ge (by decide)) (by decide) ?_
     refine W.iconst (pc := 31) (-1) d32_31 (by decide) ?_
     exact W.ireturn (pc := 32) d32_32 rfl (Or.inl rfl) rfl (by decide) (Or.inl ⟨h1, h2, h3, rfl, rfl⟩)
    ·
     have ih3 := f_ne h3
     refine W.iload (pc := 22) d32_22 rfl ?_
     exact W.ireturn (pc := 24) d32_24 rfl (Or.inl rfl) rfl (by decide) (Or.inr (Or.inl ⟨h1, h2, h3, rfl, rfl⟩))
   ·
    have ih2 := f_ne h2
    refine W.iload (pc := 22) d32_22 rfl ?_
    exact W.ireturn (pc := 24) d32_24 rfl (Or.inl rfl) rfl (by decide) (Or.inr (Or.inr (Or.inl ⟨h1, h2, rfl, rfl⟩)))
  ·
   have ih1 := f_ne h1
   refine W.iload (pc := 22) d32_22 rfl ?_
   exact W.ireturn (pc := 24) d32_24 rfl (Or.inl rfl) rfl (by decide) (Or.inr (Or.inr (Or.inr ⟨h1, rfl, rfl⟩)))
theorem pd__BIII_I : parseMethodDescriptor "([BIII)I" = some ⟨[(.array .byte), .int, .int, .int], some .int⟩ := by decide +kernel
theorem w155 {Z a0} (hw : HW a0 Z) : ((Jvm.Cond.methodLink "java/lang/StringLatin1" (95 : Nat) ({ cls := "java/lang/StringLatin1", name := "indexOfChar", desc := "([BIII)I" } : Jvm.MethodName)) : Jvm.Cond).before a0 Z = true := hw _ (List.mem_of_getElem? (i := 155) rfl)
theorem w156 {Z a0} (hw : HW a0 Z) : ((Jvm.Cond.static ({ cls := "java/lang/StringLatin1", name := "indexOfChar", desc := "([BIII)I" } : Jvm.MethodName)) : Jvm.Cond).before a0 Z = true := hw _ (List.mem_of_getElem? (i := 156) rfl)
theorem w157 {Z a0} (hw : HW a0 Z) : ((Jvm.Cond.code ({ cls := "java/lang/StringLatin1", name := "indexOfChar", desc := "([BIII)I" } : Jvm.MethodName) jdk_43_method_23_code (6 : Nat) (Option.some Jvm.ClassFile.FieldType.int)) : Jvm.Cond).before a0 Z = true := hw _ (List.mem_of_getElem? (i := 157) rfl)
theorem d28_36 : decode jdk_43_method_22_code 36 = .ok (.ireturn, 1) := by decide +kernel
theorem c40_indexOf {Z a0} (hw : HW a0 Z) (hs : SF Z) {x1 : Int32} (hx1 : (45 ≤ x1.toInt ∧ x1.toInt ≤ 46) ∨ (48 ≤ x1.toInt ∧ x1.toInt ≤ 57) ∨ (65 ≤ x1.toInt ∧ x1.toInt ≤ 90) ∨ x1.toInt = 95 ∨ (97 ≤ x1.toInt ∧ x1.toInt ≤ 122)) {w_og3Z : Bool} {ad_og3Z : String} {F : List Ent} (mog3Z : ((og3 Z), w_og3Z, ar ad_og3Z .byte [(vi 46), (vi 95), (vi 45)]) ∈ F) : Con Z EL (⟨"java/lang/StringLatin1", "indexOf", "([BIII)I"⟩ : MethodName) jdk_43_method_22_code 4 (Option.some Jvm.ClassFile.FieldType.int) (rmm 1 0 0 17) [(vr (og3 Z)), (vi x1), (vi 0), (vi 3)] (F) (fun v D' => (Cd .ne (46 : Int32) x1 ∧ Cd .ne (95 : Int32) x1 ∧ Cd .ne (45 : Int32) x1 ∧ v = some (vi (-1)) ∧ F = D') ∨ (Cd .ne (46 : Int32) x1 ∧ Cd .ne (95 : Int32) x1 ∧ ¬ Cd .ne (45 : Int32) x1 ∧ v = some (vi 2) ∧ F = D') ∨ (Cd .ne (46 : Int32) x1 ∧ ¬ Cd .ne (95 : Int32) x1 ∧ v = some (vi 1) ∧ F = D') ∨ (¬ Cd .ne (46 : Int32) x1 ∧ v = some (vi 0) ∧ F = D')) := by
  refine Con.of (ls := #[rv (og3 Z), iv x1, iv 0, iv 3]) (by decide +kernel) rfl ?_
  show W Z EL _ "java/lang/StringLatin1" "indexOf" _ _ _ _ _ _ _ _ _ _
  refine W.iloadN (pc := 0) d28_0 rfl ?_
  refine W.callS (pc := 1) (as := [(vi x1)]) 0 [] d28_1 (w145 hw) (w146 hw) (w84 hw) (w147 hw) (c41_canEncode hw hs (hx1 := hx1)) (by decide) pd_I_Z rfl rfl rfl rfl (by decide) (fun v D' h => ?_)
  obtain ⟨rfl, rfl⟩ := h
  show W _ _ _ _ _ _ _ _ _ _ _ _ 4 _ [(vi 1)]
  refine W.ifY (pc := 4) 9 d28_4 (y_ne (by decide)) (by decide) ?_
  refine W.iloadN (pc := 9) d28_9 rfl ?_
  refine W.iconst (pc := 10) (0) d28_10 (by decide) ?_
  refine W.callS (pc := 11) (as := [(vi 0), (vi 0)]) 0 [] d28_11 (w148 hw) (w149 hw) (w150 hw) (w151 hw) (c42_max hw hs) (by decide) pd_II_I rfl rfl rfl rfl (by decide) (fun v D' h => ?_)
  obtain ⟨rfl, rfl⟩ := h
  show W _ _ _ _ _ _ _ _ _ _ _ _ 14 _ [(vi 0)]
  refine W.istoreN (pc := 14) (ls' := #[rv (og3 Z), iv x1, iv 0, iv 3]) d28_14 rfl ?_
  refine W.iloadN (pc := 15) d28_15 rfl ?_
  refine W.aloadN (pc := 16) d28_16 rfl rfl ?_
  refine W.alen (pc := 17) (3) d28_17 mog3Z rfl ?_
  refine W.callS (pc := 18) (as := [(vi 3), (vi 3)]) 0 [] d28_18 (w152 hw) (w153 hw) (w150 hw) (w154 hw) (c43_min hw hs) (by decide) pd_II_I rfl rfl rfl rfl (by decide) (fun v D' h => ?_)
  obtain ⟨rfl, rfl⟩ := h
  show W _ _ _ _ _ _ _ _ _ _ _ _ 21 _ [(vi 3)]
  refine W.istoreN (pc := 21) (ls' := #[rv (og3 Z), iv x1, iv 0, iv 3]) d28_21 rfl ?_
  refine W.iloadN (pc := 22) d28_22 rfl ?_
  refine W.iloadN (pc := 23) d28_23 rfl ?_
  refine W.icmpY (pc := 24) 29 d28_24 (y_lt (by decide)) (by decide) ?_
  refine W.aloadN (pc := 29) d28_29 rfl rfl ?_
  refine W.iloadN (pc := 30) d28_30 rfl ?_
  refine W.iloadN (pc := 31) d28_31 rfl ?_
  refine W.iloadN (pc := 32) d28_32 rfl ?_
  refine W.callS (pc := 33) (as := [(vr (og3 Z)), (vi x1), (vi 0), (vi 3)]) 0 [] d28_33 (w155 hw) (w156 hw) (w84 hw) (w157 hw) (c44_indexOfChar hw hs (hx1 := hx1) (mog3Z := mog3Z)) (by decide) pd__BIII_I rfl rfl rfl rfl (by decide) (fun v D' h => ?_)
  rcases h with ⟨h1, h2, h3, rfl, rfl⟩ | ⟨h4, h5, h6, rfl, rfl⟩ | ⟨h7, h8, rfl, rfl⟩ | ⟨h9, rfl, rfl⟩
  ·
   have ih1 := t_ne h1
   have ih2 := t_ne h2
   have ih3 := t_ne h3
   show W _ _ _ _ _ _ _ _ _ _ _ _ 36 _ [(vi (-1))]
   exact W.ireturn (pc := 36) d28_36 rfl (Or.inl rfl) rfl (by decide) (Or.inl ⟨h1, h2, h3, rfl, rfl⟩)
  ·
   have ih4 := t_ne h4
   have ih5 := t_ne h5
   have ih6 := f_ne h6
   show W _ _ _ _ _ _ _ _ _ _ _ _ 36 _ [(vi 2)]
   exact W.ireturn (pc := 36) d28_36 rfl (Or.inl rfl) rfl (by decide) (Or.inr (Or.inl ⟨h4, h5, h6, rfl, rfl⟩))
  ·
   have ih7 := t_ne h7
   have ih8 := f_ne h8
   show W _ _ _ _ _ _ _ _ _ _ _ _ 36 _ [(vi 1)]
   exact W.ireturn (pc := 36) d28_36 rfl (Or.inl rfl) rfl (by decide) (Or.inr (Or.inr (Or.inl ⟨h7, h8, rfl, rfl⟩)))
  ·
   have ih9 := f_ne h9
   show W _ _ _ _ _ _ _ _ _ _ _ _ 36 _ [(vi 0)]
   exact W.ireturn (pc := 36) d28_36 rfl (Or.inl rfl) rfl (by decide) (Or.inr (Or.inr (Or.inr ⟨h9, rfl, rfl⟩)))
theorem w142 {Z a0} (hw : HW a0 Z) : ((Jvm.Cond.methodLink "java/lang/String" (637 : Nat) ({ cls := "java/lang/StringLatin1", name := "indexOf", desc := "([BIII)I" } : Jvm.MethodName)) : Jvm.Cond).before a0 Z = true := hw _ (List.mem_of_getElem? (i := 142) rfl)
theorem w143 {Z a0} (hw : HW a0 Z) : ((Jvm.Cond.static ({ cls := "java/lang/StringLatin1", name := "indexOf", desc := "([BIII)I" } : Jvm.MethodName)) : Jvm.Cond).before a0 Z = true := hw _ (List.mem_of_getElem? (i := 143) rfl)
theorem w144 {Z a0} (hw : HW a0 Z) : ((Jvm.Cond.code ({ cls := "java/lang/StringLatin1", name := "indexOf", desc := "([BIII)I" } : Jvm.MethodName) jdk_43_method_22_code (4 : Nat) (Option.some Jvm.ClassFile.FieldType.int)) : Jvm.Cond).before a0 Z = true := hw _ (List.mem_of_getElem? (i := 144) rfl)
theorem d27_20 : decode jdk_42_method_80_code 20 = .ok (.goto 16, 3) := by decide +kernel
theorem d27_36 : decode jdk_42_method_80_code 36 = .ok (.ireturn, 1) := by decide +kernel
theorem c38_indexOf {Z a0} (hw : HW a0 Z) (hs : SF Z) {x1 : Int32} (hx1 : (45 ≤ x1.toInt ∧ x1.toInt ≤ 46) ∨ (48 ≤ x1.toInt ∧ x1.toInt ≤ 57) ∨ (65 ≤ x1.toInt ∧ x1.toInt ≤ 90) ∨ x1.toInt = 95 ∨ (97 ≤ x1.toInt ∧ x1.toInt ≤ 122)) {w_og2Z : Bool} {w_og3Z : Bool} {ad_og3Z : String} {F : List Ent} (mog2Z : ((og2 Z), w_og2Z, oString (vr (og3 Z)) (vi 0)) ∈ F) (mog3Z : ((og3 Z), w_og3Z, ar ad_og3Z .byte [(vi 46), (vi 95), (vi 45)]) ∈ F) : Con Z EL (⟨"java/lang/String", "indexOf", "(II)I"⟩ : MethodName) jdk_42_method_80_code 3 (Option.some Jvm.ClassFile.FieldType.int) (rmm 2 0 0 32) [(vr (og2 Z)), (vi x1), (vi 0)] (F) (fun v D' => (Cd .ne (46 : Int32) x1 ∧ Cd .ne (95 : Int32) x1 ∧ Cd .ne (45 : Int32) x1 ∧ v = some (vi (-1)) ∧ F = D') ∨ (Cd .ne (46 : Int32) x1 ∧ Cd .ne (95 : Int32) x1 ∧ ¬ Cd .ne (45 : Int32) x1 ∧ v = some (vi 2) ∧ F = D') ∨ (Cd .ne (46 : Int32) x1 ∧ ¬ Cd .ne (95 : Int32) x1 ∧ v = some (vi 1) ∧ F = D') ∨ (¬ Cd .ne (46 : Int32) x1 ∧ v = some (vi 0) ∧ F = D')) := by
  refine Con.of (ls := #[rv (og2 Z), iv x1, iv 0]) (by decide +kernel) rfl ?_
  show W Z EL _ "java/lang/String" "indexOf" _ _ _ _ _ _ _ _ _ _
  refine W.aloadN (pc := 0) d27_0 rfl rfl ?_
  refine W.callV (pc := 1) (as := []) 0 [] d27_1 (w77 hw) (w78 hw) (w80 hw) (w80 hw) (w79 hw) (w11 hw) (w81 hw) (Hp.exa mog2Z) (c32_isLatin1 hw hs (mp1 := mog2Z)) (by decide) pd__Z rfl rfl rfl rfl (by decide) (fun v D' h => ?_)
  obtain ⟨rfl, rfl⟩ := h
  show W _ _ _ _ _ _ _ _ _ _ _ _ 4 _ [(vi 1)]
  refine W.ifN (pc := 4) d27_4 (n_eq (by decide)) ?_
  refine W.aloadN (pc := 7) d27_7 rfl rfl ?_
  refine W.getf (pc := 8) d27_8 (w37 hw) Via.refl mog2Z m0 ?_
  refine W.iloadN (pc := 11) d27_11 rfl ?_
  refine W.iloadN (pc := 12) d27_12 rfl ?_
  refine W.aloadN (pc := 13) d27_13 rfl rfl ?_
  refine W.callV (pc := 14) (as := []) 3 [(vi 0), (vi x1), (vr (og3 Z))] d27_14 (w141 hw) (w63 hw) (w65 hw) (w65 hw) (w64 hw) (w11 hw) (w66 hw) (Hp.exa mog2Z) (c39_length hw hs (mog2Z := mog2Z) (mog3Z := mog3Z)) (by decide) pd__I rfl rfl rfl rfl (by decide) (fun v D' h => ?_)
  obtain ⟨rfl, rfl⟩ := h
  show W _ _ _ _ _ _ _ _ _ _ _ _ 17 _ [(vi 3), (vi 0), (vi x1), (vr (og3 Z))]
  refine W.callS (pc := 17) (as := [(vr (og3 Z)), (vi x1), (vi 0), (vi 3)]) 0 [] d27_17 (w142 hw) (w143 hw) (w84 hw) (w144 hw) (c40_indexOf hw hs (hx1 := hx1) (mog3Z := mog3Z)) (by decide) pd__BIII_I rfl rfl rfl rfl (by decide) (fun v D' h => ?_)
  rcases h with ⟨h1, h2, h3, rfl, rfl⟩ | ⟨h4, h5, h6, rfl, rfl⟩ | ⟨h7, h8, rfl, rfl⟩ | ⟨h9, rfl, rfl⟩
  ·
   have ih1 := t_ne h1
   have ih2 := t_ne h2
   have ih3 := t_ne h3
   show W _ _ _ _ _ _ _ _ _ _ _ _ 20 _ [(vi (-1))]
   refine W.goto (pc := 20) 36 d27_20 (by decide) ?_
   exact W.ireturn (pc := 36) d27_36 rfl (Or.inl rfl) rfl (by decide) (Or.inl ⟨h1, h2, h3, rfl, rfl⟩)
  ·
   have ih4 := t_ne h4
   have ih5 := t_ne h5
   have ih6 := f_ne h6
   show W _ _ _ _ _ _ _ _ _ _ _ _ 20 _ [(vi 2)]
   refine W.goto (pc := 20) 36 d27_20 (by decide) ?_
   exact W.ireturn (pc := 36) d27_36 rfl (Or.inl rfl) rfl (by decide) (Or.inr (Or.inl ⟨h4, h5, h6, rfl, rfl⟩))
  ·
   have ih7 := t_ne h7
   have ih8 := f_ne h8
   show W _ _ _ _ _ _ _ _ _ _ _ _ 20 _ [(vi 1)]
   refine W.goto (pc := 20) 36 d27_20 (by decide) ?_
   exact W.ireturn (pc := 36) d27_36 rfl (Or.inl rfl) rfl (by decide) (Or.inr (Or.inr (Or.inl ⟨h7, h8, rfl, rfl⟩)))
  ·
   have ih9 := f_ne h9
   show W _ _ _ _ _ _ _ _ _ _ _ _ 20 _ [(vi 0)]
   refine W.goto (pc := 20) 36 d27_20 (by decide) ?_
   exact W.ireturn (pc := 36) d27_36 rfl (Or.inl rfl) rfl (by decide) (Or.inr (Or.inr (Or.inr ⟨h9, rfl, rfl⟩)))
theorem w136 {Z a0} (hw : HW a0 Z) : ((Jvm.Cond.methodLink "java/lang/String" (633 : Nat) ({ cls := "java/lang/String", name := "indexOf", desc := "(II)I" } : Jvm.MethodName)) : Jvm.Cond).before a0 Z = true := hw _ (List.mem_of_getElem? (i := 136) rfl)
theorem w137 {Z a0} (hw : HW a0 Z) : ((Jvm.Cond.declares ({ cls := "java/lang/String", name := "indexOf", desc := "(II)I" } : Jvm.MethodName)) : Jvm.Cond).before a0 Z = true := hw _ (List.mem_of_getElem? (i := 137) rfl)
theorem w139 {Z a0} (hw : HW a0 Z) : ((Jvm.Cond.selects "java/lang/String" ({ cls := "java/lang/String", name := "indexOf", desc := "(II)I" } : Jvm.MethodName) ({ cls := "java/lang/String", name := "indexOf", desc := "(II)I" } : Jvm.MethodName)) : Jvm.Cond).before a0 Z = true := hw _ (List.mem_of_getElem? (i := 139) rfl)
theorem w138 {Z a0} (hw : HW a0 Z) : ((Jvm.Cond.instanceMethod ({ cls := "java/lang/String", name := "indexOf", desc := "(II)I" } : Jvm.MethodName)) : Jvm.Cond).before a0 Z = true := hw _ (List.mem_of_getElem? (i := 138) rfl)
theorem w140 {Z a0} (hw : HW a0 Z) : ((Jvm.Cond.code ({ cls := "java/lang/String", name := "indexOf", desc := "(II)I" } : Jvm.MethodName) jdk_42_method_80_code (3 : Nat) (Option.some Jvm.ClassFile.FieldType.int)) : Jvm.Cond).before a0 Z = true := hw _ (List.mem_of_getElem? (i := 140) rfl)
theorem d26_6 : decode jdk_42_method_79_code 6 = .ok (.ireturn, 1) := by decide +kernel
theorem c37_indexOf {Z a0} (hw : HW a0 Z) (hs : SF Z) {x1 : Int32} (hx1 : (45 ≤ x1.toInt ∧ x1.toInt ≤ 46) ∨ (48 ≤ x1.toInt ∧ x1.toInt ≤ 57) ∨ (65 ≤ x1.toInt ∧ x1.toInt ≤ 90) ∨ x1.toInt = 95 ∨ (97 ≤ x1.toInt ∧ x1.toInt ≤ 122)) {w_og2Z : Bool} {w_og3Z : Bool} {ad_og3Z : String} {F : List Ent} (mog2Z : ((og2 Z), w_og2Z, oString (vr (og3 Z)) (vi 0)) ∈ F) (mog3Z : ((og3 Z), w_og3Z, ar ad_og3Z .byte [(vi 46), (vi 95), (vi 45)]) ∈ F) : Con Z EL (⟨"java/lang/String", "indexOf", "(I)I"⟩ : MethodName) jdk_42_method_79_code 2 (Option.some Jvm.ClassFile.FieldType.int) (rmm 3 0 0 46) [(vr (og2 Z)), (vi x1)] (F) (fun v D' => (Cd .ne (46 : Int32) x1 ∧ Cd .ne (95 : Int32) x1 ∧ Cd .ne (45 : Int32) x1 ∧ v = some (vi (-1)) ∧ F = D') ∨ (Cd .ne (46 : Int32) x1 ∧ Cd .ne (95 : Int32) x1 ∧ ¬ Cd .ne (45 : Int32) x1 ∧ v = some (vi 2) ∧ F = D') ∨ (Cd .ne (46 : Int32) x1 ∧ ¬ Cd .ne (95 : Int32) x1 ∧ v = some (vi 1) ∧ F = D') ∨ (¬ Cd .ne (46 : Int32) x1 ∧ v = some (vi 0) ∧ F = D')) := by
  refine Con.of (ls := #[rv (og2 Z), iv x1]) (by decide +kernel) rfl ?_
  show W Z EL _ "java/lang/String" "indexOf" _ _ _ _ _ _ _ _ _ _
  refine W.aloadN (pc := 0) d26_0 rfl rfl ?_
  refine W.iloadN (pc := 1) d26_1 rfl ?_
  refine W.iconst (pc := 2) (0) d26_2 (by decide) ?_
  refine W.callV (pc := 3) (as := [(vi x1), (vi 0)]) 0 [] d26_3 (w136 hw) (w137 hw) (w139 hw) (w139 hw) (w138 hw) (w11 hw) (w140 hw) (Hp.exa mog2Z) (c38_indexOf hw hs (hx1 := hx1) (mog2Z := mog2Z) (mog3Z := mog3Z)) (by decide) pd_II_I rfl rfl rfl rfl (by decide) (fun v D' h => ?_)
  rcases h with ⟨h1, h2, h3, rfl, rfl⟩ | ⟨h4, h5, h6, rfl, rfl⟩ | ⟨h7, h8, rfl, rfl⟩ | ⟨h9, rfl, rfl⟩
  ·
   have ih1 := t_ne h1
   have ih2 := t_ne h2
   have ih3 := t_ne h3
   show W _ _ _ _ _ _ _ _ _ _ _ _ 6 _ [(vi (-1))]
   exact W.ireturn (pc := 6) d26_6 rfl (Or.inl rfl) rfl (by decide) (Or.inl ⟨h1, h2, h3, rfl, rfl⟩)
  ·
   have ih4 := t_ne h4
   have ih5 := t_ne h5
   have ih6 := f_ne h6
   show W _ _ _ _ _ _ _ _ _ _ _ _ 6 _ [(vi 2)]
   exact W.ireturn (pc := 6) d26_6 rfl (Or.inl rfl) rfl (by decide) (Or.inr (Or.inl ⟨h4, h5, h6, rfl, rfl⟩))
  ·
   have ih7 := t_ne h7
   have ih8 := f_ne h8
   show W _ _ _ _ _ _ _ _ _ _ _ _ 6 _ [(vi 1)]
   exact W.ireturn (pc := 6) d26_6 rfl (Or.inl rfl) rfl (by decide) (Or.inr (Or.inr (Or.inl ⟨h7, h8, rfl, rfl⟩)))
  ·
   have ih9 := f_ne h9
   show W _ _ _ _ _ _ _ _ _ _ _ _ 6 _ [(vi 0)]
   exact W.ireturn (pc := 6) d26_6 rfl (Or.inl rfl) rfl (by decide) (Or.inr (Or.inr (Or.inr ⟨h9, rfl, rfl⟩)))
theorem pd_I_I : parseMethodDescriptor "(I)I" = some ⟨[.int], some .int⟩ := by decide +kernel
theorem w131 {Z a0} (hw : HW a0 Z) : ((Jvm.Cond.methodLink "com/example/cunctator/cunctator/JobKey$NameRule" (64 : Nat) ({ cls := "java/lang/String", name := "indexOf", desc := "(I)I" } : Jvm.MethodName)) : Jvm.Cond).before a0 Z = true := hw _ (List.mem_of_getElem? (i := 131) rfl)
theorem w132 {Z a0} (hw : HW a0 Z) : ((Jvm.Cond.declares ({ cls := "java/lang/String", name := "indexOf", desc := "(I)I" } : Jvm.MethodName)) : Jvm.Cond).before a0 Z = true := hw _ (List.mem_of_getElem? (i := 132) rfl)
theorem w134 {Z a0} (hw : HW a0 Z) : ((Jvm.Cond.selects "java/lang/String" ({ cls := "java/lang/String", name := "indexOf", desc := "(I)I" } : Jvm.MethodName) ({ cls := "java/lang/String", name := "indexOf", desc := "(I)I" } : Jvm.MethodName)) : Jvm.Cond).before a0 Z = true := hw _ (List.mem_of_getElem? (i := 134) rfl)
theorem w133 {Z a0} (hw : HW a0 Z) : ((Jvm.Cond.instanceMethod ({ cls := "java/lang/String", name := "indexOf", desc := "(I)I" } : Jvm.MethodName)) : Jvm.Cond).before a0 Z = true := hw _ (List.mem_of_getElem? (i := 133) rfl)
theorem w135 {Z a0} (hw : HW a0 Z) : ((Jvm.Cond.code ({ cls := "java/lang/String", name := "indexOf", desc := "(I)I" } : Jvm.MethodName) jdk_42_method_79_code (2 : Nat) (Option.some Jvm.ClassFile.FieldType.int)) : Jvm.Cond).before a0 Z = true := hw _ (List.mem_of_getElem? (i := 135) rfl)
theorem d11_56 : decode prog_9_method_2_code 56 = .ok (.ifCond .ge 28, 3) := by decide +kernel
theorem d11_84 : decode prog_9_method_2_code 84 = .ok (.iinc 2 1, 3) := by decide +kernel
theorem d11_87 : decode prog_9_method_2_code 87 = .ok (.goto (-60), 3) := by decide +kernel
theorem d11_90 : decode prog_9_method_2_code 90 = .ok (.aload_n 1, 1) := by decide +kernel
theorem d11_91 : decode prog_9_method_2_code 91 = .ok (.invokevirtual 50, 3) := by decide +kernel
theorem d11_94 : decode prog_9_method_2_code 94 = .ok (.aload_n 0, 1) := by decide +kernel
theorem d11_95 : decode prog_9_method_2_code 95 = .ok (.getfield 7, 3) := by decide +kernel
theorem w97 {Z a0} (hw : HW a0 Z) : ((Jvm.Cond.fieldLink "com/example/cunctator/cunctator/JobKey$NameRule" (7 : Nat) "com/example/cunctator/cunctator/JobKey$NameRule" "maxLength" "I") : Jvm.Cond).before a0 Z = true := hw _ (List.mem_of_getElem? (i := 97) rfl)
theorem d11_98 : decode prog_9_method_2_code 98 = .ok (.if_icmp .le 17, 3) := by decide +kernel
theorem d11_115 : decode prog_9_method_2_code 115 = .ok (.aload_n 1, 1) := by decide +kernel
theorem d11_116 : decode prog_9_method_2_code 116 = .ok (.areturn, 1) := by decide +kernel
theorem c27_check {Z a0} (hw : HW a0 Z) (hs : SF Z) {p1 p2 : Addr} {x1 : Int32} (hx1 : (45 ≤ x1.toInt ∧ x1.toInt ≤ 46) ∨ (48 ≤ x1.toInt ∧ x1.toInt ≤ 57) ∨ (65 ≤ x1.toInt ∧ x1.toInt ≤ 90) ∨ x1.toInt = 95 ∨ (97 ≤ x1.toInt ∧ x1.toInt ≤ 122)) {w_p1 : Bool} {w_p2 : Bool} {ad_p2 : String} {w_og1Z : Bool} {w_og2Z : Bool} {w_og3Z : Bool} {ad_og3Z : String} {F : List Ent} (mp1 : (p1, w_p1, oString (vr p2) (vi 0)) ∈ F) (mp2 : (p2, w_p2, ar ad_p2 .byte [(vi x1)]) ∈ F) (mog1Z : ((og1 Z), w_og1Z, oJobKey_NameRule (vi 64) (vr (og2 Z))) ∈ F) (mog2Z : ((og2 Z), w_og2Z, oString (vr (og3 Z)) (vi 0)) ∈ F) (mog3Z : ((og3 Z), w_og3Z, ar ad_og3Z .byte [(vi 46), (vi 95), (vi 45)]) ∈ F) : Con Z EL (⟨"com/example/cunctator/cunctator/JobKey$NameRule", "check", "(Ljava/lang/String;)Ljava/lang/String;"⟩ : MethodName) prog_9_method_2_code 4 (Option.some (Jvm.ClassFile.FieldType.object "java/lang/String")) (rmm 4 0 0 59) [(vr (og1 Z)), (vr p1)] (F) (fun v D' => (v = some (vr p1) ∧ F = D')) := by
  refine Con.of (ls := #[rv (og1 Z), rv p1, uu, uu]) (by decide +kernel) rfl ?_
  show W Z EL _ "com/example/cunctator/cunctator/JobKey$NameRule" "check" _ _ _ _ _ _ _ _ _ _
  refine W.aloadN (pc := 0) d11_0 rfl rfl ?_
  refine W.ifnonnullY (pc := 1) 11 d11_1 (by decide) ?_
  refine W.aloadN (pc := 11) d11_11 rfl rfl ?_
  refine W.callV (pc := 12) (as := []) 0 [] d11_12 (w57 hw) (w58 hw) (w60 hw) (w60 hw) (w59 hw) (w11 hw) (w61 hw) (Hp.exa mp1) (c28_isEmpty hw hs (hx1 := hx1) (mp1 := mp1) (mp2 := mp2)) (by decide) pd__Z rfl rfl rfl rfl (by decide) (fun v D' h => ?_)
  obtain ⟨rfl, rfl⟩ := h
  show W _ _ _ _ _ _ _ _ _ _ _ _ 15 _ [(vi 0)]
  refine W.ifY (pc := 15) 25 d11_15 (y_eq (by decide)) (by decide) ?_
  refine W.iconst (pc := 25) (0) d11_25 (by decide) ?_
  refine W.istoreN (pc := 26) (ls' := #[rv (og1 Z), rv p1, iv 0, uu]) d11_26 rfl ?_
  refine W.iloadN (pc := 27) d11_27 rfl ?_
  refine W.aloadN (pc := 28) d11_28 rfl rfl ?_
  refine W.callV (pc := 29) (as := []) 1 [(vi 0)] d11_29 (w62 hw) (w63 hw) (w65 hw) (w65 hw) (w64 hw) (w11 hw) (w66 hw) (Hp.exa mp1) (c29_length hw hs (hx1 := hx1) (mp1 := mp1) (mp2 := mp2)) (by decide) pd__I rfl rfl rfl rfl (by decide) (fun v D' h => ?_)
  obtain ⟨rfl, rfl⟩ := h
  show W _ _ _ _ _ _ _ _ _ _ _ _ 32 _ [(vi 1), (vi 0)]
  refine W.icmpN (pc := 32) d11_32 (n_ge (by decide)) ?_
  have K2 : W Z EL (rmm 4 0 0 59) "com/example/cunctator/cunctator/JobKey$NameRule" "check" prog_9_method_2_code 4 (Option.some (Jvm.ClassFile.FieldType.object "java/lang/String")) (fun v D' => (v = some (vr p1) ∧ F = D')) (F) 0 0 84 #[rv (og1 Z), rv p1, iv 0, iv x1] [] := by
   refine W.iincK (pc := 84) (ls' := #[rv (og1 Z), rv p1, iv 1, iv x1]) (1) (1 : Int32) d11_84 (by decide) rfl (by decide) rfl ?_
   refine W.goto (pc := 87) 27 d11_87 (by decide) ?_
   refine W.iloadN (pc := 27) d11_27 rfl ?_
   refine W.aloadN (pc := 28) d11_28 rfl rfl ?_
   refine W.callV (pc := 29) (as := []) 1 [(vi 1)] d11_29 (w62 hw) (w63 hw) (w65 hw) (w65 hw) (w64 hw) (w11 hw) (w66 hw) (Hp.exa mp1) (c29_length hw hs (hx1 := hx1) (mp1 := mp1) (mp2 := mp2)) (by decide) pd__I rfl rfl rfl rfl (by decide) (fun v D' h => ?_)
   obtain ⟨rfl, rfl⟩ := h
   show W _ _ _ _ _ _ _ _ _ _ _ _ 32 _ [(vi 1), (vi 1)]
   refine W.icmpY (pc := 32) 90 d11_32 (y_ge (by decide)) (by decide) ?_
   refine W.aloadN (pc := 90) d11_90 rfl rfl ?_
   refine W.callV (pc := 91) (as := []) 0 [] d11_91 (w62 hw) (w63 hw) (w65 hw) (w65 hw) (w64 hw) (w11 hw) (w66 hw) (Hp.exa mp1) (c29_length hw hs (hx1 := hx1) (mp1 := mp1) (mp2 := mp2)) (by decide) pd__I rfl rfl rfl rfl (by decide) (fun v D' h => ?_)
   obtain ⟨rfl, rfl⟩ := h
   show W _ _ _ _ _ _ _ _ _ _ _ _ 94 _ [(vi 1)]
   refine W.aloadN (pc := 94) d11_94 rfl rfl ?_
   refine W.getf (pc := 95) d11_95 (w97 hw) Via.refl mog1Z m0 ?_
   refine W.icmpY (pc := 98) 115 d11_98 (y_le (by decide)) (by decide) ?_
   refine W.aloadN (pc := 115) d11_115 rfl rfl ?_
   exact W.areturn (pc := 116) d11_116 rfl rfl rfl (by decide) ⟨rfl, rfl⟩
  refine W.aloadN (pc := 35) d11_35 rfl rfl ?_
  refine W.iloadN (pc := 36) d11_36 rfl ?_
  refine W.callV (pc := 37) (as := [(vi 0)]) 0 [] d11_37 (w72 hw) (w73 hw) (w75 hw) (w75 hw) (w74 hw) (w11 hw) (w76 hw) (Hp.exa mp1) (c31_charAt hw hs (hx1 := hx1) (mp1 := mp1) (mp2 := mp2)) (by decide) pd_I_C rfl rfl rfl rfl (by decide) (fun v D' h => ?_)
  obtain ⟨rfl, rfl⟩ := h
  show W _ _ _ _ _ _ _ _ _ _ _ _ 40 _ [(vi x1)]
  refine W.istoreN (pc := 40) (ls' := #[rv (og1 Z), rv p1, iv 0, iv x1]) d11_40 rfl ?_
  refine W.iloadN (pc := 41) d11_41 rfl ?_
  refine W.callSN (pc := 42) (as := [(vi x1)]) 0 [] d11_42 (w94 hw) (w95 hw) (w41 hw) (w96 hw) (c36_isAsciiLetterOrDigit hw hs (hx1 := hx1)) (by decide) pd_C_Z rfl rfl rfl rfl (by decide) (fun v D' h => ?_)
  rcases h with ⟨h1, h2, rfl, rfl⟩ | ⟨h3, h4, rfl, rfl⟩ | ⟨h5, h6, rfl, rfl⟩ | ⟨h7, h8, h9, rfl, rfl⟩ | ⟨h10, h11, h12, rfl, rfl⟩
  ·
   have ih1 := t_lt h1
   have ih2 := t_lt h2
   show W _ _ _ _ _ _ _ _ _ _ _ _ 45 _ [(vi 0)]
   refine W.ifN (pc := 45) d11_45 (n_ne (by decide)) ?_
   refine W.aloadN (pc := 48) d11_48 rfl rfl ?_
   refine W.getf (pc := 49) d11_49 (w129 hw) Via.refl mog1Z m1 ?_
   refine W.iloadN (pc := 52) d11_52 rfl ?_
   refine W.callV (pc := 53) (as := [(vi x1)]) 0 [] d11_53 (w131 hw) (w132 hw) (w134 hw) (w134 hw) (w133 hw) (w11 hw) (w135 hw) (Hp.exa mog2Z) (c37_indexOf hw hs (hx1 := hx1) (mog2Z := mog2Z) (mog3Z := mog3Z)) (by decide) pd_I_I rfl rfl rfl rfl (by decide) (fun v D' h => ?_)
   rcases h with ⟨h13, h14, h15, rfl, rfl⟩ | ⟨h16, h17, h18, rfl, rfl⟩ | ⟨h19, h20, rfl, rfl⟩ | ⟨h21, rfl, rfl⟩
   ·
    have ih13 := t_ne h13
    have ih14 := t_ne h14
    exact absurd h15 (n_ne (by have := q45; have := q65; have := q48; have := q46; have := q95; omega))
   ·
    have ih16 := t_ne h16
    have ih17 := t_ne h17
    have ih18 := f_ne h18
    show W _ _ _ _ _ _ _ _ _ _ _ _ 56 _ [(vi 2)]
    refine W.ifY (pc := 56) 84 d11_56 (y_ge (by decide)) (by decide) ?_
    exact W.mono (by decide) (by decide) (K2  )
   ·
    have ih19 := t_ne h19
    exact absurd h20 (Classical.not_not.mpr (y_ne (by have := q95; have := q65; have := q48; have := q46; omega)))
   ·
    have ih21 := f_ne h21
    show W _ _ _ _ _ _ _ _ _ _ _ _ 56 _ [(vi 0)]
    refine W.ifY (pc := 56) 84 d11_56 (y_ge (by decide)) (by decide) ?_
    exact W.mono (by decide) (by decide) (K2  )
  ·
   have ih3 := t_lt h3
   have ih4 := f_lt h4
   show W _ _ _ _ _ _ _ _ _ _ _ _ 45 _ [(vi 1)]
   refine W.ifY (pc := 45) 84 d11_45 (y_ne (by decide)) (by decide) ?_
   exact W.mono (by decide) (by decide) (K2  )
  ·
   have ih5 := f_lt h5
   have ih6 := t_le h6
   show W _ _ _ _ _ _ _ _ _ _ _ _ 45 _ [(vi 1)]
   refine W.ifY (pc := 45) 84 d11_45 (y_ne (by decide)) (by decide) ?_
   exact W.mono (by decide) (by decide) (K2  )
  ·
   have ih7 := f_lt h7
   have ih8 := f_le h8
   have ih9 := t_lt h9
   show W _ _ _ _ _ _ _ _ _ _ _ _ 45 _ [(vi 0)]
   refine W.ifN (pc := 45) d11_45 (n_ne (by decide)) ?_
   refine W.aloadN (pc := 48) d11_48 rfl rfl ?_
   refine W.getf (pc := 49) d11_49 (w129 hw) Via.refl mog1Z m1 ?_
   refine W.iloadN (pc := 52) d11_52 rfl ?_
   refine W.callV (pc := 53) (as := [(vi x1)]) 0 [] d11_53 (w131 hw) (w132 hw) (w134 hw) (w134 hw) (w133 hw) (w11 hw) (w135 hw) (Hp.exa mog2Z) (c37_indexOf hw hs (hx1 := hx1) (mog2Z := mog2Z) (mog3Z := mog3Z)) (by decide) pd_I_I rfl rfl rfl rfl (by decide) (fun v D' h => ?_)
   rcases h with ⟨h22, h23, h24, rfl, rfl⟩ | ⟨h25, h26, h27, rfl, rfl⟩ | ⟨h28, h29, rfl, rfl⟩ | ⟨h30, rfl, rfl⟩
   ·
    have ih22 := t_ne h22
    exact absurd h23 (n_ne (by have := q95; have := q65; have := q90; have := q97; have := q46; omega))
   ·
    have ih25 := t_ne h25
    exact absurd h26 (n_ne (by have := q95; have := q65; have := q90; have := q97; have := q46; omega))
   ·
    have ih28 := t_ne h28
    have ih29 := f_ne h29
    show W _ _ _ _ _ _ _ _ _ _ _ _ 56 _ [(vi 1)]
    refine W.ifY (pc := 56) 84 d11_56 (y_ge (by decide)) (by decide) ?_
    exact W.mono (by decide) (by decide) (K2  )
   ·
    exact absurd h30 (Classical.not_not.mpr (y_ne (by have := q46; have := q65; have := q90; have := q97; omega)))
  ·
   have ih10 := f_lt h10
   have ih11 := f_le h11
   have ih12 := f_lt h12
   show W _ _ _ _ _ _ _ _ _ _ _ _ 45 _ [(vi 1)]
   refine W.ifY (pc := 45) 84 d11_45 (y_ne (by decide)) (by decide) ?_
   exact W.mono (by decide) (by decide) (K2  )
theorem pd_Ljava_lang_String__Ljava_lang_String_ : parseMethodDescriptor "(Ljava/lang/String;)Ljava/lang/String;" = some ⟨[(.object "java/lang/String")], some (.object "java/lang/String")⟩ := by decide +kernel
theorem w51 {Z a0} (hw : HW a0 Z) : ((Jvm.Cond.methodLink "com/example/cunctator/cunctator/JobKey" (27 : Nat) ({ cls := "com/example/cunctator/cunctator/JobKey$NameRule", name := "check", desc := "(Ljava/lang/String;)Ljava/lang/String;" } : Jvm.MethodName)) : Jvm.Cond).before a0 Z = true := hw _ (List.mem_of_getElem? (i := 51) rfl)
theorem w52 {Z a0} (hw : HW a0 Z) : ((Jvm.Cond.declares ({ cls := "com/example/cunctator/cunctator/JobKey$NameRule", name := "check", desc := "(Ljava/lang/String;)Ljava/lang/String;" } : Jvm.MethodName)) : Jvm.Cond).before a0 Z = true := hw _ (List.mem_of_getElem? (i := 52) rfl)
theorem w54 {Z a0} (hw : HW a0 Z) : ((Jvm.Cond.selects "com/example/cunctator/cunctator/JobKey$NameRule" ({ cls := "com/example/cunctator/cunctator/JobKey$NameRule", name := "check", desc := "(Ljava/lang/String;)Ljava/lang/String;" } : Jvm.MethodName) ({ cls := "com/example/cunctator/cunctator/JobKey$NameRule", name := "check", desc := "(Ljava/lang/String;)Ljava/lang/String;" } : Jvm.MethodName)) : Jvm.Cond).before a0 Z = true := hw _ (List.mem_of_getElem? (i := 54) rfl)
theorem w53 {Z a0} (hw : HW a0 Z) : ((Jvm.Cond.instanceMethod ({ cls := "com/example/cunctator/cunctator/JobKey$NameRule", name := "check", desc := "(Ljava/lang/String;)Ljava/lang/String;" } : Jvm.MethodName)) : Jvm.Cond).before a0 Z = true := hw _ (List.mem_of_getElem? (i := 53) rfl)
theorem w55 {Z a0} (hw : HW a0 Z) : ((Jvm.Cond.initialized "com/example/cunctator/cunctator/JobKey$NameRule") : Jvm.Cond).before a0 Z = true := hw _ (List.mem_of_getElem? (i := 55) rfl)
theorem w56 {Z a0} (hw : HW a0 Z) : ((Jvm.Cond.code ({ cls := "com/example/cunctator/cunctator/JobKey$NameRule", name := "check", desc := "(Ljava/lang/String;)Ljava/lang/String;" } : Jvm.MethodName) prog_9_method_2_code (4 : Nat) (Option.some (Jvm.ClassFile.FieldType.object "java/lang/String"))) : Jvm.Cond).before a0 Z = true := hw _ (List.mem_of_getElem? (i := 56) rfl)
theorem d10_7 : decode prog_8_method_2_code 7 = .ok (.areturn, 1) := by decide +kernel
theorem c26_checkTopic {Z a0} (hw : HW a0 Z) (hs : SF Z) {p1 p2 : Addr} {x1 : Int32} (hx1 : (45 ≤ x1.toInt ∧ x1.toInt ≤ 46) ∨ (48 ≤ x1.toInt ∧ x1.toInt ≤ 57) ∨ (65 ≤ x1.toInt ∧ x1.toInt ≤ 90) ∨ x1.toInt = 95 ∨ (97 ≤ x1.toInt ∧ x1.toInt ≤ 122)) {w_og1Z : Bool} {w_p1 : Bool} {w_p2 : Bool} {ad_p2 : String} {w_og2Z : Bool} {w_og3Z : Bool} {ad_og3Z : String} {F : List Ent} (mog1Z : ((og1 Z), w_og1Z, oJobKey_NameRule (vi 64) (vr (og2 Z))) ∈ F) (mp1 : (p1, w_p1, oString (vr p2) (vi 0)) ∈ F) (mp2 : (p2, w_p2, ar ad_p2 .byte [(vi x1)]) ∈ F) (mog2Z : ((og2 Z), w_og2Z, oString (vr (og3 Z)) (vi 0)) ∈ F) (mog3Z : ((og3 Z), w_og3Z, ar ad_og3Z .byte [(vi 46), (vi 95), (vi 45)]) ∈ F) : Con Z EL (⟨"com/example/cunctator/cunctator/JobKey", "checkTopic", "(Ljava/lang/String;)Ljava/lang/String;"⟩ : MethodName) prog_8_method_2_code 1 (Option.some (Jvm.ClassFile.FieldType.object "java/lang/String")) (rmm 5 0 0 74) [(vr p1)] (F) (fun v D' => (v = some (vr p1) ∧ F = D')) := by
  refine Con.of (ls := #[rv p1]) (by decide +kernel) rfl ?_
  show W Z EL _ "com/example/cunctator/cunctator/JobKey" "checkTopic" _ _ _ _ _ _ _ _ _ _
  refine W.gets (pc := 0) d10_0 (w49 hw) Via.refl hs.2.2.2.2.1 ?_
  refine W.aloadN (pc := 3) d10_3 rfl rfl ?_
  refine W.callV (pc := 4) (as := [(vr p1)]) 0 [] d10_4 (w51 hw) (w52 hw) (w54 hw) (w54 hw) (w53 hw) (w55 hw) (w56 hw) (Hp.exa mog1Z) (c27_check hw hs (hx1 := hx1) (mp1 := mp1) (mp2 := mp2) (mog1Z := mog1Z) (mog2Z := mog2Z) (mog3Z := mog3Z)) (by decide) pd_Ljava_lang_String__Ljava_lang_String_ rfl rfl rfl rfl (by decide) (fun v D' h => ?_)
  obtain ⟨rfl, rfl⟩ := h
  show W _ _ _ _ _ _ _ _ _ _ _ _ 7 _ [(vr p1)]
  exact W.areturn (pc := 7) d10_7 rfl rfl rfl (by decide) ⟨rfl, rfl⟩
theorem w46 {Z a0} (hw : HW a0 Z) : ((Jvm.Cond.methodLink "com/example/cunctator/cunctator/JobKey" (7 : Nat) ({ cls := "com/example/cunctator/cunctator/JobKey", name := "checkTopic", desc := "(Ljava/lang/String;)Ljava/lang/String;" } : Jvm.MethodName)) : Jvm.Cond).before a0 Z = true := hw _ (List.mem_of_getElem? (i := 46) rfl)
theorem w47 {Z a0} (hw : HW a0 Z) : ((Jvm.Cond.static ({ cls := "com/example/cunctator/cunctator/JobKey", name := "checkTopic", desc := "(Ljava/lang/String;)Ljava/lang/String;" } : Jvm.MethodName)) : Jvm.Cond).before a0 Z = true := hw _ (List.mem_of_getElem? (i := 47) rfl)
theorem w48 {Z a0} (hw : HW a0 Z) : ((Jvm.Cond.code ({ cls := "com/example/cunctator/cunctator/JobKey", name := "checkTopic", desc := "(Ljava/lang/String;)Ljava/lang/String;" } : Jvm.MethodName) prog_8_method_2_code (1 : Nat) (Option.some (Jvm.ClassFile.FieldType.object "java/lang/String"))) : Jvm.Cond).before a0 Z = true := hw _ (List.mem_of_getElem? (i := 48) rfl)
theorem d9_9 : decode prog_8_method_1_code 9 = .ok (.putfield 13, 3) := by decide +kernel
theorem pfLjava_lang_String_ : parseFieldDescriptor "Ljava/lang/String;" = some (.object "java/lang/String") := by decide
abbrev oJobKey (f0 f1 : Value) : Desc := .inl ("com/example/cunctator/cunctator/JobKey", [("com/example/cunctator/cunctator/JobKey", "topic", "Ljava/lang/String;", f0), ("com/example/cunctator/cunctator/JobKey", "id", "Ljava/lang/String;", f1)])
theorem w99 {Z a0} (hw : HW a0 Z) : ((Jvm.Cond.fieldLink "com/example/cunctator/cunctator/JobKey" (13 : Nat) "com/example/cunctator/cunctator/JobKey" "topic" "Ljava/lang/String;") : Jvm.Cond).before a0 Z = true := hw _ (List.mem_of_getElem? (i := 99) rfl)
theorem d9_12 : decode prog_8_method_1_code 12 = .ok (.aload_n 0, 1) := by decide +kernel
theorem d9_13 : decode prog_8_method_1_code 13 = .ok (.aload_n 2, 1) := by decide +kernel
theorem d9_14 : decode prog_8_method_1_code 14 = .ok (.invokestatic 17, 3) := by decide +kernel
theorem d21_0 : decode prog_8_method_3_code 0 = .ok (.getstatic 32, 3) := by decide +kernel
theorem w104 {Z a0} (hw : HW a0 Z) : ((Jvm.Cond.fieldLink "com/example/cunctator/cunctator/JobKey" (32 : Nat) "com/example/cunctator/cunctator/JobKey" "ID_RULE" "Lcom/example/cunctator/cunctator/JobKey$NameRule;") : Jvm.Cond).before a0 Z = true := hw _ (List.mem_of_getElem? (i := 104) rfl)
theorem d21_3 : decode prog_8_method_3_code 3 = .ok (.aload_n 0, 1) := by decide +kernel
theorem d21_4 : decode prog_8_method_3_code 4 = .ok (.invokevirtual 27, 3) := by decide +kernel
theorem c47_isEmpty {Z a0} (hw : HW a0 Z) (hs : SF Z) {p1 p2 : Addr} {x1 : Int32} (hx1 : (45 ≤ x1.toInt ∧ x1.toInt ≤ 46) ∨ (48 ≤ x1.toInt ∧ x1.toInt ≤ 58) ∨ (65 ≤ x1.toInt ∧ x1.toInt ≤ 90) ∨ x1.toInt = 95 ∨ (97 ≤ x1.toInt ∧ x1.toInt ≤ 122)) {w_p1 : Bool} {w_p2 : Bool} {ad_p2 : String} {F : List Ent} (mp1 : (p1, w_p1, oString (vr p2) (vi 0)) ∈ F) (mp2 : (p2, w_p2, ar ad_p2 .byte [(vi x1)]) ∈ F) : Con Z EL (⟨"java/lang/String", "isEmpty", "()Z"⟩ : MethodName) jdk_42_method_55_code 1 (Option.some Jvm.ClassFile.FieldType.boolean) (rmm 0 0 0 0) [(vr p1)] (F) (fun v D' => (v = some (vi 0) ∧ F = D')) := by
  refine Con.of (ls := #[rv p1]) (by decide +kernel) rfl ?_
  show W Z EL _ "java/lang/String" "isEmpty" _ _ _ _ _ _ _ _ _ _
  refine W.aloadN (pc := 0) d12_0 rfl rfl ?_
  refine W.getf (pc := 1) d12_1 (w37 hw) Via.refl mp1 m0 ?_
  refine W.alen (pc := 4) (1) d12_4 mp2 rfl ?_
  refine W.ifY (pc := 5) 12 d12_5 (y_ne (by decide)) (by decide) ?_
  refine W.iconst (pc := 12) (0) d12_12 (by decide) ?_
  exact W.ireturn (pc := 13) d12_13 rfl (Or.inr (Or.inl rfl)) (nw_bool (by decide)) (by decide) ⟨rfl, rfl⟩
theorem c48_length {Z a0} (hw : HW a0 Z) (hs : SF Z) {p1 p2 : Addr} {x1 : Int32} (hx1 : (45 ≤ x1.toInt ∧ x1.toInt ≤ 46) ∨ (48 ≤ x1.toInt ∧ x1.toInt ≤ 58) ∨ (65 ≤ x1.toInt ∧ x1.toInt ≤ 90) ∨ x1.toInt = 95 ∨ (97 ≤ x1.toInt ∧ x1.toInt ≤ 122)) {w_p1 : Bool} {w_p2 : Bool} {ad_p2 : String} {F : List Ent} (mp1 : (p1, w_p1, oString (vr p2) (vi 0)) ∈ F) (mp2 : (p2, w_p2, ar ad_p2 .byte [(vi x1)]) ∈ F) : Con Z EL (⟨"java/lang/String", "length", "()I"⟩ : MethodName) jdk_42_method_54_code 1 (Option.some Jvm.ClassFile.FieldType.int) (rmm 1 0 0 13) [(vr p1)] (F) (fun v D' => (v = some (vi 1) ∧ F = D')) := by
  refine Con.of (ls := #[rv p1]) (by decide +kernel) rfl ?_
  show W Z EL _ "java/lang/String" "length" _ _ _ _ _ _ _ _ _ _
  refine W.aloadN (pc := 0) d13_0 rfl rfl ?_
  refine W.getf (pc := 1) d13_1 (w37 hw) Via.refl mp1 m0 ?_
  refine W.alen (pc := 4) (1) d13_4 mp2 rfl ?_
  refine W.aloadN (pc := 5) d13_5 rfl rfl ?_
  refine W.callV (pc := 6) (as := []) 1 [(vi 1)] d13_6 (w67 hw) (w68 hw) (w70 hw) (w70 hw) (w69 hw) (w11 hw) (w71 hw) (Hp.exa mp1) (c30_coder hw hs (mp1 := mp1)) (by decide) pd__B rfl rfl rfl rfl (by decide) (fun v D' h => ?_)
  obtain ⟨rfl, rfl⟩ := h
  show W _ _ _ _ _ _ _ _ _ _ _ _ 9 _ [(vi 0), (vi 1)]
  refine W.ishrK (pc := 9) (1 : Int32) d13_9 (by decide) ?_
  exact W.ireturn (pc := 10) d13_10 rfl (Or.inl rfl) rfl (by decide) ⟨rfl, rfl⟩
theorem c50_charAt {Z a0} (hw : HW a0 Z) (hs : SF Z) {p1 : Addr} {x1 : Int32} (hx1 : (45 ≤ x1.toInt ∧ x1.toInt ≤ 46) ∨ (48 ≤ x1.toInt ∧ x1.toInt ≤ 58) ∨ (65 ≤ x1.toInt ∧ x1.toInt ≤ 90) ∨ x1.toInt = 95 ∨ (97 ≤ x1.toInt ∧ x1.toInt ≤ 122)) {w_p1 : Bool} {ad_p1 : String} {F : List Ent} (mp1 : (p1, w_p1, ar ad_p1 .byte [(vi x1)]) ∈ F) : Con Z EL (⟨"java/lang/StringLatin1", "charAt", "([BI)C"⟩ : MethodName) jdk_43_method_2_code 2 (Option.some Jvm.ClassFile.FieldType.char) (rmm 2 0 0 27) [(vr p1), (vi 0)] (F) (fun v D' => (v = some (vi x1) ∧ F = D')) := by
  refine Con.of (ls := #[rv p1, iv 0]) (by decide +kernel) rfl ?_
  show W Z EL _ "java/lang/StringLatin1" "charAt" _ _ _ _ _ _ _ _ _ _
  refine W.iloadN (pc := 0) d17_0 rfl ?_
  refine W.aloadN (pc := 1) d17_1 rfl rfl ?_
  refine W.alen (pc := 2) (1) d17_2 mp1 rfl ?_
  refine W.callS (pc := 3) (as := [(vi 0), (vi 1)]) 0 [] d17_3 (w86 hw) (w87 hw) (w11 hw) (w88 hw) (c34_checkIndex hw hs) (by decide) pd_II_V rfl rfl rfl rfl (by decide) (fun v D' h => ?_)
  obtain ⟨rfl, rfl⟩ := h
  show W _ _ _ _ _ _ _ _ _ _ _ _ 6 _ []
  refine W.aloadN (pc := 6) d17_6 rfl rfl ?_
  refine W.iloadN (pc := 7) d17_7 rfl ?_
  refine W.baload (pc := 8) 0 d17_8 mp1 ix0 rfl ?_
  refine W.sipush (pc := 9) (255) d17_9 (by decide) ?_
  refine W.iandK (pc := 12) x1 d17_12 (z_and 8 256 (by decide) (by decide) (by decide) (by omega)) ?_
  refine W.i2cK (pc := 13) x1 d17_13 (z_i2c (by omega)) ?_
  exact W.ireturn (pc := 14) d17_14 rfl (Or.inr (Or.inr (Or.inr (Or.inl rfl)))) (nw_char (by omega)) (by decide) ⟨rfl, rfl⟩
theorem c49_charAt {Z a0} (hw : HW a0 Z) (hs : SF Z) {p1 p2 : Addr} {x1 : Int32} (hx1 : (45 ≤ x1.toInt ∧ x1.toInt ≤ 46) ∨ (48 ≤ x1.toInt ∧ x1.toInt ≤ 58) ∨ (65 ≤ x1.toInt ∧ x1.toInt ≤ 90) ∨ x1.toInt = 95 ∨ (97 ≤ x1.toInt ∧ x1.toInt ≤ 122)) {w_p1 : Bool} {w_p2 : Bool} {ad_p2 : String} {F : List Ent} (mp1 : (p1, w_p1, oString (vr p2) (vi 0)) ∈ F) (mp2 : (p2, w_p2, ar ad_p2 .byte [(vi x1)]) ∈ F) : Con Z EL (⟨"java/lang/String", "charAt", "(I)C"⟩ : MethodName) jdk_42_method_56_code 2 (Option.some Jvm.ClassFile.FieldType.char) (rmm 3 0 0 40) [(vr p1), (vi 0)] (F) (fun v D' => (v = some (vi x1) ∧ F = D')) := by
  refine Con.of (ls := #[rv p1, iv 0]) (by decide +kernel) rfl ?_
  show W Z EL _ "java/lang/String" "charAt" _ _ _ _ _ _ _ _ _ _
  refine W.aloadN (pc := 0) d15_0 rfl rfl ?_
  refine W.callV (pc := 1) (as := []) 0 [] d15_1 (w77 hw) (w78 hw) (w80 hw) (w80 hw) (w79 hw) (w11 hw) (w81 hw) (Hp.exa mp1) (c32_isLatin1 hw hs (mp1 := mp1)) (by decide) pd__Z rfl rfl rfl rfl (by decide) (fun v D' h => ?_)
  obtain ⟨rfl, rfl⟩ := h
  show W _ _ _ _ _ _ _ _ _ _ _ _ 4 _ [(vi 1)]
  refine W.ifN (pc := 4) d15_4 (n_eq (by decide)) ?_
  refine W.aloadN (pc := 7) d15_7 rfl rfl ?_
  refine W.getf (pc := 8) d15_8 (w37 hw) Via.refl mp1 m0 ?_
  refine W.iloadN (pc := 11) d15_11 rfl ?_
  refine W.callS (pc := 12) (as := [(vr p2), (vi 0)]) 0 [] d15_12 (w82 hw) (w83 hw) (w84 hw) (w85 hw) (c50_charAt hw hs (hx1 := hx1) (mp1 := mp2)) (by decide) pd__BI_C rfl rfl rfl rfl (by decide) (fun v D' h => ?_)
  obtain ⟨rfl, rfl⟩ := h
  show W _ _ _ _ _ _ _ _ _ _ _ _ 15 _ [(vi x1)]
  exact W.ireturn (pc := 15) d15_15 rfl (Or.inr (Or.inr (Or.inr (Or.inl rfl)))) (nw_char (by omega)) (by decide) ⟨rfl, rfl⟩
theorem c51_isAsciiLetterOrDigit {Z a0} (hw : HW a0 Z) (hs : SF Z) {x1 : Int32} (hx1 : (45 ≤ x1.toInt ∧ x1.toInt ≤ 46) ∨ (48 ≤ x1.toInt ∧ x1.toInt ≤ 58) ∨ (65 ≤ x1.toInt ∧ x1.toInt ≤ 90) ∨ x1.toInt = 95 ∨ (97 ≤ x1.toInt ∧ x1.toInt ≤ 122)) {F : List Ent} : Con Z EL (⟨"com/example/cunctator/cunctator/JobKey", "isAsciiLetterOrDigit", "(C)Z"⟩ : MethodName) prog_8_method_9_code 1 (Option.some Jvm.ClassFile.FieldType.boolean) (rmm 0 0 0 0) [(vi x1)] (F) (fun v D' => (Cd .lt x1 (65 : Int32) ∧ Cd .lt x1 (48 : Int32) ∧ v = some (vi 0) ∧ F = D') ∨ (Cd .lt x1 (65 : Int32) ∧ ¬ Cd .lt x1 (48 : Int32) ∧ Cd .gt x1 (57 : Int32) ∧ v = some (vi 0) ∧ F = D') ∨ (Cd .lt x1 (65 : Int32) ∧ ¬ Cd .lt x1 (48 : Int32) ∧ ¬ Cd .gt x1 (57 : Int32) ∧ v = some (vi 1) ∧ F = D') ∨ (¬ Cd .lt x1 (65 : Int32) ∧ Cd .le x1 (90 : Int32) ∧ v = some (vi 1) ∧ F = D') ∨ (¬ Cd .lt x1 (65 : Int32) ∧ ¬ Cd .le x1 (90 : Int32) ∧ Cd .lt x1 (97 : Int32) ∧ v = some (vi 0) ∧ F = D') ∨ (¬ Cd .lt x1 (65 : Int32) ∧ ¬ Cd .le x1 (90 : Int32) ∧ ¬ Cd .lt x1 (97 : Int32) ∧ v = some (vi 1) ∧ F = D')) := by
  refine Con.of (ls := #[iv x1]) (by decide +kernel) rfl ?_
  show W Z EL _ "com/example/cunctator/cunctator/JobKey" "isAsciiLetterOrDigit" _ _ _ _ _ _ _ _ _ _
  refine W.iloadN (pc := 0) d20_0 rfl ?_
  refine W.bipush (pc := 1) (65) d20_1 (by decide) ?_
  refine W.icmp (pc := 3) 12 d20_3 (by decide) (fun h1 => ?_) (fun h1 => ?_)
  ·
   have ih1 := t_lt h1
   refine W.iloadN (pc := 12) d20_12 rfl ?_
   refine W.bipush (pc := 13) (97) d20_13 (by decide) ?_
   refine W.icmpY (pc := 15) 24 d20_15 (y_lt (by have := q97; have := q65; omega)) (by decide) ?_
   refine W.iloadN (pc := 24) d20_24 rfl ?_
   refine W.bipush (pc := 25) (48) d20_25 (by decide) ?_
   refine W.icmp (pc := 27) 40 d20_27 (by decide) (fun h2 => ?_) (fun h2 => ?_)
   ·
    have ih2 := t_lt h2
    refine W.iconst (pc := 40) (0) d20_40 (by decide) ?_
    exact W.ireturn (pc := 41) d20_41 rfl (Or.inr (Or.inl rfl)) (nw_bool (by decide)) (by decide) (Or.inl ⟨h1, h2, rfl, rfl⟩)
   ·
    have ih2 := f_lt h2
    refine W.iloadN (pc := 30) d20_30 rfl ?_
    refine W.bipush (pc := 31) (57) d20_31 (by decide) ?_
    refine W.icmp (pc := 33) 40 d20_33 (by decide) (fun h3 => ?_) (fun h3 => ?_)
    ·
     have ih3 := t_gt h3
     refine W.iconst (pc := 40) (0) d20_40 (by decide) ?_
     exact W.ireturn (pc := 41) d20_41 rfl (Or.inr (Or.inl rfl)) (nw_bool (by decide)) (by decide) (Or.inr (Or.inl ⟨h1, h2, h3, rfl, rfl⟩))
    ·
     have ih3 := f_gt h3
     refine W.iconst (pc := 36) (1) d20_36 (by decide) ?_
     refine W.goto (pc := 37) 41 d20_37 (by decide) ?_
     exact W.ireturn (pc := 41) d20_41 rfl (Or.inr (Or.inl rfl)) (nw_bool (by decide)) (by decide) (Or.inr (Or.inr (Or.inl ⟨h1, h2, h3, rfl, rfl⟩)))
  ·
   have ih1 := f_lt h1
   refine W.iloadN (pc := 6) d20_6 rfl ?_
   refine W.bipush (pc := 7) (90) d20_7 (by decide) ?_
   refine W.icmp (pc := 9) 36 d20_9 (by decide) (fun h4 => ?_) (fun h4 => ?_)
   ·
    have ih4 := t_le h4
    refine W.iconst (pc := 36) (1) d20_36 (by decide) ?_
    refine W.goto (pc := 37) 41 d20_37 (by decide) ?_
    exact W.ireturn (pc := 41) d20_41 rfl (Or.inr (Or.inl rfl)) (nw_bool (by decide)) (by decide) (Or.inr (Or.inr (Or.inr (Or.inl ⟨h1, h4, rfl, rfl⟩))))
   ·
    have ih4 := f_le h4
    refine W.iloadN (pc := 12) d20_12 rfl ?_
    refine W.bipush (pc := 13) (97) d20_13 (by decide) ?_
    refine W.icmp (pc := 15) 24 d20_15 (by decide) (fun h5 => ?_) (fun h5 => ?_)
    ·
     have ih5 := t_lt h5
     refine W.iloadN (pc := 24) d20_24 rfl ?_
     refine W.bipush (pc := 25) (48) d20_25 (by decide) ?_
     refine W.icmpN (pc := 27) d20_27 (n_lt (by have := q48; have := q65; have := q90; have := q97; omega)) ?_
     refine W.iloadN (pc := 30) d20_30 rfl ?_
     refine W.bipush (pc := 31) (57) d20_31 (by decide) ?_
     refine W.icmpY (pc := 33) 40 d20_33 (y_gt (by have := q57; have := q65; have := q90; have := q97; omega)) (by decide) ?_
     refine W.iconst (pc := 40) (0) d20_40 (by decide) ?_
     exact W.ireturn (pc := 41) d20_41 rfl (Or.inr (Or.inl rfl)) (nw_bool (by decide)) (by decide) (Or.inr (Or.inr (Or.inr (Or.inr (Or.inl ⟨h1, h4, h5, rfl, rfl⟩)))))
    ·
     have ih5 := f_lt h5
     refine W.iloadN (pc := 18) d20_18 rfl ?_
     refine W.bipush (pc := 19) (122) d20_19 (by decide) ?_
     refine W.icmpY (pc := 21) 36 d20_21 (y_le (by have := q122; have := q65; have := q90; have := q97; omega)) (by decide) ?_
     refine W.iconst (pc := 36) (1) d20_36 (by decide) ?_
     refine W.goto (pc := 37) 41 d20_37 (by decide) ?_
     exact W.ireturn (pc := 41) d20_41 rfl (Or.inr (Or.inl rfl)) (nw_bool (by decide)) (by decide) (Or.inr (Or.inr (Or.inr (Or.inr (Or.inr ⟨h1, h4, h5, rfl, rfl⟩)))))
theorem c54_length {Z a0} (hw : HW a0 Z) (hs : SF Z) {w_og5Z : Bool} {w_og6Z : Bool} {ad_og6Z : String} {F : List Ent} (mog5Z : ((og5 Z), w_og5Z, oString (vr (og6 Z)) (vi 0)) ∈ F) (mog6Z : ((og6 Z), w_og6Z, ar ad_og6Z .byte [(vi 46), (vi 95), (vi 58), (vi 45)]) ∈ F) : Con Z EL (⟨"java/lang/String", "length", "()I"⟩ : MethodName) jdk_42_method_54_code 1 (Option.some Jvm.ClassFile.FieldType.int) (rmm 1 0 0 13) [(vr (og5 Z))] (F) (fun v D' => (v = some (vi 4) ∧ F = D')) := by
  refine Con.of (ls := #[rv (og5 Z)]) (by decide +kernel) rfl ?_
  show W Z EL _ "java/lang/String" "length" _ _ _ _ _ _ _ _ _ _
  refine W.aloadN (pc := 0) d13_0 rfl rfl ?_
  refine W.getf (pc := 1) d13_1 (w37 hw) Via.refl mog5Z m0 ?_
  refine W.alen (pc := 4) (4) d13_4 mog6Z rfl ?_
  refine W.aloadN (pc := 5) d13_5 rfl rfl ?_
  refine W.callV (pc := 6) (as := []) 1 [(vi 4)] d13_6 (w67 hw) (w68 hw) (w70 hw) (w70 hw) (w69 hw) (w11 hw) (w71 hw) (Hp.exa mog5Z) (c30_coder hw hs (mp1 := mog5Z)) (by decide) pd__B rfl rfl rfl rfl (by decide) (fun v D' h => ?_)
  obtain ⟨rfl, rfl⟩ := h
  show W _ _ _ _ _ _ _ _ _ _ _ _ 9 _ [(vi 0), (vi 4)]
  refine W.ishrK (pc := 9) (4 : Int32) d13_9 (by decide) ?_
  exact W.ireturn (pc := 10) d13_10 rfl (Or.inl rfl) rfl (by decide) ⟨rfl, rfl⟩
theorem c56_canEncode {Z a0} (hw : HW a0 Z) (hs : SF Z) {x1 : Int32} (hx1 : (45 ≤ x1.toInt ∧ x1.toInt ≤ 46) ∨ (48 ≤ x1.toInt ∧ x1.toInt ≤ 58) ∨ (65 ≤ x1.toInt ∧ x1.toInt ≤ 90) ∨ x1.toInt = 95 ∨ (97 ≤ x1.toInt ∧ x1.toInt ≤ 122)) {F : List Ent} : Con Z EL (⟨"java/lang/StringLatin1", "canEncode", "(I)Z"⟩ : MethodName) jdk_43_method_4_code 1 (Option.some Jvm.ClassFile.FieldType.boolean) (rmm 0 0 0 0) [(vi x1)] (F) (fun v D' => (v = some (vi 1) ∧ F = D')) := by
  refine Con.of (ls := #[iv x1]) (by decide +kernel) rfl ?_
  show W Z EL _ "java/lang/StringLatin1" "canEncode" _ _ _ _ _ _ _ _ _ _
  refine W.iloadN (pc := 0) d29_0 rfl ?_
  refine W.ifN (pc := 1) d29_1 (n_lt (by have := q0; omega)) ?_
  refine W.iloadN (pc := 4) d29_4 rfl ?_
  refine W.sipush (pc := 5) (255) d29_5 (by decide) ?_
  refine W.icmpN (pc := 8) d29_8 (n_gt (by have := q255; omega)) ?_
  refine W.iconst (pc := 11) (1) d29_11 (by decide) ?_
  refine W.goto (pc := 12) 16 d29_12 (by decide) ?_
  exact W.ireturn (pc := 16) d29_16 rfl (Or.inr (Or.inl rfl)) (nw_bool (by decide)) (by decide) ⟨rfl, rfl⟩
theorem c57_min {Z a0} (hw : HW a0 Z) (hs : SF Z) {F : List Ent} : Con Z EL (⟨"java/lang/Math", "min", "(II)I"⟩ : MethodName) jdk_29_method_69_code 2 (Option.some Jvm.ClassFile.FieldType.int) (rmm 0 0 0 0) [(vi 4), (vi 4)] (F) (fun v D' => (v = some (vi 4) ∧ F = D')) := by
  refine Con.of (ls := #[iv 4, iv 4]) (by decide +kernel) rfl ?_
  show W Z EL _ "java/lang/Math" "min" _ _ _ _ _ _ _ _ _ _
  refine W.iloadN (pc := 0) d31_0 rfl ?_
  refine W.iloadN (pc := 1) d31_1 rfl ?_
  refine W.icmpN (pc := 2) d31_2 (n_gt (by decide)) ?_
  refine W.iloadN (pc := 5) d31_5 rfl ?_
  refine W.goto (pc := 6) 10 d31_6 (by decide) ?_
  exact W.ireturn (pc := 10) d31_10 rfl (Or.inl rfl) rfl (by decide) ⟨rfl, rfl⟩
theorem ix3 : Idx (3 : Int32) 3 := by unfold Idx; decide
theorem c58_indexOfChar {Z a0} (hw : HW a0 Z) (hs : SF Z) {x1 : Int32} (hx1 : (45 ≤ x1.toInt ∧ x1.toInt ≤ 46) ∨ (48 ≤ x1.toInt ∧ x1.toInt ≤ 58) ∨ (65 ≤ x1.toInt ∧ x1.toInt ≤ 90) ∨ x1.toInt = 95 ∨ (97 ≤ x1.toInt ∧ x1.toInt ≤ 122)) {w_og6Z : Bool} {ad_og6Z : String} {F : List Ent} (mog6Z : ((og6 Z), w_og6Z, ar ad_og6Z .byte [(vi 46), (vi 95), (vi 58), (vi 45)]) ∈ F) : Con Z EL (⟨"java/lang/StringLatin1", "indexOfChar", "([BIII)I"⟩ : MethodName) jdk_43_method_23_code 6 (Option.some Jvm.ClassFile.FieldType.int) (rmm 0 0 0 0) [(vr (og6 Z)), (vi x1), (vi 0), (vi 4)] (F) (fun v D' => (Cd .ne (46 : Int32) x1 ∧ Cd .ne (95 : Int32) x1 ∧ Cd .ne (58 : Int32) x1 ∧ Cd .ne (45 : Int32) x1 ∧ v = some (vi (-1)) ∧ F = D') ∨ (Cd .ne (46 : Int32) x1 ∧ Cd .ne (95 : Int32) x1 ∧ Cd .ne (58 : Int32) x1 ∧ ¬ Cd .ne (45 : Int32) x1 ∧ v = some (vi 3) ∧ F = D') ∨ (Cd .ne (46 : Int32) x1 ∧ Cd .ne (95 : Int32) x1 ∧ ¬ Cd .ne (58 : Int32) x1 ∧ v = some (vi 2) ∧ F = D') ∨ (Cd .ne (46 : Int32) x1 ∧ ¬ Cd .ne (95 : Int32) x1 ∧ v = some (vi 1) ∧ F = D') ∨ (¬ Cd .ne (46 : Int32) x1 ∧ v = some (vi 0) ∧ F = D')) := by
  refine Con.of (ls := #[rv (og6 Z), iv x1, iv 0, iv 4, uu, uu]) (by decide +kernel) rfl ?_
  show W Z EL _ "java/lang/StringLatin1" "indexOfChar" _ _ _ _ _ _ _ _ _ _
  refine W.iloadN (pc := 0) d32_0 rfl ?_
  refine W.i2bK (pc := 1) x1 d32_1 (z_i2b (by omega)) ?_
  refine W.istore (pc := 2) (ls' := #[rv (og6 Z), iv x1, iv 0, iv 4, iv x1, uu]) d32_2 rfl ?_
  refine W.iloadN (pc := 4) d32_4 rfl ?_
  refine W.istore (pc := 5) (ls' := #[rv (og6 Z), iv x1, iv 0, iv 4, iv x1, iv 0]) d32_5 rfl ?_
  refine W.iload (pc := 7) d32_7 rfl ?_
  refine W.iloadN (pc := 9) d32_9 rfl ?_
  refine W.icmpN (pc := 10) d32_10 (n_ge (by decide)) ?_
  refine W.aloadN (pc := 13) d32_13 rfl rfl ?_
  refine W.iload (pc := 14) d32_14 rfl ?_
  refine W.baload (pc := 16) 0 d32_16 mog6Z ix0 rfl ?_
  refine W.iload (pc := 17) d32_17 rfl ?_
  refine W.icmp (pc := 19) 25 d32_19 (by decide) (fun h1 => ?_) (fun h1 => ?_)
  ·
   have ih1 := t_ne h1
   refine W.iincK (pc := 25) (ls' := #[rv (og6 Z), iv x1, iv 0, iv 4, iv x1, iv 1]) (1) (1 : Int32) d32_25 (by decide) rfl (by decide) rfl ?_
   refine W.goto (pc := 28) 7 d32_28 (by decide) ?_
   refine W.iload (pc := 7) d32_7 rfl ?_
   refine W.iloadN (pc := 9) d32_9 rfl ?_
   refine W.icmpN (pc := 10) d32_10 (n_ge (by decide)) ?_
   refine W.aloadN (pc := 13) d32_13 rfl rfl ?_
   refine W.iload (pc := 14) d32_14 rfl ?_
   refine W.baload (pc := 16) 1 d32_16 mog6Z ix1 rfl ?_
   refine W.iload (pc := 17) d32_17 rfl ?_
   refine W.icmp (pc := 19) 25 d32_19 (by decide) (fun h2 => ?_) (fun h2 => ?_)
   ·
    have ih2 := t_ne h2
    refine W.iincK (pc := 25) (ls' := #[rv (og6 Z), iv x1, iv 0, iv 4, iv x1, iv 2]) (1) (2 : Int32) d32_25 (by decide) rfl (by decide) rfl ?_
    refine W.goto (pc := 28) 7 d32_28 (by decide) ?_
    refine W.iload (pc := 7) d32_7 rfl ?_
    refine W.iloadN (pc := 9) d32_9 rfl ?_
    refine W.icmpN (pc := 10) d32_10 (n_ge (by decide)) ?_
    refine W.aloadN (pc := 13) d32_13 rfl rfl ?_
    refine W.iload (pc := 14) d32_14 rfl ?_
    refine W.baload (pc := 16) 2 d32_16 mog6Z ix2 rfl ?_
    refine W.iload (pc := 17) d32_17 rfl ?_
    refine W.icmp (pc := 19) 25 d32_19 (by decide) (fun h3 => ?_) (fun h3 => ?_)
    ·
     have ih3 := t_ne h3
     refine W.iincK (pc := 25) (ls' := #[rv (og6 Z), iv x1, iv 0, iv 4, iv x1, iv 3]) (1) (3 : Int32) d32_25 (by decide) rfl (by decide) rfl ?_
     refine W.goto (pc := 28) 7 d32_28 (by decide) ?_
     refine W.iload (pc := 7) d32_7 rfl ?_
     refine W.iloadN (pc := 9) d32_9 rfl ?_
     refine W.icmpN (pc := 10) d32_10 (n_ge (by decide)) ?_
     refine W.aloadN (pc := 13) d32_13 rfl rfl ?_
     refine W.iload (pc := 14) d32_14 rfl ?_
     refine W.baload (pc := 16) 3 d32_16 mog6Z ix3 rfl ?_
     refine W.iload (pc := 17) d32_17 rfl ?_
     refine W.icmp (pc := 19) 25 d32_19 (by decide) (fun h4 => ?_) (fun h4 => ?_)
     ·
      have ih4 := t_ne h4
      refine W.iincK (pc := 25) (ls' := #[rv (og6 Z), iv x1, iv 0, iv 4, iv x1, iv 4]) (1) (4 : Int32) d32_25 (by decide) rfl (by decide) rfl ?_
      refine W.goto (pc := 28) 7 d32_28 (by decide) ?_
      refine W.iload (pc := 7) d32_7 rfl ?_
      refine W.iloadN (pc := 9) d32_9 rfl ?_
      refine W.icmpY (pc := 10) 31 d32_10 (y_ge (by decide)) (by decide) ?_
      refine W.iconst (pc := 31) (-1) d32_31 (by decide) ?_
      exact W.ireturn (pc := 32) d32_32 rfl (Or.inl rfl) rfl (by decide) (Or.inl ⟨h1, h2, h3, h4, rfl, rfl⟩)
     ·
      have ih4 := f_ne h4
      refine W.iload (pc := 22) d32_22 rfl ?_
      exact W.ireturn (pc := 24) d32_24 rfl (Or.inl rfl) rfl (by decide) (Or.inr (Or.inl ⟨h1, h2, h3, h4, rfl, rfl⟩))
    ·
     have ih3 := f_ne h3
     refine W.iload (pc := 22) d32_22 rfl ?_
     exact W.ireturn (pc := 24) d32_24 rfl (Or.inl rfl) rfl (by decide) (Or.inr (Or.inr (Or.inl ⟨h1, h2, h3, rfl, rfl⟩)))
   ·
    have ih2 := f_ne h2
    refine W.iload (pc := 22) d32_22 rfl ?_
    exact W.ireturn (pc := 24) d32_24 rfl (Or.inl rfl) rfl (by decide) (Or.inr (Or.inr (Or.inr (Or.inl ⟨h1, h2, rfl, rfl⟩))))
  ·
   have ih1 := f_ne h1
   refine W.iload (pc := 22) d32_22 rfl ?_
   exact W.ireturn (pc := 24) d32_24 rfl (Or.inl rfl) rfl (by decide) (Or.inr (Or.inr (Or.inr (Or.inr ⟨h1, rfl, rfl⟩))))
theorem c55_indexOf {Z a0} (hw : HW a0 Z) (hs : SF Z) {x1 : Int32} (hx1 : (45 ≤ x1.toInt ∧ x1.toInt ≤ 46) ∨ (48 ≤ x1.toInt ∧ x1.toInt ≤ 58) ∨ (65 ≤ x1.toInt ∧ x1.toInt ≤ 90) ∨ x1.toInt = 95 ∨ (97 ≤ x1.toInt ∧ x1.toInt ≤ 122)) {w_og6Z : Bool} {ad_og6Z : String} {F : List Ent} (mog6Z : ((og6 Z), w_og6Z, ar ad_og6Z .byte [(vi 46), (vi 95), (vi 58), (vi 45)]) ∈ F) : Con Z EL (⟨"java/lang/StringLatin1", "indexOf", "([BIII)I"⟩ : MethodName) jdk_43_method_22_code 4 (Option.some Jvm.ClassFile.FieldType.int) (rmm 1 0 0 17) [(vr (og6 Z)), (vi x1), (vi 0), (vi 4)] (F) (fun v D' => (Cd .ne (46 : Int32) x1 ∧ Cd .ne (95 : Int32) x1 ∧ Cd .ne (58 : Int32) x1 ∧ Cd .ne (45 : Int32) x1 ∧ v = some (vi (-1)) ∧ F = D') ∨ (Cd .ne (46 : Int32) x1 ∧ Cd .ne (95 : Int32) x1 ∧ Cd .ne (58 : Int32) x1 ∧ ¬ Cd .ne (45 : Int32) x1 ∧ v = some (vi 3) ∧ F = D') ∨ (Cd .ne (46 : Int32) x1 ∧ Cd .ne (95 : Int32) x1 ∧ ¬ Cd .ne (58 : Int32) x1 ∧ v = some (vi 2) ∧ F = D') ∨ (Cd .ne (46 : Int32) x1 ∧ ¬ Cd .ne (95 : Int32) x1 ∧ v = some (vi 1) ∧ F = D') ∨ (¬ Cd .ne (46 : Int32) x1 ∧ v = some (vi 0) ∧ F = D')) := by
  refine Con.of (ls := #[rv (og6 Z), iv x1, iv 0, iv 4]) (by decide +kernel) rfl ?_
  show W Z EL _ "java/lang/StringLatin1" "indexOf" _ _ _ _ _ _ _ _ _ _
  refine W.iloadN (pc := 0) d28_0 rfl ?_
  refine W.callS (pc := 1) (as := [(vi x1)]) 0 [] d28_1 (w145 hw) (w146 hw) (w84 hw) (w147 hw) (c56_canEncode hw hs (hx1 := hx1)) (by decide) pd_I_Z rfl rfl rfl rfl (by decide) (fun v D' h => ?_)
  obtain ⟨rfl, rfl⟩ := h
  show W _ _ _ _ _ _ _ _ _ _ _ _ 4 _ [(vi 1)]
  refine W.ifY (pc := 4) 9 d28_4 (y_ne (by decide)) (by decide) ?_
  refine W.iloadN (pc := 9) d28_9 rfl ?_
  refine W.iconst (pc := 10) (0) d28_10 (by decide) ?_
  refine W.callS (pc := 11) (as := [(vi 0), (vi 0)]) 0 [] d28_11 (w148 hw) (w149 hw) (w150 hw) (w151 hw) (c42_max hw hs) (by decide) pd_II_I rfl rfl rfl rfl (by decide) (fun v D' h => ?_)
  obtain ⟨rfl, rfl⟩ := h
  show W _ _ _ _ _ _ _ _ _ _ _ _ 14 _ [(vi 0)]
  refine W.istoreN (pc := 14) (ls' := #[rv (og6 Z), iv x1, iv 0, iv 4]) d28_14 rfl ?_
  refine W.iloadN (pc := 15) d28_15 rfl ?_
  refine W.aloadN (pc := 16) d28_16 rfl rfl ?_
  refine W.alen (pc := 17) (4) d28_17 mog6Z rfl ?_
  refine W.callS (pc := 18) (as := [(vi 4), (vi 4)]) 0 [] d28_18 (w152 hw) (w153 hw) (w150 hw) (w154 hw) (c57_min hw hs) (by decide) pd_II_I rfl rfl rfl rfl (by decide) (fun v D' h => ?_)
  obtain ⟨rfl, rfl⟩ := h
  show W _ _ _ _ _ _ _ _ _ _ _ _ 21 _ [(vi 4)]
  refine W.istoreN (pc := 21) (ls' := #[rv (og6 Z), iv x1, iv 0, iv 4]) d28_21 rfl ?_
  refine W.iloadN (pc := 22) d28_22 rfl ?_
  refine W.iloadN (pc := 23) d28_23 rfl ?_
  refine W.icmpY (pc := 24) 29 d28_24 (y_lt (by decide)) (by decide) ?_
  refine W.aloadN (pc := 29) d28_29 rfl rfl ?_
  refine W.iloadN (pc := 30) d28_30 rfl ?_
  refine W.iloadN (pc := 31) d28_31 rfl ?_
  refine W.iloadN (pc := 32) d28_32 rfl ?_
  refine W.callS (pc := 33) (as := [(vr (og6 Z)), (vi x1), (vi 0), (vi 4)]) 0 [] d28_33 (w155 hw) (w156 hw) (w84 hw) (w157 hw) (c58_indexOfChar hw hs (hx1 := hx1) (mog6Z := mog6Z)) (by decide) pd__BIII_I rfl rfl rfl rfl (by decide) (fun v D' h => ?_)
  rcases h with ⟨h1, h2, h3, h4, rfl, rfl⟩ | ⟨h5, h6, h7, h8, rfl, rfl⟩ | ⟨h9, h10, h11, rfl, rfl⟩ | ⟨h12, h13, rfl, rfl⟩ | ⟨h14, rfl, rfl⟩
  ·
   have ih1 := t_ne h1
   have ih2 := t_ne h2
   have ih3 := t_ne h3
   have ih4 := t_ne h4
   show W _ _ _ _ _ _ _ _ _ _ _ _ 36 _ [(vi (-1))]
   exact W.ireturn (pc := 36) d28_36 rfl (Or.inl rfl) rfl (by decide) (Or.inl ⟨h1, h2, h3, h4, rfl, rfl⟩)
  ·
   have ih5 := t_ne h5
   have ih6 := t_ne h6
   have ih7 := t_ne h7
   have ih8 := f_ne h8
   show W _ _ _ _ _ _ _ _ _ _ _ _ 36 _ [(vi 3)]
   exact W.ireturn (pc := 36) d28_36 rfl (Or.inl rfl) rfl (by decide) (Or.inr (Or.inl ⟨h5, h6, h7, h8, rfl, rfl⟩))
  ·
   have ih9 := t_ne h9
   have ih10 := t_ne h10
   have ih11 := f_ne h11
   show W _ _ _ _ _ _ _ _ _ _ _ _ 36 _ [(vi 2)]
   exact W.ireturn (pc := 36) d28_36 rfl (Or.inl rfl) rfl (by decide) (Or.inr (Or.inr (Or.inl ⟨h9, h10, h11, rfl, rfl⟩)))
  ·
   have ih12 := t_ne h12
   have ih13 := f_ne h13
   show W _ _ _ _ _ _ _ _ _ _ _ _ 36 _ [(vi 1)]
   exact W.ireturn (pc := 36) d28_36 rfl (Or.inl rfl) rfl (by decide) (Or.inr (Or.inr (Or.inr (Or.inl ⟨h12, h13, rfl, rfl⟩))))
  ·
   have ih14 := f_ne h14
   show W _ _ _ _ _ _ _ _ _ _ _ _ 36 _ [(vi 0)]
   exact W.ireturn (pc := 36) d28_36 rfl (Or.inl rfl) rfl (by decide) (Or.inr (Or.inr (Or.inr (Or.inr ⟨h14, rfl, rfl⟩))))
theorem c53_indexOf {Z a0} (hw : HW a0 Z) (hs : SF Z) {x1 : Int32} (hx1 : (45 ≤ x1.toInt ∧ x1.toInt ≤ 46) ∨ (48 ≤ x1.toInt ∧ x1.toInt ≤ 58) ∨ (65 ≤ x1.toInt ∧ x1.toInt ≤ 90) ∨ x1.toInt = 95 ∨ (97 ≤ x1.toInt ∧ x1.toInt ≤ 122)) {w_og5Z : Bool} {w_og6Z : Bool} {ad_og6Z : String} {F : List Ent} (mog5Z : ((og5 Z), w_og5Z, oString (vr (og6 Z)) (vi 0)) ∈ F) (mog6Z : ((og6 Z), w_og6Z, ar ad_og6Z .byte [(vi 46), (vi 95), (vi 58), (vi 45)]) ∈ F) : Con Z EL (⟨"java/lang/String", "indexOf", "(II)I"⟩ : MethodName) jdk_42_method_80_code 3 (Option.some Jvm.ClassFile.FieldType.int) (rmm 2 0 0 32) [(vr (og5 Z)), (vi x1), (vi 0)] (F) (fun v D' => (Cd .ne (46 : Int32) x1 ∧ Cd .ne (95 : Int32) x1 ∧ Cd .ne (58 : Int32) x1 ∧ Cd .ne (45 : Int32) x1 ∧ v = some (vi (-1)) ∧ F = D') ∨ (Cd .ne (46 : Int32) x1 ∧ Cd .ne (95 : Int32) x1 ∧ Cd .ne (58 : Int32) x1 ∧ ¬ Cd .ne (45 : Int32) x1 ∧ v = some (vi 3) ∧ F = D') ∨ (Cd .ne (46 : Int32) x1 ∧ Cd .ne (95 : Int32) x1 ∧ ¬ Cd .ne (58 : Int32) x1 ∧ v = some (vi 2) ∧ F = D') ∨ (Cd .ne (46 : Int32) x1 ∧ ¬ Cd .ne (95 : Int32) x1 ∧ v = some (vi 1) ∧ F = D') ∨ (¬ Cd .ne (46 : Int32) x1 ∧ v = some (vi 0) ∧ F = D')) := by
  refine Con.of (ls := #[rv (og5 Z), iv x1, iv 0]) (by decide +kernel) rfl ?_
  show W Z EL _ "java/lang/String" "indexOf" _ _ _ _ _ _ _ _ _ _
  refine W.aloadN (pc := 0) d27_0 rfl rfl ?_
  refine W.callV (pc := 1) (as := []) 0 [] d27_1 (w77 hw) (w78 hw) (w80 hw) (w80 hw) (w79 hw) (w11 hw) (w81 hw) (Hp.exa mog5Z) (c32_isLatin1 hw hs (mp1 := mog5Z)) (by decide) pd__Z rfl rfl rfl rfl (by decide) (fun v D' h => ?_)
  obtain ⟨rfl, rfl⟩ := h
  show W _ _ _ _ _ _ _ _ _ _ _ _ 4 _ [(vi 1)]
  refine W.ifN (pc := 4) d27_4 (n_eq (by decide)) ?_
  refine W.aloadN (pc := 7) d27_7 rfl rfl ?_
  refine W.getf (pc := 8) d27_8 (w37 hw) Via.refl mog5Z m0 ?_
  refine W.iloadN (pc := 11) d27_11 rfl ?_
  refine W.iloadN (pc := 12) d27_12 rfl ?_
  refine W.aloadN (pc := 13) d27_13 rfl rfl ?_
  refine W.callV (pc := 14) (as := []) 3 [(vi 0), (vi x1), (vr (og6 Z))] d27_14 (w141 hw) (w63 hw) (w65 hw) (w65 hw) (w64 hw) (w11 hw) (w66 hw) (Hp.exa mog5Z) (c54_length hw hs (mog5Z := mog5Z) (mog6Z := mog6Z)) (by decide) pd__I rfl rfl rfl rfl (by decide) (fun v D' h => ?_)
  obtain ⟨rfl, rfl⟩ := h
  show W _ _ _ _ _ _ _ _ _ _ _ _ 17 _ [(vi 4), (vi 0), (vi x1), (vr (og6 Z))]
  refine W.callS (pc := 17) (as := [(vr (og6 Z)), (vi x1), (vi 0), (vi 4)]) 0 [] d27_17 (w142 hw) (w143 hw) (w84 hw) (w144 hw) (c55_indexOf hw hs (hx1 := hx1) (mog6Z := mog6Z)) (by decide) pd__BIII_I rfl rfl rfl rfl (by decide) (fun v D' h => ?_)
  rcases h with ⟨h1, h2, h3, h4, rfl, rfl⟩ | ⟨h5, h6, h7, h8, rfl, rfl⟩ | ⟨h9, h10, h11, rfl, rfl⟩ | ⟨h12, h13, rfl, rfl⟩ | ⟨h14, rfl, rfl⟩
  ·
   have ih1 := t_ne h1
   have ih2 := t_ne h2
   have ih3 := t_ne h3
   have ih4 := t_ne h4
   show W _ _ _ _ _ _ _ _ _ _ _ _ 20 _ [(vi (-1))]
   refine W.goto (pc := 20) 36 d27_20 (by decide) ?_
   exact W.ireturn (pc := 36) d27_36 rfl (Or.inl rfl) rfl (by decide) (Or.inl ⟨h1, h2, h3, h4, rfl, rfl⟩)
  ·
   have ih5 := t_ne h5
   have ih6 := t_ne h6
   have ih7 := t_ne h7
   have ih8 := f_ne h8
   show W _ _ _ _ _ _ _ _ _ _ _ _ 20 _ [(vi 3)]
   refine W.goto (pc := 20) 36 d27_20 (by decide) ?_
   exact W.ireturn (pc := 36) d27_36 rfl (Or.inl rfl) rfl (by decide) (Or.inr (Or.inl ⟨h5, h6, h7, h8, rfl, rfl⟩))
  ·
   have ih9 := t_ne h9
   have ih10 := t_ne h10
   have ih11 := f_ne h11
   show W _ _ _ _ _ _ _ _ _ _ _ _ 20 _ [(vi 2)]
   refine W.goto (pc := 20) 36 d27_20 (by decide) ?_
   exact W.ireturn (pc := 36) d27_36 rfl (Or.inl rfl) rfl (by decide) (Or.inr (Or.inr (Or.inl ⟨h9, h10, h11, rfl, rfl⟩)))
  ·
   have ih12 := t_ne h12
   have ih13 := f_ne h13
   show W _ _ _ _ _ _ _ _ _ _ _ _ 20 _ [(vi 1)]
   refine W.goto (pc := 20) 36 d27_20 (by decide) ?_
   exact W.ireturn (pc := 36) d27_36 rfl (Or.inl rfl) rfl (by decide) (Or.inr (Or.inr (Or.inr (Or.inl ⟨h12, h13, rfl, rfl⟩))))
  ·
   have ih14 := f_ne h14
   show W _ _ _ _ _ _ _ _ _ _ _ _ 20 _ [(vi 0)]
   refine W.goto (pc := 20) 36 d27_20 (by decide) ?_
   exact W.ireturn (pc := 36) d27_36 rfl (Or.inl rfl) rfl (by decide) (Or.inr (Or.inr (Or.inr (Or.inr ⟨h14, rfl, rfl⟩))))
theorem c52_indexOf {Z a0} (hw : HW a0 Z) (hs : SF Z) {x1 : Int32} (hx1 : (45 ≤ x1.toInt ∧ x1.toInt ≤ 46) ∨ (48 ≤ x1.toInt ∧ x1.toInt ≤ 58) ∨ (65 ≤ x1.toInt ∧ x1.toInt ≤ 90) ∨ x1.toInt = 95 ∨ (97 ≤ x1.toInt ∧ x1.toInt ≤ 122)) {w_og5Z : Bool} {w_og6Z : Bool} {ad_og6Z : String} {F : List Ent} (mog5Z : ((og5 Z), w_og5Z, oString (vr (og6 Z)) (vi 0)) ∈ F) (mog6Z : ((og6 Z), w_og6Z, ar ad_og6Z .byte [(vi 46), (vi 95), (vi 58), (vi 45)]) ∈ F) : Con Z EL (⟨"java/lang/String", "indexOf", "(I)I"⟩ : MethodName) jdk_42_method_79_code 2 (Option.some Jvm.ClassFile.FieldType.int) (rmm 3 0 0 46) [(vr (og5 Z)), (vi x1)] (F) (fun v D' => (Cd .ne (46 : Int32) x1 ∧ Cd .ne (95 : Int32) x1 ∧ Cd .ne (58 : Int32) x1 ∧ Cd .ne (45 : Int32) x1 ∧ v = some (vi (-1)) ∧ F = D') ∨ (Cd .ne (46 : Int32) x1 ∧ Cd .ne (95 : Int32) x1 ∧ Cd .ne (58 : Int32) x1 ∧ ¬ Cd .ne (45 : Int32) x1 ∧ v = some (vi 3) ∧ F = D') ∨ (Cd .ne (46 : Int32) x1 ∧ Cd .ne (95 : Int32) x1 ∧ ¬ Cd .ne (58 : Int32) x1 ∧ v = some (vi 2) ∧ F = D') ∨ (Cd .ne (46 : Int32) x1 ∧ ¬ Cd .ne (95 : Int32) x1 ∧ v = some (vi 1) ∧ F = D') ∨ (¬ Cd .ne (46 : Int32) x1 ∧ v = some (vi 0) ∧ F = D')) := by
  refine Con.of (ls := #[rv (og5 Z), iv x1]) (by decide +kernel) rfl ?_
  show W Z EL _ "java/lang/String" "indexOf" _ _ _ _ _ _ _ _ _ _
  refine W.aloadN (pc := 0) d26_0 rfl rfl ?_
  refine W.iloadN (pc := 1) d26_1 rfl ?_
  refine W.iconst (pc := 2) (0) d26_2 (by decide) ?_
  refine W.callV (pc := 3) (as := [(vi x1), (vi 0)]) 0 [] d26_3 (w136 hw) (w137 hw) (w139 hw) (w139 hw) (w138 hw) (w11 hw) (w140 hw) (Hp.exa mog5Z) (c53_indexOf hw hs (hx1 := hx1) (mog5Z := mog5Z) (mog6Z := mog6Z)) (by decide) pd_II_I rfl rfl rfl rfl (by decide) (fun v D' h => ?_)
  rcases h with ⟨h1, h2, h3, h4, rfl, rfl⟩ | ⟨h5, h6, h7, h8, rfl, rfl⟩ | ⟨h9, h10, h11, rfl, rfl⟩ | ⟨h12, h13, rfl, rfl⟩ | ⟨h14, rfl, rfl⟩
  ·
   have ih1 := t_ne h1
   have ih2 := t_ne h2
   have ih3 := t_ne h3
   have ih4 := t_ne h4
   show W _ _ _ _ _ _ _ _ _ _ _ _ 6 _ [(vi (-1))]
   exact W.ireturn (pc := 6) d26_6 rfl (Or.inl rfl) rfl (by decide) (Or.inl ⟨h1, h2, h3, h4, rfl, rfl⟩)
  ·
   have ih5 := t_ne h5
   have ih6 := t_ne h6
   have ih7 := t_ne h7
   have ih8 := f_ne h8
   show W _ _ _ _ _ _ _ _ _ _ _ _ 6 _ [(vi 3)]
   exact W.ireturn (pc := 6) d26_6 rfl (Or.inl rfl) rfl (by decide) (Or.inr (Or.inl ⟨h5, h6, h7, h8, rfl, rfl⟩))
  ·
   have ih9 := t_ne h9
   have ih10 := t_ne h10
   have ih11 := f_ne h11
   show W _ _ _ _ _ _ _ _ _ _ _ _ 6 _ [(vi 2)]
   exact W.ireturn (pc := 6) d26_6 rfl (Or.inl rfl) rfl (by decide) (Or.inr (Or.inr (Or.inl ⟨h9, h10, h11, rfl, rfl⟩)))
  ·
   have ih12 := t_ne h12
   have ih13 := f_ne h13
   show W _ _ _ _ _ _ _ _ _ _ _ _ 6 _ [(vi 1)]
   exact W.ireturn (pc := 6) d26_6 rfl (Or.inl rfl) rfl (by decide) (Or.inr (Or.inr (Or.inr (Or.inl ⟨h12, h13, rfl, rfl⟩))))
  ·
   have ih14 := f_ne h14
   show W _ _ _ _ _ _ _ _ _ _ _ _ 6 _ [(vi 0)]
   exact W.ireturn (pc := 6) d26_6 rfl (Or.inl rfl) rfl (by decide) (Or.inr (Or.inr (Or.inr (Or.inr ⟨h14, rfl, rfl⟩))))
theorem c46_check {Z a0} (hw : HW a0 Z) (hs : SF Z) {p1 p2 : Addr} {x1 : Int32} (hx1 : (45 ≤ x1.toInt ∧ x1.toInt ≤ 46) ∨ (48 ≤ x1.toInt ∧ x1.toInt ≤ 58) ∨ (65 ≤ x1.toInt ∧ x1.toInt ≤ 90) ∨ x1.toInt = 95 ∨ (97 ≤ x1.toInt ∧ x1.toInt ≤ 122)) {w_p1 : Bool} {w_p2 : Bool} {ad_p2 : String} {w_og4Z : Bool} {w_og5Z : Bool} {w_og6Z : Bool} {ad_og6Z : String} {F : List Ent} (mp1 : (p1, w_p1, oString (vr p2) (vi 0)) ∈ F) (mp2 : (p2, w_p2, ar ad_p2 .byte [(vi x1)]) ∈ F) (mog4Z : ((og4 Z), w_og4Z, oJobKey_NameRule (vi 128) (vr (og5 Z))) ∈ F) (mog5Z : ((og5 Z), w_og5Z, oString (vr (og6 Z)) (vi 0)) ∈ F) (mog6Z : ((og6 Z), w_og6Z, ar ad_og6Z .byte [(vi 46), (vi 95), (vi 58), (vi 45)]) ∈ F) : Con Z EL (⟨"com/example/cunctator/cunctator/JobKey$NameRule", "check", "(Ljava/lang/String;)Ljava/lang/String;"⟩ : MethodName) prog_9_method_2_code 4 (Option.some (Jvm.ClassFile.FieldType.object "java/lang/String")) (rmm 4 0 0 59) [(vr (og4 Z)), (vr p1)] (F) (fun v D' => (v = some (vr p1) ∧ F = D')) := by
  refine Con.of (ls := #[rv (og4 Z), rv p1, uu, uu]) (by decide +kernel) rfl ?_
  show W Z EL _ "com/example/cunctator/cunctator/JobKey$NameRule" "check" _ _ _ _ _ _ _ _ _ _
  refine W.aloadN (pc := 0) d11_0 rfl rfl ?_
  refine W.ifnonnullY (pc := 1) 11 d11_1 (by decide) ?_
  refine W.aloadN (pc := 11) d11_11 rfl rfl ?_
  refine W.callV (pc := 12) (as := []) 0 [] d11_12 (w57 hw) (w58 hw) (w60 hw) (w60 hw) (w59 hw) (w11 hw) (w61 hw) (Hp.exa mp1) (c47_isEmpty hw hs (hx1 := hx1) (mp1 := mp1) (mp2 := mp2)) (by decide) pd__Z rfl rfl rfl rfl (by decide) (fun v D' h => ?_)
  obtain ⟨rfl, rfl⟩ := h
  show W _ _ _ _ _ _ _ _ _ _ _ _ 15 _ [(vi 0)]
  refine W.ifY (pc := 15) 25 d11_15 (y_eq (by decide)) (by decide) ?_
  refine W.iconst (pc := 25) (0) d11_25 (by decide) ?_
  refine W.istoreN (pc := 26) (ls' := #[rv (og4 Z), rv p1, iv 0, uu]) d11_26 rfl ?_
  refine W.iloadN (pc := 27) d11_27 rfl ?_
  refine W.aloadN (pc := 28) d11_28 rfl rfl ?_
  refine W.callV (pc := 29) (as := []) 1 [(vi 0)] d11_29 (w62 hw) (w63 hw) (w65 hw) (w65 hw) (w64 hw) (w11 hw) (w66 hw) (Hp.exa mp1) (c48_length hw hs (hx1 := hx1) (mp1 := mp1) (mp2 := mp2)) (by decide) pd__I rfl rfl rfl rfl (by decide) (fun v D' h => ?_)
  obtain ⟨rfl, rfl⟩ := h
  show W _ _ _ _ _ _ _ _ _ _ _ _ 32 _ [(vi 1), (vi 0)]
  refine W.icmpN (pc := 32) d11_32 (n_ge (by decide)) ?_
  have K2 : W Z EL (rmm 4 0 0 59) "com/example/cunctator/cunctator/JobKey$NameRule" "check" prog_9_method_2_code 4 (Option.some (Jvm.ClassFile.FieldType.object "java/lang/String")) (fun v D' => (v = some (vr p1) ∧ F = D')) (F) 0 0 84 #[rv (og4 Z), rv p1, iv 0, iv x1] [] := by
   refine W.iincK (pc := 84) (ls' := #[rv (og4 Z), rv p1, iv 1, iv x1]) (1) (1 : Int32) d11_84 (by decide) rfl (by decide) rfl ?_
   refine W.goto (pc := 87) 27 d11_87 (by decide) ?_
   refine W.iloadN (pc := 27) d11_27 rfl ?_
   refine W.aloadN (pc := 28) d11_28 rfl rfl ?_
   refine W.callV (pc := 29) (as := []) 1 [(vi 1)] d11_29 (w62 hw) (w63 hw) (w65 hw) (w65 hw) (w64 hw) (w11 hw) (w66 hw) (Hp.exa mp1) (c48_length hw hs (hx1 := hx1) (mp1 := mp1) (mp2 := mp2)) (by decide) pd__I rfl rfl rfl rfl (by decide) (fun v D' h => ?_)
   obtain ⟨rfl, rfl⟩ := h
   show W _ _ _ _ _ _ _ _ _ _ _ _ 32 _ [(vi 1), (vi 1)]
   refine W.icmpY (pc := 32) 90 d11_32 (y_ge (by decide)) (by decide) ?_
   refine W.aloadN (pc := 90) d11_90 rfl rfl ?_
   refine W.callV (pc := 91) (as := []) 0 [] d11_91 (w62 hw) (w63 hw) (w65 hw) (w65 hw) (w64 hw) (w11 hw) (w66 hw) (Hp.exa mp1) (c48_length hw hs (hx1 := hx1) (mp1 := mp1) (mp2 := mp2)) (by decide) pd__I rfl rfl rfl rfl (by decide) (fun v D' h => ?_)
   obtain ⟨rfl, rfl⟩ := h
   show W _ _ _ _ _ _ _ _ _ _ _ _ 94 _ [(vi 1)]
   refine W.aloadN (pc := 94) d11_94 rfl rfl ?_
   refine W.getf (pc := 95) d11_95 (w97 hw) Via.refl mog4Z m0 ?_
   refine W.icmpY (pc := 98) 115 d11_98 (y_le (by decide)) (by decide) ?_
   refine W.aloadN (pc := 115) d11_115 rfl rfl ?_
   exact W.areturn (pc := 116) d11_116 rfl rfl rfl (by decide) ⟨rfl, rfl⟩
  refine W.aloadN (pc := 35) d11_35 rfl rfl ?_
  refine W.iloadN (pc := 36) d11_36 rfl ?_
  refine W.callV (pc := 37) (as := [(vi 0)]) 0 [] d11_37 (w72 hw) (w73 hw) (w75 hw) (w75 hw) (w74 hw) (w11 hw) (w76 hw) (Hp.exa mp1) (c49_charAt hw hs (hx1 := hx1) (mp1 := mp1) (mp2 := mp2)) (by decide) pd_I_C rfl rfl rfl rfl (by decide) (fun v D' h => ?_)
  obtain ⟨rfl, rfl⟩ := h
  show W _ _ _ _ _ _ _ _ _ _ _ _ 40 _ [(vi x1)]
  refine W.istoreN (pc := 40) (ls' := #[rv (og4 Z), rv p1, iv 0, iv x1]) d11_40 rfl ?_
  refine W.iloadN (pc := 41) d11_41 rfl ?_
  refine W.callSN (pc := 42) (as := [(vi x1)]) 0 [] d11_42 (w94 hw) (w95 hw) (w41 hw) (w96 hw) (c51_isAsciiLetterOrDigit hw hs (hx1 := hx1)) (by decide) pd_C_Z rfl rfl rfl rfl (by decide) (fun v D' h => ?_)
  rcases h with ⟨h1, h2, rfl, rfl⟩ | ⟨h3, h4, h5, rfl, rfl⟩ | ⟨h6, h7, h8, rfl, rfl⟩ | ⟨h9, h10, rfl, rfl⟩ | ⟨h11, h12, h13, rfl, rfl⟩ | ⟨h14, h15, h16, rfl, rfl⟩
  ·
   have ih1 := t_lt h1
   have ih2 := t_lt h2
   show W _ _ _ _ _ _ _ _ _ _ _ _ 45 _ [(vi 0)]
   refine W.ifN (pc := 45) d11_45 (n_ne (by decide)) ?_
   refine W.aloadN (pc := 48) d11_48 rfl rfl ?_
   refine W.getf (pc := 49) d11_49 (w129 hw) Via.refl mog4Z m1 ?_
   refine W.iloadN (pc := 52) d11_52 rfl ?_
   refine W.callV (pc := 53) (as := [(vi x1)]) 0 [] d11_53 (w131 hw) (w132 hw) (w134 hw) (w134 hw) (w133 hw) (w11 hw) (w135 hw) (Hp.exa mog5Z) (c52_indexOf hw hs (hx1 := hx1) (mog5Z := mog5Z) (mog6Z := mog6Z)) (by decide) pd_I_I rfl rfl rfl rfl (by decide) (fun v D' h => ?_)
   rcases h with ⟨h17, h18, h19, h20, rfl, rfl⟩ | ⟨h21, h22, h23, h24, rfl, rfl⟩ | ⟨h25, h26, h27, rfl, rfl⟩ | ⟨h28, h29, rfl, rfl⟩ | ⟨h30, rfl, rfl⟩
   ·
    have ih17 := t_ne h17
    have ih18 := t_ne h18
    have ih19 := t_ne h19
    exact absurd h20 (n_ne (by have := q45; have := q65; have := q48; have := q46; have := q95; have := q58; omega))
   ·
    have ih21 := t_ne h21
    have ih22 := t_ne h22
    have ih23 := t_ne h23
    have ih24 := f_ne h24
    show W _ _ _ _ _ _ _ _ _ _ _ _ 56 _ [(vi 3)]
    refine W.ifY (pc := 56) 84 d11_56 (y_ge (by decide)) (by decide) ?_
    exact W.mono (by decide) (by decide) (K2  )
   ·
    have ih25 := t_ne h25
    have ih26 := t_ne h26
    exact absurd h27 (Classical.not_not.mpr (y_ne (by have := q58; have := q65; have := q48; have := q46; have := q95; omega)))
   ·
    have ih28 := t_ne h28
    exact absurd h29 (Classical.not_not.mpr (y_ne (by have := q95; have := q65; have := q48; have := q46; omega)))
   ·
    have ih30 := f_ne h30
    show W _ _ _ _ _ _ _ _ _ _ _ _ 56 _ [(vi 0)]
    refine W.ifY (pc := 56) 84 d11_56 (y_ge (by decide)) (by decide) ?_
    exact W.mono (by decide) (by decide) (K2  )
  ·
   have ih3 := t_lt h3
   have ih4 := f_lt h4
   have ih5 := t_gt h5
   show W _ _ _ _ _ _ _ _ _ _ _ _ 45 _ [(vi 0)]
   refine W.ifN (pc := 45) d11_45 (n_ne (by decide)) ?_
   refine W.aloadN (pc := 48) d11_48 rfl rfl ?_
   refine W.getf (pc := 49) d11_49 (w129 hw) Via.refl mog4Z m1 ?_
   refine W.iloadN (pc := 52) d11_52 rfl ?_
   refine W.callV (pc := 53) (as := [(vi x1)]) 0 [] d11_53 (w131 hw) (w132 hw) (w134 hw) (w134 hw) (w133 hw) (w11 hw) (w135 hw) (Hp.exa mog5Z) (c52_indexOf hw hs (hx1 := hx1) (mog5Z := mog5Z) (mog6Z := mog6Z)) (by decide) pd_I_I rfl rfl rfl rfl (by decide) (fun v D' h => ?_)
   rcases h with ⟨h31, h32, h33, h34, rfl, rfl⟩ | ⟨h35, h36, h37, h38, rfl, rfl⟩ | ⟨h39, h40, h41, rfl, rfl⟩ | ⟨h42, h43, rfl, rfl⟩ | ⟨h44, rfl, rfl⟩
   ·
    have ih31 := t_ne h31
    have ih32 := t_ne h32
    exact absurd h33 (n_ne (by have := q58; have := q65; have := q48; have := q57; have := q46; have := q95; omega))
   ·
    have ih35 := t_ne h35
    have ih36 := t_ne h36
    exact absurd h37 (n_ne (by have := q58; have := q65; have := q48; have := q57; have := q46; have := q95; omega))
   ·
    have ih39 := t_ne h39
    have ih40 := t_ne h40
    have ih41 := f_ne h41
    show W _ _ _ _ _ _ _ _ _ _ _ _ 56 _ [(vi 2)]
    refine W.ifY (pc := 56) 84 d11_56 (y_ge (by decide)) (by decide) ?_
    exact W.mono (by decide) (by decide) (K2  )
   ·
    have ih42 := t_ne h42
    exact absurd h43 (Classical.not_not.mpr (y_ne (by have := q95; have := q65; have := q48; have := q57; have := q46; omega)))
   ·
    exact absurd h44 (Classical.not_not.mpr (y_ne (by have := q46; have := q65; have := q48; have := q57; omega)))
  ·
   have ih6 := t_lt h6
   have ih7 := f_lt h7
   have ih8 := f_gt h8
   show W _ _ _ _ _ _ _ _ _ _ _ _ 45 _ [(vi 1)]
   refine W.ifY (pc := 45) 84 d11_45 (y_ne (by decide)) (by decide) ?_
   exact W.mono (by decide) (by decide) (K2  )
  ·
   have ih9 := f_lt h9
   have ih10 := t_le h10
   show W _ _ _ _ _ _ _ _ _ _ _ _ 45 _ [(vi 1)]
   refine W.ifY (pc := 45) 84 d11_45 (y_ne (by decide)) (by decide) ?_
   exact W.mono (by decide) (by decide) (K2  )
  ·
   have ih11 := f_lt h11
   have ih12 := f_le h12
   have ih13 := t_lt h13
   show W _ _ _ _ _ _ _ _ _ _ _ _ 45 _ [(vi 0)]
   refine W.ifN (pc := 45) d11_45 (n_ne (by decide)) ?_
   refine W.aloadN (pc := 48) d11_48 rfl rfl ?_
   refine W.getf (pc := 49) d11_49 (w129 hw) Via.refl mog4Z m1 ?_
   refine W.iloadN (pc := 52) d11_52 rfl ?_
   refine W.callV (pc := 53) (as := [(vi x1)]) 0 [] d11_53 (w131 hw) (w132 hw) (w134 hw) (w134 hw) (w133 hw) (w11 hw) (w135 hw) (Hp.exa mog5Z) (c52_indexOf hw hs (hx1 := hx1) (mog5Z := mog5Z) (mog6Z := mog6Z)) (by decide) pd_I_I rfl rfl rfl rfl (by decide) (fun v D' h => ?_)
   rcases h with ⟨h45, h46, h47, h48, rfl, rfl⟩ | ⟨h49, h50, h51, h52, rfl, rfl⟩ | ⟨h53, h54, h55, rfl, rfl⟩ | ⟨h56, h57, rfl, rfl⟩ | ⟨h58, rfl, rfl⟩
   ·
    have ih45 := t_ne h45
    exact absurd h46 (n_ne (by have := q95; have := q65; have := q90; have := q97; have := q46; omega))
   ·
    have ih49 := t_ne h49
    exact absurd h50 (n_ne (by have := q95; have := q65; have := q90; have := q97; have := q46; omega))
   ·
    have ih53 := t_ne h53
    exact absurd h54 (n_ne (by have := q95; have := q65; have := q90; have := q97; have := q46; omega))
   ·
    have ih56 := t_ne h56
    have ih57 := f_ne h57
    show W _ _ _ _ _ _ _ _ _ _ _ _ 56 _ [(vi 1)]
    refine W.ifY (pc := 56) 84 d11_56 (y_ge (by decide)) (by decide) ?_
    exact W.mono (by decide) (by decide) (K2  )
   ·
    exact absurd h58 (Classical.not_not.mpr (y_ne (by have := q46; have := q65; have := q90; have := q97; omega)))
  ·
   have ih14 := f_lt h14
   have ih15 := f_le h15
   have ih16 := f_lt h16
   show W _ _ _ _ _ _ _ _ _ _ _ _ 45 _ [(vi 1)]
   refine W.ifY (pc := 45) 84 d11_45 (y_ne (by decide)) (by decide) ?_
   exact W.mono (by decide) (by decide) (K2  )
theorem d21_7 : decode prog_8_method_3_code 7 = .ok (.areturn, 1) := by decide +kernel
theorem c45_checkId {Z a0} (hw : HW a0 Z) (hs : SF Z) {p1 p2 : Addr} {x1 : Int32} (hx1 : (45 ≤ x1.toInt ∧ x1.toInt ≤ 46) ∨ (48 ≤ x1.toInt ∧ x1.toInt ≤ 58) ∨ (65 ≤ x1.toInt ∧ x1.toInt ≤ 90) ∨ x1.toInt = 95 ∨ (97 ≤ x1.toInt ∧ x1.toInt ≤ 122)) {w_og4Z : Bool} {w_p1 : Bool} {w_p2 : Bool} {ad_p2 : String} {w_og5Z : Bool} {w_og6Z : Bool} {ad_og6Z : String} {F : List Ent} (mog4Z : ((og4 Z), w_og4Z, oJobKey_NameRule (vi 128) (vr (og5 Z))) ∈ F) (mp1 : (p1, w_p1, oString (vr p2) (vi 0)) ∈ F) (mp2 : (p2, w_p2, ar ad_p2 .byte [(vi x1)]) ∈ F) (mog5Z : ((og5 Z), w_og5Z, oString (vr (og6 Z)) (vi 0)) ∈ F) (mog6Z : ((og6 Z), w_og6Z, ar ad_og6Z .byte [(vi 46), (vi 95), (vi 58), (vi 45)]) ∈ F) : Con Z EL (⟨"com/example/cunctator/cunctator/JobKey", "checkId", "(Ljava/lang/String;)Ljava/lang/String;"⟩ : MethodName) prog_8_method_3_code 1 (Option.some (Jvm.ClassFile.FieldType.object "java/lang/String")) (rmm 5 0 0 74) [(vr p1)] (F) (fun v D' => (v = some (vr p1) ∧ F = D')) := by
  refine Con.of (ls := #[rv p1]) (by decide +kernel) rfl ?_
  show W Z EL _ "com/example/cunctator/cunctator/JobKey" "checkId" _ _ _ _ _ _ _ _ _ _
  refine W.gets (pc := 0) d21_0 (w104 hw) Via.refl hs.2.2.2.2.2.1 ?_
  refine W.aloadN (pc := 3) d21_3 rfl rfl ?_
  refine W.callV (pc := 4) (as := [(vr p1)]) 0 [] d21_4 (w51 hw) (w52 hw) (w54 hw) (w54 hw) (w53 hw) (w55 hw) (w56 hw) (Hp.exa mog4Z) (c46_check hw hs (hx1 := hx1) (mp1 := mp1) (mp2 := mp2) (mog4Z := mog4Z) (mog5Z := mog5Z) (mog6Z := mog6Z)) (by decide) pd_Ljava_lang_String__Ljava_lang_String_ rfl rfl rfl rfl (by decide) (fun v D' h => ?_)
  obtain ⟨rfl, rfl⟩ := h
  show W _ _ _ _ _ _ _ _ _ _ _ _ 7 _ [(vr p1)]
  exact W.areturn (pc := 7) d21_7 rfl rfl rfl (by decide) ⟨rfl, rfl⟩
theorem w101 {Z a0} (hw : HW a0 Z) : ((Jvm.Cond.methodLink "com/example/cunctator/cunctator/JobKey" (17 : Nat) ({ cls := "com/example/cunctator/cunctator/JobKey", name := "checkId", desc := "(Ljava/lang/String;)Ljava/lang/String;" } : Jvm.MethodName)) : Jvm.Cond).before a0 Z = true := hw _ (List.mem_of_getElem? (i := 101) rfl)
theorem w102 {Z a0} (hw : HW a0 Z) : ((Jvm.Cond.static ({ cls := "com/example/cunctator/cunctator/JobKey", name := "checkId", desc := "(Ljava/lang/String;)Ljava/lang/String;" } : Jvm.MethodName)) : Jvm.Cond).before a0 Z = true := hw _ (List.mem_of_getElem? (i := 102) rfl)
theorem w103 {Z a0} (hw : HW a0 Z) : ((Jvm.Cond.code ({ cls := "com/example/cunctator/cunctator/JobKey", name := "checkId", desc := "(Ljava/lang/String;)Ljava/lang/String;" } : Jvm.MethodName) prog_8_method_3_code (1 : Nat) (Option.some (Jvm.ClassFile.FieldType.object "java/lang/String"))) : Jvm.Cond).before a0 Z = true := hw _ (List.mem_of_getElem? (i := 103) rfl)
theorem d9_17 : decode prog_8_method_1_code 17 = .ok (.putfield 20, 3) := by decide +kernel
theorem w106 {Z a0} (hw : HW a0 Z) : ((Jvm.Cond.fieldLink "com/example/cunctator/cunctator/JobKey" (20 : Nat) "com/example/cunctator/cunctator/JobKey" "id" "Ljava/lang/String;") : Jvm.Cond).before a0 Z = true := hw _ (List.mem_of_getElem? (i := 106) rfl)
theorem d9_20 : decode prog_8_method_1_code 20 = .ok (.return_, 1) := by decide +kernel
theorem c25_init {Z a0} (hw : HW a0 Z) (hs : SF Z) {p1 p2 p3 p4 p5 : Addr} {x1 : Int32} (hx1 : (45 ≤ x1.toInt ∧ x1.toInt ≤ 46) ∨ (48 ≤ x1.toInt ∧ x1.toInt ≤ 57) ∨ (65 ≤ x1.toInt ∧ x1.toInt ≤ 90) ∨ x1.toInt = 95 ∨ (97 ≤ x1.toInt ∧ x1.toInt ≤ 122)) {x2 : Int32} (hx2 : (45 ≤ x2.toInt ∧ x2.toInt ≤ 46) ∨ (48 ≤ x2.toInt ∧ x2.toInt ≤ 58) ∨ (65 ≤ x2.toInt ∧ x2.toInt ≤ 90) ∨ x2.toInt = 95 ∨ (97 ≤ x2.toInt ∧ x2.toInt ≤ 122)) {w_og1Z : Bool} {w_p2 : Bool} {w_p4 : Bool} {ad_p4 : String} {w_og2Z : Bool} {w_og3Z : Bool} {ad_og3Z : String} {w_og4Z : Bool} {w_p3 : Bool} {w_p5 : Bool} {ad_p5 : String} {w_og5Z : Bool} {w_og6Z : Bool} {ad_og6Z : String} {F : List Ent} (mog1Z : ((og1 Z), w_og1Z, oJobKey_NameRule (vi 64) (vr (og2 Z))) ∈ F) (mp2 : (p2, w_p2, oString (vr p4) (vi 0)) ∈ F) (mp4 : (p4, w_p4, ar ad_p4 .byte [(vi x1)]) ∈ F) (mog2Z : ((og2 Z), w_og2Z, oString (vr (og3 Z)) (vi 0)) ∈ F) (mog3Z : ((og3 Z), w_og3Z, ar ad_og3Z .byte [(vi 46), (vi 95), (vi 45)]) ∈ F) (mog4Z : ((og4 Z), w_og4Z, oJobKey_NameRule (vi 128) (vr (og5 Z))) ∈ F) (mp3 : (p3, w_p3, oString (vr p5) (vi 0)) ∈ F) (mp5 : (p5, w_p5, ar ad_p5 .byte [(vi x2)]) ∈ F) (mog5Z : ((og5 Z), w_og5Z, oString (vr (og6 Z)) (vi 0)) ∈ F) (mog6Z : ((og6 Z), w_og6Z, ar ad_og6Z .byte [(vi 46), (vi 95), (vi 58), (vi 45)]) ∈ F) : Con Z EL (⟨"com/example/cunctator/cunctator/JobKey", "<init>", "(Ljava/lang/String;Ljava/lang/String;)V"⟩ : MethodName) prog_8_method_1_code 3 (Option.none : Option Jvm.ClassFile.FieldType) (rmm 6 0 0 87) [(vr p1), (vr p2), (vr p3)] ((p1, true, oJobKey .null .null) :: F) (fun v D' => (v = none ∧ (p1, true, oJobKey (vr p2) (vr p3)) :: F = D')) := by
  refine Con.of (ls := #[rv p1, rv p2, rv p3]) (by decide +kernel) rfl ?_
  show W Z EL _ "com/example/cunctator/cunctator/JobKey" "<init>" _ _ _ _ _ _ _ _ _ _
  refine W.aloadN (pc := 0) d9_0 rfl rfl ?_
  refine W.initO (pc := 1) 0 d9_1 (w45 hw) (w21 hw) (w22 hw) rfl rfl (by decide) ?_
  refine W.aloadN (pc := 4) d9_4 rfl rfl ?_
  refine W.aloadN (pc := 5) d9_5 rfl rfl ?_
  refine W.callS (pc := 6) (as := [(vr p2)]) 1 [(vr p1)] d9_6 (w46 hw) (w47 hw) (w41 hw) (w48 hw) (c26_checkTopic hw hs (hx1 := hx1) (mog1Z := (mS mog1Z)) (mp1 := (mS mp2)) (mp2 := (mS mp4)) (mog2Z := (mS mog2Z)) (mog3Z := (mS mog3Z))) (by decide) pd_Ljava_lang_String__Ljava_lang_String_ rfl rfl rfl rfl (by decide) (fun v D' h => ?_)
  obtain ⟨rfl, rfl⟩ := h
  show W _ _ _ _ _ _ _ _ _ _ _ _ 9 _ [(vr p2), (vr p1)]
  refine W.putf (pc := 9) (D' := (p1, true, oJobKey (vr p2) .null) :: F) 0 0 d9_9 (w99 hw) Via.refl rfl rfl (Or.inr ⟨(w100 hw), rfl, rfl⟩) (w40 hw) pfLjava_lang_String_ rfl rfl rfl ?_
  refine W.aloadN (pc := 12) d9_12 rfl rfl ?_
  refine W.aloadN (pc := 13) d9_13 rfl rfl ?_
  refine W.callS (pc := 14) (as := [(vr p3)]) 1 [(vr p1)] d9_14 (w101 hw) (w102 hw) (w41 hw) (w103 hw) (c45_checkId hw hs (hx1 := hx2) (mog4Z := (mS mog4Z)) (mp1 := (mS mp3)) (mp2 := (mS mp5)) (mog5Z := (mS mog5Z)) (mog6Z := (mS mog6Z))) (by decide) pd_Ljava_lang_String__Ljava_lang_String_ rfl rfl rfl rfl (by decide) (fun v D' h => ?_)
  obtain ⟨rfl, rfl⟩ := h
  show W _ _ _ _ _ _ _ _ _ _ _ _ 17 _ [(vr p3), (vr p1)]
  refine W.putf (pc := 17) (D' := (p1, true, oJobKey (vr p2) (vr p3)) :: F) 0 1 d9_17 (w106 hw) Via.refl rfl rfl (Or.inr ⟨(w107 hw), rfl, rfl⟩) (w40 hw) pfLjava_lang_String_ rfl rfl rfl ?_
  exact W.return_ (pc := 20) d9_20 rfl (by decide) ⟨rfl, rfl⟩
theorem pd_Ljava_lang_String_Ljava_lang_String__V : parseMethodDescriptor "(Ljava/lang/String;Ljava/lang/String;)V" = some ⟨[(.object "java/lang/String"), (.object "java/lang/String")], none⟩ := by decide +kernel
theorem w42 {Z a0} (hw : HW a0 Z) : ((Jvm.Cond.methodLink "com/example/cunctator/cunctator/JobKeyEqualsPinLaw" (26 : Nat) ({ cls := "com/example/cunctator/cunctator/JobKey", name := "<init>", desc := "(Ljava/lang/String;Ljava/lang/String;)V" } : Jvm.MethodName)) : Jvm.Cond).before a0 Z = true := hw _ (List.mem_of_getElem? (i := 42) rfl)
theorem w43 {Z a0} (hw : HW a0 Z) : ((Jvm.Cond.instanceMethod ({ cls := "com/example/cunctator/cunctator/JobKey", name := "<init>", desc := "(Ljava/lang/String;Ljava/lang/String;)V" } : Jvm.MethodName)) : Jvm.Cond).before a0 Z = true := hw _ (List.mem_of_getElem? (i := 43) rfl)
theorem w44 {Z a0} (hw : HW a0 Z) : ((Jvm.Cond.code ({ cls := "com/example/cunctator/cunctator/JobKey", name := "<init>", desc := "(Ljava/lang/String;Ljava/lang/String;)V" } : Jvm.MethodName) prog_8_method_1_code (3 : Nat) (Option.none : Option Jvm.ClassFile.FieldType)) : Jvm.Cond).before a0 Z = true := hw _ (List.mem_of_getElem? (i := 44) rfl)
theorem d22_0 : decode method_4_code 0 = .ok (.iload_n 2, 1) := by decide +kernel
theorem d22_1 : decode method_4_code 1 = .ok (.iload 5, 2) := by decide +kernel
theorem d22_3 : decode method_4_code 3 = .ok (.if_icmp .eq 5, 3) := by decide +kernel
theorem d22_8 : decode method_4_code 8 = .ok (.iload_n 0, 1) := by decide +kernel
theorem d22_9 : decode method_4_code 9 = .ok (.iload_n 3, 1) := by decide +kernel
theorem d22_10 : decode method_4_code 10 = .ok (.if_icmp .eq 5, 3) := by decide +kernel
theorem d22_15 : decode method_4_code 15 = .ok (.iload_n 2, 1) := by decide +kernel
theorem d22_16 : decode method_4_code 16 = .ok (.ifCond .eq 15, 3) := by decide +kernel
theorem d22_31 : decode method_4_code 31 = .ok (.iconst 1, 1) := by decide +kernel
theorem d22_32 : decode method_4_code 32 = .ok (.ireturn, 1) := by decide +kernel
theorem d22_19 : decode method_4_code 19 = .ok (.iload_n 1, 1) := by decide +kernel
theorem d22_20 : decode method_4_code 20 = .ok (.iload 4, 2) := by decide +kernel
theorem d22_22 : decode method_4_code 22 = .ok (.if_icmp .ne 7, 3) := by decide +kernel
theorem d22_29 : decode method_4_code 29 = .ok (.iconst 0, 1) := by decide +kernel
theorem d22_30 : decode method_4_code 30 = .ok (.ireturn, 1) := by decide +kernel
theorem d22_25 : decode method_4_code 25 = .ok (.iconst 1, 1) := by decide +kernel
theorem d22_26 : decode method_4_code 26 = .ok (.goto 4, 3) := by decide +kernel
theorem d22_13 : decode method_4_code 13 = .ok (.iconst 0, 1) := by decide +kernel
theorem d22_14 : decode method_4_code 14 = .ok (.ireturn, 1) := by decide +kernel
theorem d22_6 : decode method_4_code 6 = .ok (.iconst 0, 1) := by decide +kernel
theorem d22_7 : decode method_4_code 7 = .ok (.ireturn, 1) := by decide +kernel
theorem c59_same {Z a0} (hw : HW a0 Z) (hs : SF Z) {x1 : Int32} (hx1 : (45 ≤ x1.toInt ∧ x1.toInt ≤ 46) ∨ (48 ≤ x1.toInt ∧ x1.toInt ≤ 57) ∨ (65 ≤ x1.toInt ∧ x1.toInt ≤ 90) ∨ x1.toInt = 95 ∨ (97 ≤ x1.toInt ∧ x1.toInt ≤ 122)) {x2 : Int32} (hx2 : (45 ≤ x2.toInt ∧ x2.toInt ≤ 46) ∨ (48 ≤ x2.toInt ∧ x2.toInt ≤ 57) ∨ (65 ≤ x2.toInt ∧ x2.toInt ≤ 90) ∨ x2.toInt = 95 ∨ (97 ≤ x2.toInt ∧ x2.toInt ≤ 122)) {x3 : Int32} (hx3 : 0 ≤ x3.toInt ∧ x3.toInt ≤ 1) {x4 : Int32} (hx4 : (45 ≤ x4.toInt ∧ x4.toInt ≤ 46) ∨ (48 ≤ x4.toInt ∧ x4.toInt ≤ 57) ∨ (65 ≤ x4.toInt ∧ x4.toInt ≤ 90) ∨ x4.toInt = 95 ∨ (97 ≤ x4.toInt ∧ x4.toInt ≤ 122)) {x5 : Int32} (hx5 : (45 ≤ x5.toInt ∧ x5.toInt ≤ 46) ∨ (48 ≤ x5.toInt ∧ x5.toInt ≤ 57) ∨ (65 ≤ x5.toInt ∧ x5.toInt ≤ 90) ∨ x5.toInt = 95 ∨ (97 ≤ x5.toInt ∧ x5.toInt ≤ 122)) {x6 : Int32} (hx6 : 0 ≤ x6.toInt ∧ x6.toInt ≤ 1) {F : List Ent} : Con Z EL (⟨"com/example/cunctator/cunctator/JobKeyEqualsPinLaw", "same", "(CCZCCZ)Z"⟩ : MethodName) method_4_code 6 (Option.some Jvm.ClassFile.FieldType.boolean) (rmm 0 0 0 0) [(vi x1), (vi x2), (vi x3), (vi x4), (vi x5), (vi x6)] (F) (fun v D' => (Cd .eq x3 x6 ∧ Cd .eq x1 x4 ∧ Cd .eq x3 (0 : Int32) ∧ v = some (vi 1) ∧ F = D') ∨ (Cd .eq x3 x6 ∧ Cd .eq x1 x4 ∧ ¬ Cd .eq x3 (0 : Int32) ∧ Cd .ne x2 x5 ∧ v = some (vi 0) ∧ F = D') ∨ (Cd .eq x3 x6 ∧ Cd .eq x1 x4 ∧ ¬ Cd .eq x3 (0 : Int32) ∧ ¬ Cd .ne x2 x5 ∧ v = some (vi 1) ∧ F = D') ∨ (Cd .eq x3 x6 ∧ ¬ Cd .eq x1 x4 ∧ v = some (vi 0) ∧ F = D') ∨ (¬ Cd .eq x3 x6 ∧ v = some (vi 0) ∧ F = D')) := by
  refine Con.of (ls := #[iv x1, iv x2, iv x3, iv x4, iv x5, iv x6]) (by decide +kernel) rfl ?_
  show W Z EL _ "com/example/cunctator/cunctator/JobKeyEqualsPinLaw" "same" _ _ _ _ _ _ _ _ _ _
  refine W.iloadN (pc := 0) d22_0 rfl ?_
  refine W.iload (pc := 1) d22_1 rfl ?_
  refine W.icmp (pc := 3) 8 d22_3 (by decide) (fun h1 => ?_) (fun h1 => ?_)
  ·
   have ih1 := t_eq h1
   refine W.iloadN (pc := 8) d22_8 rfl ?_
   refine W.iloadN (pc := 9) d22_9 rfl ?_
   refine W.icmp (pc := 10) 15 d22_10 (by decide) (fun h2 => ?_) (fun h2 => ?_)
   ·
    have ih2 := t_eq h2
    refine W.iloadN (pc := 15) d22_15 rfl ?_
    refine W.if (pc := 16) 31 d22_16 (by decide) (fun h3 => ?_) (fun h3 => ?_)
    ·
     have ih3 := t_eq h3
     refine W.iconst (pc := 31) (1) d22_31 (by decide) ?_
     exact W.ireturn (pc := 32) d22_32 rfl (Or.inr (Or.inl rfl)) (nw_bool (by decide)) (by decide) (Or.inl ⟨h1, h2, h3, rfl, rfl⟩)
    ·
     have ih3 := f_eq h3
     refine W.iloadN (pc := 19) d22_19 rfl ?_
     refine W.iload (pc := 20) d22_20 rfl ?_
     refine W.icmp (pc := 22) 29 d22_22 (by decide) (fun h4 => ?_) (fun h4 => ?_)
     ·
      have ih4 := t_ne h4
      refine W.iconst (pc := 29) (0) d22_29 (by decide) ?_
      exact W.ireturn (pc := 30) d22_30 rfl (Or.inr (Or.inl rfl)) (nw_bool (by decide)) (by decide) (Or.inr (Or.inl ⟨h1, h2, h3, h4, rfl, rfl⟩))
     ·
      have ih4 := f_ne h4
      refine W.iconst (pc := 25) (1) d22_25 (by decide) ?_
      refine W.goto (pc := 26) 30 d22_26 (by decide) ?_
      exact W.ireturn (pc := 30) d22_30 rfl (Or.inr (Or.inl rfl)) (nw_bool (by decide)) (by decide) (Or.inr (Or.inr (Or.inl ⟨h1, h2, h3, h4, rfl, rfl⟩)))
   ·
    have ih2 := f_eq h2
    refine W.iconst (pc := 13) (0) d22_13 (by decide) ?_
    exact W.ireturn (pc := 14) d22_14 rfl (Or.inr (Or.inl rfl)) (nw_bool (by decide)) (by decide) (Or.inr (Or.inr (Or.inr (Or.inl ⟨h1, h2, rfl, rfl⟩))))
  ·
   have ih1 := f_eq h1
   refine W.iconst (pc := 6) (0) d22_6 (by decide) ?_
   exact W.ireturn (pc := 7) d22_7 rfl (Or.inr (Or.inl rfl)) (nw_bool (by decide)) (by decide) (Or.inr (Or.inr (Or.inr (Or.inr ⟨h1, rfl, rfl⟩))))
theorem pd_CCZCCZ_Z : parseMethodDescriptor "(CCZCCZ)Z" = some ⟨[.char, .char, .boolean, .char, .char, .boolean], some .boolean⟩ := by decide +kernel
theorem w108 {Z a0} (hw : HW a0 Z) : ((Jvm.Cond.methodLink "com/example/cunctator/cunctator/JobKeyEqualsPinLaw" (33 : Nat) ({ cls := "com/example/cunctator/cunctator/JobKeyEqualsPinLaw", name := "same", desc := "(CCZCCZ)Z" } : Jvm.MethodName)) : Jvm.Cond).before a0 Z = true := hw _ (List.mem_of_getElem? (i := 108) rfl)
theorem w109 {Z a0} (hw : HW a0 Z) : ((Jvm.Cond.static ({ cls := "com/example/cunctator/cunctator/JobKeyEqualsPinLaw", name := "same", desc := "(CCZCCZ)Z" } : Jvm.MethodName)) : Jvm.Cond).before a0 Z = true := hw _ (List.mem_of_getElem? (i := 109) rfl)
theorem w110 {Z a0} (hw : HW a0 Z) : ((Jvm.Cond.code ({ cls := "com/example/cunctator/cunctator/JobKeyEqualsPinLaw", name := "same", desc := "(CCZCCZ)Z" } : Jvm.MethodName) method_4_code (6 : Nat) (Option.some Jvm.ClassFile.FieldType.boolean)) : Jvm.Cond).before a0 Z = true := hw _ (List.mem_of_getElem? (i := 110) rfl)
theorem c60_same {Z a0} (hw : HW a0 Z) (hs : SF Z) {x1 : Int32} (hx1 : (45 ≤ x1.toInt ∧ x1.toInt ≤ 46) ∨ (48 ≤ x1.toInt ∧ x1.toInt ≤ 58) ∨ (65 ≤ x1.toInt ∧ x1.toInt ≤ 90) ∨ x1.toInt = 95 ∨ (97 ≤ x1.toInt ∧ x1.toInt ≤ 122)) {x2 : Int32} (hx2 : (45 ≤ x2.toInt ∧ x2.toInt ≤ 46) ∨ (48 ≤ x2.toInt ∧ x2.toInt ≤ 58) ∨ (65 ≤ x2.toInt ∧ x2.toInt ≤ 90) ∨ x2.toInt = 95 ∨ (97 ≤ x2.toInt ∧ x2.toInt ≤ 122)) {x3 : Int32} (hx3 : 0 ≤ x3.toInt ∧ x3.toInt ≤ 1) {x4 : Int32} (hx4 : (45 ≤ x4.toInt ∧ x4.toInt ≤ 46) ∨ (48 ≤ x4.toInt ∧ x4.toInt ≤ 58) ∨ (65 ≤ x4.toInt ∧ x4.toInt ≤ 90) ∨ x4.toInt = 95 ∨ (97 ≤ x4.toInt ∧ x4.toInt ≤ 122)) {x5 : Int32} (hx5 : (45 ≤ x5.toInt ∧ x5.toInt ≤ 46) ∨ (48 ≤ x5.toInt ∧ x5.toInt ≤ 58) ∨ (65 ≤ x5.toInt ∧ x5.toInt ≤ 90) ∨ x5.toInt = 95 ∨ (97 ≤ x5.toInt ∧ x5.toInt ≤ 122)) {x6 : Int32} (hx6 : 0 ≤ x6.toInt ∧ x6.toInt ≤ 1) {F : List Ent} : Con Z EL (⟨"com/example/cunctator/cunctator/JobKeyEqualsPinLaw", "same", "(CCZCCZ)Z"⟩ : MethodName) method_4_code 6 (Option.some Jvm.ClassFile.FieldType.boolean) (rmm 0 0 0 0) [(vi x1), (vi x2), (vi x3), (vi x4), (vi x5), (vi x6)] (F) (fun v D' => (Cd .eq x3 x6 ∧ Cd .eq x1 x4 ∧ Cd .eq x3 (0 : Int32) ∧ v = some (vi 1) ∧ F = D') ∨ (Cd .eq x3 x6 ∧ Cd .eq x1 x4 ∧ ¬ Cd .eq x3 (0 : Int32) ∧ Cd .ne x2 x5 ∧ v = some (vi 0) ∧ F = D') ∨ (Cd .eq x3 x6 ∧ Cd .eq x1 x4 ∧ ¬ Cd .eq x3 (0 : Int32) ∧ ¬ Cd .ne x2 x5 ∧ v = some (vi 1) ∧ F = D') ∨ (Cd .eq x3 x6 ∧ ¬ Cd .eq x1 x4 ∧ v = some (vi 0) ∧ F = D') ∨ (¬ Cd .eq x3 x6 ∧ v = some (vi 0) ∧ F = D')) := by
  refine Con.of (ls := #[iv x1, iv x2, iv x3, iv x4, iv x5, iv x6]) (by decide +kernel) rfl ?_
  show W Z EL _ "com/example/cunctator/cunctator/JobKeyEqualsPinLaw" "same" _ _ _ _ _ _ _ _ _ _
  refine W.iloadN (pc := 0) d22_0 rfl ?_
  refine W.iload (pc := 1) d22_1 rfl ?_
  refine W.icmp (pc := 3) 8 d22_3 (by decide) (fun h1 => ?_) (fun h1 => ?_)
  ·
   have ih1 := t_eq h1
   refine W.iloadN (pc := 8) d22_8 rfl ?_
   refine W.iloadN (pc := 9) d22_9 rfl ?_
   refine W.icmp (pc := 10) 15 d22_10 (by decide) (fun h2 => ?_) (fun h2 => ?_)
   ·
    have ih2 := t_eq h2
    refine W.iloadN (pc := 15) d22_15 rfl ?_
    refine W.if (pc := 16) 31 d22_16 (by decide) (fun h3 => ?_) (fun h3 => ?_)
    ·
     have ih3 := t_eq h3
     refine W.iconst (pc := 31) (1) d22_31 (by decide) ?_
     exact W.ireturn (pc := 32) d22_32 rfl (Or.inr (Or.inl rfl)) (nw_bool (by decide)) (by decide) (Or.inl ⟨h1, h2, h3, rfl, rfl⟩)
    ·
     have ih3 := f_eq h3
     refine W.iloadN (pc := 19) d22_19 rfl ?_
     refine W.iload (pc := 20) d22_20 rfl ?_
     refine W.icmp (pc := 22) 29 d22_22 (by decide) (fun h4 => ?_) (fun h4 => ?_)
     ·
      have ih4 := t_ne h4
      refine W.iconst (pc := 29) (0) d22_29 (by decide) ?_
      exact W.ireturn (pc := 30) d22_30 rfl (Or.inr (Or.inl rfl)) (nw_bool (by decide)) (by decide) (Or.inr (Or.inl ⟨h1, h2, h3, h4, rfl, rfl⟩))
     ·
      have ih4 := f_ne h4
      refine W.iconst (pc := 25) (1) d22_25 (by decide) ?_
      refine W.goto (pc := 26) 30 d22_26 (by decide) ?_
      exact W.ireturn (pc := 30) d22_30 rfl (Or.inr (Or.inl rfl)) (nw_bool (by decide)) (by decide) (Or.inr (Or.inr (Or.inl ⟨h1, h2, h3, h4, rfl, rfl⟩)))
   ·
    have ih2 := f_eq h2
    refine W.iconst (pc := 13) (0) d22_13 (by decide) ?_
    exact W.ireturn (pc := 14) d22_14 rfl (Or.inr (Or.inl rfl)) (nw_bool (by decide)) (by decide) (Or.inr (Or.inr (Or.inr (Or.inl ⟨h1, h2, rfl, rfl⟩))))
  ·
   have ih1 := f_eq h1
   refine W.iconst (pc := 6) (0) d22_6 (by decide) ?_
   exact W.ireturn (pc := 7) d22_7 rfl (Or.inr (Or.inl rfl)) (nw_bool (by decide)) (by decide) (Or.inr (Or.inr (Or.inr (Or.inr ⟨h1, rfl, rfl⟩))))
theorem d23_0 : decode prog_8_method_6_code 0 = .ok (.aload_n 0, 1) := by decide +kernel
theorem d23_1 : decode prog_8_method_6_code 1 = .ok (.aload_n 1, 1) := by decide +kernel
theorem d23_2 : decode prog_8_method_6_code 2 = .ok (.if_acmp .ne 5, 3) := by decide +kernel
theorem d23_7 : decode prog_8_method_6_code 7 = .ok (.aload_n 1, 1) := by decide +kernel
theorem d23_8 : decode prog_8_method_6_code 8 = .ok (.instanceof 8, 3) := by decide +kernel
theorem w116 {Z a0} (hw : HW a0 Z) : ((Jvm.Cond.classLink "com/example/cunctator/cunctator/JobKey" (8 : Nat) "com/example/cunctator/cunctator/JobKey") : Jvm.Cond).before a0 Z = true := hw _ (List.mem_of_getElem? (i := 116) rfl)
theorem d23_11 : decode prog_8_method_6_code 11 = .ok (.ifCond .ne 5, 3) := by decide +kernel
theorem d23_16 : decode prog_8_method_6_code 16 = .ok (.aload_n 1, 1) := by decide +kernel
theorem d23_17 : decode prog_8_method_6_code 17 = .ok (.checkcast 8, 3) := by decide +kernel
theorem d23_20 : decode prog_8_method_6_code 20 = .ok (.astore_n 2, 1) := by decide +kernel
theorem d23_21 : decode prog_8_method_6_code 21 = .ok (.aload_n 0, 1) := by decide +kernel
theorem d23_22 : decode prog_8_method_6_code 22 = .ok (.getfield 13, 3) := by decide +kernel
theorem d23_25 : decode prog_8_method_6_code 25 = .ok (.aload_n 2, 1) := by decide +kernel
theorem d23_26 : decode prog_8_method_6_code 26 = .ok (.getfield 13, 3) := by decide +kernel
theorem d23_29 : decode prog_8_method_6_code 29 = .ok (.invokevirtual 35, 3) := by decide +kernel
theorem d24_0 : decode jdk_42_method_66_code 0 = .ok (.aload_n 0, 1) := by decide +kernel
theorem d24_1 : decode jdk_42_method_66_code 1 = .ok (.aload_n 1, 1) := by decide +kernel
theorem d24_2 : decode jdk_42_method_66_code 2 = .ok (.if_acmp .ne 5, 3) := by decide +kernel
theorem d24_7 : decode jdk_42_method_66_code 7 = .ok (.aload_n 1, 1) := by decide +kernel
theorem d24_8 : decode jdk_42_method_66_code 8 = .ok (.instanceof 10, 3) := by decide +kernel
theorem w123 {Z a0} (hw : HW a0 Z) : ((Jvm.Cond.classLink "java/lang/String" (10 : Nat) "java/lang/String") : Jvm.Cond).before a0 Z = true := hw _ (List.mem_of_getElem? (i := 123) rfl)
theorem d24_11 : decode jdk_42_method_66_code 11 = .ok (.ifCond .eq 43, 3) := by decide +kernel
theorem d24_14 : decode jdk_42_method_66_code 14 = .ok (.aload_n 1, 1) := by decide +kernel
theorem d24_15 : decode jdk_42_method_66_code 15 = .ok (.checkcast 10, 3) := by decide +kernel
theorem d24_18 : decode jdk_42_method_66_code 18 = .ok (.astore_n 2, 1) := by decide +kernel
theorem d24_19 : decode jdk_42_method_66_code 19 = .ok (.getstatic 38, 3) := by decide +kernel
theorem d24_22 : decode jdk_42_method_66_code 22 = .ok (.ifCond .eq 14, 3) := by decide +kernel
theorem d24_25 : decode jdk_42_method_66_code 25 = .ok (.aload_n 0, 1) := by decide +kernel
theorem d24_26 : decode jdk_42_method_66_code 26 = .ok (.getfield 15, 3) := by decide +kernel
theorem d24_29 : decode jdk_42_method_66_code 29 = .ok (.aload_n 2, 1) := by decide +kernel
theorem d24_30 : decode jdk_42_method_66_code 30 = .ok (.getfield 15, 3) := by decide +kernel
theorem d24_33 : decode jdk_42_method_66_code 33 = .ok (.if_icmp .ne 21, 3) := by decide +kernel
theorem d24_36 : decode jdk_42_method_66_code 36 = .ok (.aload_n 0, 1) := by decide +kernel
theorem d24_37 : decode jdk_42_method_66_code 37 = .ok (.getfield 9, 3) := by decide +kernel
theorem d24_40 : decode jdk_42_method_66_code 40 = .ok (.aload_n 2, 1) := by decide +kernel
theorem d24_41 : decode jdk_42_method_66_code 41 = .ok (.getfield 9, 3) := by decide +kernel
theorem d24_44 : decode jdk_42_method_66_code 44 = .ok (.invokestatic 541, 3) := by decide +kernel
theorem d25_0 : decode jdk_43_method_13_code 0 = .ok (.aload_n 0, 1) := by decide +kernel
theorem d25_1 : decode jdk_43_method_13_code 1 = .ok (.arraylength, 1) := by decide +kernel
theorem d25_2 : decode jdk_43_method_13_code 2 = .ok (.aload_n 1, 1) := by decide +kernel
theorem d25_3 : decode jdk_43_method_13_code 3 = .ok (.arraylength, 1) := by decide +kernel
theorem d25_4 : decode jdk_43_method_13_code 4 = .ok (.if_icmp .ne 30, 3) := by decide +kernel
theorem d25_7 : decode jdk_43_method_13_code 7 = .ok (.iconst 0, 1) := by decide +kernel
theorem d25_8 : decode jdk_43_method_13_code 8 = .ok (.istore_n 2, 1) := by decide +kernel
theorem d25_9 : decode jdk_43_method_13_code 9 = .ok (.iload_n 2, 1) := by decide +kernel
theorem d25_10 : decode jdk_43_method_13_code 10 = .ok (.aload_n 0, 1) := by decide +kernel
theorem d25_11 : decode jdk_43_method_13_code 11 = .ok (.arraylength, 1) := by decide +kernel
theorem d25_12 : decode jdk_43_method_13_code 12 = .ok (.if_icmp .ge 20, 3) := by decide +kernel
theorem d25_15 : decode jdk_43_method_13_code 15 = .ok (.aload_n 0, 1) := by decide +kernel
theorem d25_16 : decode jdk_43_method_13_code 16 = .ok (.iload_n 2, 1) := by decide +kernel
theorem d25_17 : decode jdk_43_method_13_code 17 = .ok (.baload, 1) := by decide +kernel
theorem d25_18 : decode jdk_43_method_13_code 18 = .ok (.aload_n 1, 1) := by decide +kernel
theorem d25_19 : decode jdk_43_method_13_code 19 = .ok (.iload_n 2, 1) := by decide +kernel
theorem d25_20 : decode jdk_43_method_13_code 20 = .ok (.baload, 1) := by decide +kernel
theorem d25_21 : decode jdk_43_method_13_code 21 = .ok (.if_icmp .eq 5, 3) := by decide +kernel
theorem d25_26 : decode jdk_43_method_13_code 26 = .ok (.iinc 2 1, 3) := by decide +kernel
theorem d25_29 : decode jdk_43_method_13_code 29 = .ok (.goto (-20), 3) := by decide +kernel
theorem d25_32 : decode jdk_43_method_13_code 32 = .ok (.iconst 1, 1) := by decide +kernel
theorem d25_33 : decode jdk_43_method_13_code 33 = .ok (.ireturn, 1) := by decide +kernel
theorem d25_24 : decode jdk_43_method_13_code 24 = .ok (.iconst 0, 1) := by decide +kernel
theorem d25_25 : decode jdk_43_method_13_code 25 = .ok (.ireturn, 1) := by decide +kernel
theorem c63_equals {Z a0} (hw : HW a0 Z) (hs : SF Z) {p1 p2 : Addr} {x1 : Int32} (hx1 : (45 ≤ x1.toInt ∧ x1.toInt ≤ 46) ∨ (48 ≤ x1.toInt ∧ x1.toInt ≤ 57) ∨ (65 ≤ x1.toInt ∧ x1.toInt ≤ 90) ∨ x1.toInt = 95 ∨ (97 ≤ x1.toInt ∧ x1.toInt ≤ 122)) {x2 : Int32} (hx2 : (45 ≤ x2.toInt ∧ x2.toInt ≤ 46) ∨ (48 ≤ x2.toInt ∧ x2.toInt ≤ 57) ∨ (65 ≤ x2.toInt ∧ x2.toInt ≤ 90) ∨ x2.toInt = 95 ∨ (97 ≤ x2.toInt ∧ x2.toInt ≤ 122)) {w_p1 : Bool} {ad_p1 : String} {w_p2 : Bool} {ad_p2 : String} {F : List Ent} (mp1 : (p1, w_p1, ar ad_p1 .byte [(vi x1)]) ∈ F) (mp2 : (p2, w_p2, ar ad_p2 .byte [(vi x2)]) ∈ F) : Con Z EL (⟨"java/lang/StringLatin1", "equals", "([B[B)Z"⟩ : MethodName) jdk_43_method_13_code 3 (Option.some Jvm.ClassFile.FieldType.boolean) (rmm 0 0 0 0) [(vr p1), (vr p2)] (F) (fun v D' => (Cd .eq x1 x2 ∧ v = some (vi 1) ∧ F = D') ∨ (¬ Cd .eq x1 x2 ∧ v = some (vi 0) ∧ F = D')) := by
  refine Con.of (ls := #[rv p1, rv p2, uu]) (by decide +kernel) rfl ?_
  show W Z EL _ "java/lang/StringLatin1" "equals" _ _ _ _ _ _ _ _ _ _
  refine W.aloadN (pc := 0) d25_0 rfl rfl ?_
  refine W.alen (pc := 1) (1) d25_1 mp1 rfl ?_
  refine W.aloadN (pc := 2) d25_2 rfl rfl ?_
  refine W.alen (pc := 3) (1) d25_3 mp2 rfl ?_
  refine W.icmpN (pc := 4) d25_4 (n_ne (by decide)) ?_
  refine W.iconst (pc := 7) (0) d25_7 (by decide) ?_
  refine W.istoreN (pc := 8) (ls' := #[rv p1, rv p2, iv 0]) d25_8 rfl ?_
  refine W.iloadN (pc := 9) d25_9 rfl ?_
  refine W.aloadN (pc := 10) d25_10 rfl rfl ?_
  refine W.alen (pc := 11) (1) d25_11 mp1 rfl ?_
  refine W.icmpN (pc := 12) d25_12 (n_ge (by decide)) ?_
  refine W.aloadN (pc := 15) d25_15 rfl rfl ?_
  refine W.iloadN (pc := 16) d25_16 rfl ?_
  refine W.baload (pc := 17) 0 d25_17 mp1 ix0 rfl ?_
  refine W.aloadN (pc := 18) d25_18 rfl rfl ?_
  refine W.iloadN (pc := 19) d25_19 rfl ?_
  refine W.baload (pc := 20) 0 d25_20 mp2 ix0 rfl ?_
  refine W.icmp (pc := 21) 26 d25_21 (by decide) (fun h1 => ?_) (fun h1 => ?_)
  ·
   have ih1 := t_eq h1
   refine W.iincK (pc := 26) (ls' := #[rv p1, rv p2, iv 1]) (1) (1 : Int32) d25_26 (by decide) rfl (by decide) rfl ?_
   refine W.goto (pc := 29) 9 d25_29 (by decide) ?_
   refine W.iloadN (pc := 9) d25_9 rfl ?_
   refine W.aloadN (pc := 10) d25_10 rfl rfl ?_
   refine W.alen (pc := 11) (1) d25_11 mp1 rfl ?_
   refine W.icmpY (pc := 12) 32 d25_12 (y_ge (by decide)) (by decide) ?_
   refine W.iconst (pc := 32) (1) d25_32 (by decide) ?_
   exact W.ireturn (pc := 33) d25_33 rfl (Or.inr (Or.inl rfl)) (nw_bool (by decide)) (by decide) (Or.inl ⟨h1, rfl, rfl⟩)
  ·
   have ih1 := f_eq h1
   refine W.iconst (pc := 24) (0) d25_24 (by decide) ?_
   exact W.ireturn (pc := 25) d25_25 rfl (Or.inr (Or.inl rfl)) (nw_bool (by decide)) (by decide) (Or.inr ⟨h1, rfl, rfl⟩)
theorem pd__B_B_Z : parseMethodDescriptor "([B[B)Z" = some ⟨[(.array .byte), (.array .byte)], some .boolean⟩ := by decide +kernel
theorem w124 {Z a0} (hw : HW a0 Z) : ((Jvm.Cond.methodLink "java/lang/String" (541 : Nat) ({ cls := "java/lang/StringLatin1", name := "equals", desc := "([B[B)Z" } : Jvm.MethodName)) : Jvm.Cond).before a0 Z = true := hw _ (List.mem_of_getElem? (i := 124) rfl)
theorem w125 {Z a0} (hw : HW a0 Z) : ((Jvm.Cond.static ({ cls := "java/lang/StringLatin1", name := "equals", desc := "([B[B)Z" } : Jvm.MethodName)) : Jvm.Cond).before a0 Z = true := hw _ (List.mem_of_getElem? (i := 125) rfl)
theorem w126 {Z a0} (hw : HW a0 Z) : ((Jvm.Cond.code ({ cls := "java/lang/StringLatin1", name := "equals", desc := "([B[B)Z" } : Jvm.MethodName) jdk_43_method_13_code (3 : Nat) (Option.some Jvm.ClassFile.FieldType.boolean)) : Jvm.Cond).before a0 Z = true := hw _ (List.mem_of_getElem? (i := 126) rfl)
theorem d24_47 : decode jdk_42_method_66_code 47 = .ok (.ifCond .eq 7, 3) := by decide +kernel
theorem d24_50 : decode jdk_42_method_66_code 50 = .ok (.iconst 1, 1) := by decide +kernel
theorem d24_51 : decode jdk_42_method_66_code 51 = .ok (.goto 4, 3) := by decide +kernel
theorem d24_55 : decode jdk_42_method_66_code 55 = .ok (.ireturn, 1) := by decide +kernel
theorem d24_54 : decode jdk_42_method_66_code 54 = .ok (.iconst 0, 1) := by decide +kernel
theorem c62_equals {Z a0} (hw : HW a0 Z) (hs : SF Z) {p1 p2 p3 p4 : Addr} {x1 : Int32} (hx1 : (45 ≤ x1.toInt ∧ x1.toInt ≤ 46) ∨ (48 ≤ x1.toInt ∧ x1.toInt ≤ 57) ∨ (65 ≤ x1.toInt ∧ x1.toInt ≤ 90) ∨ x1.toInt = 95 ∨ (97 ≤ x1.toInt ∧ x1.toInt ≤ 122)) {x2 : Int32} (hx2 : (45 ≤ x2.toInt ∧ x2.toInt ≤ 46) ∨ (48 ≤ x2.toInt ∧ x2.toInt ≤ 57) ∨ (65 ≤ x2.toInt ∧ x2.toInt ≤ 90) ∨ x2.toInt = 95 ∨ (97 ≤ x2.toInt ∧ x2.toInt ≤ 122)) {w_p2 : Bool} {w_p1 : Bool} {w_p3 : Bool} {ad_p3 : String} {w_p4 : Bool} {ad_p4 : String} (ne_p1_p2 : p1 ≠ p2) {F : List Ent} (mp2 : (p2, w_p2, oString (vr p4) (vi 0)) ∈ F) (mp1 : (p1, w_p1, oString (vr p3) (vi 0)) ∈ F) (mp3 : (p3, w_p3, ar ad_p3 .byte [(vi x1)]) ∈ F) (mp4 : (p4, w_p4, ar ad_p4 .byte [(vi x2)]) ∈ F) : Con Z EL (⟨"java/lang/String", "equals", "(Ljava/lang/Object;)Z"⟩ : MethodName) jdk_42_method_66_code 3 (Option.some Jvm.ClassFile.FieldType.boolean) (rmm 1 0 0 14) [(vr p1), (vr p2)] (F) (fun v D' => (Cd .eq x1 x2 ∧ v = some (vi 1) ∧ F = D') ∨ (¬ Cd .eq x1 x2 ∧ v = some (vi 0) ∧ F = D')) := by
  refine Con.of (ls := #[rv p1, rv p2, uu]) (by decide +kernel) rfl ?_
  show W Z EL _ "java/lang/String" "equals" _ _ _ _ _ _ _ _ _ _
  refine W.aloadN (pc := 0) d24_0 rfl rfl ?_
  refine W.aloadN (pc := 1) d24_1 rfl rfl ?_
  refine W.acmpY (pc := 2) 7 d24_2 rfl rfl (show Ca .ne _ _ from (fun z => ne_p1_p2 (by injection z))) (by decide) ?_
  refine W.aloadN (pc := 7) d24_7 rfl rfl ?_
  refine W.instY (pc := 8) d24_8 (w123 hw) (Hp.ins mp2) ?_
  refine W.ifN (pc := 11) d24_11 (n_eq (by decide)) ?_
  refine W.aloadN (pc := 14) d24_14 rfl rfl ?_
  refine W.castY (pc := 15) d24_15 (w123 hw) (Hp.ins mp2) ?_
  refine W.astoreN (pc := 18) (ls' := #[rv p1, rv p2, rv p2]) d24_18 rfl rfl ?_
  refine W.gets (pc := 19) d24_19 (w23 hw) Via.refl hs.1 ?_
  refine W.ifN (pc := 22) d24_22 (n_eq (by have := hs.2.1; have := q0; omega)) ?_
  refine W.aloadN (pc := 25) d24_25 rfl rfl ?_
  refine W.getf (pc := 26) d24_26 (w35 hw) Via.refl mp1 m1 ?_
  refine W.aloadN (pc := 29) d24_29 rfl rfl ?_
  refine W.getf (pc := 30) d24_30 (w35 hw) Via.refl mp2 m1 ?_
  refine W.icmpN (pc := 33) d24_33 (n_ne (by decide)) ?_
  refine W.aloadN (pc := 36) d24_36 rfl rfl ?_
  refine W.getf (pc := 37) d24_37 (w37 hw) Via.refl mp1 m0 ?_
  refine W.aloadN (pc := 40) d24_40 rfl rfl ?_
  refine W.getf (pc := 41) d24_41 (w37 hw) Via.refl mp2 m0 ?_
  refine W.callS (pc := 44) (as := [(vr p3), (vr p4)]) 0 [] d24_44 (w124 hw) (w125 hw) (w84 hw) (w126 hw) (c63_equals hw hs (hx1 := hx1) (hx2 := hx2) (mp1 := mp3) (mp2 := mp4)) (by decide) pd__B_B_Z rfl rfl rfl rfl (by decide) (fun v D' h => ?_)
  rcases h with ⟨h1, rfl, rfl⟩ | ⟨h2, rfl, rfl⟩
  ·
   have ih1 := t_eq h1
   show W _ _ _ _ _ _ _ _ _ _ _ _ 47 _ [(vi 1)]
   refine W.ifN (pc := 47) d24_47 (n_eq (by decide)) ?_
   refine W.iconst (pc := 50) (1) d24_50 (by decide) ?_
   refine W.goto (pc := 51) 55 d24_51 (by decide) ?_
   exact W.ireturn (pc := 55) d24_55 rfl (Or.inr (Or.inl rfl)) (nw_bool (by decide)) (by decide) (Or.inl ⟨h1, rfl, rfl⟩)
  ·
   have ih2 := f_eq h2
   show W _ _ _ _ _ _ _ _ _ _ _ _ 47 _ [(vi 0)]
   refine W.ifY (pc := 47) 54 d24_47 (y_eq (by decide)) (by decide) ?_
   refine W.iconst (pc := 54) (0) d24_54 (by decide) ?_
   exact W.ireturn (pc := 55) d24_55 rfl (Or.inr (Or.inl rfl)) (nw_bool (by decide)) (by decide) (Or.inr ⟨h2, rfl, rfl⟩)
theorem pd_Ljava_lang_Object__Z : parseMethodDescriptor "(Ljava/lang/Object;)Z" = some ⟨[(.object "java/lang/Object")], some .boolean⟩ := by decide +kernel
theorem w118 {Z a0} (hw : HW a0 Z) : ((Jvm.Cond.methodLink "com/example/cunctator/cunctator/JobKey" (35 : Nat) ({ cls := "java/lang/String", name := "equals", desc := "(Ljava/lang/Object;)Z" } : Jvm.MethodName)) : Jvm.Cond).before a0 Z = true := hw _ (List.mem_of_getElem? (i := 118) rfl)
theorem w119 {Z a0} (hw : HW a0 Z) : ((Jvm.Cond.declares ({ cls := "java/lang/String", name := "equals", desc := "(Ljava/lang/Object;)Z" } : Jvm.MethodName)) : Jvm.Cond).before a0 Z = true := hw _ (List.mem_of_getElem? (i := 119) rfl)
theorem w121 {Z a0} (hw : HW a0 Z) : ((Jvm.Cond.selects "java/lang/String" ({ cls := "java/lang/String", name := "equals", desc := "(Ljava/lang/Object;)Z" } : Jvm.MethodName) ({ cls := "java/lang/String", name := "equals", desc := "(Ljava/lang/Object;)Z" } : Jvm.MethodName)) : Jvm.Cond).before a0 Z = true := hw _ (List.mem_of_getElem? (i := 121) rfl)
theorem w120 {Z a0} (hw : HW a0 Z) : ((Jvm.Cond.instanceMethod ({ cls := "java/lang/String", name := "equals", desc := "(Ljava/lang/Object;)Z" } : Jvm.MethodName)) : Jvm.Cond).before a0 Z = true := hw _ (List.mem_of_getElem? (i := 120) rfl)
theorem w122 {Z a0} (hw : HW a0 Z) : ((Jvm.Cond.code ({ cls := "java/lang/String", name := "equals", desc := "(Ljava/lang/Object;)Z" } : Jvm.MethodName) jdk_42_method_66_code (3 : Nat) (Option.some Jvm.ClassFile.FieldType.boolean)) : Jvm.Cond).before a0 Z = true := hw _ (List.mem_of_getElem? (i := 122) rfl)
theorem d23_32 : decode prog_8_method_6_code 32 = .ok (.ifCond .eq 21, 3) := by decide +kernel
theorem d23_35 : decode prog_8_method_6_code 35 = .ok (.aload_n 0, 1) := by decide +kernel
theorem d23_36 : decode prog_8_method_6_code 36 = .ok (.getfield 20, 3) := by decide +kernel
theorem d23_39 : decode prog_8_method_6_code 39 = .ok (.aload_n 2, 1) := by decide +kernel
theorem d23_40 : decode prog_8_method_6_code 40 = .ok (.getfield 20, 3) := by decide +kernel
theorem d23_43 : decode prog_8_method_6_code 43 = .ok (.invokevirtual 35, 3) := by decide +kernel
theorem c65_equals {Z a0} (hw : HW a0 Z) (hs : SF Z) {p1 p2 : Addr} {x1 : Int32} (hx1 : (45 ≤ x1.toInt ∧ x1.toInt ≤ 46) ∨ (48 ≤ x1.toInt ∧ x1.toInt ≤ 58) ∨ (65 ≤ x1.toInt ∧ x1.toInt ≤ 90) ∨ x1.toInt = 95 ∨ (97 ≤ x1.toInt ∧ x1.toInt ≤ 122)) {x2 : Int32} (hx2 : (45 ≤ x2.toInt ∧ x2.toInt ≤ 46) ∨ (48 ≤ x2.toInt ∧ x2.toInt ≤ 58) ∨ (65 ≤ x2.toInt ∧ x2.toInt ≤ 90) ∨ x2.toInt = 95 ∨ (97 ≤ x2.toInt ∧ x2.toInt ≤ 122)) {w_p1 : Bool} {ad_p1 : String} {w_p2 : Bool} {ad_p2 : String} {F : List Ent} (mp1 : (p1, w_p1, ar ad_p1 .byte [(vi x1)]) ∈ F) (mp2 : (p2, w_p2, ar ad_p2 .byte [(vi x2)]) ∈ F) : Con Z EL (⟨"java/lang/StringLatin1", "equals", "([B[B)Z"⟩ : MethodName) jdk_43_method_13_code 3 (Option.some Jvm.ClassFile.FieldType.boolean) (rmm 0 0 0 0) [(vr p1), (vr p2)] (F) (fun v D' => (Cd .eq x1 x2 ∧ v = some (vi 1) ∧ F = D') ∨ (¬ Cd .eq x1 x2 ∧ v = some (vi 0) ∧ F = D')) := by
  refine Con.of (ls := #[rv p1, rv p2, uu]) (by decide +kernel) rfl ?_
  show W Z EL _ "java/lang/StringLatin1" "equals" _ _ _ _ _ _ _ _ _ _
  refine W.aloadN (pc := 0) d25_0 rfl rfl ?_
  refine W.alen (pc := 1) (1) d25_1 mp1 rfl ?_
  refine W.aloadN (pc := 2) d25_2 rfl rfl ?_
  refine W.alen (pc := 3) (1) d25_3 mp2 rfl ?_
  refine W.icmpN (pc := 4) d25_4 (n_ne (by decide)) ?_
  refine W.iconst (pc := 7) (0) d25_7 (by decide) ?_
  refine W.istoreN (pc := 8) (ls' := #[rv p1, rv p2, iv 0]) d25_8 rfl ?_
  refine W.iloadN (pc := 9) d25_9 rfl ?_
  refine W.aloadN (pc := 10) d25_10 rfl rfl ?_
  refine W.alen (pc := 11) (1) d25_11 mp1 rfl ?_
  refine W.icmpN (pc := 12) d25_12 (n_ge (by decide)) ?_
  refine W.aloadN (pc := 15) d25_15 rfl rfl ?_
  refine W.iloadN (pc := 16) d25_16 rfl ?_
  refine W.baload (pc := 17) 0 d25_17 mp1 ix0 rfl ?_
  refine W.aloadN (pc := 18) d25_18 rfl rfl ?_
  refine W.iloadN (pc := 19) d25_19 rfl ?_
  refine W.baload (pc := 20) 0 d25_20 mp2 ix0 rfl ?_
  refine W.icmp (pc := 21) 26 d25_21 (by decide) (fun h1 => ?_) (fun h1 => ?_)
  ·
   have ih1 := t_eq h1
   refine W.iincK (pc := 26) (ls' := #[rv p1, rv p2, iv 1]) (1) (1 : Int32) d25_26 (by decide) rfl (by decide) rfl ?_
   refine W.goto (pc := 29) 9 d25_29 (by decide) ?_
   refine W.iloadN (pc := 9) d25_9 rfl ?_
   refine W.aloadN (pc := 10) d25_10 rfl rfl ?_
   refine W.alen (pc := 11) (1) d25_11 mp1 rfl ?_
   refine W.icmpY (pc := 12) 32 d25_12 (y_ge (by decide)) (by decide) ?_
   refine W.iconst (pc := 32) (1) d25_32 (by decide) ?_
   exact W.ireturn (pc := 33) d25_33 rfl (Or.inr (Or.inl rfl)) (nw_bool (by decide)) (by decide) (Or.inl ⟨h1, rfl, rfl⟩)
  ·
   have ih1 := f_eq h1
   refine W.iconst (pc := 24) (0) d25_24 (by decide) ?_
   exact W.ireturn (pc := 25) d25_25 rfl (Or.inr (Or.inl rfl)) (nw_bool (by decide)) (by decide) (Or.inr ⟨h1, rfl, rfl⟩)
theorem c64_equals {Z a0} (hw : HW a0 Z) (hs : SF Z) {p1 p2 p3 p4 : Addr} {x1 : Int32} (hx1 : (45 ≤ x1.toInt ∧ x1.toInt ≤ 46) ∨ (48 ≤ x1.toInt ∧ x1.toInt ≤ 58) ∨ (65 ≤ x1.toInt ∧ x1.toInt ≤ 90) ∨ x1.toInt = 95 ∨ (97 ≤ x1.toInt ∧ x1.toInt ≤ 122)) {x2 : Int32} (hx2 : (45 ≤ x2.toInt ∧ x2.toInt ≤ 46) ∨ (48 ≤ x2.toInt ∧ x2.toInt ≤ 58) ∨ (65 ≤ x2.toInt ∧ x2.toInt ≤ 90) ∨ x2.toInt = 95 ∨ (97 ≤ x2.toInt ∧ x2.toInt ≤ 122)) {w_p2 : Bool} {w_p1 : Bool} {w_p3 : Bool} {ad_p3 : String} {w_p4 : Bool} {ad_p4 : String} (ne_p1_p2 : p1 ≠ p2) {F : List Ent} (mp2 : (p2, w_p2, oString (vr p4) (vi 0)) ∈ F) (mp1 : (p1, w_p1, oString (vr p3) (vi 0)) ∈ F) (mp3 : (p3, w_p3, ar ad_p3 .byte [(vi x1)]) ∈ F) (mp4 : (p4, w_p4, ar ad_p4 .byte [(vi x2)]) ∈ F) : Con Z EL (⟨"java/lang/String", "equals", "(Ljava/lang/Object;)Z"⟩ : MethodName) jdk_42_method_66_code 3 (Option.some Jvm.ClassFile.FieldType.boolean) (rmm 1 0 0 14) [(vr p1), (vr p2)] (F) (fun v D' => (Cd .eq x1 x2 ∧ v = some (vi 1) ∧ F = D') ∨ (¬ Cd .eq x1 x2 ∧ v = some (vi 0) ∧ F = D')) := by
  refine Con.of (ls := #[rv p1, rv p2, uu]) (by decide +kernel) rfl ?_
  show W Z EL _ "java/lang/String" "equals" _ _ _ _ _ _ _ _ _ _
  refine W.aloadN (pc := 0) d24_0 rfl rfl ?_
  refine W.aloadN (pc := 1) d24_1 rfl rfl ?_
  refine W.acmpY (pc := 2) 7 d24_2 rfl rfl (show Ca .ne _ _ from (fun z => ne_p1_p2 (by injection z))) (by decide) ?_
  refine W.aloadN (pc := 7) d24_7 rfl rfl ?_
  refine W.instY (pc := 8) d24_8 (w123 hw) (Hp.ins mp2) ?_
  refine W.ifN (pc := 11) d24_11 (n_eq (by decide)) ?_
  refine W.aloadN (pc := 14) d24_14 rfl rfl ?_
  refine W.castY (pc := 15) d24_15 (w123 hw) (Hp.ins mp2) ?_
  refine W.astoreN (pc := 18) (ls' := #[rv p1, rv p2, rv p2]) d24_18 rfl rfl ?_
  refine W.gets (pc := 19) d24_19 (w23 hw) Via.refl hs.1 ?_
  refine W.ifN (pc := 22) d24_22 (n_eq (by have := hs.2.1; have := q0; omega)) ?_
  refine W.aloadN (pc := 25) d24_25 rfl rfl ?_
  refine W.getf (pc := 26) d24_26 (w35 hw) Via.refl mp1 m1 ?_
  refine W.aloadN (pc := 29) d24_29 rfl rfl ?_
  refine W.getf (pc := 30) d24_30 (w35 hw) Via.refl mp2 m1 ?_
  refine W.icmpN (pc := 33) d24_33 (n_ne (by decide)) ?_
  refine W.aloadN (pc := 36) d24_36 rfl rfl ?_
  refine W.getf (pc := 37) d24_37 (w37 hw) Via.refl mp1 m0 ?_
  refine W.aloadN (pc := 40) d24_40 rfl rfl ?_
  refine W.getf (pc := 41) d24_41 (w37 hw) Via.refl mp2 m0 ?_
  refine W.callS (pc := 44) (as := [(vr p3), (vr p4)]) 0 [] d24_44 (w124 hw) (w125 hw) (w84 hw) (w126 hw) (c65_equals hw hs (hx1 := hx1) (hx2 := hx2) (mp1 := mp3) (mp2 := mp4)) (by decide) pd__B_B_Z rfl rfl rfl rfl (by decide) (fun v D' h => ?_)
  rcases h with ⟨h1, rfl, rfl⟩ | ⟨h2, rfl, rfl⟩
  ·
   have ih1 := t_eq h1
   show W _ _ _ _ _ _ _ _ _ _ _ _ 47 _ [(vi 1)]
   refine W.ifN (pc := 47) d24_47 (n_eq (by decide)) ?_
   refine W.iconst (pc := 50) (1) d24_50 (by decide) ?_
   refine W.goto (pc := 51) 55 d24_51 (by decide) ?_
   exact W.ireturn (pc := 55) d24_55 rfl (Or.inr (Or.inl rfl)) (nw_bool (by decide)) (by decide) (Or.inl ⟨h1, rfl, rfl⟩)
  ·
   have ih2 := f_eq h2
   show W _ _ _ _ _ _ _ _ _ _ _ _ 47 _ [(vi 0)]
   refine W.ifY (pc := 47) 54 d24_47 (y_eq (by decide)) (by decide) ?_
   refine W.iconst (pc := 54) (0) d24_54 (by decide) ?_
   exact W.ireturn (pc := 55) d24_55 rfl (Or.inr (Or.inl rfl)) (nw_bool (by decide)) (by decide) (Or.inr ⟨h2, rfl, rfl⟩)
theorem d23_46 : decode prog_8_method_6_code 46 = .ok (.ifCond .eq 7, 3) := by decide +kernel
theorem d23_49 : decode prog_8_method_6_code 49 = .ok (.iconst 1, 1) := by decide +kernel
theorem d23_50 : decode prog_8_method_6_code 50 = .ok (.goto 4, 3) := by decide +kernel
theorem d23_54 : decode prog_8_method_6_code 54 = .ok (.ireturn, 1) := by decide +kernel
theorem d23_53 : decode prog_8_method_6_code 53 = .ok (.iconst 0, 1) := by decide +kernel
theorem c61_equals {Z a0} (hw : HW a0 Z) (hs : SF Z) {p1 p2 p3 p4 p5 p6 p7 p8 p9 p10 : Addr} {x1 : Int32} (hx1 : (45 ≤ x1.toInt ∧ x1.toInt ≤ 46) ∨ (48 ≤ x1.toInt ∧ x1.toInt ≤ 57) ∨ (65 ≤ x1.toInt ∧ x1.toInt ≤ 90) ∨ x1.toInt = 95 ∨ (97 ≤ x1.toInt ∧ x1.toInt ≤ 122)) {x2 : Int32} (hx2 : (45 ≤ x2.toInt ∧ x2.toInt ≤ 46) ∨ (48 ≤ x2.toInt ∧ x2.toInt ≤ 58) ∨ (65 ≤ x2.toInt ∧ x2.toInt ≤ 90) ∨ x2.toInt = 95 ∨ (97 ≤ x2.toInt ∧ x2.toInt ≤ 122)) {x3 : Int32} (hx3 : (45 ≤ x3.toInt ∧ x3.toInt ≤ 46) ∨ (48 ≤ x3.toInt ∧ x3.toInt ≤ 57) ∨ (65 ≤ x3.toInt ∧ x3.toInt ≤ 90) ∨ x3.toInt = 95 ∨ (97 ≤ x3.toInt ∧ x3.toInt ≤ 122)) {x4 : Int32} (hx4 : (45 ≤ x4.toInt ∧ x4.toInt ≤ 46) ∨ (48 ≤ x4.toInt ∧ x4.toInt ≤ 58) ∨ (65 ≤ x4.toInt ∧ x4.toInt ≤ 90) ∨ x4.toInt = 95 ∨ (97 ≤ x4.toInt ∧ x4.toInt ≤ 122)) {w_p2 : Bool} {w_p1 : Bool} {w_p3 : Bool} {w_p5 : Bool} {w_p7 : Bool} {ad_p7 : String} {w_p9 : Bool} {ad_p9 : String} {w_p4 : Bool} {w_p6 : Bool} {w_p8 : Bool} {ad_p8 : String} {w_p10 : Bool} {ad_p10 : String} (ne_p1_p2 : p1 ≠ p2) (ne_p3_p5 : p3 ≠ p5) (ne_p4_p6 : p4 ≠ p6) {F : List Ent} (mp2 : (p2, w_p2, oJobKey (vr p5) (vr p6)) ∈ F) (mp1 : (p1, w_p1, oJobKey (vr p3) (vr p4)) ∈ F) (mp3 : (p3, w_p3, oString (vr p7) (vi 0)) ∈ F) (mp5 : (p5, w_p5, oString (vr p9) (vi 0)) ∈ F) (mp7 : (p7, w_p7, ar ad_p7 .byte [(vi x1)]) ∈ F) (mp9 : (p9, w_p9, ar ad_p9 .byte [(vi x3)]) ∈ F) (mp4 : (p4, w_p4, oString (vr p8) (vi 0)) ∈ F) (mp6 : (p6, w_p6, oString (vr p10) (vi 0)) ∈ F) (mp8 : (p8, w_p8, ar ad_p8 .byte [(vi x2)]) ∈ F) (mp10 : (p10, w_p10, ar ad_p10 .byte [(vi x4)]) ∈ F) : Con Z EL (⟨"com/example/cunctator/cunctator/JobKey", "equals", "(Ljava/lang/Object;)Z"⟩ : MethodName) prog_8_method_6_code 3 (Option.some Jvm.ClassFile.FieldType.boolean) (rmm 2 0 0 28) [(vr p1), (vr p2)] (F) (fun v D' => (Cd .eq x1 x3 ∧ Cd .eq x2 x4 ∧ v = some (vi 1) ∧ F = D') ∨ (Cd .eq x1 x3 ∧ ¬ Cd .eq x2 x4 ∧ v = some (vi 0) ∧ F = D') ∨ (¬ Cd .eq x1 x3 ∧ v = some (vi 0) ∧ F = D')) := by
  refine Con.of (ls := #[rv p1, rv p2, uu]) (by decide +kernel) rfl ?_
  show W Z EL _ "com/example/cunctator/cunctator/JobKey" "equals" _ _ _ _ _ _ _ _ _ _
  refine W.aloadN (pc := 0) d23_0 rfl rfl ?_
  refine W.aloadN (pc := 1) d23_1 rfl rfl ?_
  refine W.acmpY (pc := 2) 7 d23_2 rfl rfl (show Ca .ne _ _ from (fun z => ne_p1_p2 (by injection z))) (by decide) ?_
  refine W.aloadN (pc := 7) d23_7 rfl rfl ?_
  refine W.instY (pc := 8) d23_8 (w116 hw) (Hp.ins mp2) ?_
  refine W.ifY (pc := 11) 16 d23_11 (y_ne (by decide)) (by decide) ?_
  refine W.aloadN (pc := 16) d23_16 rfl rfl ?_
  refine W.castY (pc := 17) d23_17 (w116 hw) (Hp.ins mp2) ?_
  refine W.astoreN (pc := 20) (ls' := #[rv p1, rv p2, rv p2]) d23_20 rfl rfl ?_
  refine W.aloadN (pc := 21) d23_21 rfl rfl ?_
  refine W.getf (pc := 22) d23_22 (w99 hw) Via.refl mp1 m0 ?_
  refine W.aloadN (pc := 25) d23_25 rfl rfl ?_
  refine W.getf (pc := 26) d23_26 (w99 hw) Via.refl mp2 m0 ?_
  refine W.callV (pc := 29) (as := [(vr p5)]) 0 [] d23_29 (w118 hw) (w119 hw) (w121 hw) (w121 hw) (w120 hw) (w11 hw) (w122 hw) (Hp.exa mp3) (c62_equals hw hs (hx1 := hx1) (hx2 := hx3) (mp2 := mp5) (mp1 := mp3) (mp3 := mp7) (mp4 := mp9) (ne_p1_p2 := ne_p3_p5)) (by decide) pd_Ljava_lang_Object__Z rfl rfl rfl rfl (by decide) (fun v D' h => ?_)
  rcases h with ⟨h1, rfl, rfl⟩ | ⟨h2, rfl, rfl⟩
  ·
   have ih1 := t_eq h1
   show W _ _ _ _ _ _ _ _ _ _ _ _ 32 _ [(vi 1)]
   refine W.ifN (pc := 32) d23_32 (n_eq (by decide)) ?_
   refine W.aloadN (pc := 35) d23_35 rfl rfl ?_
   refine W.getf (pc := 36) d23_36 (w106 hw) Via.refl mp1 m1 ?_
   refine W.aloadN (pc := 39) d23_39 rfl rfl ?_
   refine W.getf (pc := 40) d23_40 (w106 hw) Via.refl mp2 m1 ?_
   refine W.callV (pc := 43) (as := [(vr p6)]) 0 [] d23_43 (w118 hw) (w119 hw) (w121 hw) (w121 hw) (w120 hw) (w11 hw) (w122 hw) (Hp.exa mp4) (c64_equals hw hs (hx1 := hx2) (hx2 := hx4) (mp2 := mp6) (mp1 := mp4) (mp3 := mp8) (mp4 := mp10) (ne_p1_p2 := ne_p4_p6)) (by decide) pd_Ljava_lang_Object__Z rfl rfl rfl rfl (by decide) (fun v D' h => ?_)
   rcases h with ⟨h3, rfl, rfl⟩ | ⟨h4, rfl, rfl⟩
   ·
    have ih3 := t_eq h3
    show W _ _ _ _ _ _ _ _ _ _ _ _ 46 _ [(vi 1)]
    refine W.ifN (pc := 46) d23_46 (n_eq (by decide)) ?_
    refine W.iconst (pc := 49) (1) d23_49 (by decide) ?_
    refine W.goto (pc := 50) 54 d23_50 (by decide) ?_
    exact W.ireturn (pc := 54) d23_54 rfl (Or.inr (Or.inl rfl)) (nw_bool (by decide)) (by decide) (Or.inl ⟨h1, h3, rfl, rfl⟩)
   ·
    have ih4 := f_eq h4
    show W _ _ _ _ _ _ _ _ _ _ _ _ 46 _ [(vi 0)]
    refine W.ifY (pc := 46) 53 d23_46 (y_eq (by decide)) (by decide) ?_
    refine W.iconst (pc := 53) (0) d23_53 (by decide) ?_
    exact W.ireturn (pc := 54) d23_54 rfl (Or.inr (Or.inl rfl)) (nw_bool (by decide)) (by decide) (Or.inr (Or.inl ⟨h1, h4, rfl, rfl⟩))
  ·
   have ih2 := f_eq h2
   show W _ _ _ _ _ _ _ _ _ _ _ _ 32 _ [(vi 0)]
   refine W.ifY (pc := 32) 53 d23_32 (y_eq (by decide)) (by decide) ?_
   refine W.iconst (pc := 53) (0) d23_53 (by decide) ?_
   exact W.ireturn (pc := 54) d23_54 rfl (Or.inr (Or.inl rfl)) (nw_bool (by decide)) (by decide) (Or.inr (Or.inr ⟨h2, rfl, rfl⟩))
theorem w111 {Z a0} (hw : HW a0 Z) : ((Jvm.Cond.methodLink "com/example/cunctator/cunctator/JobKeyEqualsPinLaw" (29 : Nat) ({ cls := "com/example/cunctator/cunctator/JobKey", name := "equals", desc := "(Ljava/lang/Object;)Z" } : Jvm.MethodName)) : Jvm.Cond).before a0 Z = true := hw _ (List.mem_of_getElem? (i := 111) rfl)
theorem w112 {Z a0} (hw : HW a0 Z) : ((Jvm.Cond.declares ({ cls := "com/example/cunctator/cunctator/JobKey", name := "equals", desc := "(Ljava/lang/Object;)Z" } : Jvm.MethodName)) : Jvm.Cond).before a0 Z = true := hw _ (List.mem_of_getElem? (i := 112) rfl)
theorem w114 {Z a0} (hw : HW a0 Z) : ((Jvm.Cond.selects "com/example/cunctator/cunctator/JobKey" ({ cls := "com/example/cunctator/cunctator/JobKey", name := "equals", desc := "(Ljava/lang/Object;)Z" } : Jvm.MethodName) ({ cls := "com/example/cunctator/cunctator/JobKey", name := "equals", desc := "(Ljava/lang/Object;)Z" } : Jvm.MethodName)) : Jvm.Cond).before a0 Z = true := hw _ (List.mem_of_getElem? (i := 114) rfl)
theorem w113 {Z a0} (hw : HW a0 Z) : ((Jvm.Cond.instanceMethod ({ cls := "com/example/cunctator/cunctator/JobKey", name := "equals", desc := "(Ljava/lang/Object;)Z" } : Jvm.MethodName)) : Jvm.Cond).before a0 Z = true := hw _ (List.mem_of_getElem? (i := 113) rfl)
theorem w115 {Z a0} (hw : HW a0 Z) : ((Jvm.Cond.code ({ cls := "com/example/cunctator/cunctator/JobKey", name := "equals", desc := "(Ljava/lang/Object;)Z" } : Jvm.MethodName) prog_8_method_6_code (3 : Nat) (Option.some Jvm.ClassFile.FieldType.boolean)) : Jvm.Cond).before a0 Z = true := hw _ (List.mem_of_getElem? (i := 115) rfl)
theorem aushr_2 (x : Int32) : (XT.ushr x (2 : Int32)).toInt = (x.toInt % 4294967296) / 4 := a_ushr x 2 2 4 (by decide) (by decide) (by decide)
theorem q3 : (3 : Int32).toInt = 3 := by decide
theorem am_3 (x : Int32) : (x &&& (3 : Int32)).toInt = x.toInt % 4 := a_and x 3 2 4 (by decide) (by decide) (by decide)
theorem d23_5 : decode prog_8_method_6_code 5 = .ok (.iconst 1, 1) := by decide +kernel
theorem d23_6 : decode prog_8_method_6_code 6 = .ok (.ireturn, 1) := by decide +kernel
theorem c66_equals {Z a0} (hw : HW a0 Z) (hs : SF Z) {p1 : Addr} {F : List Ent} : Con Z EL (⟨"com/example/cunctator/cunctator/JobKey", "equals", "(Ljava/lang/Object;)Z"⟩ : MethodName) prog_8_method_6_code 3 (Option.some Jvm.ClassFile.FieldType.boolean) (rmm 0 0 0 0) [(vr p1), (vr p1)] (F) (fun v D' => (v = some (vi 1) ∧ F = D')) := by
  refine Con.of (ls := #[rv p1, rv p1, uu]) (by decide +kernel) rfl ?_
  show W Z EL _ "com/example/cunctator/cunctator/JobKey" "equals" _ _ _ _ _ _ _ _ _ _
  refine W.aloadN (pc := 0) d23_0 rfl rfl ?_
  refine W.aloadN (pc := 1) d23_1 rfl rfl ?_
  refine W.acmpN (pc := 2) d23_2 rfl rfl (fun z => z rfl) ?_
  refine W.iconst (pc := 5) (1) d23_5 (by decide) ?_
  exact W.ireturn (pc := 6) d23_6 rfl (Or.inr (Or.inl rfl)) (nw_bool (by decide)) (by decide) ⟨rfl, rfl⟩
theorem w127 {Z a0} (hw : HW a0 Z) : ((Jvm.Cond.superclass "java/lang/String" "java/lang/Object") : Jvm.Cond).before a0 Z = true := hw _ (List.mem_of_getElem? (i := 127) rfl)
theorem w128 {Z a0} (hw : HW a0 Z) : ((Jvm.Cond.noSuperclass "java/lang/Object") : Jvm.Cond).before a0 Z = true := hw _ (List.mem_of_getElem? (i := 128) rfl)
theorem d23_14 : decode prog_8_method_6_code 14 = .ok (.iconst 0, 1) := by decide +kernel
theorem d23_15 : decode prog_8_method_6_code 15 = .ok (.ireturn, 1) := by decide +kernel
theorem c67_equals {Z a0} (hw : HW a0 Z) (hs : SF Z) {p1 p2 p5 : Addr} {w_p2 : Bool} (ne_p1_p2 : p1 ≠ p2) {F : List Ent} (mp2 : (p2, w_p2, oString (vr p5) (vi 0)) ∈ F) : Con Z EL (⟨"com/example/cunctator/cunctator/JobKey", "equals", "(Ljava/lang/Object;)Z"⟩ : MethodName) prog_8_method_6_code 3 (Option.some Jvm.ClassFile.FieldType.boolean) (rmm 0 0 0 0) [(vr p1), (vr p2)] (F) (fun v D' => (v = some (vi 0) ∧ F = D')) := by
  refine Con.of (ls := #[rv p1, rv p2, uu]) (by decide +kernel) rfl ?_
  show W Z EL _ "com/example/cunctator/cunctator/JobKey" "equals" _ _ _ _ _ _ _ _ _ _
  refine W.aloadN (pc := 0) d23_0 rfl rfl ?_
  refine W.aloadN (pc := 1) d23_1 rfl rfl ?_
  refine W.acmpY (pc := 2) 7 d23_2 rfl rfl (show Ca .ne _ _ from (fun z => ne_p1_p2 (by injection z))) (by decide) ?_
  refine W.aloadN (pc := 7) d23_7 rfl rfl ?_
  refine W.instNo (pc := 8) d23_8 (w116 hw) (Hp.exa mp2) (nsNo (w127 hw) (w128 hw) (w40 hw) (by decide) (by decide)) ?_
  refine W.ifN (pc := 11) d23_11 (n_ne (by decide)) ?_
  refine W.iconst (pc := 14) (0) d23_14 (by decide) ?_
  exact W.ireturn (pc := 15) d23_15 rfl (Or.inr (Or.inl rfl)) (nw_bool (by decide)) (by decide) ⟨rfl, rfl⟩
theorem c68_equals {Z a0} (hw : HW a0 Z) (hs : SF Z) {p1 : Addr} {F : List Ent} : Con Z EL (⟨"com/example/cunctator/cunctator/JobKey", "equals", "(Ljava/lang/Object;)Z"⟩ : MethodName) prog_8_method_6_code 3 (Option.some Jvm.ClassFile.FieldType.boolean) (rmm 0 0 0 0) [(vr p1), .null] (F) (fun v D' => (v = some (vi 0) ∧ F = D')) := by
  refine Con.of (ls := #[rv p1, .val .null, uu]) (by decide +kernel) rfl ?_
  show W Z EL _ "com/example/cunctator/cunctator/JobKey" "equals" _ _ _ _ _ _ _ _ _ _
  refine W.aloadN (pc := 0) d23_0 rfl rfl ?_
  refine W.aloadN (pc := 1) d23_1 rfl rfl ?_
  refine W.acmpY (pc := 2) 7 d23_2 rfl rfl (show Ca .ne _ _ from (by intro z; cases z)) (by decide) ?_
  refine W.aloadN (pc := 7) d23_7 rfl rfl ?_
  refine W.instNull (pc := 8) d23_8 ?_
  refine W.ifN (pc := 11) d23_11 (n_ne (by decide)) ?_
  refine W.iconst (pc := 14) (0) d23_14 (by decide) ?_
  exact W.ireturn (pc := 15) d23_15 rfl (Or.inr (Or.inl rfl)) (nw_bool (by decide)) (by decide) ⟨rfl, rfl⟩
theorem c72_isEmpty {Z a0} (hw : HW a0 Z) (hs : SF Z) {p1 p2 : Addr} {x1 : Int32} (hx1 : (45 ≤ x1.toInt ∧ x1.toInt ≤ 46) ∨ (48 ≤ x1.toInt ∧ x1.toInt ≤ 58) ∨ (65 ≤ x1.toInt ∧ x1.toInt ≤ 90) ∨ x1.toInt = 95 ∨ (97 ≤ x1.toInt ∧ x1.toInt ≤ 122)) {x2 : Int32} (hx2 : (45 ≤ x2.toInt ∧ x2.toInt ≤ 46) ∨ (48 ≤ x2.toInt ∧ x2.toInt ≤ 58) ∨ (65 ≤ x2.toInt ∧ x2.toInt ≤ 90) ∨ x2.toInt = 95 ∨ (97 ≤ x2.toInt ∧ x2.toInt ≤ 122)) {w_p1 : Bool} {w_p2 : Bool} {ad_p2 : String} {F : List Ent} (mp1 : (p1, w_p1, oString (vr p2) (vi 0)) ∈ F) (mp2 : (p2, w_p2, ar ad_p2 .byte [(vi x1), (vi x2)]) ∈ F) : Con Z EL (⟨"java/lang/String", "isEmpty", "()Z"⟩ : MethodName) jdk_42_method_55_code 1 (Option.some Jvm.ClassFile.FieldType.boolean) (rmm 0 0 0 0) [(vr p1)] (F) (fun v D' => (v = some (vi 0) ∧ F = D')) := by
  refine Con.of (ls := #[rv p1]) (by decide +kernel) rfl ?_
  show W Z EL _ "java/lang/String" "isEmpty" _ _ _ _ _ _ _ _ _ _
  refine W.aloadN (pc := 0) d12_0 rfl rfl ?_
  refine W.getf (pc := 1) d12_1 (w37 hw) Via.refl mp1 m0 ?_
  refine W.alen (pc := 4) (2) d12_4 mp2 rfl ?_
  refine W.ifY (pc := 5) 12 d12_5 (y_ne (by decide)) (by decide) ?_
  refine W.iconst (pc := 12) (0) d12_12 (by decide) ?_
  exact W.ireturn (pc := 13) d12_13 rfl (Or.inr (Or.inl rfl)) (nw_bool (by decide)) (by decide) ⟨rfl, rfl⟩
theorem c73_length {Z a0} (hw : HW a0 Z) (hs : SF Z) {p1 p2 : Addr} {x1 : Int32} (hx1 : (45 ≤ x1.toInt ∧ x1.toInt ≤ 46) ∨ (48 ≤ x1.toInt ∧ x1.toInt ≤ 58) ∨ (65 ≤ x1.toInt ∧ x1.toInt ≤ 90) ∨ x1.toInt = 95 ∨ (97 ≤ x1.toInt ∧ x1.toInt ≤ 122)) {x2 : Int32} (hx2 : (45 ≤ x2.toInt ∧ x2.toInt ≤ 46) ∨ (48 ≤ x2.toInt ∧ x2.toInt ≤ 58) ∨ (65 ≤ x2.toInt ∧ x2.toInt ≤ 90) ∨ x2.toInt = 95 ∨ (97 ≤ x2.toInt ∧ x2.toInt ≤ 122)) {w_p1 : Bool} {w_p2 : Bool} {ad_p2 : String} {F : List Ent} (mp1 : (p1, w_p1, oString (vr p2) (vi 0)) ∈ F) (mp2 : (p2, w_p2, ar ad_p2 .byte [(vi x1), (vi x2)]) ∈ F) : Con Z EL (⟨"java/lang/String", "length", "()I"⟩ : MethodName) jdk_42_method_54_code 1 (Option.some Jvm.ClassFile.FieldType.int) (rmm 1 0 0 13) [(vr p1)] (F) (fun v D' => (v = some (vi 2) ∧ F = D')) := by
  refine Con.of (ls := #[rv p1]) (by decide +kernel) rfl ?_
  show W Z EL _ "java/lang/String" "length" _ _ _ _ _ _ _ _ _ _
  refine W.aloadN (pc := 0) d13_0 rfl rfl ?_
  refine W.getf (pc := 1) d13_1 (w37 hw) Via.refl mp1 m0 ?_
  refine W.alen (pc := 4) (2) d13_4 mp2 rfl ?_
  refine W.aloadN (pc := 5) d13_5 rfl rfl ?_
  refine W.callV (pc := 6) (as := []) 1 [(vi 2)] d13_6 (w67 hw) (w68 hw) (w70 hw) (w70 hw) (w69 hw) (w11 hw) (w71 hw) (Hp.exa mp1) (c30_coder hw hs (mp1 := mp1)) (by decide) pd__B rfl rfl rfl rfl (by decide) (fun v D' h => ?_)
  obtain ⟨rfl, rfl⟩ := h
  show W _ _ _ _ _ _ _ _ _ _ _ _ 9 _ [(vi 0), (vi 2)]
  refine W.ishrK (pc := 9) (2 : Int32) d13_9 (by decide) ?_
  exact W.ireturn (pc := 10) d13_10 rfl (Or.inl rfl) rfl (by decide) ⟨rfl, rfl⟩
theorem c77_checkIndex {Z a0} (hw : HW a0 Z) (hs : SF Z) {F : List Ent} : Con Z EL (⟨"jdk/internal/util/Preconditions", "checkIndex", "(IILjava/util/function/BiFunction;)I"⟩ : MethodName) jdk_41_method_11_code 3 (Option.some Jvm.ClassFile.FieldType.int) (rmm 0 0 0 0) [(vi 0), (vi 2), (sfv Z)] (F) (fun v D' => (v = some (vi 0) ∧ F = D')) := by
  refine Con.of (ls := #[iv 0, iv 2, .val (sfv Z)]) (by decide +kernel) (hent_of (ld1 rfl (ld1 rfl (ld1 (XT.cat1 hs.2.2.1) ld0))) rfl) ?_
  show W Z EL _ "jdk/internal/util/Preconditions" "checkIndex" _ _ _ _ _ _ _ _ _ _
  refine W.iloadN (pc := 0) d19_0 rfl ?_
  refine W.ifN (pc := 1) d19_1 (n_lt (by decide)) ?_
  refine W.iloadN (pc := 4) d19_4 rfl ?_
  refine W.iloadN (pc := 5) d19_5 rfl ?_
  refine W.icmpY (pc := 6) 16 d19_6 (y_lt (by decide)) (by decide) ?_
  refine W.iloadN (pc := 16) d19_16 rfl ?_
  exact W.ireturn (pc := 17) d19_17 rfl (Or.inl rfl) rfl (by decide) ⟨rfl, rfl⟩
theorem c76_checkIndex {Z a0} (hw : HW a0 Z) (hs : SF Z) {F : List Ent} : Con Z EL (⟨"java/lang/String", "checkIndex", "(II)V"⟩ : MethodName) jdk_42_method_155_code 2 (Option.none : Option Jvm.ClassFile.FieldType) (rmm 1 0 0 14) [(vi 0), (vi 2)] (F) (fun v D' => (v = none ∧ F = D')) := by
  refine Con.of (ls := #[iv 0, iv 2]) (by decide +kernel) rfl ?_
  show W Z EL _ "java/lang/String" "checkIndex" _ _ _ _ _ _ _ _ _ _
  refine W.iloadN (pc := 0) d18_0 rfl ?_
  refine W.iloadN (pc := 1) d18_1 rfl ?_
  refine W.gets (pc := 2) d18_2 (w89 hw) Via.refl hs.2.2.2.1 ?_
  refine W.callS (pc := 5) (as := [(vi 0), (vi 2), (sfv Z)]) 0 [] d18_5 (w91 hw) (w92 hw) (w90 hw) (w93 hw) (c77_checkIndex hw hs) (by decide) pd_IILjava_util_function_BiFunction__I rfl rfl rfl rfl (by decide) (fun v D' h => ?_)
  obtain ⟨rfl, rfl⟩ := h
  show W _ _ _ _ _ _ _ _ _ _ _ _ 8 _ [(vi 0)]
  refine W.popv (pc := 8) d18_8 rfl ?_
  exact W.return_ (pc := 9) d18_9 rfl (by decide) ⟨rfl, rfl⟩
theorem c75_charAt {Z a0} (hw : HW a0 Z) (hs : SF Z) {p1 : Addr} {x1 : Int32} (hx1 : (45 ≤ x1.toInt ∧ x1.toInt ≤ 46) ∨ (48 ≤ x1.toInt ∧ x1.toInt ≤ 58) ∨ (65 ≤ x1.toInt ∧ x1.toInt ≤ 90) ∨ x1.toInt = 95 ∨ (97 ≤ x1.toInt ∧ x1.toInt ≤ 122)) {x2 : Int32} (hx2 : (45 ≤ x2.toInt ∧ x2.toInt ≤ 46) ∨ (48 ≤ x2.toInt ∧ x2.toInt ≤ 58) ∨ (65 ≤ x2.toInt ∧ x2.toInt ≤ 90) ∨ x2.toInt = 95 ∨ (97 ≤ x2.toInt ∧ x2.toInt ≤ 122)) {w_p1 : Bool} {ad_p1 : String} {F : List Ent} (mp1 : (p1, w_p1, ar ad_p1 .byte [(vi x1), (vi x2)]) ∈ F) : Con Z EL (⟨"java/lang/StringLatin1", "charAt", "([BI)C"⟩ : MethodName) jdk_43_method_2_code 2 (Option.some Jvm.ClassFile.FieldType.char) (rmm 2 0 0 27) [(vr p1), (vi 0)] (F) (fun v D' => (v = some (vi x1) ∧ F = D')) := by
  refine Con.of (ls := #[rv p1, iv 0]) (by decide +kernel) rfl ?_
  show W Z EL _ "java/lang/StringLatin1" "charAt" _ _ _ _ _ _ _ _ _ _
  refine W.iloadN (pc := 0) d17_0 rfl ?_
  refine W.aloadN (pc := 1) d17_1 rfl rfl ?_
  refine W.alen (pc := 2) (2) d17_2 mp1 rfl ?_
  refine W.callS (pc := 3) (as := [(vi 0), (vi 2)]) 0 [] d17_3 (w86 hw) (w87 hw) (w11 hw) (w88 hw) (c76_checkIndex hw hs) (by decide) pd_II_V rfl rfl rfl rfl (by decide) (fun v D' h => ?_)
  obtain ⟨rfl, rfl⟩ := h
  show W _ _ _ _ _ _ _ _ _ _ _ _ 6 _ []
  refine W.aloadN (pc := 6) d17_6 rfl rfl ?_
  refine W.iloadN (pc := 7) d17_7 rfl ?_
  refine W.baload (pc := 8) 0 d17_8 mp1 ix0 rfl ?_
  refine W.sipush (pc := 9) (255) d17_9 (by decide) ?_
  refine W.iandK (pc := 12) x1 d17_12 (z_and 8 256 (by decide) (by decide) (by decide) (by omega)) ?_
  refine W.i2cK (pc := 13) x1 d17_13 (z_i2c (by omega)) ?_
  exact W.ireturn (pc := 14) d17_14 rfl (Or.inr (Or.inr (Or.inr (Or.inl rfl)))) (nw_char (by omega)) (by decide) ⟨rfl, rfl⟩
theorem c74_charAt {Z a0} (hw : HW a0 Z) (hs : SF Z) {p1 p2 : Addr} {x1 : Int32} (hx1 : (45 ≤ x1.toInt ∧ x1.toInt ≤ 46) ∨ (48 ≤ x1.toInt ∧ x1.toInt ≤ 58) ∨ (65 ≤ x1.toInt ∧ x1.toInt ≤ 90) ∨ x1.toInt = 95 ∨ (97 ≤ x1.toInt ∧ x1.toInt ≤ 122)) {x2 : Int32} (hx2 : (45 ≤ x2.toInt ∧ x2.toInt ≤ 46) ∨ (48 ≤ x2.toInt ∧ x2.toInt ≤ 58) ∨ (65 ≤ x2.toInt ∧ x2.toInt ≤ 90) ∨ x2.toInt = 95 ∨ (97 ≤ x2.toInt ∧ x2.toInt ≤ 122)) {w_p1 : Bool} {w_p2 : Bool} {ad_p2 : String} {F : List Ent} (mp1 : (p1, w_p1, oString (vr p2) (vi 0)) ∈ F) (mp2 : (p2, w_p2, ar ad_p2 .byte [(vi x1), (vi x2)]) ∈ F) : Con Z EL (⟨"java/lang/String", "charAt", "(I)C"⟩ : MethodName) jdk_42_method_56_code 2 (Option.some Jvm.ClassFile.FieldType.char) (rmm 3 0 0 40) [(vr p1), (vi 0)] (F) (fun v D' => (v = some (vi x1) ∧ F = D')) := by
  refine Con.of (ls := #[rv p1, iv 0]) (by decide +kernel) rfl ?_
  show W Z EL _ "java/lang/String" "charAt" _ _ _ _ _ _ _ _ _ _
  refine W.aloadN (pc := 0) d15_0 rfl rfl ?_
  refine W.callV (pc := 1) (as := []) 0 [] d15_1 (w77 hw) (w78 hw) (w80 hw) (w80 hw) (w79 hw) (w11 hw) (w81 hw) (Hp.exa mp1) (c32_isLatin1 hw hs (mp1 := mp1)) (by decide) pd__Z rfl rfl rfl rfl (by decide) (fun v D' h => ?_)
  obtain ⟨rfl, rfl⟩ := h
  show W _ _ _ _ _ _ _ _ _ _ _ _ 4 _ [(vi 1)]
  refine W.ifN (pc := 4) d15_4 (n_eq (by decide)) ?_
  refine W.aloadN (pc := 7) d15_7 rfl rfl ?_
  refine W.getf (pc := 8) d15_8 (w37 hw) Via.refl mp1 m0 ?_
  refine W.iloadN (pc := 11) d15_11 rfl ?_
  refine W.callS (pc := 12) (as := [(vr p2), (vi 0)]) 0 [] d15_12 (w82 hw) (w83 hw) (w84 hw) (w85 hw) (c75_charAt hw hs (hx1 := hx1) (hx2 := hx2) (mp1 := mp2)) (by decide) pd__BI_C rfl rfl rfl rfl (by decide) (fun v D' h => ?_)
  obtain ⟨rfl, rfl⟩ := h
  show W _ _ _ _ _ _ _ _ _ _ _ _ 15 _ [(vi x1)]
  exact W.ireturn (pc := 15) d15_15 rfl (Or.inr (Or.inr (Or.inr (Or.inl rfl)))) (nw_char (by omega)) (by decide) ⟨rfl, rfl⟩
theorem c81_checkIndex {Z a0} (hw : HW a0 Z) (hs : SF Z) {F : List Ent} : Con Z EL (⟨"jdk/internal/util/Preconditions", "checkIndex", "(IILjava/util/function/BiFunction;)I"⟩ : MethodName) jdk_41_method_11_code 3 (Option.some Jvm.ClassFile.FieldType.int) (rmm 0 0 0 0) [(vi 1), (vi 2), (sfv Z)] (F) (fun v D' => (v = some (vi 1) ∧ F = D')) := by
  refine Con.of (ls := #[iv 1, iv 2, .val (sfv Z)]) (by decide +kernel) (hent_of (ld1 rfl (ld1 rfl (ld1 (XT.cat1 hs.2.2.1) ld0))) rfl) ?_
  show W Z EL _ "jdk/internal/util/Preconditions" "checkIndex" _ _ _ _ _ _ _ _ _ _
  refine W.iloadN (pc := 0) d19_0 rfl ?_
  refine W.ifN (pc := 1) d19_1 (n_lt (by decide)) ?_
  refine W.iloadN (pc := 4) d19_4 rfl ?_
  refine W.iloadN (pc := 5) d19_5 rfl ?_
  refine W.icmpY (pc := 6) 16 d19_6 (y_lt (by decide)) (by decide) ?_
  refine W.iloadN (pc := 16) d19_16 rfl ?_
  exact W.ireturn (pc := 17) d19_17 rfl (Or.inl rfl) rfl (by decide) ⟨rfl, rfl⟩
theorem c80_checkIndex {Z a0} (hw : HW a0 Z) (hs : SF Z) {F : List Ent} : Con Z EL (⟨"java/lang/String", "checkIndex", "(II)V"⟩ : MethodName) jdk_42_method_155_code 2 (Option.none : Option Jvm.ClassFile.FieldType) (rmm 1 0 0 14) [(vi 1), (vi 2)] (F) (fun v D' => (v = none ∧ F = D')) := by
  refine Con.of (ls := #[iv 1, iv 2]) (by decide +kernel) rfl ?_
  show W Z EL _ "java/lang/String" "checkIndex" _ _ _ _ _ _ _ _ _ _
  refine W.iloadN (pc := 0) d18_0 rfl ?_
  refine W.iloadN (pc := 1) d18_1 rfl ?_
  refine W.gets (pc := 2) d18_2 (w89 hw) Via.refl hs.2.2.2.1 ?_
  refine W.callS (pc := 5) (as := [(vi 1), (vi 2), (sfv Z)]) 0 [] d18_5 (w91 hw) (w92 hw) (w90 hw) (w93 hw) (c81_checkIndex hw hs) (by decide) pd_IILjava_util_function_BiFunction__I rfl rfl rfl rfl (by decide) (fun v D' h => ?_)
  obtain ⟨rfl, rfl⟩ := h
  show W _ _ _ _ _ _ _ _ _ _ _ _ 8 _ [(vi 1)]
  refine W.popv (pc := 8) d18_8 rfl ?_
  exact W.return_ (pc := 9) d18_9 rfl (by decide) ⟨rfl, rfl⟩
theorem c79_charAt {Z a0} (hw : HW a0 Z) (hs : SF Z) {p1 : Addr} {x1 : Int32} (hx1 : (45 ≤ x1.toInt ∧ x1.toInt ≤ 46) ∨ (48 ≤ x1.toInt ∧ x1.toInt ≤ 58) ∨ (65 ≤ x1.toInt ∧ x1.toInt ≤ 90) ∨ x1.toInt = 95 ∨ (97 ≤ x1.toInt ∧ x1.toInt ≤ 122)) {x2 : Int32} (hx2 : (45 ≤ x2.toInt ∧ x2.toInt ≤ 46) ∨ (48 ≤ x2.toInt ∧ x2.toInt ≤ 58) ∨ (65 ≤ x2.toInt ∧ x2.toInt ≤ 90) ∨ x2.toInt = 95 ∨ (97 ≤ x2.toInt ∧ x2.toInt ≤ 122)) {w_p1 : Bool} {ad_p1 : String} {F : List Ent} (mp1 : (p1, w_p1, ar ad_p1 .byte [(vi x1), (vi x2)]) ∈ F) : Con Z EL (⟨"java/lang/StringLatin1", "charAt", "([BI)C"⟩ : MethodName) jdk_43_method_2_code 2 (Option.some Jvm.ClassFile.FieldType.char) (rmm 2 0 0 27) [(vr p1), (vi 1)] (F) (fun v D' => (v = some (vi x2) ∧ F = D')) := by
  refine Con.of (ls := #[rv p1, iv 1]) (by decide +kernel) rfl ?_
  show W Z EL _ "java/lang/StringLatin1" "charAt" _ _ _ _ _ _ _ _ _ _
  refine W.iloadN (pc := 0) d17_0 rfl ?_
  refine W.aloadN (pc := 1) d17_1 rfl rfl ?_
  refine W.alen (pc := 2) (2) d17_2 mp1 rfl ?_
  refine W.callS (pc := 3) (as := [(vi 1), (vi 2)]) 0 [] d17_3 (w86 hw) (w87 hw) (w11 hw) (w88 hw) (c80_checkIndex hw hs) (by decide) pd_II_V rfl rfl rfl rfl (by decide) (fun v D' h => ?_)
  obtain ⟨rfl, rfl⟩ := h
  show W _ _ _ _ _ _ _ _ _ _ _ _ 6 _ []
  refine W.aloadN (pc := 6) d17_6 rfl rfl ?_
  refine W.iloadN (pc := 7) d17_7 rfl ?_
  refine W.baload (pc := 8) 1 d17_8 mp1 ix1 rfl ?_
  refine W.sipush (pc := 9) (255) d17_9 (by decide) ?_
  refine W.iandK (pc := 12) x2 d17_12 (z_and 8 256 (by decide) (by decide) (by decide) (by omega)) ?_
  refine W.i2cK (pc := 13) x2 d17_13 (z_i2c (by omega)) ?_
  exact W.ireturn (pc := 14) d17_14 rfl (Or.inr (Or.inr (Or.inr (Or.inl rfl)))) (nw_char (by omega)) (by decide) ⟨rfl, rfl⟩
theorem c78_charAt {Z a0} (hw : HW a0 Z) (hs : SF Z) {p1 p2 : Addr} {x1 : Int32} (hx1 : (45 ≤ x1.toInt ∧ x1.toInt ≤ 46) ∨ (48 ≤ x1.toInt ∧ x1.toInt ≤ 58) ∨ (65 ≤ x1.toInt ∧ x1.toInt ≤ 90) ∨ x1.toInt = 95 ∨ (97 ≤ x1.toInt ∧ x1.toInt ≤ 122)) {x2 : Int32} (hx2 : (45 ≤ x2.toInt ∧ x2.toInt ≤ 46) ∨ (48 ≤ x2.toInt ∧ x2.toInt ≤ 58) ∨ (65 ≤ x2.toInt ∧ x2.toInt ≤ 90) ∨ x2.toInt = 95 ∨ (97 ≤ x2.toInt ∧ x2.toInt ≤ 122)) {w_p1 : Bool} {w_p2 : Bool} {ad_p2 : String} {F : List Ent} (mp1 : (p1, w_p1, oString (vr p2) (vi 0)) ∈ F) (mp2 : (p2, w_p2, ar ad_p2 .byte [(vi x1), (vi x2)]) ∈ F) : Con Z EL (⟨"java/lang/String", "charAt", "(I)C"⟩ : MethodName) jdk_42_method_56_code 2 (Option.some Jvm.ClassFile.FieldType.char) (rmm 3 0 0 40) [(vr p1), (vi 1)] (F) (fun v D' => (v = some (vi x2) ∧ F = D')) := by
  refine Con.of (ls := #[rv p1, iv 1]) (by decide +kernel) rfl ?_
  show W Z EL _ "java/lang/String" "charAt" _ _ _ _ _ _ _ _ _ _
  refine W.aloadN (pc := 0) d15_0 rfl rfl ?_
  refine W.callV (pc := 1) (as := []) 0 [] d15_1 (w77 hw) (w78 hw) (w80 hw) (w80 hw) (w79 hw) (w11 hw) (w81 hw) (Hp.exa mp1) (c32_isLatin1 hw hs (mp1 := mp1)) (by decide) pd__Z rfl rfl rfl rfl (by decide) (fun v D' h => ?_)
  obtain ⟨rfl, rfl⟩ := h
  show W _ _ _ _ _ _ _ _ _ _ _ _ 4 _ [(vi 1)]
  refine W.ifN (pc := 4) d15_4 (n_eq (by decide)) ?_
  refine W.aloadN (pc := 7) d15_7 rfl rfl ?_
  refine W.getf (pc := 8) d15_8 (w37 hw) Via.refl mp1 m0 ?_
  refine W.iloadN (pc := 11) d15_11 rfl ?_
  refine W.callS (pc := 12) (as := [(vr p2), (vi 1)]) 0 [] d15_12 (w82 hw) (w83 hw) (w84 hw) (w85 hw) (c79_charAt hw hs (hx1 := hx1) (hx2 := hx2) (mp1 := mp2)) (by decide) pd__BI_C rfl rfl rfl rfl (by decide) (fun v D' h => ?_)
  obtain ⟨rfl, rfl⟩ := h
  show W _ _ _ _ _ _ _ _ _ _ _ _ 15 _ [(vi x2)]
  exact W.ireturn (pc := 15) d15_15 rfl (Or.inr (Or.inr (Or.inr (Or.inl rfl)))) (nw_char (by omega)) (by decide) ⟨rfl, rfl⟩
theorem c71_check {Z a0} (hw : HW a0 Z) (hs : SF Z) {p1 p2 : Addr} {x1 : Int32} (hx1 : (45 ≤ x1.toInt ∧ x1.toInt ≤ 46) ∨ (48 ≤ x1.toInt ∧ x1.toInt ≤ 58) ∨ (65 ≤ x1.toInt ∧ x1.toInt ≤ 90) ∨ x1.toInt = 95 ∨ (97 ≤ x1.toInt ∧ x1.toInt ≤ 122)) {x2 : Int32} (hx2 : (45 ≤ x2.toInt ∧ x2.toInt ≤ 46) ∨ (48 ≤ x2.toInt ∧ x2.toInt ≤ 58) ∨ (65 ≤ x2.toInt ∧ x2.toInt ≤ 90) ∨ x2.toInt = 95 ∨ (97 ≤ x2.toInt ∧ x2.toInt ≤ 122)) {w_p1 : Bool} {w_p2 : Bool} {ad_p2 : String} {w_og4Z : Bool} {w_og5Z : Bool} {w_og6Z : Bool} {ad_og6Z : String} {F : List Ent} (mp1 : (p1, w_p1, oString (vr p2) (vi 0)) ∈ F) (mp2 : (p2, w_p2, ar ad_p2 .byte [(vi x1), (vi x2)]) ∈ F) (mog4Z : ((og4 Z), w_og4Z, oJobKey_NameRule (vi 128) (vr (og5 Z))) ∈ F) (mog5Z : ((og5 Z), w_og5Z, oString (vr (og6 Z)) (vi 0)) ∈ F) (mog6Z : ((og6 Z), w_og6Z, ar ad_og6Z .byte [(vi 46), (vi 95), (vi 58), (vi 45)]) ∈ F) : Con Z EL (⟨"com/example/cunctator/cunctator/JobKey$NameRule", "check", "(Ljava/lang/String;)Ljava/lang/String;"⟩ : MethodName) prog_9_method_2_code 4 (Option.some (Jvm.ClassFile.FieldType.object "java/lang/String")) (rmm 4 0 0 59) [(vr (og4 Z)), (vr p1)] (F) (fun v D' => (v = some (vr p1) ∧ F = D')) := by
  refine Con.of (ls := #[rv (og4 Z), rv p1, uu, uu]) (by decide +kernel) rfl ?_
  show W Z EL _ "com/example/cunctator/cunctator/JobKey$NameRule" "check" _ _ _ _ _ _ _ _ _ _
  refine W.aloadN (pc := 0) d11_0 rfl rfl ?_
  refine W.ifnonnullY (pc := 1) 11 d11_1 (by decide) ?_
  refine W.aloadN (pc := 11) d11_11 rfl rfl ?_
  refine W.callV (pc := 12) (as := []) 0 [] d11_12 (w57 hw) (w58 hw) (w60 hw) (w60 hw) (w59 hw) (w11 hw) (w61 hw) (Hp.exa mp1) (c72_isEmpty hw hs (hx1 := hx1) (hx2 := hx2) (mp1 := mp1) (mp2 := mp2)) (by decide) pd__Z rfl rfl rfl rfl (by decide) (fun v D' h => ?_)
  obtain ⟨rfl, rfl⟩ := h
  show W _ _ _ _ _ _ _ _ _ _ _ _ 15 _ [(vi 0)]
  refine W.ifY (pc := 15) 25 d11_15 (y_eq (by decide)) (by decide) ?_
  refine W.iconst (pc := 25) (0) d11_25 (by decide) ?_
  refine W.istoreN (pc := 26) (ls' := #[rv (og4 Z), rv p1, iv 0, uu]) d11_26 rfl ?_
  refine W.iloadN (pc := 27) d11_27 rfl ?_
  refine W.aloadN (pc := 28) d11_28 rfl rfl ?_
  refine W.callV (pc := 29) (as := []) 1 [(vi 0)] d11_29 (w62 hw) (w63 hw) (w65 hw) (w65 hw) (w64 hw) (w11 hw) (w66 hw) (Hp.exa mp1) (c73_length hw hs (hx1 := hx1) (hx2 := hx2) (mp1 := mp1) (mp2 := mp2)) (by decide) pd__I rfl rfl rfl rfl (by decide) (fun v D' h => ?_)
  obtain ⟨rfl, rfl⟩ := h
  show W _ _ _ _ _ _ _ _ _ _ _ _ 32 _ [(vi 2), (vi 0)]
  refine W.icmpN (pc := 32) d11_32 (n_ge (by decide)) ?_
  have K2 : W Z EL (rmm 4 0 0 59) "com/example/cunctator/cunctator/JobKey$NameRule" "check" prog_9_method_2_code 4 (Option.some (Jvm.ClassFile.FieldType.object "java/lang/String")) (fun v D' => (v = some (vr p1) ∧ F = D')) (F) 0 0 84 #[rv (og4 Z), rv p1, iv 0, iv x1] [] := by
   refine W.iincK (pc := 84) (ls' := #[rv (og4 Z), rv p1, iv 1, iv x1]) (1) (1 : Int32) d11_84 (by decide) rfl (by decide) rfl ?_
   refine W.goto (pc := 87) 27 d11_87 (by decide) ?_
   refine W.iloadN (pc := 27) d11_27 rfl ?_
   refine W.aloadN (pc := 28) d11_28 rfl rfl ?_
   refine W.callV (pc := 29) (as := []) 1 [(vi 1)] d11_29 (w62 hw) (w63 hw) (w65 hw) (w65 hw) (w64 hw) (w11 hw) (w66 hw) (Hp.exa mp1) (c73_length hw hs (hx1 := hx1) (hx2 := hx2) (mp1 := mp1) (mp2 := mp2)) (by decide) pd__I rfl rfl rfl rfl (by decide) (fun v D' h => ?_)
   obtain ⟨rfl, rfl⟩ := h
   show W _ _ _ _ _ _ _ _ _ _ _ _ 32 _ [(vi 2), (vi 1)]
   refine W.icmpN (pc := 32) d11_32 (n_ge (by decide)) ?_
   refine W.aloadN (pc := 35) d11_35 rfl rfl ?_
   refine W.iloadN (pc := 36) d11_36 rfl ?_
   refine W.callV (pc := 37) (as := [(vi 1)]) 0 [] d11_37 (w72 hw) (w73 hw) (w75 hw) (w75 hw) (w74 hw) (w11 hw) (w76 hw) (Hp.exa mp1) (c78_charAt hw hs (hx1 := hx1) (hx2 := hx2) (mp1 := mp1) (mp2 := mp2)) (by decide) pd_I_C rfl rfl rfl rfl (by decide) (fun v D' h => ?_)
   obtain ⟨rfl, rfl⟩ := h
   show W _ _ _ _ _ _ _ _ _ _ _ _ 40 _ [(vi x2)]
   refine W.istoreN (pc := 40) (ls' := #[rv (og4 Z), rv p1, iv 1, iv x2]) d11_40 rfl ?_
   refine W.iloadN (pc := 41) d11_41 rfl ?_
   refine W.callSN (pc := 42) (as := [(vi x2)]) 0 [] d11_42 (w94 hw) (w95 hw) (w41 hw) (w96 hw) (c51_isAsciiLetterOrDigit hw hs (hx1 := hx2)) (by decide) pd_C_Z rfl rfl rfl rfl (by decide) (fun v D' h => ?_)
   rcases h with ⟨h1, h2, rfl, rfl⟩ | ⟨h3, h4, h5, rfl, rfl⟩ | ⟨h6, h7, h8, rfl, rfl⟩ | ⟨h9, h10, rfl, rfl⟩ | ⟨h11, h12, h13, rfl, rfl⟩ | ⟨h14, h15, h16, rfl, rfl⟩
   ·
    have ih1 := t_lt h1
    have ih2 := t_lt h2
    show W _ _ _ _ _ _ _ _ _ _ _ _ 45 _ [(vi 0)]
    refine W.ifN (pc := 45) d11_45 (n_ne (by decide)) ?_
    refine W.aloadN (pc := 48) d11_48 rfl rfl ?_
    refine W.getf (pc := 49) d11_49 (w129 hw) Via.refl mog4Z m1 ?_
    refine W.iloadN (pc := 52) d11_52 rfl ?_
    refine W.callV (pc := 53) (as := [(vi x2)]) 0 [] d11_53 (w131 hw) (w132 hw) (w134 hw) (w134 hw) (w133 hw) (w11 hw) (w135 hw) (Hp.exa mog5Z) (c52_indexOf hw hs (hx1 := hx2) (mog5Z := mog5Z) (mog6Z := mog6Z)) (by decide) pd_I_I rfl rfl rfl rfl (by decide) (fun v D' h => ?_)
    rcases h with ⟨h17, h18, h19, h20, rfl, rfl⟩ | ⟨h21, h22, h23, h24, rfl, rfl⟩ | ⟨h25, h26, h27, rfl, rfl⟩ | ⟨h28, h29, rfl, rfl⟩ | ⟨h30, rfl, rfl⟩
    ·
     have ih17 := t_ne h17
     have ih18 := t_ne h18
     have ih19 := t_ne h19
     exact absurd h20 (n_ne (by have := q45; have := q65; have := q48; have := q46; have := q95; have := q58; omega))
    ·
     have ih21 := t_ne h21
     have ih22 := t_ne h22
     have ih23 := t_ne h23
     have ih24 := f_ne h24
     show W _ _ _ _ _ _ _ _ _ _ _ _ 56 _ [(vi 3)]
     refine W.ifY (pc := 56) 84 d11_56 (y_ge (by decide)) (by decide) ?_
     refine W.iincK (pc := 84) (ls' := #[rv (og4 Z), rv p1, iv 2, iv x2]) (1) (2 : Int32) d11_84 (by decide) rfl (by decide) rfl ?_
     refine W.goto (pc := 87) 27 d11_87 (by decide) ?_
     refine W.iloadN (pc := 27) d11_27 rfl ?_
     refine W.aloadN (pc := 28) d11_28 rfl rfl ?_
     refine W.callV (pc := 29) (as := []) 1 [(vi 2)] d11_29 (w62 hw) (w63 hw) (w65 hw) (w65 hw) (w64 hw) (w11 hw) (w66 hw) (Hp.exa mp1) (c73_length hw hs (hx1 := hx1) (hx2 := hx2) (mp1 := mp1) (mp2 := mp2)) (by decide) pd__I rfl rfl rfl rfl (by decide) (fun v D' h => ?_)
     obtain ⟨rfl, rfl⟩ := h
     show W _ _ _ _ _ _ _ _ _ _ _ _ 32 _ [(vi 2), (vi 2)]
     refine W.icmpY (pc := 32) 90 d11_32 (y_ge (by decide)) (by decide) ?_
     refine W.aloadN (pc := 90) d11_90 rfl rfl ?_
     refine W.callV (pc := 91) (as := []) 0 [] d11_91 (w62 hw) (w63 hw) (w65 hw) (w65 hw) (w64 hw) (w11 hw) (w66 hw) (Hp.exa mp1) (c73_length hw hs (hx1 := hx1) (hx2 := hx2) (mp1 := mp1) (mp2 := mp2)) (by decide) pd__I rfl rfl rfl rfl (by decide) (fun v D' h => ?_)
     obtain ⟨rfl, rfl⟩ := h
     show W _ _ _ _ _ _ _ _ _ _ _ _ 94 _ [(vi 2)]
     refine W.aloadN (pc := 94) d11_94 rfl rfl ?_
     refine W.getf (pc := 95) d11_95 (w97 hw) Via.refl mog4Z m0 ?_
     refine W.icmpY (pc := 98) 115 d11_98 (y_le (by decide)) (by decide) ?_
     refine W.aloadN (pc := 115) d11_115 rfl rfl ?_
     exact W.areturn (pc := 116) d11_116 rfl rfl rfl (by decide) ⟨rfl, rfl⟩
    ·
     have ih25 := t_ne h25
     have ih26 := t_ne h26
     exact absurd h27 (Classical.not_not.mpr (y_ne (by have := q58; have := q65; have := q48; have := q46; have := q95; omega)))
    ·
     have ih28 := t_ne h28
     exact absurd h29 (Classical.not_not.mpr (y_ne (by have := q95; have := q65; have := q48; have := q46; omega)))
    ·
     have ih30 := f_ne h30
     show W _ _ _ _ _ _ _ _ _ _ _ _ 56 _ [(vi 0)]
     refine W.ifY (pc := 56) 84 d11_56 (y_ge (by decide)) (by decide) ?_
     refine W.iincK (pc := 84) (ls' := #[rv (og4 Z), rv p1, iv 2, iv x2]) (1) (2 : Int32) d11_84 (by decide) rfl (by decide) rfl ?_
     refine W.goto (pc := 87) 27 d11_87 (by decide) ?_
     refine W.iloadN (pc := 27) d11_27 rfl ?_
     refine W.aloadN (pc := 28) d11_28 rfl rfl ?_
     refine W.callV (pc := 29) (as := []) 1 [(vi 2)] d11_29 (w62 hw) (w63 hw) (w65 hw) (w65 hw) (w64 hw) (w11 hw) (w66 hw) (Hp.exa mp1) (c73_length hw hs (hx1 := hx1) (hx2 := hx2) (mp1 := mp1) (mp2 := mp2)) (by decide) pd__I rfl rfl rfl rfl (by decide) (fun v D' h => ?_)
     obtain ⟨rfl, rfl⟩ := h
     show W _ _ _ _ _ _ _ _ _ _ _ _ 32 _ [(vi 2), (vi 2)]
     refine W.icmpY (pc := 32) 90 d11_32 (y_ge (by decide)) (by decide) ?_
     refine W.aloadN (pc := 90) d11_90 rfl rfl ?_
     refine W.callV (pc := 91) (as := []) 0 [] d11_91 (w62 hw) (w63 hw) (w65 hw) (w65 hw) (w64 hw) (w11 hw) (w66 hw) (Hp.exa mp1) (c73_length hw hs (hx1 := hx1) (hx2 := hx2) (mp1 := mp1) (mp2 := mp2)) (by decide) pd__I rfl rfl rfl rfl (by decide) (fun v D' h => ?_)
     obtain ⟨rfl, rfl⟩ := h
     show W _ _ _ _ _ _ _ _ _ _ _ _ 94 _ [(vi 2)]
     refine W.aloadN (pc := 94) d11_94 rfl rfl ?_
     refine W.getf (pc := 95) d11_95 (w97 hw) Via.refl mog4Z m0 ?_
     refine W.icmpY (pc := 98) 115 d11_98 (y_le (by decide)) (by decide) ?_
     refine W.aloadN (pc := 115) d11_115 rfl rfl ?_
     exact W.areturn (pc := 116) d11_116 rfl rfl rfl (by decide) ⟨rfl, rfl⟩
   ·
    have ih3 := t_lt h3
    have ih4 := f_lt h4
    have ih5 := t_gt h5
    show W _ _ _ _ _ _ _ _ _ _ _ _ 45 _ [(vi 0)]
    refine W.ifN (pc := 45) d11_45 (n_ne (by decide)) ?_
    refine W.aloadN (pc := 48) d11_48 rfl rfl ?_
    refine W.getf (pc := 49) d11_49 (w129 hw) Via.refl mog4Z m1 ?_
    refine W.iloadN (pc := 52) d11_52 rfl ?_
    refine W.callV (pc := 53) (as := [(vi x2)]) 0 [] d11_53 (w131 hw) (w132 hw) (w134 hw) (w134 hw) (w133 hw) (w11 hw) (w135 hw) (Hp.exa mog5Z) (c52_indexOf hw hs (hx1 := hx2) (mog5Z := mog5Z) (mog6Z := mog6Z)) (by decide) pd_I_I rfl rfl rfl rfl (by decide) (fun v D' h => ?_)
    rcases h with ⟨h31, h32, h33, h34, rfl, rfl⟩ | ⟨h35, h36, h37, h38, rfl, rfl⟩ | ⟨h39, h40, h41, rfl, rfl⟩ | ⟨h42, h43, rfl, rfl⟩ | ⟨h44, rfl, rfl⟩
    ·
     have ih31 := t_ne h31
     have ih32 := t_ne h32
     exact absurd h33 (n_ne (by have := q58; have := q65; have := q48; have := q57; have := q46; have := q95; omega))
    ·
     have ih35 := t_ne h35
     have ih36 := t_ne h36
     exact absurd h37 (n_ne (by have := q58; have := q65; have := q48; have := q57; have := q46; have := q95; omega))
    ·
     have ih39 := t_ne h39
     have ih40 := t_ne h40
     have ih41 := f_ne h41
     show W _ _ _ _ _ _ _ _ _ _ _ _ 56 _ [(vi 2)]
     refine W.ifY (pc := 56) 84 d11_56 (y_ge (by decide)) (by decide) ?_
     refine W.iincK (pc := 84) (ls' := #[rv (og4 Z), rv p1, iv 2, iv x2]) (1) (2 : Int32) d11_84 (by decide) rfl (by decide) rfl ?_
     refine W.goto (pc := 87) 27 d11_87 (by decide) ?_
     refine W.iloadN (pc := 27) d11_27 rfl ?_
     refine W.aloadN (pc := 28) d11_28 rfl rfl ?_
     refine W.callV (pc := 29) (as := []) 1 [(vi 2)] d11_29 (w62 hw) (w63 hw) (w65 hw) (w65 hw) (w64 hw) (w11 hw) (w66 hw) (Hp.exa mp1) (c73_length hw hs (hx1 := hx1) (hx2 := hx2) (mp1 := mp1) (mp2 := mp2)) (by decide) pd__I rfl rfl rfl rfl (by decide) (fun v D' h => ?_)
     obtain ⟨rfl, rfl⟩ := h
     show W _ _ _ _ _ _ _ _ _ _ _ _ 32 _ [(vi 2), (vi 2)]
     refine W.icmpY (pc := 32) 90 d11_32 (y_ge (by decide)) (by decide) ?_
     refine W.aloadN (pc := 90) d11_90 rfl rfl ?_
     refine W.callV (pc := 91) (as := []) 0 [] d11_91 (w62 hw) (w63 hw) (w65 hw) (w65 hw) (w64 hw) (w11 hw) (w66 hw) (Hp.exa mp1) (c73_length hw hs (hx1 := hx1) (hx2 := hx2) (mp1 := mp1) (mp2 := mp2)) (by decide) pd__I rfl rfl rfl rfl (by decide) (fun v D' h => ?_)
     obtain ⟨rfl, rfl⟩ := h
     show W _ _ _ _ _ _ _ _ _ _ _ _ 94 _ [(vi 2)]
     refine W.aloadN (pc := 94) d11_94 rfl rfl ?_
     refine W.getf (pc := 95) d11_95 (w97 hw) Via.refl mog4Z m0 ?_
     refine W.icmpY (pc := 98) 115 d11_98 (y_le (by decide)) (by decide) ?_
     refine W.aloadN (pc := 115) d11_115 rfl rfl ?_
     exact W.areturn (pc := 116) d11_116 rfl rfl rfl (by decide) ⟨rfl, rfl⟩
    ·
     have ih42 := t_ne h42
     exact absurd h43 (Classical.not_not.mpr (y_ne (by have := q95; have := q65; have := q48; have := q57; have := q46; omega)))
    ·
     exact absurd h44 (Classical.not_not.mpr (y_ne (by have := q46; have := q65; have := q48; have := q57; omega)))
   ·
    have ih6 := t_lt h6
    have ih7 := f_lt h7
    have ih8 := f_gt h8
    show W _ _ _ _ _ _ _ _ _ _ _ _ 45 _ [(vi 1)]
    refine W.ifY (pc := 45) 84 d11_45 (y_ne (by decide)) (by decide) ?_
    refine W.iincK (pc := 84) (ls' := #[rv (og4 Z), rv p1, iv 2, iv x2]) (1) (2 : Int32) d11_84 (by decide) rfl (by decide) rfl ?_
    refine W.goto (pc := 87) 27 d11_87 (by decide) ?_
    refine W.iloadN (pc := 27) d11_27 rfl ?_
    refine W.aloadN (pc := 28) d11_28 rfl rfl ?_
    refine W.callV (pc := 29) (as := []) 1 [(vi 2)] d11_29 (w62 hw) (w63 hw) (w65 hw) (w65 hw) (w64 hw) (w11 hw) (w66 hw) (Hp.exa mp1) (c73_length hw hs (hx1 := hx1) (hx2 := hx2) (mp1 := mp1) (mp2 := mp2)) (by decide) pd__I rfl rfl rfl rfl (by decide) (fun v D' h => ?_)
    obtain ⟨rfl, rfl⟩ := h
    show W _ _ _ _ _ _ _ _ _ _ _ _ 32 _ [(vi 2), (vi 2)]
    refine W.icmpY (pc := 32) 90 d11_32 (y_ge (by decide)) (by decide) ?_
    refine W.aloadN (pc := 90) d11_90 rfl rfl ?_
    refine W.callV (pc := 91) (as := []) 0 [] d11_91 (w62 hw) (w63 hw) (w65 hw) (w65 hw) (w64 hw) (w11 hw) (w66 hw) (Hp.exa mp1) (c73_length hw hs (hx1 := hx1) (hx2 := hx2) (mp1 := mp1) (mp2 := mp2)) (by decide) pd__I rfl rfl rfl rfl (by decide) (fun v D' h => ?_)
    obtain ⟨rfl, rfl⟩ := h
    show W _ _ _ _ _ _ _ _ _ _ _ _ 94 _ [(vi 2)]
    refine W.aloadN (pc := 94) d11_94 rfl rfl ?_
    refine W.getf (pc := 95) d11_95 (w97 hw) Via.refl mog4Z m0 ?_
    refine W.icmpY (pc := 98) 115 d11_98 (y_le (by decide)) (by decide) ?_
    refine W.aloadN (pc := 115) d11_115 rfl rfl ?_
    exact W.areturn (pc := 116) d11_116 rfl rfl rfl (by decide) ⟨rfl, rfl⟩
   ·
    have ih9 := f_lt h9
    have ih10 := t_le h10
    show W _ _ _ _ _ _ _ _ _ _ _ _ 45 _ [(vi 1)]
    refine W.ifY (pc := 45) 84 d11_45 (y_ne (by decide)) (by decide) ?_
    refine W.iincK (pc := 84) (ls' := #[rv (og4 Z), rv p1, iv 2, iv x2]) (1) (2 : Int32) d11_84 (by decide) rfl (by decide) rfl ?_
    refine W.goto (pc := 87) 27 d11_87 (by decide) ?_
    refine W.iloadN (pc := 27) d11_27 rfl ?_
    refine W.aloadN (pc := 28) d11_28 rfl rfl ?_
    refine W.callV (pc := 29) (as := []) 1 [(vi 2)] d11_29 (w62 hw) (w63 hw) (w65 hw) (w65 hw) (w64 hw) (w11 hw) (w66 hw) (Hp.exa mp1) (c73_length hw hs (hx1 := hx1) (hx2 := hx2) (mp1 := mp1) (mp2 := mp2)) (by decide) pd__I rfl rfl rfl rfl (by decide) (fun v D' h => ?_)
    obtain ⟨rfl, rfl⟩ := h
    show W _ _ _ _ _ _ _ _ _ _ _ _ 32 _ [(vi 2), (vi 2)]
    refine W.icmpY (pc := 32) 90 d11_32 (y_ge (by decide)) (by decide) ?_
    refine W.aloadN (pc := 90) d11_90 rfl rfl ?_
    refine W.callV (pc := 91) (as := []) 0 [] d11_91 (w62 hw) (w63 hw) (w65 hw) (w65 hw) (w64 hw) (w11 hw) (w66 hw) (Hp.exa mp1) (c73_length hw hs (hx1 := hx1) (hx2 := hx2) (mp1 := mp1) (mp2 := mp2)) (by decide) pd__I rfl rfl rfl rfl (by decide) (fun v D' h => ?_)
    obtain ⟨rfl, rfl⟩ := h
    show W _ _ _ _ _ _ _ _ _ _ _ _ 94 _ [(vi 2)]
    refine W.aloadN (pc := 94) d11_94 rfl rfl ?_
    refine W.getf (pc := 95) d11_95 (w97 hw) Via.refl mog4Z m0 ?_
    refine W.icmpY (pc := 98) 115 d11_98 (y_le (by decide)) (by decide) ?_
    refine W.aloadN (pc := 115) d11_115 rfl rfl ?_
    exact W.areturn (pc := 116) d11_116 rfl rfl rfl (by decide) ⟨rfl, rfl⟩
   ·
    have ih11 := f_lt h11
    have ih12 := f_le h12
    have ih13 := t_lt h13
    show W _ _ _ _ _ _ _ _ _ _ _ _ 45 _ [(vi 0)]
    refine W.ifN (pc := 45) d11_45 (n_ne (by decide)) ?_
    refine W.aloadN (pc := 48) d11_48 rfl rfl ?_
    refine W.getf (pc := 49) d11_49 (w129 hw) Via.refl mog4Z m1 ?_
    refine W.iloadN (pc := 52) d11_52 rfl ?_
    refine W.callV (pc := 53) (as := [(vi x2)]) 0 [] d11_53 (w131 hw) (w132 hw) (w134 hw) (w134 hw) (w133 hw) (w11 hw) (w135 hw) (Hp.exa mog5Z) (c52_indexOf hw hs (hx1 := hx2) (mog5Z := mog5Z) (mog6Z := mog6Z)) (by decide) pd_I_I rfl rfl rfl rfl (by decide) (fun v D' h => ?_)
    rcases h with ⟨h45, h46, h47, h48, rfl, rfl⟩ | ⟨h49, h50, h51, h52, rfl, rfl⟩ | ⟨h53, h54, h55, rfl, rfl⟩ | ⟨h56, h57, rfl, rfl⟩ | ⟨h58, rfl, rfl⟩
    ·
     have ih45 := t_ne h45
     exact absurd h46 (n_ne (by have := q95; have := q65; have := q90; have := q97; have := q46; omega))
    ·
     have ih49 := t_ne h49
     exact absurd h50 (n_ne (by have := q95; have := q65; have := q90; have := q97; have := q46; omega))
    ·
     have ih53 := t_ne h53
     exact absurd h54 (n_ne (by have := q95; have := q65; have := q90; have := q97; have := q46; omega))
    ·
     have ih56 := t_ne h56
     have ih57 := f_ne h57
     show W _ _ _ _ _ _ _ _ _ _ _ _ 56 _ [(vi 1)]
     refine W.ifY (pc := 56) 84 d11_56 (y_ge (by decide)) (by decide) ?_
     refine W.iincK (pc := 84) (ls' := #[rv (og4 Z), rv p1, iv 2, iv x2]) (1) (2 : Int32) d11_84 (by decide) rfl (by decide) rfl ?_
     refine W.goto (pc := 87) 27 d11_87 (by decide) ?_
     refine W.iloadN (pc := 27) d11_27 rfl ?_
     refine W.aloadN (pc := 28) d11_28 rfl rfl ?_
     refine W.callV (pc := 29) (as := []) 1 [(vi 2)] d11_29 (w62 hw) (w63 hw) (w65 hw) (w65 hw) (w64 hw) (w11 hw) (w66 hw) (Hp.exa mp1) (c73_length hw hs (hx1 := hx1) (hx2 := hx2) (mp1 := mp1) (mp2 := mp2)) (by decide) pd__I rfl rfl rfl rfl (by decide) (fun v D' h => ?_)
     obtain ⟨rfl, rfl⟩ := h
     show W _ _ _ _ _ _ _ _ _ _ _ _ 32 _ [(vi 2), (vi 2)]
     refine W.icmpY (pc := 32) 90 d11_32 (y_ge (by decide)) (by decide) ?_
     refine W.aloadN (pc := 90) d11_90 rfl rfl ?_
     refine W.callV (pc := 91) (as := []) 0 [] d11_91 (w62 hw) (w63 hw) (w65 hw) (w65 hw) (w64 hw) (w11 hw) (w66 hw) (Hp.exa mp1) (c73_length hw hs (hx1 := hx1) (hx2 := hx2) (mp1 := mp1) (mp2 := mp2)) (by decide) pd__I rfl rfl rfl rfl (by decide) (fun v D' h => ?_)
     obtain ⟨rfl, rfl⟩ := h
     show W _ _ _ _ _ _ _ _ _ _ _ _ 94 _ [(vi 2)]
     refine W.aloadN (pc := 94) d11_94 rfl rfl ?_
     refine W.getf (pc := 95) d11_95 (w97 hw) Via.refl mog4Z m0 ?_
     refine W.icmpY (pc := 98) 115 d11_98 (y_le (by decide)) (by decide) ?_
     refine W.aloadN (pc := 115) d11_115 rfl rfl ?_
     exact W.areturn (pc := 116) d11_116 rfl rfl rfl (by decide) ⟨rfl, rfl⟩
    ·
     exact absurd h58 (Classical.not_not.mpr (y_ne (by have := q46; have := q65; have := q90; have := q97; omega)))
   ·
    have ih14 := f_lt h14
    have ih15 := f_le h15
    have ih16 := f_lt h16
    show W _ _ _ _ _ _ _ _ _ _ _ _ 45 _ [(vi 1)]
    refine W.ifY (pc := 45) 84 d11_45 (y_ne (by decide)) (by decide) ?_
    refine W.iincK (pc := 84) (ls' := #[rv (og4 Z), rv p1, iv 2, iv x2]) (1) (2 : Int32) d11_84 (by decide) rfl (by decide) rfl ?_
    refine W.goto (pc := 87) 27 d11_87 (by decide) ?_
    refine W.iloadN (pc := 27) d11_27 rfl ?_
    refine W.aloadN (pc := 28) d11_28 rfl rfl ?_
    refine W.callV (pc := 29) (as := []) 1 [(vi 2)] d11_29 (w62 hw) (w63 hw) (w65 hw) (w65 hw) (w64 hw) (w11 hw) (w66 hw) (Hp.exa mp1) (c73_length hw hs (hx1 := hx1) (hx2 := hx2) (mp1 := mp1) (mp2 := mp2)) (by decide) pd__I rfl rfl rfl rfl (by decide) (fun v D' h => ?_)
    obtain ⟨rfl, rfl⟩ := h
    show W _ _ _ _ _ _ _ _ _ _ _ _ 32 _ [(vi 2), (vi 2)]
    refine W.icmpY (pc := 32) 90 d11_32 (y_ge (by decide)) (by decide) ?_
    refine W.aloadN (pc := 90) d11_90 rfl rfl ?_
    refine W.callV (pc := 91) (as := []) 0 [] d11_91 (w62 hw) (w63 hw) (w65 hw) (w65 hw) (w64 hw) (w11 hw) (w66 hw) (Hp.exa mp1) (c73_length hw hs (hx1 := hx1) (hx2 := hx2) (mp1 := mp1) (mp2 := mp2)) (by decide) pd__I rfl rfl rfl rfl (by decide) (fun v D' h => ?_)
    obtain ⟨rfl, rfl⟩ := h
    show W _ _ _ _ _ _ _ _ _ _ _ _ 94 _ [(vi 2)]
    refine W.aloadN (pc := 94) d11_94 rfl rfl ?_
    refine W.getf (pc := 95) d11_95 (w97 hw) Via.refl mog4Z m0 ?_
    refine W.icmpY (pc := 98) 115 d11_98 (y_le (by decide)) (by decide) ?_
    refine W.aloadN (pc := 115) d11_115 rfl rfl ?_
    exact W.areturn (pc := 116) d11_116 rfl rfl rfl (by decide) ⟨rfl, rfl⟩
  refine W.aloadN (pc := 35) d11_35 rfl rfl ?_
  refine W.iloadN (pc := 36) d11_36 rfl ?_
  refine W.callV (pc := 37) (as := [(vi 0)]) 0 [] d11_37 (w72 hw) (w73 hw) (w75 hw) (w75 hw) (w74 hw) (w11 hw) (w76 hw) (Hp.exa mp1) (c74_charAt hw hs (hx1 := hx1) (hx2 := hx2) (mp1 := mp1) (mp2 := mp2)) (by decide) pd_I_C rfl rfl rfl rfl (by decide) (fun v D' h => ?_)
  obtain ⟨rfl, rfl⟩ := h
  show W _ _ _ _ _ _ _ _ _ _ _ _ 40 _ [(vi x1)]
  refine W.istoreN (pc := 40) (ls' := #[rv (og4 Z), rv p1, iv 0, iv x1]) d11_40 rfl ?_
  refine W.iloadN (pc := 41) d11_41 rfl ?_
  refine W.callSN (pc := 42) (as := [(vi x1)]) 0 [] d11_42 (w94 hw) (w95 hw) (w41 hw) (w96 hw) (c51_isAsciiLetterOrDigit hw hs (hx1 := hx1)) (by decide) pd_C_Z rfl rfl rfl rfl (by decide) (fun v D' h => ?_)
  rcases h with ⟨h59, h60, rfl, rfl⟩ | ⟨h61, h62, h63, rfl, rfl⟩ | ⟨h64, h65, h66, rfl, rfl⟩ | ⟨h67, h68, rfl, rfl⟩ | ⟨h69, h70, h71, rfl, rfl⟩ | ⟨h72, h73, h74, rfl, rfl⟩
  ·
   have ih59 := t_lt h59
   have ih60 := t_lt h60
   show W _ _ _ _ _ _ _ _ _ _ _ _ 45 _ [(vi 0)]
   refine W.ifN (pc := 45) d11_45 (n_ne (by decide)) ?_
   refine W.aloadN (pc := 48) d11_48 rfl rfl ?_
   refine W.getf (pc := 49) d11_49 (w129 hw) Via.refl mog4Z m1 ?_
   refine W.iloadN (pc := 52) d11_52 rfl ?_
   refine W.callV (pc := 53) (as := [(vi x1)]) 0 [] d11_53 (w131 hw) (w132 hw) (w134 hw) (w134 hw) (w133 hw) (w11 hw) (w135 hw) (Hp.exa mog5Z) (c52_indexOf hw hs (hx1 := hx1) (mog5Z := mog5Z) (mog6Z := mog6Z)) (by decide) pd_I_I rfl rfl rfl rfl (by decide) (fun v D' h => ?_)
   rcases h with ⟨h75, h76, h77, h78, rfl, rfl⟩ | ⟨h79, h80, h81, h82, rfl, rfl⟩ | ⟨h83, h84, h85, rfl, rfl⟩ | ⟨h86, h87, rfl, rfl⟩ | ⟨h88, rfl, rfl⟩
   ·
    have ih75 := t_ne h75
    have ih76 := t_ne h76
    have ih77 := t_ne h77
    exact absurd h78 (n_ne (by have := q45; have := q65; have := q48; have := q46; have := q95; have := q58; omega))
   ·
    have ih79 := t_ne h79
    have ih80 := t_ne h80
    have ih81 := t_ne h81
    have ih82 := f_ne h82
    show W _ _ _ _ _ _ _ _ _ _ _ _ 56 _ [(vi 3)]
    refine W.ifY (pc := 56) 84 d11_56 (y_ge (by decide)) (by decide) ?_
    exact W.mono (by decide) (by decide) (K2  )
   ·
    have ih83 := t_ne h83
    have ih84 := t_ne h84
    exact absurd h85 (Classical.not_not.mpr (y_ne (by have := q58; have := q65; have := q48; have := q46; have := q95; omega)))
   ·
    have ih86 := t_ne h86
    exact absurd h87 (Classical.not_not.mpr (y_ne (by have := q95; have := q65; have := q48; have := q46; omega)))
   ·
    have ih88 := f_ne h88
    show W _ _ _ _ _ _ _ _ _ _ _ _ 56 _ [(vi 0)]
    refine W.ifY (pc := 56) 84 d11_56 (y_ge (by decide)) (by decide) ?_
    exact W.mono (by decide) (by decide) (K2  )
  ·
   have ih61 := t_lt h61
   have ih62 := f_lt h62
   have ih63 := t_gt h63
   show W _ _ _ _ _ _ _ _ _ _ _ _ 45 _ [(vi 0)]
   refine W.ifN (pc := 45) d11_45 (n_ne (by decide)) ?_
   refine W.aloadN (pc := 48) d11_48 rfl rfl ?_
   refine W.getf (pc := 49) d11_49 (w129 hw) Via.refl mog4Z m1 ?_
   refine W.iloadN (pc := 52) d11_52 rfl ?_
   refine W.callV (pc := 53) (as := [(vi x1)]) 0 [] d11_53 (w131 hw) (w132 hw) (w134 hw) (w134 hw) (w133 hw) (w11 hw) (w135 hw) (Hp.exa mog5Z) (c52_indexOf hw hs (hx1 := hx1) (mog5Z := mog5Z) (mog6Z := mog6Z)) (by decide) pd_I_I rfl rfl rfl rfl (by decide) (fun v D' h => ?_)
   rcases h with ⟨h89, h90, h91, h92, rfl, rfl⟩ | ⟨h93, h94, h95, h96, rfl, rfl⟩ | ⟨h97, h98, h99, rfl, rfl⟩ | ⟨h100, h101, rfl, rfl⟩ | ⟨h102, rfl, rfl⟩
   ·
    have ih89 := t_ne h89
    have ih90 := t_ne h90
    exact absurd h91 (n_ne (by have := q58; have := q65; have := q48; have := q57; have := q46; have := q95; omega))
   ·
    have ih93 := t_ne h93
    have ih94 := t_ne h94
    exact absurd h95 (n_ne (by have := q58; have := q65; have := q48; have := q57; have := q46; have := q95; omega))
   ·
    have ih97 := t_ne h97
    have ih98 := t_ne h98
    have ih99 := f_ne h99
    show W _ _ _ _ _ _ _ _ _ _ _ _ 56 _ [(vi 2)]
    refine W.ifY (pc := 56) 84 d11_56 (y_ge (by decide)) (by decide) ?_
    exact W.mono (by decide) (by decide) (K2  )
   ·
    have ih100 := t_ne h100
    exact absurd h101 (Classical.not_not.mpr (y_ne (by have := q95; have := q65; have := q48; have := q57; have := q46; omega)))
   ·
    exact absurd h102 (Classical.not_not.mpr (y_ne (by have := q46; have := q65; have := q48; have := q57; omega)))
  ·
   have ih64 := t_lt h64
   have ih65 := f_lt h65
   have ih66 := f_gt h66
   show W _ _ _ _ _ _ _ _ _ _ _ _ 45 _ [(vi 1)]
   refine W.ifY (pc := 45) 84 d11_45 (y_ne (by decide)) (by decide) ?_
   exact W.mono (by decide) (by decide) (K2  )
  ·
   have ih67 := f_lt h67
   have ih68 := t_le h68
   show W _ _ _ _ _ _ _ _ _ _ _ _ 45 _ [(vi 1)]
   refine W.ifY (pc := 45) 84 d11_45 (y_ne (by decide)) (by decide) ?_
   exact W.mono (by decide) (by decide) (K2  )
  ·
   have ih69 := f_lt h69
   have ih70 := f_le h70
   have ih71 := t_lt h71
   show W _ _ _ _ _ _ _ _ _ _ _ _ 45 _ [(vi 0)]
   refine W.ifN (pc := 45) d11_45 (n_ne (by decide)) ?_
   refine W.aloadN (pc := 48) d11_48 rfl rfl ?_
   refine W.getf (pc := 49) d11_49 (w129 hw) Via.refl mog4Z m1 ?_
   refine W.iloadN (pc := 52) d11_52 rfl ?_
   refine W.callV (pc := 53) (as := [(vi x1)]) 0 [] d11_53 (w131 hw) (w132 hw) (w134 hw) (w134 hw) (w133 hw) (w11 hw) (w135 hw) (Hp.exa mog5Z) (c52_indexOf hw hs (hx1 := hx1) (mog5Z := mog5Z) (mog6Z := mog6Z)) (by decide) pd_I_I rfl rfl rfl rfl (by decide) (fun v D' h => ?_)
   rcases h with ⟨h103, h104, h105, h106, rfl, rfl⟩ | ⟨h107, h108, h109, h110, rfl, rfl⟩ | ⟨h111, h112, h113, rfl, rfl⟩ | ⟨h114, h115, rfl, rfl⟩ | ⟨h116, rfl, rfl⟩
   ·
    have ih103 := t_ne h103
    exact absurd h104 (n_ne (by have := q95; have := q65; have := q90; have := q97; have := q46; omega))
   ·
    have ih107 := t_ne h107
    exact absurd h108 (n_ne (by have := q95; have := q65; have := q90; have := q97; have := q46; omega))
   ·
    have ih111 := t_ne h111
    exact absurd h112 (n_ne (by have := q95; have := q65; have := q90; have := q97; have := q46; omega))
   ·
    have ih114 := t_ne h114
    have ih115 := f_ne h115
    show W _ _ _ _ _ _ _ _ _ _ _ _ 56 _ [(vi 1)]
    refine W.ifY (pc := 56) 84 d11_56 (y_ge (by decide)) (by decide) ?_
    exact W.mono (by decide) (by decide) (K2  )
   ·
    exact absurd h116 (Classical.not_not.mpr (y_ne (by have := q46; have := q65; have := q90; have := q97; omega)))
  ·
   have ih72 := f_lt h72
   have ih73 := f_le h73
   have ih74 := f_lt h74
   show W _ _ _ _ _ _ _ _ _ _ _ _ 45 _ [(vi 1)]
   refine W.ifY (pc := 45) 84 d11_45 (y_ne (by decide)) (by decide) ?_
   exact W.mono (by decide) (by decide) (K2  )
theorem c70_checkId {Z a0} (hw : HW a0 Z) (hs : SF Z) {p1 p2 : Addr} {x1 : Int32} (hx1 : (45 ≤ x1.toInt ∧ x1.toInt ≤ 46) ∨ (48 ≤ x1.toInt ∧ x1.toInt ≤ 58) ∨ (65 ≤ x1.toInt ∧ x1.toInt ≤ 90) ∨ x1.toInt = 95 ∨ (97 ≤ x1.toInt ∧ x1.toInt ≤ 122)) {x2 : Int32} (hx2 : (45 ≤ x2.toInt ∧ x2.toInt ≤ 46) ∨ (48 ≤ x2.toInt ∧ x2.toInt ≤ 58) ∨ (65 ≤ x2.toInt ∧ x2.toInt ≤ 90) ∨ x2.toInt = 95 ∨ (97 ≤ x2.toInt ∧ x2.toInt ≤ 122)) {w_og4Z : Bool} {w_p1 : Bool} {w_p2 : Bool} {ad_p2 : String} {w_og5Z : Bool} {w_og6Z : Bool} {ad_og6Z : String} {F : List Ent} (mog4Z : ((og4 Z), w_og4Z, oJobKey_NameRule (vi 128) (vr (og5 Z))) ∈ F) (mp1 : (p1, w_p1, oString (vr p2) (vi 0)) ∈ F) (mp2 : (p2, w_p2, ar ad_p2 .byte [(vi x1), (vi x2)]) ∈ F) (mog5Z : ((og5 Z), w_og5Z, oString (vr (og6 Z)) (vi 0)) ∈ F) (mog6Z : ((og6 Z), w_og6Z, ar ad_og6Z .byte [(vi 46), (vi 95), (vi 58), (vi 45)]) ∈ F) : Con Z EL (⟨"com/example/cunctator/cunctator/JobKey", "checkId", "(Ljava/lang/String;)Ljava/lang/String;"⟩ : MethodName) prog_8_method_3_code 1 (Option.some (Jvm.ClassFile.FieldType.object "java/lang/String")) (rmm 5 0 0 74) [(vr p1)] (F) (fun v D' => (v = some (vr p1) ∧ F = D')) := by
  refine Con.of (ls := #[rv p1]) (by decide +kernel) rfl ?_
  show W Z EL _ "com/example/cunctator/cunctator/JobKey" "checkId" _ _ _ _ _ _ _ _ _ _
  refine W.gets (pc := 0) d21_0 (w104 hw) Via.refl hs.2.2.2.2.2.1 ?_
  refine W.aloadN (pc := 3) d21_3 rfl rfl ?_
  refine W.callV (pc := 4) (as := [(vr p1)]) 0 [] d21_4 (w51 hw) (w52 hw) (w54 hw) (w54 hw) (w53 hw) (w55 hw) (w56 hw) (Hp.exa mog4Z) (c71_check hw hs (hx1 := hx1) (hx2 := hx2) (mp1 := mp1) (mp2 := mp2) (mog4Z := mog4Z) (mog5Z := mog5Z) (mog6Z := mog6Z)) (by decide) pd_Ljava_lang_String__Ljava_lang_String_ rfl rfl rfl rfl (by decide) (fun v D' h => ?_)
  obtain ⟨rfl, rfl⟩ := h
  show W _ _ _ _ _ _ _ _ _ _ _ _ 7 _ [(vr p1)]
  exact W.areturn (pc := 7) d21_7 rfl rfl rfl (by decide) ⟨rfl, rfl⟩
theorem c69_init {Z a0} (hw : HW a0 Z) (hs : SF Z) {p1 p2 p3 p4 p5 : Addr} {x1 : Int32} (hx1 : (45 ≤ x1.toInt ∧ x1.toInt ≤ 46) ∨ (48 ≤ x1.toInt ∧ x1.toInt ≤ 57) ∨ (65 ≤ x1.toInt ∧ x1.toInt ≤ 90) ∨ x1.toInt = 95 ∨ (97 ≤ x1.toInt ∧ x1.toInt ≤ 122)) {x2 : Int32} (hx2 : (45 ≤ x2.toInt ∧ x2.toInt ≤ 46) ∨ (48 ≤ x2.toInt ∧ x2.toInt ≤ 58) ∨ (65 ≤ x2.toInt ∧ x2.toInt ≤ 90) ∨ x2.toInt = 95 ∨ (97 ≤ x2.toInt ∧ x2.toInt ≤ 122)) {x3 : Int32} (hx3 : (45 ≤ x3.toInt ∧ x3.toInt ≤ 46) ∨ (48 ≤ x3.toInt ∧ x3.toInt ≤ 58) ∨ (65 ≤ x3.toInt ∧ x3.toInt ≤ 90) ∨ x3.toInt = 95 ∨ (97 ≤ x3.toInt ∧ x3.toInt ≤ 122)) {w_og1Z : Bool} {w_p2 : Bool} {w_p4 : Bool} {ad_p4 : String} {w_og2Z : Bool} {w_og3Z : Bool} {ad_og3Z : String} {w_og4Z : Bool} {w_p3 : Bool} {w_p5 : Bool} {ad_p5 : String} {w_og5Z : Bool} {w_og6Z : Bool} {ad_og6Z : String} {F : List Ent} (mog1Z : ((og1 Z), w_og1Z, oJobKey_NameRule (vi 64) (vr (og2 Z))) ∈ F) (mp2 : (p2, w_p2, oString (vr p4) (vi 0)) ∈ F) (mp4 : (p4, w_p4, ar ad_p4 .byte [(vi x1)]) ∈ F) (mog2Z : ((og2 Z), w_og2Z, oString (vr (og3 Z)) (vi 0)) ∈ F) (mog3Z : ((og3 Z), w_og3Z, ar ad_og3Z .byte [(vi 46), (vi 95), (vi 45)]) ∈ F) (mog4Z : ((og4 Z), w_og4Z, oJobKey_NameRule (vi 128) (vr (og5 Z))) ∈ F) (mp3 : (p3, w_p3, oString (vr p5) (vi 0)) ∈ F) (mp5 : (p5, w_p5, ar ad_p5 .byte [(vi x2), (vi x3)]) ∈ F) (mog5Z : ((og5 Z), w_og5Z, oString (vr (og6 Z)) (vi 0)) ∈ F) (mog6Z : ((og6 Z), w_og6Z, ar ad_og6Z .byte [(vi 46), (vi 95), (vi 58), (vi 45)]) ∈ F) : Con Z EL (⟨"com/example/cunctator/cunctator/JobKey", "<init>", "(Ljava/lang/String;Ljava/lang/String;)V"⟩ : MethodName) prog_8_method_1_code 3 (Option.none : Option Jvm.ClassFile.FieldType) (rmm 6 0 0 87) [(vr p1), (vr p2), (vr p3)] ((p1, true, oJobKey .null .null) :: F) (fun v D' => (v = none ∧ (p1, true, oJobKey (vr p2) (vr p3)) :: F = D')) := by
  refine Con.of (ls := #[rv p1, rv p2, rv p3]) (by decide +kernel) rfl ?_
  show W Z EL _ "com/example/cunctator/cunctator/JobKey" "<init>" _ _ _ _ _ _ _ _ _ _
  refine W.aloadN (pc := 0) d9_0 rfl rfl ?_
  refine W.initO (pc := 1) 0 d9_1 (w45 hw) (w21 hw) (w22 hw) rfl rfl (by decide) ?_
  refine W.aloadN (pc := 4) d9_4 rfl rfl ?_
  refine W.aloadN (pc := 5) d9_5 rfl rfl ?_
  refine W.callS (pc := 6) (as := [(vr p2)]) 1 [(vr p1)] d9_6 (w46 hw) (w47 hw) (w41 hw) (w48 hw) (c26_checkTopic hw hs (hx1 := hx1) (mog1Z := (mS mog1Z)) (mp1 := (mS mp2)) (mp2 := (mS mp4)) (mog2Z := (mS mog2Z)) (mog3Z := (mS mog3Z))) (by decide) pd_Ljava_lang_String__Ljava_lang_String_ rfl rfl rfl rfl (by decide) (fun v D' h => ?_)
  obtain ⟨rfl, rfl⟩ := h
  show W _ _ _ _ _ _ _ _ _ _ _ _ 9 _ [(vr p2), (vr p1)]
  refine W.putf (pc := 9) (D' := (p1, true, oJobKey (vr p2) .null) :: F) 0 0 d9_9 (w99 hw) Via.refl rfl rfl (Or.inr ⟨(w100 hw), rfl, rfl⟩) (w40 hw) pfLjava_lang_String_ rfl rfl rfl ?_
  refine W.aloadN (pc := 12) d9_12 rfl rfl ?_
  refine W.aloadN (pc := 13) d9_13 rfl rfl ?_
  refine W.callS (pc := 14) (as := [(vr p3)]) 1 [(vr p1)] d9_14 (w101 hw) (w102 hw) (w41 hw) (w103 hw) (c70_checkId hw hs (hx1 := hx2) (hx2 := hx3) (mog4Z := (mS mog4Z)) (mp1 := (mS mp3)) (mp2 := (mS mp5)) (mog5Z := (mS mog5Z)) (mog6Z := (mS mog6Z))) (by decide) pd_Ljava_lang_String__Ljava_lang_String_ rfl rfl rfl rfl (by decide) (fun v D' h => ?_)
  obtain ⟨rfl, rfl⟩ := h
  show W _ _ _ _ _ _ _ _ _ _ _ _ 17 _ [(vr p3), (vr p1)]
  refine W.putf (pc := 17) (D' := (p1, true, oJobKey (vr p2) (vr p3)) :: F) 0 1 d9_17 (w106 hw) Via.refl rfl rfl (Or.inr ⟨(w107 hw), rfl, rfl⟩) (w40 hw) pfLjava_lang_String_ rfl rfl rfl ?_
  exact W.return_ (pc := 20) d9_20 rfl (by decide) ⟨rfl, rfl⟩
theorem d25_34 : decode jdk_43_method_13_code 34 = .ok (.iconst 0, 1) := by decide +kernel
theorem d25_35 : decode jdk_43_method_13_code 35 = .ok (.ireturn, 1) := by decide +kernel
theorem c84_equals {Z a0} (hw : HW a0 Z) (hs : SF Z) {p1 p2 : Addr} {x1 : Int32} (hx1 : (45 ≤ x1.toInt ∧ x1.toInt ≤ 46) ∨ (48 ≤ x1.toInt ∧ x1.toInt ≤ 58) ∨ (65 ≤ x1.toInt ∧ x1.toInt ≤ 90) ∨ x1.toInt = 95 ∨ (97 ≤ x1.toInt ∧ x1.toInt ≤ 122)) {x2 : Int32} (hx2 : (45 ≤ x2.toInt ∧ x2.toInt ≤ 46) ∨ (48 ≤ x2.toInt ∧ x2.toInt ≤ 58) ∨ (65 ≤ x2.toInt ∧ x2.toInt ≤ 90) ∨ x2.toInt = 95 ∨ (97 ≤ x2.toInt ∧ x2.toInt ≤ 122)) {x3 : Int32} (hx3 : (45 ≤ x3.toInt ∧ x3.toInt ≤ 46) ∨ (48 ≤ x3.toInt ∧ x3.toInt ≤ 58) ∨ (65 ≤ x3.toInt ∧ x3.toInt ≤ 90) ∨ x3.toInt = 95 ∨ (97 ≤ x3.toInt ∧ x3.toInt ≤ 122)) {w_p1 : Bool} {ad_p1 : String} {w_p2 : Bool} {ad_p2 : String} {F : List Ent} (mp1 : (p1, w_p1, ar ad_p1 .byte [(vi x1)]) ∈ F) (mp2 : (p2, w_p2, ar ad_p2 .byte [(vi x2), (vi x3)]) ∈ F) : Con Z EL (⟨"java/lang/StringLatin1", "equals", "([B[B)Z"⟩ : MethodName) jdk_43_method_13_code 3 (Option.some Jvm.ClassFile.FieldType.boolean) (rmm 0 0 0 0) [(vr p1), (vr p2)] (F) (fun v D' => (v = some (vi 0) ∧ F = D')) := by
  refine Con.of (ls := #[rv p1, rv p2, uu]) (by decide +kernel) rfl ?_
  show W Z EL _ "java/lang/StringLatin1" "equals" _ _ _ _ _ _ _ _ _ _
  refine W.aloadN (pc := 0) d25_0 rfl rfl ?_
  refine W.alen (pc := 1) (1) d25_1 mp1 rfl ?_
  refine W.aloadN (pc := 2) d25_2 rfl rfl ?_
  refine W.alen (pc := 3) (2) d25_3 mp2 rfl ?_
  refine W.icmpY (pc := 4) 34 d25_4 (y_ne (by decide)) (by decide) ?_
  refine W.iconst (pc := 34) (0) d25_34 (by decide) ?_
  exact W.ireturn (pc := 35) d25_35 rfl (Or.inr (Or.inl rfl)) (nw_bool (by decide)) (by decide) ⟨rfl, rfl⟩
theorem c83_equals {Z a0} (hw : HW a0 Z) (hs : SF Z) {p1 p2 p3 p4 : Addr} {x1 : Int32} (hx1 : (45 ≤ x1.toInt ∧ x1.toInt ≤ 46) ∨ (48 ≤ x1.toInt ∧ x1.toInt ≤ 58) ∨ (65 ≤ x1.toInt ∧ x1.toInt ≤ 90) ∨ x1.toInt = 95 ∨ (97 ≤ x1.toInt ∧ x1.toInt ≤ 122)) {x2 : Int32} (hx2 : (45 ≤ x2.toInt ∧ x2.toInt ≤ 46) ∨ (48 ≤ x2.toInt ∧ x2.toInt ≤ 58) ∨ (65 ≤ x2.toInt ∧ x2.toInt ≤ 90) ∨ x2.toInt = 95 ∨ (97 ≤ x2.toInt ∧ x2.toInt ≤ 122)) {x3 : Int32} (hx3 : (45 ≤ x3.toInt ∧ x3.toInt ≤ 46) ∨ (48 ≤ x3.toInt ∧ x3.toInt ≤ 58) ∨ (65 ≤ x3.toInt ∧ x3.toInt ≤ 90) ∨ x3.toInt = 95 ∨ (97 ≤ x3.toInt ∧ x3.toInt ≤ 122)) {w_p2 : Bool} {w_p1 : Bool} {w_p3 : Bool} {ad_p3 : String} {w_p4 : Bool} {ad_p4 : String} (ne_p1_p2 : p1 ≠ p2) {F : List Ent} (mp2 : (p2, w_p2, oString (vr p4) (vi 0)) ∈ F) (mp1 : (p1, w_p1, oString (vr p3) (vi 0)) ∈ F) (mp3 : (p3, w_p3, ar ad_p3 .byte [(vi x1)]) ∈ F) (mp4 : (p4, w_p4, ar ad_p4 .byte [(vi x2), (vi x3)]) ∈ F) : Con Z EL (⟨"java/lang/String", "equals", "(Ljava/lang/Object;)Z"⟩ : MethodName) jdk_42_method_66_code 3 (Option.some Jvm.ClassFile.FieldType.boolean) (rmm 1 0 0 14) [(vr p1), (vr p2)] (F) (fun v D' => (v = some (vi 0) ∧ F = D')) := by
  refine Con.of (ls := #[rv p1, rv p2, uu]) (by decide +kernel) rfl ?_
  show W Z EL _ "java/lang/String" "equals" _ _ _ _ _ _ _ _ _ _
  refine W.aloadN (pc := 0) d24_0 rfl rfl ?_
  refine W.aloadN (pc := 1) d24_1 rfl rfl ?_
  refine W.acmpY (pc := 2) 7 d24_2 rfl rfl (show Ca .ne _ _ from (fun z => ne_p1_p2 (by injection z))) (by decide) ?_
  refine W.aloadN (pc := 7) d24_7 rfl rfl ?_
  refine W.instY (pc := 8) d24_8 (w123 hw) (Hp.ins mp2) ?_
  refine W.ifN (pc := 11) d24_11 (n_eq (by decide)) ?_
  refine W.aloadN (pc := 14) d24_14 rfl rfl ?_
  refine W.castY (pc := 15) d24_15 (w123 hw) (Hp.ins mp2) ?_
  refine W.astoreN (pc := 18) (ls' := #[rv p1, rv p2, rv p2]) d24_18 rfl rfl ?_
  refine W.gets (pc := 19) d24_19 (w23 hw) Via.refl hs.1 ?_
  refine W.ifN (pc := 22) d24_22 (n_eq (by have := hs.2.1; have := q0; omega)) ?_
  refine W.aloadN (pc := 25) d24_25 rfl rfl ?_
  refine W.getf (pc := 26) d24_26 (w35 hw) Via.refl mp1 m1 ?_
  refine W.aloadN (pc := 29) d24_29 rfl rfl ?_
  refine W.getf (pc := 30) d24_30 (w35 hw) Via.refl mp2 m1 ?_
  refine W.icmpN (pc := 33) d24_33 (n_ne (by decide)) ?_
  refine W.aloadN (pc := 36) d24_36 rfl rfl ?_
  refine W.getf (pc := 37) d24_37 (w37 hw) Via.refl mp1 m0 ?_
  refine W.aloadN (pc := 40) d24_40 rfl rfl ?_
  refine W.getf (pc := 41) d24_41 (w37 hw) Via.refl mp2 m0 ?_
  refine W.callS (pc := 44) (as := [(vr p3), (vr p4)]) 0 [] d24_44 (w124 hw) (w125 hw) (w84 hw) (w126 hw) (c84_equals hw hs (hx1 := hx1) (hx2 := hx2) (hx3 := hx3) (mp1 := mp3) (mp2 := mp4)) (by decide) pd__B_B_Z rfl rfl rfl rfl (by decide) (fun v D' h => ?_)
  obtain ⟨rfl, rfl⟩ := h
  show W _ _ _ _ _ _ _ _ _ _ _ _ 47 _ [(vi 0)]
  refine W.ifY (pc := 47) 54 d24_47 (y_eq (by decide)) (by decide) ?_
  refine W.iconst (pc := 54) (0) d24_54 (by decide) ?_
  exact W.ireturn (pc := 55) d24_55 rfl (Or.inr (Or.inl rfl)) (nw_bool (by decide)) (by decide) ⟨rfl, rfl⟩
theorem c82_equals {Z a0} (hw : HW a0 Z) (hs : SF Z) {p1 p2 p3 p4 p5 p6 p7 p8 p9 p10 : Addr} {x1 : Int32} (hx1 : (45 ≤ x1.toInt ∧ x1.toInt ≤ 46) ∨ (48 ≤ x1.toInt ∧ x1.toInt ≤ 57) ∨ (65 ≤ x1.toInt ∧ x1.toInt ≤ 90) ∨ x1.toInt = 95 ∨ (97 ≤ x1.toInt ∧ x1.toInt ≤ 122)) {x2 : Int32} (hx2 : (45 ≤ x2.toInt ∧ x2.toInt ≤ 46) ∨ (48 ≤ x2.toInt ∧ x2.toInt ≤ 58) ∨ (65 ≤ x2.toInt ∧ x2.toInt ≤ 90) ∨ x2.toInt = 95 ∨ (97 ≤ x2.toInt ∧ x2.toInt ≤ 122)) {x3 : Int32} (hx3 : (45 ≤ x3.toInt ∧ x3.toInt ≤ 46) ∨ (48 ≤ x3.toInt ∧ x3.toInt ≤ 57) ∨ (65 ≤ x3.toInt ∧ x3.toInt ≤ 90) ∨ x3.toInt = 95 ∨ (97 ≤ x3.toInt ∧ x3.toInt ≤ 122)) {x4 : Int32} (hx4 : (45 ≤ x4.toInt ∧ x4.toInt ≤ 46) ∨ (48 ≤ x4.toInt ∧ x4.toInt ≤ 58) ∨ (65 ≤ x4.toInt ∧ x4.toInt ≤ 90) ∨ x4.toInt = 95 ∨ (97 ≤ x4.toInt ∧ x4.toInt ≤ 122)) {x5 : Int32} (hx5 : (45 ≤ x5.toInt ∧ x5.toInt ≤ 46) ∨ (48 ≤ x5.toInt ∧ x5.toInt ≤ 58) ∨ (65 ≤ x5.toInt ∧ x5.toInt ≤ 90) ∨ x5.toInt = 95 ∨ (97 ≤ x5.toInt ∧ x5.toInt ≤ 122)) {w_p2 : Bool} {w_p1 : Bool} {w_p3 : Bool} {w_p5 : Bool} {w_p7 : Bool} {ad_p7 : String} {w_p9 : Bool} {ad_p9 : String} {w_p4 : Bool} {w_p6 : Bool} {w_p8 : Bool} {ad_p8 : String} {w_p10 : Bool} {ad_p10 : String} (ne_p1_p2 : p1 ≠ p2) (ne_p3_p5 : p3 ≠ p5) (ne_p4_p6 : p4 ≠ p6) {F : List Ent} (mp2 : (p2, w_p2, oJobKey (vr p5) (vr p6)) ∈ F) (mp1 : (p1, w_p1, oJobKey (vr p3) (vr p4)) ∈ F) (mp3 : (p3, w_p3, oString (vr p7) (vi 0)) ∈ F) (mp5 : (p5, w_p5, oString (vr p9) (vi 0)) ∈ F) (mp7 : (p7, w_p7, ar ad_p7 .byte [(vi x1)]) ∈ F) (mp9 : (p9, w_p9, ar ad_p9 .byte [(vi x3)]) ∈ F) (mp4 : (p4, w_p4, oString (vr p8) (vi 0)) ∈ F) (mp6 : (p6, w_p6, oString (vr p10) (vi 0)) ∈ F) (mp8 : (p8, w_p8, ar ad_p8 .byte [(vi x2)]) ∈ F) (mp10 : (p10, w_p10, ar ad_p10 .byte [(vi x4), (vi x5)]) ∈ F) : Con Z EL (⟨"com/example/cunctator/cunctator/JobKey", "equals", "(Ljava/lang/Object;)Z"⟩ : MethodName) prog_8_method_6_code 3 (Option.some Jvm.ClassFile.FieldType.boolean) (rmm 2 0 0 28) [(vr p1), (vr p2)] (F) (fun v D' => (v = some (vi 0) ∧ F = D')) := by
  refine Con.of (ls := #[rv p1, rv p2, uu]) (by decide +kernel) rfl ?_
  show W Z EL _ "com/example/cunctator/cunctator/JobKey" "equals" _ _ _ _ _ _ _ _ _ _
  refine W.aloadN (pc := 0) d23_0 rfl rfl ?_
  refine W.aloadN (pc := 1) d23_1 rfl rfl ?_
  refine W.acmpY (pc := 2) 7 d23_2 rfl rfl (show Ca .ne _ _ from (fun z => ne_p1_p2 (by injection z))) (by decide) ?_
  refine W.aloadN (pc := 7) d23_7 rfl rfl ?_
  refine W.instY (pc := 8) d23_8 (w116 hw) (Hp.ins mp2) ?_
  refine W.ifY (pc := 11) 16 d23_11 (y_ne (by decide)) (by decide) ?_
  refine W.aloadN (pc := 16) d23_16 rfl rfl ?_
  refine W.castY (pc := 17) d23_17 (w116 hw) (Hp.ins mp2) ?_
  refine W.astoreN (pc := 20) (ls' := #[rv p1, rv p2, rv p2]) d23_20 rfl rfl ?_
  refine W.aloadN (pc := 21) d23_21 rfl rfl ?_
  refine W.getf (pc := 22) d23_22 (w99 hw) Via.refl mp1 m0 ?_
  refine W.aloadN (pc := 25) d23_25 rfl rfl ?_
  refine W.getf (pc := 26) d23_26 (w99 hw) Via.refl mp2 m0 ?_
  refine W.callV (pc := 29) (as := [(vr p5)]) 0 [] d23_29 (w118 hw) (w119 hw) (w121 hw) (w121 hw) (w120 hw) (w11 hw) (w122 hw) (Hp.exa mp3) (c62_equals hw hs (hx1 := hx1) (hx2 := hx3) (mp2 := mp5) (mp1 := mp3) (mp3 := mp7) (mp4 := mp9) (ne_p1_p2 := ne_p3_p5)) (by decide) pd_Ljava_lang_Object__Z rfl rfl rfl rfl (by decide) (fun v D' h => ?_)
  rcases h with ⟨h1, rfl, rfl⟩ | ⟨h2, rfl, rfl⟩
  ·
   have ih1 := t_eq h1
   show W _ _ _ _ _ _ _ _ _ _ _ _ 32 _ [(vi 1)]
   refine W.ifN (pc := 32) d23_32 (n_eq (by decide)) ?_
   refine W.aloadN (pc := 35) d23_35 rfl rfl ?_
   refine W.getf (pc := 36) d23_36 (w106 hw) Via.refl mp1 m1 ?_
   refine W.aloadN (pc := 39) d23_39 rfl rfl ?_
   refine W.getf (pc := 40) d23_40 (w106 hw) Via.refl mp2 m1 ?_
   refine W.callV (pc := 43) (as := [(vr p6)]) 0 [] d23_43 (w118 hw) (w119 hw) (w121 hw) (w121 hw) (w120 hw) (w11 hw) (w122 hw) (Hp.exa mp4) (c83_equals hw hs (hx1 := hx2) (hx2 := hx4) (hx3 := hx5) (mp2 := mp6) (mp1 := mp4) (mp3 := mp8) (mp4 := mp10) (ne_p1_p2 := ne_p4_p6)) (by decide) pd_Ljava_lang_Object__Z rfl rfl rfl rfl (by decide) (fun v D' h => ?_)
   obtain ⟨rfl, rfl⟩ := h
   show W _ _ _ _ _ _ _ _ _ _ _ _ 46 _ [(vi 0)]
   refine W.ifY (pc := 46) 53 d23_46 (y_eq (by decide)) (by decide) ?_
   refine W.iconst (pc := 53) (0) d23_53 (by decide) ?_
   exact W.ireturn (pc := 54) d23_54 rfl (Or.inr (Or.inl rfl)) (nw_bool (by decide)) (by decide) ⟨rfl, rfl⟩
  ·
   have ih2 := f_eq h2
   show W _ _ _ _ _ _ _ _ _ _ _ _ 32 _ [(vi 0)]
   refine W.ifY (pc := 32) 53 d23_32 (y_eq (by decide)) (by decide) ?_
   refine W.iconst (pc := 53) (0) d23_53 (by decide) ?_
   exact W.ireturn (pc := 54) d23_54 rfl (Or.inr (Or.inl rfl)) (nw_bool (by decide)) (by decide) ⟨rfl, rfl⟩
theorem c87_equals {Z a0} (hw : HW a0 Z) (hs : SF Z) {p1 p2 : Addr} {x1 : Int32} (hx1 : (45 ≤ x1.toInt ∧ x1.toInt ≤ 46) ∨ (48 ≤ x1.toInt ∧ x1.toInt ≤ 58) ∨ (65 ≤ x1.toInt ∧ x1.toInt ≤ 90) ∨ x1.toInt = 95 ∨ (97 ≤ x1.toInt ∧ x1.toInt ≤ 122)) {x2 : Int32} (hx2 : (45 ≤ x2.toInt ∧ x2.toInt ≤ 46) ∨ (48 ≤ x2.toInt ∧ x2.toInt ≤ 58) ∨ (65 ≤ x2.toInt ∧ x2.toInt ≤ 90) ∨ x2.toInt = 95 ∨ (97 ≤ x2.toInt ∧ x2.toInt ≤ 122)) {x3 : Int32} (hx3 : (45 ≤ x3.toInt ∧ x3.toInt ≤ 46) ∨ (48 ≤ x3.toInt ∧ x3.toInt ≤ 58) ∨ (65 ≤ x3.toInt ∧ x3.toInt ≤ 90) ∨ x3.toInt = 95 ∨ (97 ≤ x3.toInt ∧ x3.toInt ≤ 122)) {w_p1 : Bool} {ad_p1 : String} {w_p2 : Bool} {ad_p2 : String} {F : List Ent} (mp1 : (p1, w_p1, ar ad_p1 .byte [(vi x1), (vi x2)]) ∈ F) (mp2 : (p2, w_p2, ar ad_p2 .byte [(vi x3)]) ∈ F) : Con Z EL (⟨"java/lang/StringLatin1", "equals", "([B[B)Z"⟩ : MethodName) jdk_43_method_13_code 3 (Option.some Jvm.ClassFile.FieldType.boolean) (rmm 0 0 0 0) [(vr p1), (vr p2)] (F) (fun v D' => (v = some (vi 0) ∧ F = D')) := by
  refine Con.of (ls := #[rv p1, rv p2, uu]) (by decide +kernel) rfl ?_
  show W Z EL _ "java/lang/StringLatin1" "equals" _ _ _ _ _ _ _ _ _ _
  refine W.aloadN (pc := 0) d25_0 rfl rfl ?_
  refine W.alen (pc := 1) (2) d25_1 mp1 rfl ?_
  refine W.aloadN (pc := 2) d25_2 rfl rfl ?_
  refine W.alen (pc := 3) (1) d25_3 mp2 rfl ?_
  refine W.icmpY (pc := 4) 34 d25_4 (y_ne (by decide)) (by decide) ?_
  refine W.iconst (pc := 34) (0) d25_34 (by decide) ?_
  exact W.ireturn (pc := 35) d25_35 rfl (Or.inr (Or.inl rfl)) (nw_bool (by decide)) (by decide) ⟨rfl, rfl⟩
theorem c86_equals {Z a0} (hw : HW a0 Z) (hs : SF Z) {p1 p2 p3 p4 : Addr} {x1 : Int32} (hx1 : (45 ≤ x1.toInt ∧ x1.toInt ≤ 46) ∨ (48 ≤ x1.toInt ∧ x1.toInt ≤ 58) ∨ (65 ≤ x1.toInt ∧ x1.toInt ≤ 90) ∨ x1.toInt = 95 ∨ (97 ≤ x1.toInt ∧ x1.toInt ≤ 122)) {x2 : Int32} (hx2 : (45 ≤ x2.toInt ∧ x2.toInt ≤ 46) ∨ (48 ≤ x2.toInt ∧ x2.toInt ≤ 58) ∨ (65 ≤ x2.toInt ∧ x2.toInt ≤ 90) ∨ x2.toInt = 95 ∨ (97 ≤ x2.toInt ∧ x2.toInt ≤ 122)) {x3 : Int32} (hx3 : (45 ≤ x3.toInt ∧ x3.toInt ≤ 46) ∨ (48 ≤ x3.toInt ∧ x3.toInt ≤ 58) ∨ (65 ≤ x3.toInt ∧ x3.toInt ≤ 90) ∨ x3.toInt = 95 ∨ (97 ≤ x3.toInt ∧ x3.toInt ≤ 122)) {w_p2 : Bool} {w_p1 : Bool} {w_p3 : Bool} {ad_p3 : String} {w_p4 : Bool} {ad_p4 : String} (ne_p1_p2 : p1 ≠ p2) {F : List Ent} (mp2 : (p2, w_p2, oString (vr p4) (vi 0)) ∈ F) (mp1 : (p1, w_p1, oString (vr p3) (vi 0)) ∈ F) (mp3 : (p3, w_p3, ar ad_p3 .byte [(vi x1), (vi x2)]) ∈ F) (mp4 : (p4, w_p4, ar ad_p4 .byte [(vi x3)]) ∈ F) : Con Z EL (⟨"java/lang/String", "equals", "(Ljava/lang/Object;)Z"⟩ : MethodName) jdk_42_method_66_code 3 (Option.some Jvm.ClassFile.FieldType.boolean) (rmm 1 0 0 14) [(vr p1), (vr p2)] (F) (fun v D' => (v = some (vi 0) ∧ F = D')) := by
  refine Con.of (ls := #[rv p1, rv p2, uu]) (by decide +kernel) rfl ?_
  show W Z EL _ "java/lang/String" "equals" _ _ _ _ _ _ _ _ _ _
  refine W.aloadN (pc := 0) d24_0 rfl rfl ?_
  refine W.aloadN (pc := 1) d24_1 rfl rfl ?_
  refine W.acmpY (pc := 2) 7 d24_2 rfl rfl (show Ca .ne _ _ from (fun z => ne_p1_p2 (by injection z))) (by decide) ?_
  refine W.aloadN (pc := 7) d24_7 rfl rfl ?_
  refine W.instY (pc := 8) d24_8 (w123 hw) (Hp.ins mp2) ?_
  refine W.ifN (pc := 11) d24_11 (n_eq (by decide)) ?_
  refine W.aloadN (pc := 14) d24_14 rfl rfl ?_
  refine W.castY (pc := 15) d24_15 (w123 hw) (Hp.ins mp2) ?_
  refine W.astoreN (pc := 18) (ls' := #[rv p1, rv p2, rv p2]) d24_18 rfl rfl ?_
  refine W.gets (pc := 19) d24_19 (w23 hw) Via.refl hs.1 ?_
  refine W.ifN (pc := 22) d24_22 (n_eq (by have := hs.2.1; have := q0; omega)) ?_
  refine W.aloadN (pc := 25) d24_25 rfl rfl ?_
  refine W.getf (pc := 26) d24_26 (w35 hw) Via.refl mp1 m1 ?_
  refine W.aloadN (pc := 29) d24_29 rfl rfl ?_
  refine W.getf (pc := 30) d24_30 (w35 hw) Via.refl mp2 m1 ?_
  refine W.icmpN (pc := 33) d24_33 (n_ne (by decide)) ?_
  refine W.aloadN (pc := 36) d24_36 rfl rfl ?_
  refine W.getf (pc := 37) d24_37 (w37 hw) Via.refl mp1 m0 ?_
  refine W.aloadN (pc := 40) d24_40 rfl rfl ?_
  refine W.getf (pc := 41) d24_41 (w37 hw) Via.refl mp2 m0 ?_
  refine W.callS (pc := 44) (as := [(vr p3), (vr p4)]) 0 [] d24_44 (w124 hw) (w125 hw) (w84 hw) (w126 hw) (c87_equals hw hs (hx1 := hx1) (hx2 := hx2) (hx3 := hx3) (mp1 := mp3) (mp2 := mp4)) (by decide) pd__B_B_Z rfl rfl rfl rfl (by decide) (fun v D' h => ?_)
  obtain ⟨rfl, rfl⟩ := h
  show W _ _ _ _ _ _ _ _ _ _ _ _ 47 _ [(vi 0)]
  refine W.ifY (pc := 47) 54 d24_47 (y_eq (by decide)) (by decide) ?_
  refine W.iconst (pc := 54) (0) d24_54 (by decide) ?_
  exact W.ireturn (pc := 55) d24_55 rfl (Or.inr (Or.inl rfl)) (nw_bool (by decide)) (by decide) ⟨rfl, rfl⟩
theorem c85_equals {Z a0} (hw : HW a0 Z) (hs : SF Z) {p1 p2 p3 p4 p5 p6 p7 p8 p9 p10 : Addr} {x1 : Int32} (hx1 : (45 ≤ x1.toInt ∧ x1.toInt ≤ 46) ∨ (48 ≤ x1.toInt ∧ x1.toInt ≤ 57) ∨ (65 ≤ x1.toInt ∧ x1.toInt ≤ 90) ∨ x1.toInt = 95 ∨ (97 ≤ x1.toInt ∧ x1.toInt ≤ 122)) {x2 : Int32} (hx2 : (45 ≤ x2.toInt ∧ x2.toInt ≤ 46) ∨ (48 ≤ x2.toInt ∧ x2.toInt ≤ 58) ∨ (65 ≤ x2.toInt ∧ x2.toInt ≤ 90) ∨ x2.toInt = 95 ∨ (97 ≤ x2.toInt ∧ x2.toInt ≤ 122)) {x3 : Int32} (hx3 : (45 ≤ x3.toInt ∧ x3.toInt ≤ 46) ∨ (48 ≤ x3.toInt ∧ x3.toInt ≤ 58) ∨ (65 ≤ x3.toInt ∧ x3.toInt ≤ 90) ∨ x3.toInt = 95 ∨ (97 ≤ x3.toInt ∧ x3.toInt ≤ 122)) {x4 : Int32} (hx4 : (45 ≤ x4.toInt ∧ x4.toInt ≤ 46) ∨ (48 ≤ x4.toInt ∧ x4.toInt ≤ 57) ∨ (65 ≤ x4.toInt ∧ x4.toInt ≤ 90) ∨ x4.toInt = 95 ∨ (97 ≤ x4.toInt ∧ x4.toInt ≤ 122)) {x5 : Int32} (hx5 : (45 ≤ x5.toInt ∧ x5.toInt ≤ 46) ∨ (48 ≤ x5.toInt ∧ x5.toInt ≤ 58) ∨ (65 ≤ x5.toInt ∧ x5.toInt ≤ 90) ∨ x5.toInt = 95 ∨ (97 ≤ x5.toInt ∧ x5.toInt ≤ 122)) {w_p2 : Bool} {w_p1 : Bool} {w_p3 : Bool} {w_p5 : Bool} {w_p7 : Bool} {ad_p7 : String} {w_p9 : Bool} {ad_p9 : String} {w_p4 : Bool} {w_p6 : Bool} {w_p8 : Bool} {ad_p8 : String} {w_p10 : Bool} {ad_p10 : String} (ne_p1_p2 : p1 ≠ p2) (ne_p3_p5 : p3 ≠ p5) (ne_p4_p6 : p4 ≠ p6) {F : List Ent} (mp2 : (p2, w_p2, oJobKey (vr p5) (vr p6)) ∈ F) (mp1 : (p1, w_p1, oJobKey (vr p3) (vr p4)) ∈ F) (mp3 : (p3, w_p3, oString (vr p7) (vi 0)) ∈ F) (mp5 : (p5, w_p5, oString (vr p9) (vi 0)) ∈ F) (mp7 : (p7, w_p7, ar ad_p7 .byte [(vi x1)]) ∈ F) (mp9 : (p9, w_p9, ar ad_p9 .byte [(vi x4)]) ∈ F) (mp4 : (p4, w_p4, oString (vr p8) (vi 0)) ∈ F) (mp6 : (p6, w_p6, oString (vr p10) (vi 0)) ∈ F) (mp8 : (p8, w_p8, ar ad_p8 .byte [(vi x2), (vi x3)]) ∈ F) (mp10 : (p10, w_p10, ar ad_p10 .byte [(vi x5)]) ∈ F) : Con Z EL (⟨"com/example/cunctator/cunctator/JobKey", "equals", "(Ljava/lang/Object;)Z"⟩ : MethodName) prog_8_method_6_code 3 (Option.some Jvm.ClassFile.FieldType.boolean) (rmm 2 0 0 28) [(vr p1), (vr p2)] (F) (fun v D' => (v = some (vi 0) ∧ F = D')) := by
  refine Con.of (ls := #[rv p1, rv p2, uu]) (by decide +kernel) rfl ?_
  show W Z EL _ "com/example/cunctator/cunctator/JobKey" "equals" _ _ _ _ _ _ _ _ _ _
  refine W.aloadN (pc := 0) d23_0 rfl rfl ?_
  refine W.aloadN (pc := 1) d23_1 rfl rfl ?_
  refine W.acmpY (pc := 2) 7 d23_2 rfl rfl (show Ca .ne _ _ from (fun z => ne_p1_p2 (by injection z))) (by decide) ?_
  refine W.aloadN (pc := 7) d23_7 rfl rfl ?_
  refine W.instY (pc := 8) d23_8 (w116 hw) (Hp.ins mp2) ?_
  refine W.ifY (pc := 11) 16 d23_11 (y_ne (by decide)) (by decide) ?_
  refine W.aloadN (pc := 16) d23_16 rfl rfl ?_
  refine W.castY (pc := 17) d23_17 (w116 hw) (Hp.ins mp2) ?_
  refine W.astoreN (pc := 20) (ls' := #[rv p1, rv p2, rv p2]) d23_20 rfl rfl ?_
  refine W.aloadN (pc := 21) d23_21 rfl rfl ?_
  refine W.getf (pc := 22) d23_22 (w99 hw) Via.refl mp1 m0 ?_
  refine W.aloadN (pc := 25) d23_25 rfl rfl ?_
  refine W.getf (pc := 26) d23_26 (w99 hw) Via.refl mp2 m0 ?_
  refine W.callV (pc := 29) (as := [(vr p5)]) 0 [] d23_29 (w118 hw) (w119 hw) (w121 hw) (w121 hw) (w120 hw) (w11 hw) (w122 hw) (Hp.exa mp3) (c62_equals hw hs (hx1 := hx1) (hx2 := hx4) (mp2 := mp5) (mp1 := mp3) (mp3 := mp7) (mp4 := mp9) (ne_p1_p2 := ne_p3_p5)) (by decide) pd_Ljava_lang_Object__Z rfl rfl rfl rfl (by decide) (fun v D' h => ?_)
  rcases h with ⟨h1, rfl, rfl⟩ | ⟨h2, rfl, rfl⟩
  ·
   have ih1 := t_eq h1
   show W _ _ _ _ _ _ _ _ _ _ _ _ 32 _ [(vi 1)]
   refine W.ifN (pc := 32) d23_32 (n_eq (by decide)) ?_
   refine W.aloadN (pc := 35) d23_35 rfl rfl ?_
   refine W.getf (pc := 36) d23_36 (w106 hw) Via.refl mp1 m1 ?_
   refine W.aloadN (pc := 39) d23_39 rfl rfl ?_
   refine W.getf (pc := 40) d23_40 (w106 hw) Via.refl mp2 m1 ?_
   refine W.callV (pc := 43) (as := [(vr p6)]) 0 [] d23_43 (w118 hw) (w119 hw) (w121 hw) (w121 hw) (w120 hw) (w11 hw) (w122 hw) (Hp.exa mp4) (c86_equals hw hs (hx1 := hx2) (hx2 := hx3) (hx3 := hx5) (mp2 := mp6) (mp1 := mp4) (mp3 := mp8) (mp4 := mp10) (ne_p1_p2 := ne_p4_p6)) (by decide) pd_Ljava_lang_Object__Z rfl rfl rfl rfl (by decide) (fun v D' h => ?_)
   obtain ⟨rfl, rfl⟩ := h
   show W _ _ _ _ _ _ _ _ _ _ _ _ 46 _ [(vi 0)]
   refine W.ifY (pc := 46) 53 d23_46 (y_eq (by decide)) (by decide) ?_
   refine W.iconst (pc := 53) (0) d23_53 (by decide) ?_
   exact W.ireturn (pc := 54) d23_54 rfl (Or.inr (Or.inl rfl)) (nw_bool (by decide)) (by decide) ⟨rfl, rfl⟩
  ·
   have ih2 := f_eq h2
   show W _ _ _ _ _ _ _ _ _ _ _ _ 32 _ [(vi 0)]
   refine W.ifY (pc := 32) 53 d23_32 (y_eq (by decide)) (by decide) ?_
   refine W.iconst (pc := 53) (0) d23_53 (by decide) ?_
   exact W.ireturn (pc := 54) d23_54 rfl (Or.inr (Or.inl rfl)) (nw_bool (by decide)) (by decide) ⟨rfl, rfl⟩
theorem c91_isEmpty {Z a0} (hw : HW a0 Z) (hs : SF Z) {p1 p2 : Addr} {x1 : Int32} (hx1 : (45 ≤ x1.toInt ∧ x1.toInt ≤ 46) ∨ (48 ≤ x1.toInt ∧ x1.toInt ≤ 57) ∨ (65 ≤ x1.toInt ∧ x1.toInt ≤ 90) ∨ x1.toInt = 95 ∨ (97 ≤ x1.toInt ∧ x1.toInt ≤ 122)) {x2 : Int32} (hx2 : (45 ≤ x2.toInt ∧ x2.toInt ≤ 46) ∨ (48 ≤ x2.toInt ∧ x2.toInt ≤ 57) ∨ (65 ≤ x2.toInt ∧ x2.toInt ≤ 90) ∨ x2.toInt = 95 ∨ (97 ≤ x2.toInt ∧ x2.toInt ≤ 122)) {w_p1 : Bool} {w_p2 : Bool} {ad_p2 : String} {F : List Ent} (mp1 : (p1, w_p1, oString (vr p2) (vi 0)) ∈ F) (mp2 : (p2, w_p2, ar ad_p2 .byte [(vi x1), (vi x2)]) ∈ F) : Con Z EL (⟨"java/lang/String", "isEmpty", "()Z"⟩ : MethodName) jdk_42_method_55_code 1 (Option.some Jvm.ClassFile.FieldType.boolean) (rmm 0 0 0 0) [(vr p1)] (F) (fun v D' => (v = some (vi 0) ∧ F = D')) := by
  refine Con.of (ls := #[rv p1]) (by decide +kernel) rfl ?_
  show W Z EL _ "java/lang/String" "isEmpty" _ _ _ _ _ _ _ _ _ _
  refine W.aloadN (pc := 0) d12_0 rfl rfl ?_
  refine W.getf (pc := 1) d12_1 (w37 hw) Via.refl mp1 m0 ?_
  refine W.alen (pc := 4) (2) d12_4 mp2 rfl ?_
  refine W.ifY (pc := 5) 12 d12_5 (y_ne (by decide)) (by decide) ?_
  refine W.iconst (pc := 12) (0) d12_12 (by decide) ?_
  exact W.ireturn (pc := 13) d12_13 rfl (Or.inr (Or.inl rfl)) (nw_bool (by decide)) (by decide) ⟨rfl, rfl⟩
theorem c92_length {Z a0} (hw : HW a0 Z) (hs : SF Z) {p1 p2 : Addr} {x1 : Int32} (hx1 : (45 ≤ x1.toInt ∧ x1.toInt ≤ 46) ∨ (48 ≤ x1.toInt ∧ x1.toInt ≤ 57) ∨ (65 ≤ x1.toInt ∧ x1.toInt ≤ 90) ∨ x1.toInt = 95 ∨ (97 ≤ x1.toInt ∧ x1.toInt ≤ 122)) {x2 : Int32} (hx2 : (45 ≤ x2.toInt ∧ x2.toInt ≤ 46) ∨ (48 ≤ x2.toInt ∧ x2.toInt ≤ 57) ∨ (65 ≤ x2.toInt ∧ x2.toInt ≤ 90) ∨ x2.toInt = 95 ∨ (97 ≤ x2.toInt ∧ x2.toInt ≤ 122)) {w_p1 : Bool} {w_p2 : Bool} {ad_p2 : String} {F : List Ent} (mp1 : (p1, w_p1, oString (vr p2) (vi 0)) ∈ F) (mp2 : (p2, w_p2, ar ad_p2 .byte [(vi x1), (vi x2)]) ∈ F) : Con Z EL (⟨"java/lang/String", "length", "()I"⟩ : MethodName) jdk_42_method_54_code 1 (Option.some Jvm.ClassFile.FieldType.int) (rmm 1 0 0 13) [(vr p1)] (F) (fun v D' => (v = some (vi 2) ∧ F = D')) := by
  refine Con.of (ls := #[rv p1]) (by decide +kernel) rfl ?_
  show W Z EL _ "java/lang/String" "length" _ _ _ _ _ _ _ _ _ _
  refine W.aloadN (pc := 0) d13_0 rfl rfl ?_
  refine W.getf (pc := 1) d13_1 (w37 hw) Via.refl mp1 m0 ?_
  refine W.alen (pc := 4) (2) d13_4 mp2 rfl ?_
  refine W.aloadN (pc := 5) d13_5 rfl rfl ?_
  refine W.callV (pc := 6) (as := []) 1 [(vi 2)] d13_6 (w67 hw) (w68 hw) (w70 hw) (w70 hw) (w69 hw) (w11 hw) (w71 hw) (Hp.exa mp1) (c30_coder hw hs (mp1 := mp1)) (by decide) pd__B rfl rfl rfl rfl (by decide) (fun v D' h => ?_)
  obtain ⟨rfl, rfl⟩ := h
  show W _ _ _ _ _ _ _ _ _ _ _ _ 9 _ [(vi 0), (vi 2)]
  refine W.ishrK (pc := 9) (2 : Int32) d13_9 (by decide) ?_
  exact W.ireturn (pc := 10) d13_10 rfl (Or.inl rfl) rfl (by decide) ⟨rfl, rfl⟩
theorem c94_charAt {Z a0} (hw : HW a0 Z) (hs : SF Z) {p1 : Addr} {x1 : Int32} (hx1 : (45 ≤ x1.toInt ∧ x1.toInt ≤ 46) ∨ (48 ≤ x1.toInt ∧ x1.toInt ≤ 57) ∨ (65 ≤ x1.toInt ∧ x1.toInt ≤ 90) ∨ x1.toInt = 95 ∨ (97 ≤ x1.toInt ∧ x1.toInt ≤ 122)) {x2 : Int32} (hx2 : (45 ≤ x2.toInt ∧ x2.toInt ≤ 46) ∨ (48 ≤ x2.toInt ∧ x2.toInt ≤ 57) ∨ (65 ≤ x2.toInt ∧ x2.toInt ≤ 90) ∨ x2.toInt = 95 ∨ (97 ≤ x2.toInt ∧ x2.toInt ≤ 122)) {w_p1 : Bool} {ad_p1 : String} {F : List Ent} (mp1 : (p1, w_p1, ar ad_p1 .byte [(vi x1), (vi x2)]) ∈ F) : Con Z EL (⟨"java/lang/StringLatin1", "charAt", "([BI)C"⟩ : MethodName) jdk_43_method_2_code 2 (Option.some Jvm.ClassFile.FieldType.char) (rmm 2 0 0 27) [(vr p1), (vi 0)] (F) (fun v D' => (v = some (vi x1) ∧ F = D')) := by
  refine Con.of (ls := #[rv p1, iv 0]) (by decide +kernel) rfl ?_
  show W Z EL _ "java/lang/StringLatin1" "charAt" _ _ _ _ _ _ _ _ _ _
  refine W.iloadN (pc := 0) d17_0 rfl ?_
  refine W.aloadN (pc := 1) d17_1 rfl rfl ?_
  refine W.alen (pc := 2) (2) d17_2 mp1 rfl ?_
  refine W.callS (pc := 3) (as := [(vi 0), (vi 2)]) 0 [] d17_3 (w86 hw) (w87 hw) (w11 hw) (w88 hw) (c76_checkIndex hw hs) (by decide) pd_II_V rfl rfl rfl rfl (by decide) (fun v D' h => ?_)
  obtain ⟨rfl, rfl⟩ := h
  show W _ _ _ _ _ _ _ _ _ _ _ _ 6 _ []
  refine W.aloadN (pc := 6) d17_6 rfl rfl ?_
  refine W.iloadN (pc := 7) d17_7 rfl ?_
  refine W.baload (pc := 8) 0 d17_8 mp1 ix0 rfl ?_
  refine W.sipush (pc := 9) (255) d17_9 (by decide) ?_
  refine W.iandK (pc := 12) x1 d17_12 (z_and 8 256 (by decide) (by decide) (by decide) (by omega)) ?_
  refine W.i2cK (pc := 13) x1 d17_13 (z_i2c (by omega)) ?_
  exact W.ireturn (pc := 14) d17_14 rfl (Or.inr (Or.inr (Or.inr (Or.inl rfl)))) (nw_char (by omega)) (by decide) ⟨rfl, rfl⟩
theorem c93_charAt {Z a0} (hw : HW a0 Z) (hs : SF Z) {p1 p2 : Addr} {x1 : Int32} (hx1 : (45 ≤ x1.toInt ∧ x1.toInt ≤ 46) ∨ (48 ≤ x1.toInt ∧ x1.toInt ≤ 57) ∨ (65 ≤ x1.toInt ∧ x1.toInt ≤ 90) ∨ x1.toInt = 95 ∨ (97 ≤ x1.toInt ∧ x1.toInt ≤ 122)) {x2 : Int32} (hx2 : (45 ≤ x2.toInt ∧ x2.toInt ≤ 46) ∨ (48 ≤ x2.toInt ∧ x2.toInt ≤ 57) ∨ (65 ≤ x2.toInt ∧ x2.toInt ≤ 90) ∨ x2.toInt = 95 ∨ (97 ≤ x2.toInt ∧ x2.toInt ≤ 122)) {w_p1 : Bool} {w_p2 : Bool} {ad_p2 : String} {F : List Ent} (mp1 : (p1, w_p1, oString (vr p2) (vi 0)) ∈ F) (mp2 : (p2, w_p2, ar ad_p2 .byte [(vi x1), (vi x2)]) ∈ F) : Con Z EL (⟨"java/lang/String", "charAt", "(I)C"⟩ : MethodName) jdk_42_method_56_code 2 (Option.some Jvm.ClassFile.FieldType.char) (rmm 3 0 0 40) [(vr p1), (vi 0)] (F) (fun v D' => (v = some (vi x1) ∧ F = D')) := by
  refine Con.of (ls := #[rv p1, iv 0]) (by decide +kernel) rfl ?_
  show W Z EL _ "java/lang/String" "charAt" _ _ _ _ _ _ _ _ _ _
  refine W.aloadN (pc := 0) d15_0 rfl rfl ?_
  refine W.callV (pc := 1) (as := []) 0 [] d15_1 (w77 hw) (w78 hw) (w80 hw) (w80 hw) (w79 hw) (w11 hw) (w81 hw) (Hp.exa mp1) (c32_isLatin1 hw hs (mp1 := mp1)) (by decide) pd__Z rfl rfl rfl rfl (by decide) (fun v D' h => ?_)
  obtain ⟨rfl, rfl⟩ := h
  show W _ _ _ _ _ _ _ _ _ _ _ _ 4 _ [(vi 1)]
  refine W.ifN (pc := 4) d15_4 (n_eq (by decide)) ?_
  refine W.aloadN (pc := 7) d15_7 rfl rfl ?_
  refine W.getf (pc := 8) d15_8 (w37 hw) Via.refl mp1 m0 ?_
  refine W.iloadN (pc := 11) d15_11 rfl ?_
  refine W.callS (pc := 12) (as := [(vr p2), (vi 0)]) 0 [] d15_12 (w82 hw) (w83 hw) (w84 hw) (w85 hw) (c94_charAt hw hs (hx1 := hx1) (hx2 := hx2) (mp1 := mp2)) (by decide) pd__BI_C rfl rfl rfl rfl (by decide) (fun v D' h => ?_)
  obtain ⟨rfl, rfl⟩ := h
  show W _ _ _ _ _ _ _ _ _ _ _ _ 15 _ [(vi x1)]
  exact W.ireturn (pc := 15) d15_15 rfl (Or.inr (Or.inr (Or.inr (Or.inl rfl)))) (nw_char (by omega)) (by decide) ⟨rfl, rfl⟩
theorem c96_charAt {Z a0} (hw : HW a0 Z) (hs : SF Z) {p1 : Addr} {x1 : Int32} (hx1 : (45 ≤ x1.toInt ∧ x1.toInt ≤ 46) ∨ (48 ≤ x1.toInt ∧ x1.toInt ≤ 57) ∨ (65 ≤ x1.toInt ∧ x1.toInt ≤ 90) ∨ x1.toInt = 95 ∨ (97 ≤ x1.toInt ∧ x1.toInt ≤ 122)) {x2 : Int32} (hx2 : (45 ≤ x2.toInt ∧ x2.toInt ≤ 46) ∨ (48 ≤ x2.toInt ∧ x2.toInt ≤ 57) ∨ (65 ≤ x2.toInt ∧ x2.toInt ≤ 90) ∨ x2.toInt = 95 ∨ (97 ≤ x2.toInt ∧ x2.toInt ≤ 122)) {w_p1 : Bool} {ad_p1 : String} {F : List Ent} (mp1 : (p1, w_p1, ar ad_p1 .byte [(vi x1), (vi x2)]) ∈ F) : Con Z EL (⟨"java/lang/StringLatin1", "charAt", "([BI)C"⟩ : MethodName) jdk_43_method_2_code 2 (Option.some Jvm.ClassFile.FieldType.char) (rmm 2 0 0 27) [(vr p1), (vi 1)] (F) (fun v D' => (v = some (vi x2) ∧ F = D')) := by
  refine Con.of (ls := #[rv p1, iv 1]) (by decide +kernel) rfl ?_
  show W Z EL _ "java/lang/StringLatin1" "charAt" _ _ _ _ _ _ _ _ _ _
  refine W.iloadN (pc := 0) d17_0 rfl ?_
  refine W.aloadN (pc := 1) d17_1 rfl rfl ?_
  refine W.alen (pc := 2) (2) d17_2 mp1 rfl ?_
  refine W.callS (pc := 3) (as := [(vi 1), (vi 2)]) 0 [] d17_3 (w86 hw) (w87 hw) (w11 hw) (w88 hw) (c80_checkIndex hw hs) (by decide) pd_II_V rfl rfl rfl rfl (by decide) (fun v D' h => ?_)
  obtain ⟨rfl, rfl⟩ := h
  show W _ _ _ _ _ _ _ _ _ _ _ _ 6 _ []
  refine W.aloadN (pc := 6) d17_6 rfl rfl ?_
  refine W.iloadN (pc := 7) d17_7 rfl ?_
  refine W.baload (pc := 8) 1 d17_8 mp1 ix1 rfl ?_
  refine W.sipush (pc := 9) (255) d17_9 (by decide) ?_
  refine W.iandK (pc := 12) x2 d17_12 (z_and 8 256 (by decide) (by decide) (by decide) (by omega)) ?_
  refine W.i2cK (pc := 13) x2 d17_13 (z_i2c (by omega)) ?_
  exact W.ireturn (pc := 14) d17_14 rfl (Or.inr (Or.inr (Or.inr (Or.inl rfl)))) (nw_char (by omega)) (by decide) ⟨rfl, rfl⟩
theorem c95_charAt {Z a0} (hw : HW a0 Z) (hs : SF Z) {p1 p2 : Addr} {x1 : Int32} (hx1 : (45 ≤ x1.toInt ∧ x1.toInt ≤ 46) ∨ (48 ≤ x1.toInt ∧ x1.toInt ≤ 57) ∨ (65 ≤ x1.toInt ∧ x1.toInt ≤ 90) ∨ x1.toInt = 95 ∨ (97 ≤ x1.toInt ∧ x1.toInt ≤ 122)) {x2 : Int32} (hx2 : (45 ≤ x2.toInt ∧ x2.toInt ≤ 46) ∨ (48 ≤ x2.toInt ∧ x2.toInt ≤ 57) ∨ (65 ≤ x2.toInt ∧ x2.toInt ≤ 90) ∨ x2.toInt = 95 ∨ (97 ≤ x2.toInt ∧ x2.toInt ≤ 122)) {w_p1 : Bool} {w_p2 : Bool} {ad_p2 : String} {F : List Ent} (mp1 : (p1, w_p1, oString (vr p2) (vi 0)) ∈ F) (mp2 : (p2, w_p2, ar ad_p2 .byte [(vi x1), (vi x2)]) ∈ F) : Con Z EL (⟨"java/lang/String", "charAt", "(I)C"⟩ : MethodName) jdk_42_method_56_code 2 (Option.some Jvm.ClassFile.FieldType.char) (rmm 3 0 0 40) [(vr p1), (vi 1)] (F) (fun v D' => (v = some (vi x2) ∧ F = D')) := by
  refine Con.of (ls := #[rv p1, iv 1]) (by decide +kernel) rfl ?_
  show W Z EL _ "java/lang/String" "charAt" _ _ _ _ _ _ _ _ _ _
  refine W.aloadN (pc := 0) d15_0 rfl rfl ?_
  refine W.callV (pc := 1) (as := []) 0 [] d15_1 (w77 hw) (w78 hw) (w80 hw) (w80 hw) (w79 hw) (w11 hw) (w81 hw) (Hp.exa mp1) (c32_isLatin1 hw hs (mp1 := mp1)) (by decide) pd__Z rfl rfl rfl rfl (by decide) (fun v D' h => ?_)
  obtain ⟨rfl, rfl⟩ := h
  show W _ _ _ _ _ _ _ _ _ _ _ _ 4 _ [(vi 1)]
  refine W.ifN (pc := 4) d15_4 (n_eq (by decide)) ?_
  refine W.aloadN (pc := 7) d15_7 rfl rfl ?_
  refine W.getf (pc := 8) d15_8 (w37 hw) Via.refl mp1 m0 ?_
  refine W.iloadN (pc := 11) d15_11 rfl ?_
  refine W.callS (pc := 12) (as := [(vr p2), (vi 1)]) 0 [] d15_12 (w82 hw) (w83 hw) (w84 hw) (w85 hw) (c96_charAt hw hs (hx1 := hx1) (hx2 := hx2) (mp1 := mp2)) (by decide) pd__BI_C rfl rfl rfl rfl (by decide) (fun v D' h => ?_)
  obtain ⟨rfl, rfl⟩ := h
  show W _ _ _ _ _ _ _ _ _ _ _ _ 15 _ [(vi x2)]
  exact W.ireturn (pc := 15) d15_15 rfl (Or.inr (Or.inr (Or.inr (Or.inl rfl)))) (nw_char (by omega)) (by decide) ⟨rfl, rfl⟩
theorem c90_check {Z a0} (hw : HW a0 Z) (hs : SF Z) {p1 p2 : Addr} {x1 : Int32} (hx1 : (45 ≤ x1.toInt ∧ x1.toInt ≤ 46) ∨ (48 ≤ x1.toInt ∧ x1.toInt ≤ 57) ∨ (65 ≤ x1.toInt ∧ x1.toInt ≤ 90) ∨ x1.toInt = 95 ∨ (97 ≤ x1.toInt ∧ x1.toInt ≤ 122)) {x2 : Int32} (hx2 : (45 ≤ x2.toInt ∧ x2.toInt ≤ 46) ∨ (48 ≤ x2.toInt ∧ x2.toInt ≤ 57) ∨ (65 ≤ x2.toInt ∧ x2.toInt ≤ 90) ∨ x2.toInt = 95 ∨ (97 ≤ x2.toInt ∧ x2.toInt ≤ 122)) {w_p1 : Bool} {w_p2 : Bool} {ad_p2 : String} {w_og1Z : Bool} {w_og2Z : Bool} {w_og3Z : Bool} {ad_og3Z : String} {F : List Ent} (mp1 : (p1, w_p1, oString (vr p2) (vi 0)) ∈ F) (mp2 : (p2, w_p2, ar ad_p2 .byte [(vi x1), (vi x2)]) ∈ F) (mog1Z : ((og1 Z), w_og1Z, oJobKey_NameRule (vi 64) (vr (og2 Z))) ∈ F) (mog2Z : ((og2 Z), w_og2Z, oString (vr (og3 Z)) (vi 0)) ∈ F) (mog3Z : ((og3 Z), w_og3Z, ar ad_og3Z .byte [(vi 46), (vi 95), (vi 45)]) ∈ F) : Con Z EL (⟨"com/example/cunctator/cunctator/JobKey$NameRule", "check", "(Ljava/lang/String;)Ljava/lang/String;"⟩ : MethodName) prog_9_method_2_code 4 (Option.some (Jvm.ClassFile.FieldType.object "java/lang/String")) (rmm 4 0 0 59) [(vr (og1 Z)), (vr p1)] (F) (fun v D' => (v = some (vr p1) ∧ F = D')) := by
  refine Con.of (ls := #[rv (og1 Z), rv p1, uu, uu]) (by decide +kernel) rfl ?_
  show W Z EL _ "com/example/cunctator/cunctator/JobKey$NameRule" "check" _ _ _ _ _ _ _ _ _ _
  refine W.aloadN (pc := 0) d11_0 rfl rfl ?_
  refine W.ifnonnullY (pc := 1) 11 d11_1 (by decide) ?_
  refine W.aloadN (pc := 11) d11_11 rfl rfl ?_
  refine W.callV (pc := 12) (as := []) 0 [] d11_12 (w57 hw) (w58 hw) (w60 hw) (w60 hw) (w59 hw) (w11 hw) (w61 hw) (Hp.exa mp1) (c91_isEmpty hw hs (hx1 := hx1) (hx2 := hx2) (mp1 := mp1) (mp2 := mp2)) (by decide) pd__Z rfl rfl rfl rfl (by decide) (fun v D' h => ?_)
  obtain ⟨rfl, rfl⟩ := h
  show W _ _ _ _ _ _ _ _ _ _ _ _ 15 _ [(vi 0)]
  refine W.ifY (pc := 15) 25 d11_15 (y_eq (by decide)) (by decide) ?_
  refine W.iconst (pc := 25) (0) d11_25 (by decide) ?_
  refine W.istoreN (pc := 26) (ls' := #[rv (og1 Z), rv p1, iv 0, uu]) d11_26 rfl ?_
  refine W.iloadN (pc := 27) d11_27 rfl ?_
  refine W.aloadN (pc := 28) d11_28 rfl rfl ?_
  refine W.callV (pc := 29) (as := []) 1 [(vi 0)] d11_29 (w62 hw) (w63 hw) (w65 hw) (w65 hw) (w64 hw) (w11 hw) (w66 hw) (Hp.exa mp1) (c92_length hw hs (hx1 := hx1) (hx2 := hx2) (mp1 := mp1) (mp2 := mp2)) (by decide) pd__I rfl rfl rfl rfl (by decide) (fun v D' h => ?_)
  obtain ⟨rfl, rfl⟩ := h
  show W _ _ _ _ _ _ _ _ _ _ _ _ 32 _ [(vi 2), (vi 0)]
  refine W.icmpN (pc := 32) d11_32 (n_ge (by decide)) ?_
  have K2 : W Z EL (rmm 4 0 0 59) "com/example/cunctator/cunctator/JobKey$NameRule" "check" prog_9_method_2_code 4 (Option.some (Jvm.ClassFile.FieldType.object "java/lang/String")) (fun v D' => (v = some (vr p1) ∧ F = D')) (F) 0 0 84 #[rv (og1 Z), rv p1, iv 0, iv x1] [] := by
   refine W.iincK (pc := 84) (ls' := #[rv (og1 Z), rv p1, iv 1, iv x1]) (1) (1 : Int32) d11_84 (by decide) rfl (by decide) rfl ?_
   refine W.goto (pc := 87) 27 d11_87 (by decide) ?_
   refine W.iloadN (pc := 27) d11_27 rfl ?_
   refine W.aloadN (pc := 28) d11_28 rfl rfl ?_
   refine W.callV (pc := 29) (as := []) 1 [(vi 1)] d11_29 (w62 hw) (w63 hw) (w65 hw) (w65 hw) (w64 hw) (w11 hw) (w66 hw) (Hp.exa mp1) (c92_length hw hs (hx1 := hx1) (hx2 := hx2) (mp1 := mp1) (mp2 := mp2)) (by decide) pd__I rfl rfl rfl rfl (by decide) (fun v D' h => ?_)
   obtain ⟨rfl, rfl⟩ := h
   show W _ _ _ _ _ _ _ _ _ _ _ _ 32 _ [(vi 2), (vi 1)]
   refine W.icmpN (pc := 32) d11_32 (n_ge (by decide)) ?_
   refine W.aloadN (pc := 35) d11_35 rfl rfl ?_
   refine W.iloadN (pc := 36) d11_36 rfl ?_
   refine W.callV (pc := 37) (as := [(vi 1)]) 0 [] d11_37 (w72 hw) (w73 hw) (w75 hw) (w75 hw) (w74 hw) (w11 hw) (w76 hw) (Hp.exa mp1) (c95_charAt hw hs (hx1 := hx1) (hx2 := hx2) (mp1 := mp1) (mp2 := mp2)) (by decide) pd_I_C rfl rfl rfl rfl (by decide) (fun v D' h => ?_)
   obtain ⟨rfl, rfl⟩ := h
   show W _ _ _ _ _ _ _ _ _ _ _ _ 40 _ [(vi x2)]
   refine W.istoreN (pc := 40) (ls' := #[rv (og1 Z), rv p1, iv 1, iv x2]) d11_40 rfl ?_
   refine W.iloadN (pc := 41) d11_41 rfl ?_
   refine W.callSN (pc := 42) (as := [(vi x2)]) 0 [] d11_42 (w94 hw) (w95 hw) (w41 hw) (w96 hw) (c36_isAsciiLetterOrDigit hw hs (hx1 := hx2)) (by decide) pd_C_Z rfl rfl rfl rfl (by decide) (fun v D' h => ?_)
   rcases h with ⟨h1, h2, rfl, rfl⟩ | ⟨h3, h4, rfl, rfl⟩ | ⟨h5, h6, rfl, rfl⟩ | ⟨h7, h8, h9, rfl, rfl⟩ | ⟨h10, h11, h12, rfl, rfl⟩
   ·
    have ih1 := t_lt h1
    have ih2 := t_lt h2
    show W _ _ _ _ _ _ _ _ _ _ _ _ 45 _ [(vi 0)]
    refine W.ifN (pc := 45) d11_45 (n_ne (by decide)) ?_
    refine W.aloadN (pc := 48) d11_48 rfl rfl ?_
    refine W.getf (pc := 49) d11_49 (w129 hw) Via.refl mog1Z m1 ?_
    refine W.iloadN (pc := 52) d11_52 rfl ?_
    refine W.callV (pc := 53) (as := [(vi x2)]) 0 [] d11_53 (w131 hw) (w132 hw) (w134 hw) (w134 hw) (w133 hw) (w11 hw) (w135 hw) (Hp.exa mog2Z) (c37_indexOf hw hs (hx1 := hx2) (mog2Z := mog2Z) (mog3Z := mog3Z)) (by decide) pd_I_I rfl rfl rfl rfl (by decide) (fun v D' h => ?_)
    rcases h with ⟨h13, h14, h15, rfl, rfl⟩ | ⟨h16, h17, h18, rfl, rfl⟩ | ⟨h19, h20, rfl, rfl⟩ | ⟨h21, rfl, rfl⟩
    ·
     have ih13 := t_ne h13
     have ih14 := t_ne h14
     exact absurd h15 (n_ne (by have := q45; have := q65; have := q48; have := q46; have := q95; omega))
    ·
     have ih16 := t_ne h16
     have ih17 := t_ne h17
     have ih18 := f_ne h18
     show W _ _ _ _ _ _ _ _ _ _ _ _ 56 _ [(vi 2)]
     refine W.ifY (pc := 56) 84 d11_56 (y_ge (by decide)) (by decide) ?_
     refine W.iincK (pc := 84) (ls' := #[rv (og1 Z), rv p1, iv 2, iv x2]) (1) (2 : Int32) d11_84 (by decide) rfl (by decide) rfl ?_
     refine W.goto (pc := 87) 27 d11_87 (by decide) ?_
     refine W.iloadN (pc := 27) d11_27 rfl ?_
     refine W.aloadN (pc := 28) d11_28 rfl rfl ?_
     refine W.callV (pc := 29) (as := []) 1 [(vi 2)] d11_29 (w62 hw) (w63 hw) (w65 hw) (w65 hw) (w64 hw) (w11 hw) (w66 hw) (Hp.exa mp1) (c92_length hw hs (hx1 := hx1) (hx2 := hx2) (mp1 := mp1) (mp2 := mp2)) (by decide) pd__I rfl rfl rfl rfl (by decide) (fun v D' h => ?_)
     obtain ⟨rfl, rfl⟩ := h
     show W _ _ _ _ _ _ _ _ _ _ _ _ 32 _ [(vi 2), (vi 2)]
     refine W.icmpY (pc := 32) 90 d11_32 (y_ge (by decide)) (by decide) ?_
     refine W.aloadN (pc := 90) d11_90 rfl rfl ?_
     refine W.callV (pc := 91) (as := []) 0 [] d11_91 (w62 hw) (w63 hw) (w65 hw) (w65 hw) (w64 hw) (w11 hw) (w66 hw) (Hp.exa mp1) (c92_length hw hs (hx1 := hx1) (hx2 := hx2) (mp1 := mp1) (mp2 := mp2)) (by decide) pd__I rfl rfl rfl rfl (by decide) (fun v D' h => ?_)
     obtain ⟨rfl, rfl⟩ := h
     show W _ _ _ _ _ _ _ _ _ _ _ _ 94 _ [(vi 2)]
     refine W.aloadN (pc := 94) d11_94 rfl rfl ?_
     refine W.getf (pc := 95) d11_95 (w97 hw) Via.refl mog1Z m0 ?_
     refine W.icmpY (pc := 98) 115 d11_98 (y_le (by decide)) (by decide) ?_
     refine W.aloadN (pc := 115) d11_115 rfl rfl ?_
     exact W.areturn (pc := 116) d11_116 rfl rfl rfl (by decide) ⟨rfl, rfl⟩
    ·
     have ih19 := t_ne h19
     exact absurd h20 (Classical.not_not.mpr (y_ne (by have := q95; have := q65; have := q48; have := q46; omega)))
    ·
     have ih21 := f_ne h21
     show W _ _ _ _ _ _ _ _ _ _ _ _ 56 _ [(vi 0)]
     refine W.ifY (pc := 56) 84 d11_56 (y_ge (by decide)) (by decide) ?_
     refine W.iincK (pc := 84) (ls' := #[rv (og1 Z), rv p1, iv 2, iv x2]) (1) (2 : Int32) d11_84 (by decide) rfl (by decide) rfl ?_
     refine W.goto (pc := 87) 27 d11_87 (by decide) ?_
     refine W.iloadN (pc := 27) d11_27 rfl ?_
     refine W.aloadN (pc := 28) d11_28 rfl rfl ?_
     refine W.callV (pc := 29) (as := []) 1 [(vi 2)] d11_29 (w62 hw) (w63 hw) (w65 hw) (w65 hw) (w64 hw) (w11 hw) (w66 hw) (Hp.exa mp1) (c92_length hw hs (hx1 := hx1) (hx2 := hx2) (mp1 := mp1) (mp2 := mp2)) (by decide) pd__I rfl rfl rfl rfl (by decide) (fun v D' h => ?_)
     obtain ⟨rfl, rfl⟩ := h
     show W _ _ _ _ _ _ _ _ _ _ _ _ 32 _ [(vi 2), (vi 2)]
     refine W.icmpY (pc := 32) 90 d11_32 (y_ge (by decide)) (by decide) ?_
     refine W.aloadN (pc := 90) d11_90 rfl rfl ?_
     refine W.callV (pc := 91) (as := []) 0 [] d11_91 (w62 hw) (w63 hw) (w65 hw) (w65 hw) (w64 hw) (w11 hw) (w66 hw) (Hp.exa mp1) (c92_length hw hs (hx1 := hx1) (hx2 := hx2) (mp1 := mp1) (mp2 := mp2)) (by decide) pd__I rfl rfl rfl rfl (by decide) (fun v D' h => ?_)
     obtain ⟨rfl, rfl⟩ := h
     show W _ _ _ _ _ _ _ _ _ _ _ _ 94 _ [(vi 2)]
     refine W.aloadN (pc := 94) d11_94 rfl rfl ?_
     refine W.getf (pc := 95) d11_95 (w97 hw) Via.refl mog1Z m0 ?_
     refine W.icmpY (pc := 98) 115 d11_98 (y_le (by decide)) (by decide) ?_
     refine W.aloadN (pc := 115) d11_115 rfl rfl ?_
     exact W.areturn (pc := 116) d11_116 rfl rfl rfl (by decide) ⟨rfl, rfl⟩
   ·
    have ih3 := t_lt h3
    have ih4 := f_lt h4
    show W _ _ _ _ _ _ _ _ _ _ _ _ 45 _ [(vi 1)]
    refine W.ifY (pc := 45) 84 d11_45 (y_ne (by decide)) (by decide) ?_
    refine W.iincK (pc := 84) (ls' := #[rv (og1 Z), rv p1, iv 2, iv x2]) (1) (2 : Int32) d11_84 (by decide) rfl (by decide) rfl ?_
    refine W.goto (pc := 87) 27 d11_87 (by decide) ?_
    refine W.iloadN (pc := 27) d11_27 rfl ?_
    refine W.aloadN (pc := 28) d11_28 rfl rfl ?_
    refine W.callV (pc := 29) (as := []) 1 [(vi 2)] d11_29 (w62 hw) (w63 hw) (w65 hw) (w65 hw) (w64 hw) (w11 hw) (w66 hw) (Hp.exa mp1) (c92_length hw hs (hx1 := hx1) (hx2 := hx2) (mp1 := mp1) (mp2 := mp2)) (by decide) pd__I rfl rfl rfl rfl (by decide) (fun v D' h => ?_)
    obtain ⟨rfl, rfl⟩ := h
    show W _ _ _ _ _ _ _ _ _ _ _ _ 32 _ [(vi 2), (vi 2)]
    refine W.icmpY (pc := 32) 90 d11_32 (y_ge (by decide)) (by decide) ?_
    refine W.aloadN (pc := 90) d11_90 rfl rfl ?_
    refine W.callV (pc := 91) (as := []) 0 [] d11_91 (w62 hw) (w63 hw) (w65 hw) (w65 hw) (w64 hw) (w11 hw) (w66 hw) (Hp.exa mp1) (c92_length hw hs (hx1 := hx1) (hx2 := hx2) (mp1 := mp1) (mp2 := mp2)) (by decide) pd__I rfl rfl rfl rfl (by decide) (fun v D' h => ?_)
    obtain ⟨rfl, rfl⟩ := h
    show W _ _ _ _ _ _ _ _ _ _ _ _ 94 _ [(vi 2)]
    refine W.aloadN (pc := 94) d11_94 rfl rfl ?_
    refine W.getf (pc := 95) d11_95 (w97 hw) Via.refl mog1Z m0 ?_
    refine W.icmpY (pc := 98) 115 d11_98 (y_le (by decide)) (by decide) ?_
    refine W.aloadN (pc := 115) d11_115 rfl rfl ?_
    exact W.areturn (pc := 116) d11_116 rfl rfl rfl (by decide) ⟨rfl, rfl⟩
   ·
    have ih5 := f_lt h5
    have ih6 := t_le h6
    show W _ _ _ _ _ _ _ _ _ _ _ _ 45 _ [(vi 1)]
    refine W.ifY (pc := 45) 84 d11_45 (y_ne (by decide)) (by decide) ?_
    refine W.iincK (pc := 84) (ls' := #[rv (og1 Z), rv p1, iv 2, iv x2]) (1) (2 : Int32) d11_84 (by decide) rfl (by decide) rfl ?_
    refine W.goto (pc := 87) 27 d11_87 (by decide) ?_
    refine W.iloadN (pc := 27) d11_27 rfl ?_
    refine W.aloadN (pc := 28) d11_28 rfl rfl ?_
    refine W.callV (pc := 29) (as := []) 1 [(vi 2)] d11_29 (w62 hw) (w63 hw) (w65 hw) (w65 hw) (w64 hw) (w11 hw) (w66 hw) (Hp.exa mp1) (c92_length hw hs (hx1 := hx1) (hx2 := hx2) (mp1 := mp1) (mp2 := mp2)) (by decide) pd__I rfl rfl rfl rfl (by decide) (fun v D' h => ?_)
    obtain ⟨rfl, rfl⟩ := h
    show W _ _ _ _ _ _ _ _ _ _ _ _ 32 _ [(vi 2), (vi 2)]
    refine W.icmpY (pc := 32) 90 d11_32 (y_ge (by decide)) (by decide) ?_
    refine W.aloadN (pc := 90) d11_90 rfl rfl ?_
    refine W.callV (pc := 91) (as := []) 0 [] d11_91 (w62 hw) (w63 hw) (w65 hw) (w65 hw) (w64 hw) (w11 hw) (w66 hw) (Hp.exa mp1) (c92_length hw hs (hx1 := hx1) (hx2 := hx2) (mp1 := mp1) (mp2 := mp2)) (by decide) pd__I rfl rfl rfl rfl (by decide) (fun v D' h => ?_)
    obtain ⟨rfl, rfl⟩ := h
    show W _ _ _ _ _ _ _ _ _ _ _ _ 94 _ [(vi 2)]
    refine W.aloadN (pc := 94) d11_94 rfl rfl ?_
    refine W.getf (pc := 95) d11_95 (w97 hw) Via.refl mog1Z m0 ?_
    refine W.icmpY (pc := 98) 115 d11_98 (y_le (by decide)) (by decide) ?_
    refine W.aloadN (pc := 115) d11_115 rfl rfl ?_
    exact W.areturn (pc := 116) d11_116 rfl rfl rfl (by decide) ⟨rfl, rfl⟩
   ·
    have ih7 := f_lt h7
    have ih8 := f_le h8
    have ih9 := t_lt h9
    show W _ _ _ _ _ _ _ _ _ _ _ _ 45 _ [(vi 0)]
    refine W.ifN (pc := 45) d11_45 (n_ne (by decide)) ?_
    refine W.aloadN (pc := 48) d11_48 rfl rfl ?_
    refine W.getf (pc := 49) d11_49 (w129 hw) Via.refl mog1Z m1 ?_
    refine W.iloadN (pc := 52) d11_52 rfl ?_
    refine W.callV (pc := 53) (as := [(vi x2)]) 0 [] d11_53 (w131 hw) (w132 hw) (w134 hw) (w134 hw) (w133 hw) (w11 hw) (w135 hw) (Hp.exa mog2Z) (c37_indexOf hw hs (hx1 := hx2) (mog2Z := mog2Z) (mog3Z := mog3Z)) (by decide) pd_I_I rfl rfl rfl rfl (by decide) (fun v D' h => ?_)
    rcases h with ⟨h22, h23, h24, rfl, rfl⟩ | ⟨h25, h26, h27, rfl, rfl⟩ | ⟨h28, h29, rfl, rfl⟩ | ⟨h30, rfl, rfl⟩
    ·
     have ih22 := t_ne h22
     exact absurd h23 (n_ne (by have := q95; have := q65; have := q90; have := q97; have := q46; omega))
    ·
     have ih25 := t_ne h25
     exact absurd h26 (n_ne (by have := q95; have := q65; have := q90; have := q97; have := q46; omega))
    ·
     have ih28 := t_ne h28
     have ih29 := f_ne h29
     show W _ _ _ _ _ _ _ _ _ _ _ _ 56 _ [(vi 1)]
     refine W.ifY (pc := 56) 84 d11_56 (y_ge (by decide)) (by decide) ?_
     refine W.iincK (pc := 84) (ls' := #[rv (og1 Z), rv p1, iv 2, iv x2]) (1) (2 : Int32) d11_84 (by decide) rfl (by decide) rfl ?_
     refine W.goto (pc := 87) 27 d11_87 (by decide) ?_
     refine W.iloadN (pc := 27) d11_27 rfl ?_
     refine W.aloadN (pc := 28) d11_28 rfl rfl ?_
     refine W.callV (pc := 29) (as := []) 1 [(vi 2)] d11_29 (w62 hw) (w63 hw) (w65 hw) (w65 hw) (w64 hw) (w11 hw) (w66 hw) (Hp.exa mp1) (c92_length hw hs (hx1 := hx1) (hx2 := hx2) (mp1 := mp1) (mp2 := mp2)) (by decide) pd__I rfl rfl rfl rfl (by decide) (fun v D' h => ?_)
     obtain ⟨rfl, rfl⟩ := h
     show W _ _ _ _ _ _ _ _ _ _ _ _ 32 _ [(vi 2), (vi 2)]
     refine W.icmpY (pc := 32) 90 d11_32 (y_ge (by decide)) (by decide) ?_
     refine W.aloadN (pc := 90) d11_90 rfl rfl ?_
     refine W.callV (pc := 91) (as := []) 0 [] d11_91 (w62 hw) (w63 hw) (w65 hw) (w65 hw) (w64 hw) (w11 hw) (w66 hw) (Hp.exa mp1) (c92_length hw hs (hx1 := hx1) (hx2 := hx2) (mp1 := mp1) (mp2 := mp2)) (by decide) pd__I rfl rfl rfl rfl (by decide) (fun v D' h => ?_)
     obtain ⟨rfl, rfl⟩ := h
     show W _ _ _ _ _ _ _ _ _ _ _ _ 94 _ [(vi 2)]
     refine W.aloadN (pc := 94) d11_94 rfl rfl ?_
     refine W.getf (pc := 95) d11_95 (w97 hw) Via.refl mog1Z m0 ?_
     refine W.icmpY (pc := 98) 115 d11_98 (y_le (by decide)) (by decide) ?_
     refine W.aloadN (pc := 115) d11_115 rfl rfl ?_
     exact W.areturn (pc := 116) d11_116 rfl rfl rfl (by decide) ⟨rfl, rfl⟩
    ·
     exact absurd h30 (Classical.not_not.mpr (y_ne (by have := q46; have := q65; have := q90; have := q97; omega)))
   ·
    have ih10 := f_lt h10
    have ih11 := f_le h11
    have ih12 := f_lt h12
    show W _ _ _ _ _ _ _ _ _ _ _ _ 45 _ [(vi 1)]
    refine W.ifY (pc := 45) 84 d11_45 (y_ne (by decide)) (by decide) ?_
    refine W.iincK (pc := 84) (ls' := #[rv (og1 Z), rv p1, iv 2, iv x2]) (1) (2 : Int32) d11_84 (by decide) rfl (by decide) rfl ?_
    refine W.goto (pc := 87) 27 d11_87 (by decide) ?_
    refine W.iloadN (pc := 27) d11_27 rfl ?_
    refine W.aloadN (pc := 28) d11_28 rfl rfl ?_
    refine W.callV (pc := 29) (as := []) 1 [(vi 2)] d11_29 (w62 hw) (w63 hw) (w65 hw) (w65 hw) (w64 hw) (w11 hw) (w66 hw) (Hp.exa mp1) (c92_length hw hs (hx1 := hx1) (hx2 := hx2) (mp1 := mp1) (mp2 := mp2)) (by decide) pd__I rfl rfl rfl rfl (by decide) (fun v D' h => ?_)
    obtain ⟨rfl, rfl⟩ := h
    show W _ _ _ _ _ _ _ _ _ _ _ _ 32 _ [(vi 2), (vi 2)]
    refine W.icmpY (pc := 32) 90 d11_32 (y_ge (by decide)) (by decide) ?_
    refine W.aloadN (pc := 90) d11_90 rfl rfl ?_
    refine W.callV (pc := 91) (as := []) 0 [] d11_91 (w62 hw) (w63 hw) (w65 hw) (w65 hw) (w64 hw) (w11 hw) (w66 hw) (Hp.exa mp1) (c92_length hw hs (hx1 := hx1) (hx2 := hx2) (mp1 := mp1) (mp2 := mp2)) (by decide) pd__I rfl rfl rfl rfl (by decide) (fun v D' h => ?_)
    obtain ⟨rfl, rfl⟩ := h
    show W _ _ _ _ _ _ _ _ _ _ _ _ 94 _ [(vi 2)]
    refine W.aloadN (pc := 94) d11_94 rfl rfl ?_
    refine W.getf (pc := 95) d11_95 (w97 hw) Via.refl mog1Z m0 ?_
    refine W.icmpY (pc := 98) 115 d11_98 (y_le (by decide)) (by decide) ?_
    refine W.aloadN (pc := 115) d11_115 rfl rfl ?_
    exact W.areturn (pc := 116) d11_116 rfl rfl rfl (by decide) ⟨rfl, rfl⟩
  refine W.aloadN (pc := 35) d11_35 rfl rfl ?_
  refine W.iloadN (pc := 36) d11_36 rfl ?_
  refine W.callV (pc := 37) (as := [(vi 0)]) 0 [] d11_37 (w72 hw) (w73 hw) (w75 hw) (w75 hw) (w74 hw) (w11 hw) (w76 hw) (Hp.exa mp1) (c93_charAt hw hs (hx1 := hx1) (hx2 := hx2) (mp1 := mp1) (mp2 := mp2)) (by decide) pd_I_C rfl rfl rfl rfl (by decide) (fun v D' h => ?_)
  obtain ⟨rfl, rfl⟩ := h
  show W _ _ _ _ _ _ _ _ _ _ _ _ 40 _ [(vi x1)]
  refine W.istoreN (pc := 40) (ls' := #[rv (og1 Z), rv p1, iv 0, iv x1]) d11_40 rfl ?_
  refine W.iloadN (pc := 41) d11_41 rfl ?_
  refine W.callSN (pc := 42) (as := [(vi x1)]) 0 [] d11_42 (w94 hw) (w95 hw) (w41 hw) (w96 hw) (c36_isAsciiLetterOrDigit hw hs (hx1 := hx1)) (by decide) pd_C_Z rfl rfl rfl rfl (by decide) (fun v D' h => ?_)
  rcases h with ⟨h31, h32, rfl, rfl⟩ | ⟨h33, h34, rfl, rfl⟩ | ⟨h35, h36, rfl, rfl⟩ | ⟨h37, h38, h39, rfl, rfl⟩ | ⟨h40, h41, h42, rfl, rfl⟩
  ·
   have ih31 := t_lt h31
   have ih32 := t_lt h32
   show W _ _ _ _ _ _ _ _ _ _ _ _ 45 _ [(vi 0)]
   refine W.ifN (pc := 45) d11_45 (n_ne (by decide)) ?_
   refine W.aloadN (pc := 48) d11_48 rfl rfl ?_
   refine W.getf (pc := 49) d11_49 (w129 hw) Via.refl mog1Z m1 ?_
   refine W.iloadN (pc := 52) d11_52 rfl ?_
   refine W.callV (pc := 53) (as := [(vi x1)]) 0 [] d11_53 (w131 hw) (w132 hw) (w134 hw) (w134 hw) (w133 hw) (w11 hw) (w135 hw) (Hp.exa mog2Z) (c37_indexOf hw hs (hx1 := hx1) (mog2Z := mog2Z) (mog3Z := mog3Z)) (by decide) pd_I_I rfl rfl rfl rfl (by decide) (fun v D' h => ?_)
   rcases h with ⟨h43, h44, h45, rfl, rfl⟩ | ⟨h46, h47, h48, rfl, rfl⟩ | ⟨h49, h50, rfl, rfl⟩ | ⟨h51, rfl, rfl⟩
   ·
    have ih43 := t_ne h43
    have ih44 := t_ne h44
    exact absurd h45 (n_ne (by have := q45; have := q65; have := q48; have := q46; have := q95; omega))
   ·
    have ih46 := t_ne h46
    have ih47 := t_ne h47
    have ih48 := f_ne h48
    show W _ _ _ _ _ _ _ _ _ _ _ _ 56 _ [(vi 2)]
    refine W.ifY (pc := 56) 84 d11_56 (y_ge (by decide)) (by decide) ?_
    exact W.mono (by decide) (by decide) (K2  )
   ·
    have ih49 := t_ne h49
    exact absurd h50 (Classical.not_not.mpr (y_ne (by have := q95; have := q65; have := q48; have := q46; omega)))
   ·
    have ih51 := f_ne h51
    show W _ _ _ _ _ _ _ _ _ _ _ _ 56 _ [(vi 0)]
    refine W.ifY (pc := 56) 84 d11_56 (y_ge (by decide)) (by decide) ?_
    exact W.mono (by decide) (by decide) (K2  )
  ·
   have ih33 := t_lt h33
   have ih34 := f_lt h34
   show W _ _ _ _ _ _ _ _ _ _ _ _ 45 _ [(vi 1)]
   refine W.ifY (pc := 45) 84 d11_45 (y_ne (by decide)) (by decide) ?_
   exact W.mono (by decide) (by decide) (K2  )
  ·
   have ih35 := f_lt h35
   have ih36 := t_le h36
   show W _ _ _ _ _ _ _ _ _ _ _ _ 45 _ [(vi 1)]
   refine W.ifY (pc := 45) 84 d11_45 (y_ne (by decide)) (by decide) ?_
   exact W.mono (by decide) (by decide) (K2  )
  ·
   have ih37 := f_lt h37
   have ih38 := f_le h38
   have ih39 := t_lt h39
   show W _ _ _ _ _ _ _ _ _ _ _ _ 45 _ [(vi 0)]
   refine W.ifN (pc := 45) d11_45 (n_ne (by decide)) ?_
   refine W.aloadN (pc := 48) d11_48 rfl rfl ?_
   refine W.getf (pc := 49) d11_49 (w129 hw) Via.refl mog1Z m1 ?_
   refine W.iloadN (pc := 52) d11_52 rfl ?_
   refine W.callV (pc := 53) (as := [(vi x1)]) 0 [] d11_53 (w131 hw) (w132 hw) (w134 hw) (w134 hw) (w133 hw) (w11 hw) (w135 hw) (Hp.exa mog2Z) (c37_indexOf hw hs (hx1 := hx1) (mog2Z := mog2Z) (mog3Z := mog3Z)) (by decide) pd_I_I rfl rfl rfl rfl (by decide) (fun v D' h => ?_)
   rcases h with ⟨h52, h53, h54, rfl, rfl⟩ | ⟨h55, h56, h57, rfl, rfl⟩ | ⟨h58, h59, rfl, rfl⟩ | ⟨h60, rfl, rfl⟩
   ·
    have ih52 := t_ne h52
    exact absurd h53 (n_ne (by have := q95; have := q65; have := q90; have := q97; have := q46; omega))
   ·
    have ih55 := t_ne h55
    exact absurd h56 (n_ne (by have := q95; have := q65; have := q90; have := q97; have := q46; omega))
   ·
    have ih58 := t_ne h58
    have ih59 := f_ne h59
    show W _ _ _ _ _ _ _ _ _ _ _ _ 56 _ [(vi 1)]
    refine W.ifY (pc := 56) 84 d11_56 (y_ge (by decide)) (by decide) ?_
    exact W.mono (by decide) (by decide) (K2  )
   ·
    exact absurd h60 (Classical.not_not.mpr (y_ne (by have := q46; have := q65; have := q90; have := q97; omega)))
  ·
   have ih40 := f_lt h40
   have ih41 := f_le h41
   have ih42 := f_lt h42
   show W _ _ _ _ _ _ _ _ _ _ _ _ 45 _ [(vi 1)]
   refine W.ifY (pc := 45) 84 d11_45 (y_ne (by decide)) (by decide) ?_
   exact W.mono (by decide) (by decide) (K2  )
theorem c89_checkTopic {Z a0} (hw : HW a0 Z) (hs : SF Z) {p1 p2 : Addr} {x1 : Int32} (hx1 : (45 ≤ x1.toInt ∧ x1.toInt ≤ 46) ∨ (48 ≤ x1.toInt ∧ x1.toInt ≤ 57) ∨ (65 ≤ x1.toInt ∧ x1.toInt ≤ 90) ∨ x1.toInt = 95 ∨ (97 ≤ x1.toInt ∧ x1.toInt ≤ 122)) {x2 : Int32} (hx2 : (45 ≤ x2.toInt ∧ x2.toInt ≤ 46) ∨ (48 ≤ x2.toInt ∧ x2.toInt ≤ 57) ∨ (65 ≤ x2.toInt ∧ x2.toInt ≤ 90) ∨ x2.toInt = 95 ∨ (97 ≤ x2.toInt ∧ x2.toInt ≤ 122)) {w_og1Z : Bool} {w_p1 : Bool} {w_p2 : Bool} {ad_p2 : String} {w_og2Z : Bool} {w_og3Z : Bool} {ad_og3Z : String} {F : List Ent} (mog1Z : ((og1 Z), w_og1Z, oJobKey_NameRule (vi 64) (vr (og2 Z))) ∈ F) (mp1 : (p1, w_p1, oString (vr p2) (vi 0)) ∈ F) (mp2 : (p2, w_p2, ar ad_p2 .byte [(vi x1), (vi x2)]) ∈ F) (mog2Z : ((og2 Z), w_og2Z, oString (vr (og3 Z)) (vi 0)) ∈ F) (mog3Z : ((og3 Z), w_og3Z, ar ad_og3Z .byte [(vi 46), (vi 95), (vi 45)]) ∈ F) : Con Z EL (⟨"com/example/cunctator/cunctator/JobKey", "checkTopic", "(Ljava/lang/String;)Ljava/lang/String;"⟩ : MethodName) prog_8_method_2_code 1 (Option.some (Jvm.ClassFile.FieldType.object "java/lang/String")) (rmm 5 0 0 74) [(vr p1)] (F) (fun v D' => (v = some (vr p1) ∧ F = D')) := by
  refine Con.of (ls := #[rv p1]) (by decide +kernel) rfl ?_
  show W Z EL _ "com/example/cunctator/cunctator/JobKey" "checkTopic" _ _ _ _ _ _ _ _ _ _
  refine W.gets (pc := 0) d10_0 (w49 hw) Via.refl hs.2.2.2.2.1 ?_
  refine W.aloadN (pc := 3) d10_3 rfl rfl ?_
  refine W.callV (pc := 4) (as := [(vr p1)]) 0 [] d10_4 (w51 hw) (w52 hw) (w54 hw) (w54 hw) (w53 hw) (w55 hw) (w56 hw) (Hp.exa mog1Z) (c90_check hw hs (hx1 := hx1) (hx2 := hx2) (mp1 := mp1) (mp2 := mp2) (mog1Z := mog1Z) (mog2Z := mog2Z) (mog3Z := mog3Z)) (by decide) pd_Ljava_lang_String__Ljava_lang_String_ rfl rfl rfl rfl (by decide) (fun v D' h => ?_)
  obtain ⟨rfl, rfl⟩ := h
  show W _ _ _ _ _ _ _ _ _ _ _ _ 7 _ [(vr p1)]
  exact W.areturn (pc := 7) d10_7 rfl rfl rfl (by decide) ⟨rfl, rfl⟩
theorem c88_init {Z a0} (hw : HW a0 Z) (hs : SF Z) {p1 p2 p3 p4 p5 : Addr} {x1 : Int32} (hx1 : (45 ≤ x1.toInt ∧ x1.toInt ≤ 46) ∨ (48 ≤ x1.toInt ∧ x1.toInt ≤ 57) ∨ (65 ≤ x1.toInt ∧ x1.toInt ≤ 90) ∨ x1.toInt = 95 ∨ (97 ≤ x1.toInt ∧ x1.toInt ≤ 122)) {x2 : Int32} (hx2 : (45 ≤ x2.toInt ∧ x2.toInt ≤ 46) ∨ (48 ≤ x2.toInt ∧ x2.toInt ≤ 57) ∨ (65 ≤ x2.toInt ∧ x2.toInt ≤ 90) ∨ x2.toInt = 95 ∨ (97 ≤ x2.toInt ∧ x2.toInt ≤ 122)) {x3 : Int32} (hx3 : (45 ≤ x3.toInt ∧ x3.toInt ≤ 46) ∨ (48 ≤ x3.toInt ∧ x3.toInt ≤ 58) ∨ (65 ≤ x3.toInt ∧ x3.toInt ≤ 90) ∨ x3.toInt = 95 ∨ (97 ≤ x3.toInt ∧ x3.toInt ≤ 122)) {w_og1Z : Bool} {w_p2 : Bool} {w_p4 : Bool} {ad_p4 : String} {w_og2Z : Bool} {w_og3Z : Bool} {ad_og3Z : String} {w_og4Z : Bool} {w_p3 : Bool} {w_p5 : Bool} {ad_p5 : String} {w_og5Z : Bool} {w_og6Z : Bool} {ad_og6Z : String} {F : List Ent} (mog1Z : ((og1 Z), w_og1Z, oJobKey_NameRule (vi 64) (vr (og2 Z))) ∈ F) (mp2 : (p2, w_p2, oString (vr p4) (vi 0)) ∈ F) (mp4 : (p4, w_p4, ar ad_p4 .byte [(vi x1), (vi x2)]) ∈ F) (mog2Z : ((og2 Z), w_og2Z, oString (vr (og3 Z)) (vi 0)) ∈ F) (mog3Z : ((og3 Z), w_og3Z, ar ad_og3Z .byte [(vi 46), (vi 95), (vi 45)]) ∈ F) (mog4Z : ((og4 Z), w_og4Z, oJobKey_NameRule (vi 128) (vr (og5 Z))) ∈ F) (mp3 : (p3, w_p3, oString (vr p5) (vi 0)) ∈ F) (mp5 : (p5, w_p5, ar ad_p5 .byte [(vi x3)]) ∈ F) (mog5Z : ((og5 Z), w_og5Z, oString (vr (og6 Z)) (vi 0)) ∈ F) (mog6Z : ((og6 Z), w_og6Z, ar ad_og6Z .byte [(vi 46), (vi 95), (vi 58), (vi 45)]) ∈ F) : Con Z EL (⟨"com/example/cunctator/cunctator/JobKey", "<init>", "(Ljava/lang/String;Ljava/lang/String;)V"⟩ : MethodName) prog_8_method_1_code 3 (Option.none : Option Jvm.ClassFile.FieldType) (rmm 6 0 0 87) [(vr p1), (vr p2), (vr p3)] ((p1, true, oJobKey .null .null) :: F) (fun v D' => (v = none ∧ (p1, true, oJobKey (vr p2) (vr p3)) :: F = D')) := by
  refine Con.of (ls := #[rv p1, rv p2, rv p3]) (by decide +kernel) rfl ?_
  show W Z EL _ "com/example/cunctator/cunctator/JobKey" "<init>" _ _ _ _ _ _ _ _ _ _
  refine W.aloadN (pc := 0) d9_0 rfl rfl ?_
  refine W.initO (pc := 1) 0 d9_1 (w45 hw) (w21 hw) (w22 hw) rfl rfl (by decide) ?_
  refine W.aloadN (pc := 4) d9_4 rfl rfl ?_
  refine W.aloadN (pc := 5) d9_5 rfl rfl ?_
  refine W.callS (pc := 6) (as := [(vr p2)]) 1 [(vr p1)] d9_6 (w46 hw) (w47 hw) (w41 hw) (w48 hw) (c89_checkTopic hw hs (hx1 := hx1) (hx2 := hx2) (mog1Z := (mS mog1Z)) (mp1 := (mS mp2)) (mp2 := (mS mp4)) (mog2Z := (mS mog2Z)) (mog3Z := (mS mog3Z))) (by decide) pd_Ljava_lang_String__Ljava_lang_String_ rfl rfl rfl rfl (by decide) (fun v D' h => ?_)
  obtain ⟨rfl, rfl⟩ := h
  show W _ _ _ _ _ _ _ _ _ _ _ _ 9 _ [(vr p2), (vr p1)]
  refine W.putf (pc := 9) (D' := (p1, true, oJobKey (vr p2) .null) :: F) 0 0 d9_9 (w99 hw) Via.refl rfl rfl (Or.inr ⟨(w100 hw), rfl, rfl⟩) (w40 hw) pfLjava_lang_String_ rfl rfl rfl ?_
  refine W.aloadN (pc := 12) d9_12 rfl rfl ?_
  refine W.aloadN (pc := 13) d9_13 rfl rfl ?_
  refine W.callS (pc := 14) (as := [(vr p3)]) 1 [(vr p1)] d9_14 (w101 hw) (w102 hw) (w41 hw) (w103 hw) (c45_checkId hw hs (hx1 := hx3) (mog4Z := (mS mog4Z)) (mp1 := (mS mp3)) (mp2 := (mS mp5)) (mog5Z := (mS mog5Z)) (mog6Z := (mS mog6Z))) (by decide) pd_Ljava_lang_String__Ljava_lang_String_ rfl rfl rfl rfl (by decide) (fun v D' h => ?_)
  obtain ⟨rfl, rfl⟩ := h
  show W _ _ _ _ _ _ _ _ _ _ _ _ 17 _ [(vr p3), (vr p1)]
  refine W.putf (pc := 17) (D' := (p1, true, oJobKey (vr p2) (vr p3)) :: F) 0 1 d9_17 (w106 hw) Via.refl rfl rfl (Or.inr ⟨(w107 hw), rfl, rfl⟩) (w40 hw) pfLjava_lang_String_ rfl rfl rfl ?_
  exact W.return_ (pc := 20) d9_20 rfl (by decide) ⟨rfl, rfl⟩
theorem c99_equals {Z a0} (hw : HW a0 Z) (hs : SF Z) {p1 p2 : Addr} {x1 : Int32} (hx1 : (45 ≤ x1.toInt ∧ x1.toInt ≤ 46) ∨ (48 ≤ x1.toInt ∧ x1.toInt ≤ 57) ∨ (65 ≤ x1.toInt ∧ x1.toInt ≤ 90) ∨ x1.toInt = 95 ∨ (97 ≤ x1.toInt ∧ x1.toInt ≤ 122)) {x2 : Int32} (hx2 : (45 ≤ x2.toInt ∧ x2.toInt ≤ 46) ∨ (48 ≤ x2.toInt ∧ x2.toInt ≤ 57) ∨ (65 ≤ x2.toInt ∧ x2.toInt ≤ 90) ∨ x2.toInt = 95 ∨ (97 ≤ x2.toInt ∧ x2.toInt ≤ 122)) {x3 : Int32} (hx3 : (45 ≤ x3.toInt ∧ x3.toInt ≤ 46) ∨ (48 ≤ x3.toInt ∧ x3.toInt ≤ 57) ∨ (65 ≤ x3.toInt ∧ x3.toInt ≤ 90) ∨ x3.toInt = 95 ∨ (97 ≤ x3.toInt ∧ x3.toInt ≤ 122)) {w_p1 : Bool} {ad_p1 : String} {w_p2 : Bool} {ad_p2 : String} {F : List Ent} (mp1 : (p1, w_p1, ar ad_p1 .byte [(vi x1)]) ∈ F) (mp2 : (p2, w_p2, ar ad_p2 .byte [(vi x2), (vi x3)]) ∈ F) : Con Z EL (⟨"java/lang/StringLatin1", "equals", "([B[B)Z"⟩ : MethodName) jdk_43_method_13_code 3 (Option.some Jvm.ClassFile.FieldType.boolean) (rmm 0 0 0 0) [(vr p1), (vr p2)] (F) (fun v D' => (v = some (vi 0) ∧ F = D')) := by
  refine Con.of (ls := #[rv p1, rv p2, uu]) (by decide +kernel) rfl ?_
  show W Z EL _ "java/lang/StringLatin1" "equals" _ _ _ _ _ _ _ _ _ _
  refine W.aloadN (pc := 0) d25_0 rfl rfl ?_
  refine W.alen (pc := 1) (1) d25_1 mp1 rfl ?_
  refine W.aloadN (pc := 2) d25_2 rfl rfl ?_
  refine W.alen (pc := 3) (2) d25_3 mp2 rfl ?_
  refine W.icmpY (pc := 4) 34 d25_4 (y_ne (by decide)) (by decide) ?_
  refine W.iconst (pc := 34) (0) d25_34 (by decide) ?_
  exact W.ireturn (pc := 35) d25_35 rfl (Or.inr (Or.inl rfl)) (nw_bool (by decide)) (by decide) ⟨rfl, rfl⟩
theorem c98_equals {Z a0} (hw : HW a0 Z) (hs : SF Z) {p1 p2 p3 p4 : Addr} {x1 : Int32} (hx1 : (45 ≤ x1.toInt ∧ x1.toInt ≤ 46) ∨ (48 ≤ x1.toInt ∧ x1.toInt ≤ 57) ∨ (65 ≤ x1.toInt ∧ x1.toInt ≤ 90) ∨ x1.toInt = 95 ∨ (97 ≤ x1.toInt ∧ x1.toInt ≤ 122)) {x2 : Int32} (hx2 : (45 ≤ x2.toInt ∧ x2.toInt ≤ 46) ∨ (48 ≤ x2.toInt ∧ x2.toInt ≤ 57) ∨ (65 ≤ x2.toInt ∧ x2.toInt ≤ 90) ∨ x2.toInt = 95 ∨ (97 ≤ x2.toInt ∧ x2.toInt ≤ 122)) {x3 : Int32} (hx3 : (45 ≤ x3.toInt ∧ x3.toInt ≤ 46) ∨ (48 ≤ x3.toInt ∧ x3.toInt ≤ 57) ∨ (65 ≤ x3.toInt ∧ x3.toInt ≤ 90) ∨ x3.toInt = 95 ∨ (97 ≤ x3.toInt ∧ x3.toInt ≤ 122)) {w_p2 : Bool} {w_p1 : Bool} {w_p3 : Bool} {ad_p3 : String} {w_p4 : Bool} {ad_p4 : String} (ne_p1_p2 : p1 ≠ p2) {F : List Ent} (mp2 : (p2, w_p2, oString (vr p4) (vi 0)) ∈ F) (mp1 : (p1, w_p1, oString (vr p3) (vi 0)) ∈ F) (mp3 : (p3, w_p3, ar ad_p3 .byte [(vi x1)]) ∈ F) (mp4 : (p4, w_p4, ar ad_p4 .byte [(vi x2), (vi x3)]) ∈ F) : Con Z EL (⟨"java/lang/String", "equals", "(Ljava/lang/Object;)Z"⟩ : MethodName) jdk_42_method_66_code 3 (Option.some Jvm.ClassFile.FieldType.boolean) (rmm 1 0 0 14) [(vr p1), (vr p2)] (F) (fun v D' => (v = some (vi 0) ∧ F = D')) := by
  refine Con.of (ls := #[rv p1, rv p2, uu]) (by decide +kernel) rfl ?_
  show W Z EL _ "java/lang/String" "equals" _ _ _ _ _ _ _ _ _ _
  refine W.aloadN (pc := 0) d24_0 rfl rfl ?_
  refine W.aloadN (pc := 1) d24_1 rfl rfl ?_
  refine W.acmpY (pc := 2) 7 d24_2 rfl rfl (show Ca .ne _ _ from (fun z => ne_p1_p2 (by injection z))) (by decide) ?_
  refine W.aloadN (pc := 7) d24_7 rfl rfl ?_
  refine W.instY (pc := 8) d24_8 (w123 hw) (Hp.ins mp2) ?_
  refine W.ifN (pc := 11) d24_11 (n_eq (by decide)) ?_
  refine W.aloadN (pc := 14) d24_14 rfl rfl ?_
  refine W.castY (pc := 15) d24_15 (w123 hw) (Hp.ins mp2) ?_
  refine W.astoreN (pc := 18) (ls' := #[rv p1, rv p2, rv p2]) d24_18 rfl rfl ?_
  refine W.gets (pc := 19) d24_19 (w23 hw) Via.refl hs.1 ?_
  refine W.ifN (pc := 22) d24_22 (n_eq (by have := hs.2.1; have := q0; omega)) ?_
  refine W.aloadN (pc := 25) d24_25 rfl rfl ?_
  refine W.getf (pc := 26) d24_26 (w35 hw) Via.refl mp1 m1 ?_
  refine W.aloadN (pc := 29) d24_29 rfl rfl ?_
  refine W.getf (pc := 30) d24_30 (w35 hw) Via.refl mp2 m1 ?_
  refine W.icmpN (pc := 33) d24_33 (n_ne (by decide)) ?_
  refine W.aloadN (pc := 36) d24_36 rfl rfl ?_
  refine W.getf (pc := 37) d24_37 (w37 hw) Via.refl mp1 m0 ?_
  refine W.aloadN (pc := 40) d24_40 rfl rfl ?_
  refine W.getf (pc := 41) d24_41 (w37 hw) Via.refl mp2 m0 ?_
  refine W.callS (pc := 44) (as := [(vr p3), (vr p4)]) 0 [] d24_44 (w124 hw) (w125 hw) (w84 hw) (w126 hw) (c99_equals hw hs (hx1 := hx1) (hx2 := hx2) (hx3 := hx3) (mp1 := mp3) (mp2 := mp4)) (by decide) pd__B_B_Z rfl rfl rfl rfl (by decide) (fun v D' h => ?_)
  obtain ⟨rfl, rfl⟩ := h
  show W _ _ _ _ _ _ _ _ _ _ _ _ 47 _ [(vi 0)]
  refine W.ifY (pc := 47) 54 d24_47 (y_eq (by decide)) (by decide) ?_
  refine W.iconst (pc := 54) (0) d24_54 (by decide) ?_
  exact W.ireturn (pc := 55) d24_55 rfl (Or.inr (Or.inl rfl)) (nw_bool (by decide)) (by decide) ⟨rfl, rfl⟩
theorem c97_equals {Z a0} (hw : HW a0 Z) (hs : SF Z) {p1 p2 p3 p4 p5 p6 p7 p9 : Addr} {x1 : Int32} (hx1 : (45 ≤ x1.toInt ∧ x1.toInt ≤ 46) ∨ (48 ≤ x1.toInt ∧ x1.toInt ≤ 57) ∨ (65 ≤ x1.toInt ∧ x1.toInt ≤ 90) ∨ x1.toInt = 95 ∨ (97 ≤ x1.toInt ∧ x1.toInt ≤ 122)) {x3 : Int32} (hx3 : (45 ≤ x3.toInt ∧ x3.toInt ≤ 46) ∨ (48 ≤ x3.toInt ∧ x3.toInt ≤ 57) ∨ (65 ≤ x3.toInt ∧ x3.toInt ≤ 90) ∨ x3.toInt = 95 ∨ (97 ≤ x3.toInt ∧ x3.toInt ≤ 122)) {x4 : Int32} (hx4 : (45 ≤ x4.toInt ∧ x4.toInt ≤ 46) ∨ (48 ≤ x4.toInt ∧ x4.toInt ≤ 57) ∨ (65 ≤ x4.toInt ∧ x4.toInt ≤ 90) ∨ x4.toInt = 95 ∨ (97 ≤ x4.toInt ∧ x4.toInt ≤ 122)) {w_p2 : Bool} {w_p1 : Bool} {w_p3 : Bool} {w_p5 : Bool} {w_p7 : Bool} {ad_p7 : String} {w_p9 : Bool} {ad_p9 : String} (ne_p1_p2 : p1 ≠ p2) (ne_p3_p5 : p3 ≠ p5) {F : List Ent} (mp2 : (p2, w_p2, oJobKey (vr p5) (vr p6)) ∈ F) (mp1 : (p1, w_p1, oJobKey (vr p3) (vr p4)) ∈ F) (mp3 : (p3, w_p3, oString (vr p7) (vi 0)) ∈ F) (mp5 : (p5, w_p5, oString (vr p9) (vi 0)) ∈ F) (mp7 : (p7, w_p7, ar ad_p7 .byte [(vi x1)]) ∈ F) (mp9 : (p9, w_p9, ar ad_p9 .byte [(vi x3), (vi x4)]) ∈ F) : Con Z EL (⟨"com/example/cunctator/cunctator/JobKey", "equals", "(Ljava/lang/Object;)Z"⟩ : MethodName) prog_8_method_6_code 3 (Option.some Jvm.ClassFile.FieldType.boolean) (rmm 2 0 0 28) [(vr p1), (vr p2)] (F) (fun v D' => (v = some (vi 0) ∧ F = D')) := by
  refine Con.of (ls := #[rv p1, rv p2, uu]) (by decide +kernel) rfl ?_
  show W Z EL _ "com/example/cunctator/cunctator/JobKey" "equals" _ _ _ _ _ _ _ _ _ _
  refine W.aloadN (pc := 0) d23_0 rfl rfl ?_
  refine W.aloadN (pc := 1) d23_1 rfl rfl ?_
  refine W.acmpY (pc := 2) 7 d23_2 rfl rfl (show Ca .ne _ _ from (fun z => ne_p1_p2 (by injection z))) (by decide) ?_
  refine W.aloadN (pc := 7) d23_7 rfl rfl ?_
  refine W.instY (pc := 8) d23_8 (w116 hw) (Hp.ins mp2) ?_
  refine W.ifY (pc := 11) 16 d23_11 (y_ne (by decide)) (by decide) ?_
  refine W.aloadN (pc := 16) d23_16 rfl rfl ?_
  refine W.castY (pc := 17) d23_17 (w116 hw) (Hp.ins mp2) ?_
  refine W.astoreN (pc := 20) (ls' := #[rv p1, rv p2, rv p2]) d23_20 rfl rfl ?_
  refine W.aloadN (pc := 21) d23_21 rfl rfl ?_
  refine W.getf (pc := 22) d23_22 (w99 hw) Via.refl mp1 m0 ?_
  refine W.aloadN (pc := 25) d23_25 rfl rfl ?_
  refine W.getf (pc := 26) d23_26 (w99 hw) Via.refl mp2 m0 ?_
  refine W.callV (pc := 29) (as := [(vr p5)]) 0 [] d23_29 (w118 hw) (w119 hw) (w121 hw) (w121 hw) (w120 hw) (w11 hw) (w122 hw) (Hp.exa mp3) (c98_equals hw hs (hx1 := hx1) (hx2 := hx3) (hx3 := hx4) (mp2 := mp5) (mp1 := mp3) (mp3 := mp7) (mp4 := mp9) (ne_p1_p2 := ne_p3_p5)) (by decide) pd_Ljava_lang_Object__Z rfl rfl rfl rfl (by decide) (fun v D' h => ?_)
  obtain ⟨rfl, rfl⟩ := h
  show W _ _ _ _ _ _ _ _ _ _ _ _ 32 _ [(vi 0)]
  refine W.ifY (pc := 32) 53 d23_32 (y_eq (by decide)) (by decide) ?_
  refine W.iconst (pc := 53) (0) d23_53 (by decide) ?_
  exact W.ireturn (pc := 54) d23_54 rfl (Or.inr (Or.inl rfl)) (nw_bool (by decide)) (by decide) ⟨rfl, rfl⟩
theorem c102_equals {Z a0} (hw : HW a0 Z) (hs : SF Z) {p1 p2 : Addr} {x1 : Int32} (hx1 : (45 ≤ x1.toInt ∧ x1.toInt ≤ 46) ∨ (48 ≤ x1.toInt ∧ x1.toInt ≤ 57) ∨ (65 ≤ x1.toInt ∧ x1.toInt ≤ 90) ∨ x1.toInt = 95 ∨ (97 ≤ x1.toInt ∧ x1.toInt ≤ 122)) {x2 : Int32} (hx2 : (45 ≤ x2.toInt ∧ x2.toInt ≤ 46) ∨ (48 ≤ x2.toInt ∧ x2.toInt ≤ 57) ∨ (65 ≤ x2.toInt ∧ x2.toInt ≤ 90) ∨ x2.toInt = 95 ∨ (97 ≤ x2.toInt ∧ x2.toInt ≤ 122)) {x3 : Int32} (hx3 : (45 ≤ x3.toInt ∧ x3.toInt ≤ 46) ∨ (48 ≤ x3.toInt ∧ x3.toInt ≤ 57) ∨ (65 ≤ x3.toInt ∧ x3.toInt ≤ 90) ∨ x3.toInt = 95 ∨ (97 ≤ x3.toInt ∧ x3.toInt ≤ 122)) {w_p1 : Bool} {ad_p1 : String} {w_p2 : Bool} {ad_p2 : String} {F : List Ent} (mp1 : (p1, w_p1, ar ad_p1 .byte [(vi x1), (vi x2)]) ∈ F) (mp2 : (p2, w_p2, ar ad_p2 .byte [(vi x3)]) ∈ F) : Con Z EL (⟨"java/lang/StringLatin1", "equals", "([B[B)Z"⟩ : MethodName) jdk_43_method_13_code 3 (Option.some Jvm.ClassFile.FieldType.boolean) (rmm 0 0 0 0) [(vr p1), (vr p2)] (F) (fun v D' => (v = some (vi 0) ∧ F = D')) := by
  refine Con.of (ls := #[rv p1, rv p2, uu]) (by decide +kernel) rfl ?_
  show W Z EL _ "java/lang/StringLatin1" "equals" _ _ _ _ _ _ _ _ _ _
  refine W.aloadN (pc := 0) d25_0 rfl rfl ?_
  refine W.alen (pc := 1) (2) d25_1 mp1 rfl ?_
  refine W.aloadN (pc := 2) d25_2 rfl rfl ?_
  refine W.alen (pc := 3) (1) d25_3 mp2 rfl ?_
  refine W.icmpY (pc := 4) 34 d25_4 (y_ne (by decide)) (by decide) ?_
  refine W.iconst (pc := 34) (0) d25_34 (by decide) ?_
  exact W.ireturn (pc := 35) d25_35 rfl (Or.inr (Or.inl rfl)) (nw_bool (by decide)) (by decide) ⟨rfl, rfl⟩
theorem c101_equals {Z a0} (hw : HW a0 Z) (hs : SF Z) {p1 p2 p3 p4 : Addr} {x1 : Int32} (hx1 : (45 ≤ x1.toInt ∧ x1.toInt ≤ 46) ∨ (48 ≤ x1.toInt ∧ x1.toInt ≤ 57) ∨ (65 ≤ x1.toInt ∧ x1.toInt ≤ 90) ∨ x1.toInt = 95 ∨ (97 ≤ x1.toInt ∧ x1.toInt ≤ 122)) {x2 : Int32} (hx2 : (45 ≤ x2.toInt ∧ x2.toInt ≤ 46) ∨ (48 ≤ x2.toInt ∧ x2.toInt ≤ 57) ∨ (65 ≤ x2.toInt ∧ x2.toInt ≤ 90) ∨ x2.toInt = 95 ∨ (97 ≤ x2.toInt ∧ x2.toInt ≤ 122)) {x3 : Int32} (hx3 : (45 ≤ x3.toInt ∧ x3.toInt ≤ 46) ∨ (48 ≤ x3.toInt ∧ x3.toInt ≤ 57) ∨ (65 ≤ x3.toInt ∧ x3.toInt ≤ 90) ∨ x3.toInt = 95 ∨ (97 ≤ x3.toInt ∧ x3.toInt ≤ 122)) {w_p2 : Bool} {w_p1 : Bool} {w_p3 : Bool} {ad_p3 : String} {w_p4 : Bool} {ad_p4 : String} (ne_p1_p2 : p1 ≠ p2) {F : List Ent} (mp2 : (p2, w_p2, oString (vr p4) (vi 0)) ∈ F) (mp1 : (p1, w_p1, oString (vr p3) (vi 0)) ∈ F) (mp3 : (p3, w_p3, ar ad_p3 .byte [(vi x1), (vi x2)]) ∈ F) (mp4 : (p4, w_p4, ar ad_p4 .byte [(vi x3)]) ∈ F) : Con Z EL (⟨"java/lang/String", "equals", "(Ljava/lang/Object;)Z"⟩ : MethodName) jdk_42_method_66_code 3 (Option.some Jvm.ClassFile.FieldType.boolean) (rmm 1 0 0 14) [(vr p1), (vr p2)] (F) (fun v D' => (v = some (vi 0) ∧ F = D')) := by
  refine Con.of (ls := #[rv p1, rv p2, uu]) (by decide +kernel) rfl ?_
  show W Z EL _ "java/lang/String" "equals" _ _ _ _ _ _ _ _ _ _
  refine W.aloadN (pc := 0) d24_0 rfl rfl ?_
  refine W.aloadN (pc := 1) d24_1 rfl rfl ?_
  refine W.acmpY (pc := 2) 7 d24_2 rfl rfl (show Ca .ne _ _ from (fun z => ne_p1_p2 (by injection z))) (by decide) ?_
  refine W.aloadN (pc := 7) d24_7 rfl rfl ?_
  refine W.instY (pc := 8) d24_8 (w123 hw) (Hp.ins mp2) ?_
  refine W.ifN (pc := 11) d24_11 (n_eq (by decide)) ?_
  refine W.aloadN (pc := 14) d24_14 rfl rfl ?_
  refine W.castY (pc := 15) d24_15 (w123 hw) (Hp.ins mp2) ?_
  refine W.astoreN (pc := 18) (ls' := #[rv p1, rv p2, rv p2]) d24_18 rfl rfl ?_
  refine W.gets (pc := 19) d24_19 (w23 hw) Via.refl hs.1 ?_
  refine W.ifN (pc := 22) d24_22 (n_eq (by have := hs.2.1; have := q0; omega)) ?_
  refine W.aloadN (pc := 25) d24_25 rfl rfl ?_
  refine W.getf (pc := 26) d24_26 (w35 hw) Via.refl mp1 m1 ?_
  refine W.aloadN (pc := 29) d24_29 rfl rfl ?_
  refine W.getf (pc := 30) d24_30 (w35 hw) Via.refl mp2 m1 ?_
  refine W.icmpN (pc := 33) d24_33 (n_ne (by decide)) ?_
  refine W.aloadN (pc := 36) d24_36 rfl rfl ?_
  refine W.getf (pc := 37) d24_37 (w37 hw) Via.refl mp1 m0 ?_
  refine W.aloadN (pc := 40) d24_40 rfl rfl ?_
  refine W.getf (pc := 41) d24_41 (w37 hw) Via.refl mp2 m0 ?_
  refine W.callS (pc := 44) (as := [(vr p3), (vr p4)]) 0 [] d24_44 (w124 hw) (w125 hw) (w84 hw) (w126 hw) (c102_equals hw hs (hx1 := hx1) (hx2 := hx2) (hx3 := hx3) (mp1 := mp3) (mp2 := mp4)) (by decide) pd__B_B_Z rfl rfl rfl rfl (by decide) (fun v D' h => ?_)
  obtain ⟨rfl, rfl⟩ := h
  show W _ _ _ _ _ _ _ _ _ _ _ _ 47 _ [(vi 0)]
  refine W.ifY (pc := 47) 54 d24_47 (y_eq (by decide)) (by decide) ?_
  refine W.iconst (pc := 54) (0) d24_54 (by decide) ?_
  exact W.ireturn (pc := 55) d24_55 rfl (Or.inr (Or.inl rfl)) (nw_bool (by decide)) (by decide) ⟨rfl, rfl⟩
theorem c100_equals {Z a0} (hw : HW a0 Z) (hs : SF Z) {p1 p2 p3 p4 p5 p6 p7 p9 : Addr} {x1 : Int32} (hx1 : (45 ≤ x1.toInt ∧ x1.toInt ≤ 46) ∨ (48 ≤ x1.toInt ∧ x1.toInt ≤ 57) ∨ (65 ≤ x1.toInt ∧ x1.toInt ≤ 90) ∨ x1.toInt = 95 ∨ (97 ≤ x1.toInt ∧ x1.toInt ≤ 122)) {x2 : Int32} (hx2 : (45 ≤ x2.toInt ∧ x2.toInt ≤ 46) ∨ (48 ≤ x2.toInt ∧ x2.toInt ≤ 57) ∨ (65 ≤ x2.toInt ∧ x2.toInt ≤ 90) ∨ x2.toInt = 95 ∨ (97 ≤ x2.toInt ∧ x2.toInt ≤ 122)) {x4 : Int32} (hx4 : (45 ≤ x4.toInt ∧ x4.toInt ≤ 46) ∨ (48 ≤ x4.toInt ∧ x4.toInt ≤ 57) ∨ (65 ≤ x4.toInt ∧ x4.toInt ≤ 90) ∨ x4.toInt = 95 ∨ (97 ≤ x4.toInt ∧ x4.toInt ≤ 122)) {w_p2 : Bool} {w_p1 : Bool} {w_p3 : Bool} {w_p5 : Bool} {w_p7 : Bool} {ad_p7 : String} {w_p9 : Bool} {ad_p9 : String} (ne_p1_p2 : p1 ≠ p2) (ne_p3_p5 : p3 ≠ p5) {F : List Ent} (mp2 : (p2, w_p2, oJobKey (vr p5) (vr p6)) ∈ F) (mp1 : (p1, w_p1, oJobKey (vr p3) (vr p4)) ∈ F) (mp3 : (p3, w_p3, oString (vr p7) (vi 0)) ∈ F) (mp5 : (p5, w_p5, oString (vr p9) (vi 0)) ∈ F) (mp7 : (p7, w_p7, ar ad_p7 .byte [(vi x1), (vi x2)]) ∈ F) (mp9 : (p9, w_p9, ar ad_p9 .byte [(vi x4)]) ∈ F) : Con Z EL (⟨"com/example/cunctator/cunctator/JobKey", "equals", "(Ljava/lang/Object;)Z"⟩ : MethodName) prog_8_method_6_code 3 (Option.some Jvm.ClassFile.FieldType.boolean) (rmm 2 0 0 28) [(vr p1), (vr p2)] (F) (fun v D' => (v = some (vi 0) ∧ F = D')) := by
  refine Con.of (ls := #[rv p1, rv p2, uu]) (by decide +kernel) rfl ?_
  show W Z EL _ "com/example/cunctator/cunctator/JobKey" "equals" _ _ _ _ _ _ _ _ _ _
  refine W.aloadN (pc := 0) d23_0 rfl rfl ?_
  refine W.aloadN (pc := 1) d23_1 rfl rfl ?_
  refine W.acmpY (pc := 2) 7 d23_2 rfl rfl (show Ca .ne _ _ from (fun z => ne_p1_p2 (by injection z))) (by decide) ?_
  refine W.aloadN (pc := 7) d23_7 rfl rfl ?_
  refine W.instY (pc := 8) d23_8 (w116 hw) (Hp.ins mp2) ?_
  refine W.ifY (pc := 11) 16 d23_11 (y_ne (by decide)) (by decide) ?_
  refine W.aloadN (pc := 16) d23_16 rfl rfl ?_
  refine W.castY (pc := 17) d23_17 (w116 hw) (Hp.ins mp2) ?_
  refine W.astoreN (pc := 20) (ls' := #[rv p1, rv p2, rv p2]) d23_20 rfl rfl ?_
  refine W.aloadN (pc := 21) d23_21 rfl rfl ?_
  refine W.getf (pc := 22) d23_22 (w99 hw) Via.refl mp1 m0 ?_
  refine W.aloadN (pc := 25) d23_25 rfl rfl ?_
  refine W.getf (pc := 26) d23_26 (w99 hw) Via.refl mp2 m0 ?_
  refine W.callV (pc := 29) (as := [(vr p5)]) 0 [] d23_29 (w118 hw) (w119 hw) (w121 hw) (w121 hw) (w120 hw) (w11 hw) (w122 hw) (Hp.exa mp3) (c101_equals hw hs (hx1 := hx1) (hx2 := hx2) (hx3 := hx4) (mp2 := mp5) (mp1 := mp3) (mp3 := mp7) (mp4 := mp9) (ne_p1_p2 := ne_p3_p5)) (by decide) pd_Ljava_lang_Object__Z rfl rfl rfl rfl (by decide) (fun v D' h => ?_)
  obtain ⟨rfl, rfl⟩ := h
  show W _ _ _ _ _ _ _ _ _ _ _ _ 32 _ [(vi 0)]
  refine W.ifY (pc := 32) 53 d23_32 (y_eq (by decide)) (by decide) ?_
  refine W.iconst (pc := 53) (0) d23_53 (by decide) ?_
  exact W.ireturn (pc := 54) d23_54 rfl (Or.inr (Or.inl rfl)) (nw_bool (by decide)) (by decide) ⟨rfl, rfl⟩
theorem c103_init {Z a0} (hw : HW a0 Z) (hs : SF Z) {p1 p2 p3 p4 p5 : Addr} {x1 : Int32} (hx1 : (45 ≤ x1.toInt ∧ x1.toInt ≤ 46) ∨ (48 ≤ x1.toInt ∧ x1.toInt ≤ 57) ∨ (65 ≤ x1.toInt ∧ x1.toInt ≤ 90) ∨ x1.toInt = 95 ∨ (97 ≤ x1.toInt ∧ x1.toInt ≤ 122)) {x2 : Int32} (hx2 : (45 ≤ x2.toInt ∧ x2.toInt ≤ 46) ∨ (48 ≤ x2.toInt ∧ x2.toInt ≤ 57) ∨ (65 ≤ x2.toInt ∧ x2.toInt ≤ 90) ∨ x2.toInt = 95 ∨ (97 ≤ x2.toInt ∧ x2.toInt ≤ 122)) {x3 : Int32} (hx3 : (45 ≤ x3.toInt ∧ x3.toInt ≤ 46) ∨ (48 ≤ x3.toInt ∧ x3.toInt ≤ 58) ∨ (65 ≤ x3.toInt ∧ x3.toInt ≤ 90) ∨ x3.toInt = 95 ∨ (97 ≤ x3.toInt ∧ x3.toInt ≤ 122)) {x4 : Int32} (hx4 : (45 ≤ x4.toInt ∧ x4.toInt ≤ 46) ∨ (48 ≤ x4.toInt ∧ x4.toInt ≤ 58) ∨ (65 ≤ x4.toInt ∧ x4.toInt ≤ 90) ∨ x4.toInt = 95 ∨ (97 ≤ x4.toInt ∧ x4.toInt ≤ 122)) {w_og1Z : Bool} {w_p2 : Bool} {w_p4 : Bool} {ad_p4 : String} {w_og2Z : Bool} {w_og3Z : Bool} {ad_og3Z : String} {w_og4Z : Bool} {w_p3 : Bool} {w_p5 : Bool} {ad_p5 : String} {w_og5Z : Bool} {w_og6Z : Bool} {ad_og6Z : String} {F : List Ent} (mog1Z : ((og1 Z), w_og1Z, oJobKey_NameRule (vi 64) (vr (og2 Z))) ∈ F) (mp2 : (p2, w_p2, oString (vr p4) (vi 0)) ∈ F) (mp4 : (p4, w_p4, ar ad_p4 .byte [(vi x1), (vi x2)]) ∈ F) (mog2Z : ((og2 Z), w_og2Z, oString (vr (og3 Z)) (vi 0)) ∈ F) (mog3Z : ((og3 Z), w_og3Z, ar ad_og3Z .byte [(vi 46), (vi 95), (vi 45)]) ∈ F) (mog4Z : ((og4 Z), w_og4Z, oJobKey_NameRule (vi 128) (vr (og5 Z))) ∈ F) (mp3 : (p3, w_p3, oString (vr p5) (vi 0)) ∈ F) (mp5 : (p5, w_p5, ar ad_p5 .byte [(vi x3), (vi x4)]) ∈ F) (mog5Z : ((og5 Z), w_og5Z, oString (vr (og6 Z)) (vi 0)) ∈ F) (mog6Z : ((og6 Z), w_og6Z, ar ad_og6Z .byte [(vi 46), (vi 95), (vi 58), (vi 45)]) ∈ F) : Con Z EL (⟨"com/example/cunctator/cunctator/JobKey", "<init>", "(Ljava/lang/String;Ljava/lang/String;)V"⟩ : MethodName) prog_8_method_1_code 3 (Option.none : Option Jvm.ClassFile.FieldType) (rmm 6 0 0 87) [(vr p1), (vr p2), (vr p3)] ((p1, true, oJobKey .null .null) :: F) (fun v D' => (v = none ∧ (p1, true, oJobKey (vr p2) (vr p3)) :: F = D')) := by
  refine Con.of (ls := #[rv p1, rv p2, rv p3]) (by decide +kernel) rfl ?_
  show W Z EL _ "com/example/cunctator/cunctator/JobKey" "<init>" _ _ _ _ _ _ _ _ _ _
  refine W.aloadN (pc := 0) d9_0 rfl rfl ?_
  refine W.initO (pc := 1) 0 d9_1 (w45 hw) (w21 hw) (w22 hw) rfl rfl (by decide) ?_
  refine W.aloadN (pc := 4) d9_4 rfl rfl ?_
  refine W.aloadN (pc := 5) d9_5 rfl rfl ?_
  refine W.callS (pc := 6) (as := [(vr p2)]) 1 [(vr p1)] d9_6 (w46 hw) (w47 hw) (w41 hw) (w48 hw) (c89_checkTopic hw hs (hx1 := hx1) (hx2 := hx2) (mog1Z := (mS mog1Z)) (mp1 := (mS mp2)) (mp2 := (mS mp4)) (mog2Z := (mS mog2Z)) (mog3Z := (mS mog3Z))) (by decide) pd_Ljava_lang_String__Ljava_lang_String_ rfl rfl rfl rfl (by decide) (fun v D' h => ?_)
  obtain ⟨rfl, rfl⟩ := h
  show W _ _ _ _ _ _ _ _ _ _ _ _ 9 _ [(vr p2), (vr p1)]
  refine W.putf (pc := 9) (D' := (p1, true, oJobKey (vr p2) .null) :: F) 0 0 d9_9 (w99 hw) Via.refl rfl rfl (Or.inr ⟨(w100 hw), rfl, rfl⟩) (w40 hw) pfLjava_lang_String_ rfl rfl rfl ?_
  refine W.aloadN (pc := 12) d9_12 rfl rfl ?_
  refine W.aloadN (pc := 13) d9_13 rfl rfl ?_
  refine W.callS (pc := 14) (as := [(vr p3)]) 1 [(vr p1)] d9_14 (w101 hw) (w102 hw) (w41 hw) (w103 hw) (c70_checkId hw hs (hx1 := hx3) (hx2 := hx4) (mog4Z := (mS mog4Z)) (mp1 := (mS mp3)) (mp2 := (mS mp5)) (mog5Z := (mS mog5Z)) (mog6Z := (mS mog6Z))) (by decide) pd_Ljava_lang_String__Ljava_lang_String_ rfl rfl rfl rfl (by decide) (fun v D' h => ?_)
  obtain ⟨rfl, rfl⟩ := h
  show W _ _ _ _ _ _ _ _ _ _ _ _ 17 _ [(vr p3), (vr p1)]
  refine W.putf (pc := 17) (D' := (p1, true, oJobKey (vr p2) (vr p3)) :: F) 0 1 d9_17 (w106 hw) Via.refl rfl rfl (Or.inr ⟨(w107 hw), rfl, rfl⟩) (w40 hw) pfLjava_lang_String_ rfl rfl rfl ?_
  exact W.return_ (pc := 20) d9_20 rfl (by decide) ⟨rfl, rfl⟩
theorem c106_equals {Z a0} (hw : HW a0 Z) (hs : SF Z) {p1 p2 : Addr} {x1 : Int32} (hx1 : (45 ≤ x1.toInt ∧ x1.toInt ≤ 46) ∨ (48 ≤ x1.toInt ∧ x1.toInt ≤ 58) ∨ (65 ≤ x1.toInt ∧ x1.toInt ≤ 90) ∨ x1.toInt = 95 ∨ (97 ≤ x1.toInt ∧ x1.toInt ≤ 122)) {x2 : Int32} (hx2 : (45 ≤ x2.toInt ∧ x2.toInt ≤ 46) ∨ (48 ≤ x2.toInt ∧ x2.toInt ≤ 58) ∨ (65 ≤ x2.toInt ∧ x2.toInt ≤ 90) ∨ x2.toInt = 95 ∨ (97 ≤ x2.toInt ∧ x2.toInt ≤ 122)) {x3 : Int32} (hx3 : (45 ≤ x3.toInt ∧ x3.toInt ≤ 46) ∨ (48 ≤ x3.toInt ∧ x3.toInt ≤ 58) ∨ (65 ≤ x3.toInt ∧ x3.toInt ≤ 90) ∨ x3.toInt = 95 ∨ (97 ≤ x3.toInt ∧ x3.toInt ≤ 122)) {x4 : Int32} (hx4 : (45 ≤ x4.toInt ∧ x4.toInt ≤ 46) ∨ (48 ≤ x4.toInt ∧ x4.toInt ≤ 58) ∨ (65 ≤ x4.toInt ∧ x4.toInt ≤ 90) ∨ x4.toInt = 95 ∨ (97 ≤ x4.toInt ∧ x4.toInt ≤ 122)) {w_p1 : Bool} {ad_p1 : String} {w_p2 : Bool} {ad_p2 : String} {F : List Ent} (mp1 : (p1, w_p1, ar ad_p1 .byte [(vi x1), (vi x2)]) ∈ F) (mp2 : (p2, w_p2, ar ad_p2 .byte [(vi x3), (vi x4)]) ∈ F) : Con Z EL (⟨"java/lang/StringLatin1", "equals", "([B[B)Z"⟩ : MethodName) jdk_43_method_13_code 3 (Option.some Jvm.ClassFile.FieldType.boolean) (rmm 0 0 0 0) [(vr p1), (vr p2)] (F) (fun v D' => (Cd .eq x1 x3 ∧ Cd .eq x2 x4 ∧ v = some (vi 1) ∧ F = D') ∨ (Cd .eq x1 x3 ∧ ¬ Cd .eq x2 x4 ∧ v = some (vi 0) ∧ F = D') ∨ (¬ Cd .eq x1 x3 ∧ v = some (vi 0) ∧ F = D')) := by
  refine Con.of (ls := #[rv p1, rv p2, uu]) (by decide +kernel) rfl ?_
  show W Z EL _ "java/lang/StringLatin1" "equals" _ _ _ _ _ _ _ _ _ _
  refine W.aloadN (pc := 0) d25_0 rfl rfl ?_
  refine W.alen (pc := 1) (2) d25_1 mp1 rfl ?_
  refine W.aloadN (pc := 2) d25_2 rfl rfl ?_
  refine W.alen (pc := 3) (2) d25_3 mp2 rfl ?_
  refine W.icmpN (pc := 4) d25_4 (n_ne (by decide)) ?_
  refine W.iconst (pc := 7) (0) d25_7 (by decide) ?_
  refine W.istoreN (pc := 8) (ls' := #[rv p1, rv p2, iv 0]) d25_8 rfl ?_
  refine W.iloadN (pc := 9) d25_9 rfl ?_
  refine W.aloadN (pc := 10) d25_10 rfl rfl ?_
  refine W.alen (pc := 11) (2) d25_11 mp1 rfl ?_
  refine W.icmpN (pc := 12) d25_12 (n_ge (by decide)) ?_
  refine W.aloadN (pc := 15) d25_15 rfl rfl ?_
  refine W.iloadN (pc := 16) d25_16 rfl ?_
  refine W.baload (pc := 17) 0 d25_17 mp1 ix0 rfl ?_
  refine W.aloadN (pc := 18) d25_18 rfl rfl ?_
  refine W.iloadN (pc := 19) d25_19 rfl ?_
  refine W.baload (pc := 20) 0 d25_20 mp2 ix0 rfl ?_
  refine W.icmp (pc := 21) 26 d25_21 (by decide) (fun h1 => ?_) (fun h1 => ?_)
  ·
   have ih1 := t_eq h1
   refine W.iincK (pc := 26) (ls' := #[rv p1, rv p2, iv 1]) (1) (1 : Int32) d25_26 (by decide) rfl (by decide) rfl ?_
   refine W.goto (pc := 29) 9 d25_29 (by decide) ?_
   refine W.iloadN (pc := 9) d25_9 rfl ?_
   refine W.aloadN (pc := 10) d25_10 rfl rfl ?_
   refine W.alen (pc := 11) (2) d25_11 mp1 rfl ?_
   refine W.icmpN (pc := 12) d25_12 (n_ge (by decide)) ?_
   refine W.aloadN (pc := 15) d25_15 rfl rfl ?_
   refine W.iloadN (pc := 16) d25_16 rfl ?_
   refine W.baload (pc := 17) 1 d25_17 mp1 ix1 rfl ?_
   refine W.aloadN (pc := 18) d25_18 rfl rfl ?_
   refine W.iloadN (pc := 19) d25_19 rfl ?_
   refine W.baload (pc := 20) 1 d25_20 mp2 ix1 rfl ?_
   refine W.icmp (pc := 21) 26 d25_21 (by decide) (fun h2 => ?_) (fun h2 => ?_)
   ·
    have ih2 := t_eq h2
    refine W.iincK (pc := 26) (ls' := #[rv p1, rv p2, iv 2]) (1) (2 : Int32) d25_26 (by decide) rfl (by decide) rfl ?_
    refine W.goto (pc := 29) 9 d25_29 (by decide) ?_
    refine W.iloadN (pc := 9) d25_9 rfl ?_
    refine W.aloadN (pc := 10) d25_10 rfl rfl ?_
    refine W.alen (pc := 11) (2) d25_11 mp1 rfl ?_
    refine W.icmpY (pc := 12) 32 d25_12 (y_ge (by decide)) (by decide) ?_
    refine W.iconst (pc := 32) (1) d25_32 (by decide) ?_
    exact W.ireturn (pc := 33) d25_33 rfl (Or.inr (Or.inl rfl)) (nw_bool (by decide)) (by decide) (Or.inl ⟨h1, h2, rfl, rfl⟩)
   ·
    have ih2 := f_eq h2
    refine W.iconst (pc := 24) (0) d25_24 (by decide) ?_
    exact W.ireturn (pc := 25) d25_25 rfl (Or.inr (Or.inl rfl)) (nw_bool (by decide)) (by decide) (Or.inr (Or.inl ⟨h1, h2, rfl, rfl⟩))
  ·
   have ih1 := f_eq h1
   refine W.iconst (pc := 24) (0) d25_24 (by decide) ?_
   exact W.ireturn (pc := 25) d25_25 rfl (Or.inr (Or.inl rfl)) (nw_bool (by decide)) (by decide) (Or.inr (Or.inr ⟨h1, rfl, rfl⟩))
theorem c105_equals {Z a0} (hw : HW a0 Z) (hs : SF Z) {p1 p2 p3 p4 : Addr} {x1 : Int32} (hx1 : (45 ≤ x1.toInt ∧ x1.toInt ≤ 46) ∨ (48 ≤ x1.toInt ∧ x1.toInt ≤ 58) ∨ (65 ≤ x1.toInt ∧ x1.toInt ≤ 90) ∨ x1.toInt = 95 ∨ (97 ≤ x1.toInt ∧ x1.toInt ≤ 122)) {x2 : Int32} (hx2 : (45 ≤ x2.toInt ∧ x2.toInt ≤ 46) ∨ (48 ≤ x2.toInt ∧ x2.toInt ≤ 58) ∨ (65 ≤ x2.toInt ∧ x2.toInt ≤ 90) ∨ x2.toInt = 95 ∨ (97 ≤ x2.toInt ∧ x2.toInt ≤ 122)) {x3 : Int32} (hx3 : (45 ≤ x3.toInt ∧ x3.toInt ≤ 46) ∨ (48 ≤ x3.toInt ∧ x3.toInt ≤ 58) ∨ (65 ≤ x3.toInt ∧ x3.toInt ≤ 90) ∨ x3.toInt = 95 ∨ (97 ≤ x3.toInt ∧ x3.toInt ≤ 122)) {x4 : Int32} (hx4 : (45 ≤ x4.toInt ∧ x4.toInt ≤ 46) ∨ (48 ≤ x4.toInt ∧ x4.toInt ≤ 58) ∨ (65 ≤ x4.toInt ∧ x4.toInt ≤ 90) ∨ x4.toInt = 95 ∨ (97 ≤ x4.toInt ∧ x4.toInt ≤ 122)) {w_p2 : Bool} {w_p1 : Bool} {w_p3 : Bool} {ad_p3 : String} {w_p4 : Bool} {ad_p4 : String} (ne_p1_p2 : p1 ≠ p2) {F : List Ent} (mp2 : (p2, w_p2, oString (vr p4) (vi 0)) ∈ F) (mp1 : (p1, w_p1, oString (vr p3) (vi 0)) ∈ F) (mp3 : (p3, w_p3, ar ad_p3 .byte [(vi x1), (vi x2)]) ∈ F) (mp4 : (p4, w_p4, ar ad_p4 .byte [(vi x3), (vi x4)]) ∈ F) : Con Z EL (⟨"java/lang/String", "equals", "(Ljava/lang/Object;)Z"⟩ : MethodName) jdk_42_method_66_code 3 (Option.some Jvm.ClassFile.FieldType.boolean) (rmm 1 0 0 14) [(vr p1), (vr p2)] (F) (fun v D' => (Cd .eq x1 x3 ∧ Cd .eq x2 x4 ∧ v = some (vi 1) ∧ F = D') ∨ (Cd .eq x1 x3 ∧ ¬ Cd .eq x2 x4 ∧ v = some (vi 0) ∧ F = D') ∨ (¬ Cd .eq x1 x3 ∧ v = some (vi 0) ∧ F = D')) := by
  refine Con.of (ls := #[rv p1, rv p2, uu]) (by decide +kernel) rfl ?_
  show W Z EL _ "java/lang/String" "equals" _ _ _ _ _ _ _ _ _ _
  refine W.aloadN (pc := 0) d24_0 rfl rfl ?_
  refine W.aloadN (pc := 1) d24_1 rfl rfl ?_
  refine W.acmpY (pc := 2) 7 d24_2 rfl rfl (show Ca .ne _ _ from (fun z => ne_p1_p2 (by injection z))) (by decide) ?_
  refine W.aloadN (pc := 7) d24_7 rfl rfl ?_
  refine W.instY (pc := 8) d24_8 (w123 hw) (Hp.ins mp2) ?_
  refine W.ifN (pc := 11) d24_11 (n_eq (by decide)) ?_
  refine W.aloadN (pc := 14) d24_14 rfl rfl ?_
  refine W.castY (pc := 15) d24_15 (w123 hw) (Hp.ins mp2) ?_
  refine W.astoreN (pc := 18) (ls' := #[rv p1, rv p2, rv p2]) d24_18 rfl rfl ?_
  refine W.gets (pc := 19) d24_19 (w23 hw) Via.refl hs.1 ?_
  refine W.ifN (pc := 22) d24_22 (n_eq (by have := hs.2.1; have := q0; omega)) ?_
  refine W.aloadN (pc := 25) d24_25 rfl rfl ?_
  refine W.getf (pc := 26) d24_26 (w35 hw) Via.refl mp1 m1 ?_
  refine W.aloadN (pc := 29) d24_29 rfl rfl ?_
  refine W.getf (pc := 30) d24_30 (w35 hw) Via.refl mp2 m1 ?_
  refine W.icmpN (pc := 33) d24_33 (n_ne (by decide)) ?_
  refine W.aloadN (pc := 36) d24_36 rfl rfl ?_
  refine W.getf (pc := 37) d24_37 (w37 hw) Via.refl mp1 m0 ?_
  refine W.aloadN (pc := 40) d24_40 rfl rfl ?_
  refine W.getf (pc := 41) d24_41 (w37 hw) Via.refl mp2 m0 ?_
  refine W.callS (pc := 44) (as := [(vr p3), (vr p4)]) 0 [] d24_44 (w124 hw) (w125 hw) (w84 hw) (w126 hw) (c106_equals hw hs (hx1 := hx1) (hx2 := hx2) (hx3 := hx3) (hx4 := hx4) (mp1 := mp3) (mp2 := mp4)) (by decide) pd__B_B_Z rfl rfl rfl rfl (by decide) (fun v D' h => ?_)
  rcases h with ⟨h1, h2, rfl, rfl⟩ | ⟨h3, h4, rfl, rfl⟩ | ⟨h5, rfl, rfl⟩
  ·
   have ih1 := t_eq h1
   have ih2 := t_eq h2
   show W _ _ _ _ _ _ _ _ _ _ _ _ 47 _ [(vi 1)]
   refine W.ifN (pc := 47) d24_47 (n_eq (by decide)) ?_
   refine W.iconst (pc := 50) (1) d24_50 (by decide) ?_
   refine W.goto (pc := 51) 55 d24_51 (by decide) ?_
   exact W.ireturn (pc := 55) d24_55 rfl (Or.inr (Or.inl rfl)) (nw_bool (by decide)) (by decide) (Or.inl ⟨h1, h2, rfl, rfl⟩)
  ·
   have ih3 := t_eq h3
   have ih4 := f_eq h4
   show W _ _ _ _ _ _ _ _ _ _ _ _ 47 _ [(vi 0)]
   refine W.ifY (pc := 47) 54 d24_47 (y_eq (by decide)) (by decide) ?_
   refine W.iconst (pc := 54) (0) d24_54 (by decide) ?_
   exact W.ireturn (pc := 55) d24_55 rfl (Or.inr (Or.inl rfl)) (nw_bool (by decide)) (by decide) (Or.inr (Or.inl ⟨h3, h4, rfl, rfl⟩))
  ·
   have ih5 := f_eq h5
   show W _ _ _ _ _ _ _ _ _ _ _ _ 47 _ [(vi 0)]
   refine W.ifY (pc := 47) 54 d24_47 (y_eq (by decide)) (by decide) ?_
   refine W.iconst (pc := 54) (0) d24_54 (by decide) ?_
   exact W.ireturn (pc := 55) d24_55 rfl (Or.inr (Or.inl rfl)) (nw_bool (by decide)) (by decide) (Or.inr (Or.inr ⟨h5, rfl, rfl⟩))
theorem c104_equals {Z a0} (hw : HW a0 Z) (hs : SF Z) {p1 p2 p3 p4 p5 p6 p7 p8 p9 p10 : Addr} {x1 : Int32} (hx1 : (45 ≤ x1.toInt ∧ x1.toInt ≤ 46) ∨ (48 ≤ x1.toInt ∧ x1.toInt ≤ 57) ∨ (65 ≤ x1.toInt ∧ x1.toInt ≤ 90) ∨ x1.toInt = 95 ∨ (97 ≤ x1.toInt ∧ x1.toInt ≤ 122)) {x2 : Int32} (hx2 : (45 ≤ x2.toInt ∧ x2.toInt ≤ 46) ∨ (48 ≤ x2.toInt ∧ x2.toInt ≤ 58) ∨ (65 ≤ x2.toInt ∧ x2.toInt ≤ 90) ∨ x2.toInt = 95 ∨ (97 ≤ x2.toInt ∧ x2.toInt ≤ 122)) {x3 : Int32} (hx3 : (45 ≤ x3.toInt ∧ x3.toInt ≤ 46) ∨ (48 ≤ x3.toInt ∧ x3.toInt ≤ 58) ∨ (65 ≤ x3.toInt ∧ x3.toInt ≤ 90) ∨ x3.toInt = 95 ∨ (97 ≤ x3.toInt ∧ x3.toInt ≤ 122)) {x4 : Int32} (hx4 : (45 ≤ x4.toInt ∧ x4.toInt ≤ 46) ∨ (48 ≤ x4.toInt ∧ x4.toInt ≤ 57) ∨ (65 ≤ x4.toInt ∧ x4.toInt ≤ 90) ∨ x4.toInt = 95 ∨ (97 ≤ x4.toInt ∧ x4.toInt ≤ 122)) {x5 : Int32} (hx5 : (45 ≤ x5.toInt ∧ x5.toInt ≤ 46) ∨ (48 ≤ x5.toInt ∧ x5.toInt ≤ 58) ∨ (65 ≤ x5.toInt ∧ x5.toInt ≤ 90) ∨ x5.toInt = 95 ∨ (97 ≤ x5.toInt ∧ x5.toInt ≤ 122)) {x6 : Int32} (hx6 : (45 ≤ x6.toInt ∧ x6.toInt ≤ 46) ∨ (48 ≤ x6.toInt ∧ x6.toInt ≤ 58) ∨ (65 ≤ x6.toInt ∧ x6.toInt ≤ 90) ∨ x6.toInt = 95 ∨ (97 ≤ x6.toInt ∧ x6.toInt ≤ 122)) {w_p2 : Bool} {w_p1 : Bool} {w_p3 : Bool} {w_p5 : Bool} {w_p7 : Bool} {ad_p7 : String} {w_p9 : Bool} {ad_p9 : String} {w_p4 : Bool} {w_p6 : Bool} {w_p8 : Bool} {ad_p8 : String} {w_p10 : Bool} {ad_p10 : String} (ne_p1_p2 : p1 ≠ p2) (ne_p3_p5 : p3 ≠ p5) (ne_p4_p6 : p4 ≠ p6) {F : List Ent} (mp2 : (p2, w_p2, oJobKey (vr p5) (vr p6)) ∈ F) (mp1 : (p1, w_p1, oJobKey (vr p3) (vr p4)) ∈ F) (mp3 : (p3, w_p3, oString (vr p7) (vi 0)) ∈ F) (mp5 : (p5, w_p5, oString (vr p9) (vi 0)) ∈ F) (mp7 : (p7, w_p7, ar ad_p7 .byte [(vi x1)]) ∈ F) (mp9 : (p9, w_p9, ar ad_p9 .byte [(vi x4)]) ∈ F) (mp4 : (p4, w_p4, oString (vr p8) (vi 0)) ∈ F) (mp6 : (p6, w_p6, oString (vr p10) (vi 0)) ∈ F) (mp8 : (p8, w_p8, ar ad_p8 .byte [(vi x2), (vi x3)]) ∈ F) (mp10 : (p10, w_p10, ar ad_p10 .byte [(vi x5), (vi x6)]) ∈ F) : Con Z EL (⟨"com/example/cunctator/cunctator/JobKey", "equals", "(Ljava/lang/Object;)Z"⟩ : MethodName) prog_8_method_6_code 3 (Option.some Jvm.ClassFile.FieldType.boolean) (rmm 2 0 0 28) [(vr p1), (vr p2)] (F) (fun v D' => (Cd .eq x1 x4 ∧ Cd .eq x2 x5 ∧ Cd .eq x3 x6 ∧ v = some (vi 1) ∧ F = D') ∨ (Cd .eq x1 x4 ∧ Cd .eq x2 x5 ∧ ¬ Cd .eq x3 x6 ∧ v = some (vi 0) ∧ F = D') ∨ (Cd .eq x1 x4 ∧ ¬ Cd .eq x2 x5 ∧ v = some (vi 0) ∧ F = D') ∨ (¬ Cd .eq x1 x4 ∧ v = some (vi 0) ∧ F = D')) := by
  refine Con.of (ls := #[rv p1, rv p2, uu]) (by decide +kernel) rfl ?_
  show W Z EL _ "com/example/cunctator/cunctator/JobKey" "equals" _ _ _ _ _ _ _ _ _ _
  refine W.aloadN (pc := 0) d23_0 rfl rfl ?_
  refine W.aloadN (pc := 1) d23_1 rfl rfl ?_
  refine W.acmpY (pc := 2) 7 d23_2 rfl rfl (show Ca .ne _ _ from (fun z => ne_p1_p2 (by injection z))) (by decide) ?_
  refine W.aloadN (pc := 7) d23_7 rfl rfl ?_
  refine W.instY (pc := 8) d23_8 (w116 hw) (Hp.ins mp2) ?_
  refine W.ifY (pc := 11) 16 d23_11 (y_ne (by decide)) (by decide) ?_
  refine W.aloadN (pc := 16) d23_16 rfl rfl ?_
  refine W.castY (pc := 17) d23_17 (w116 hw) (Hp.ins mp2) ?_
  refine W.astoreN (pc := 20) (ls' := #[rv p1, rv p2, rv p2]) d23_20 rfl rfl ?_
  refine W.aloadN (pc := 21) d23_21 rfl rfl ?_
  refine W.getf (pc := 22) d23_22 (w99 hw) Via.refl mp1 m0 ?_
  refine W.aloadN (pc := 25) d23_25 rfl rfl ?_
  refine W.getf (pc := 26) d23_26 (w99 hw) Via.refl mp2 m0 ?_
  refine W.callV (pc := 29) (as := [(vr p5)]) 0 [] d23_29 (w118 hw) (w119 hw) (w121 hw) (w121 hw) (w120 hw) (w11 hw) (w122 hw) (Hp.exa mp3) (c62_equals hw hs (hx1 := hx1) (hx2 := hx4) (mp2 := mp5) (mp1 := mp3) (mp3 := mp7) (mp4 := mp9) (ne_p1_p2 := ne_p3_p5)) (by decide) pd_Ljava_lang_Object__Z rfl rfl rfl rfl (by decide) (fun v D' h => ?_)
  rcases h with ⟨h1, rfl, rfl⟩ | ⟨h2, rfl, rfl⟩
  ·
   have ih1 := t_eq h1
   show W _ _ _ _ _ _ _ _ _ _ _ _ 32 _ [(vi 1)]
   refine W.ifN (pc := 32) d23_32 (n_eq (by decide)) ?_
   refine W.aloadN (pc := 35) d23_35 rfl rfl ?_
   refine W.getf (pc := 36) d23_36 (w106 hw) Via.refl mp1 m1 ?_
   refine W.aloadN (pc := 39) d23_39 rfl rfl ?_
   refine W.getf (pc := 40) d23_40 (w106 hw) Via.refl mp2 m1 ?_
   refine W.callV (pc := 43) (as := [(vr p6)]) 0 [] d23_43 (w118 hw) (w119 hw) (w121 hw) (w121 hw) (w120 hw) (w11 hw) (w122 hw) (Hp.exa mp4) (c105_equals hw hs (hx1 := hx2) (hx2 := hx3) (hx3 := hx5) (hx4 := hx6) (mp2 := mp6) (mp1 := mp4) (mp3 := mp8) (mp4 := mp10) (ne_p1_p2 := ne_p4_p6)) (by decide) pd_Ljava_lang_Object__Z rfl rfl rfl rfl (by decide) (fun v D' h => ?_)
   rcases h with ⟨h3, h4, rfl, rfl⟩ | ⟨h5, h6, rfl, rfl⟩ | ⟨h7, rfl, rfl⟩
   ·
    have ih3 := t_eq h3
    have ih4 := t_eq h4
    show W _ _ _ _ _ _ _ _ _ _ _ _ 46 _ [(vi 1)]
    refine W.ifN (pc := 46) d23_46 (n_eq (by decide)) ?_
    refine W.iconst (pc := 49) (1) d23_49 (by decide) ?_
    refine W.goto (pc := 50) 54 d23_50 (by decide) ?_
    exact W.ireturn (pc := 54) d23_54 rfl (Or.inr (Or.inl rfl)) (nw_bool (by decide)) (by decide) (Or.inl ⟨h1, h3, h4, rfl, rfl⟩)
   ·
    have ih5 := t_eq h5
    have ih6 := f_eq h6
    show W _ _ _ _ _ _ _ _ _ _ _ _ 46 _ [(vi 0)]
    refine W.ifY (pc := 46) 53 d23_46 (y_eq (by decide)) (by decide) ?_
    refine W.iconst (pc := 53) (0) d23_53 (by decide) ?_
    exact W.ireturn (pc := 54) d23_54 rfl (Or.inr (Or.inl rfl)) (nw_bool (by decide)) (by decide) (Or.inr (Or.inl ⟨h1, h5, h6, rfl, rfl⟩))
   ·
    have ih7 := f_eq h7
    show W _ _ _ _ _ _ _ _ _ _ _ _ 46 _ [(vi 0)]
    refine W.ifY (pc := 46) 53 d23_46 (y_eq (by decide)) (by decide) ?_
    refine W.iconst (pc := 53) (0) d23_53 (by decide) ?_
    exact W.ireturn (pc := 54) d23_54 rfl (Or.inr (Or.inl rfl)) (nw_bool (by decide)) (by decide) (Or.inr (Or.inr (Or.inl ⟨h1, h7, rfl, rfl⟩)))
  ·
   have ih2 := f_eq h2
   show W _ _ _ _ _ _ _ _ _ _ _ _ 32 _ [(vi 0)]
   refine W.ifY (pc := 32) 53 d23_32 (y_eq (by decide)) (by decide) ?_
   refine W.iconst (pc := 53) (0) d23_53 (by decide) ?_
   exact W.ireturn (pc := 54) d23_54 rfl (Or.inr (Or.inl rfl)) (nw_bool (by decide)) (by decide) (Or.inr (Or.inr (Or.inr ⟨h2, rfl, rfl⟩)))
theorem c109_equals {Z a0} (hw : HW a0 Z) (hs : SF Z) {p1 p2 : Addr} {x1 : Int32} (hx1 : (45 ≤ x1.toInt ∧ x1.toInt ≤ 46) ∨ (48 ≤ x1.toInt ∧ x1.toInt ≤ 57) ∨ (65 ≤ x1.toInt ∧ x1.toInt ≤ 90) ∨ x1.toInt = 95 ∨ (97 ≤ x1.toInt ∧ x1.toInt ≤ 122)) {x2 : Int32} (hx2 : (45 ≤ x2.toInt ∧ x2.toInt ≤ 46) ∨ (48 ≤ x2.toInt ∧ x2.toInt ≤ 57) ∨ (65 ≤ x2.toInt ∧ x2.toInt ≤ 90) ∨ x2.toInt = 95 ∨ (97 ≤ x2.toInt ∧ x2.toInt ≤ 122)) {x3 : Int32} (hx3 : (45 ≤ x3.toInt ∧ x3.toInt ≤ 46) ∨ (48 ≤ x3.toInt ∧ x3.toInt ≤ 57) ∨ (65 ≤ x3.toInt ∧ x3.toInt ≤ 90) ∨ x3.toInt = 95 ∨ (97 ≤ x3.toInt ∧ x3.toInt ≤ 122)) {x4 : Int32} (hx4 : (45 ≤ x4.toInt ∧ x4.toInt ≤ 46) ∨ (48 ≤ x4.toInt ∧ x4.toInt ≤ 57) ∨ (65 ≤ x4.toInt ∧ x4.toInt ≤ 90) ∨ x4.toInt = 95 ∨ (97 ≤ x4.toInt ∧ x4.toInt ≤ 122)) {w_p1 : Bool} {ad_p1 : String} {w_p2 : Bool} {ad_p2 : String} {F : List Ent} (mp1 : (p1, w_p1, ar ad_p1 .byte [(vi x1), (vi x2)]) ∈ F) (mp2 : (p2, w_p2, ar ad_p2 .byte [(vi x3), (vi x4)]) ∈ F) : Con Z EL (⟨"java/lang/StringLatin1", "equals", "([B[B)Z"⟩ : MethodName) jdk_43_method_13_code 3 (Option.some Jvm.ClassFile.FieldType.boolean) (rmm 0 0 0 0) [(vr p1), (vr p2)] (F) (fun v D' => (Cd .eq x1 x3 ∧ Cd .eq x2 x4 ∧ v = some (vi 1) ∧ F = D') ∨ (Cd .eq x1 x3 ∧ ¬ Cd .eq x2 x4 ∧ v = some (vi 0) ∧ F = D') ∨ (¬ Cd .eq x1 x3 ∧ v = some (vi 0) ∧ F = D')) := by
  refine Con.of (ls := #[rv p1, rv p2, uu]) (by decide +kernel) rfl ?_
  show W Z EL _ "java/lang/StringLatin1" "equals" _ _ _ _ _ _ _ _ _ _
  refine W.aloadN (pc := 0) d25_0 rfl rfl ?_
  refine W.alen (pc := 1) (2) d25_1 mp1 rfl ?_
  refine W.aloadN (pc := 2) d25_2 rfl rfl ?_
  refine W.alen (pc := 3) (2) d25_3 mp2 rfl ?_
  refine W.icmpN (pc := 4) d25_4 (n_ne (by decide)) ?_
  refine W.iconst (pc := 7) (0) d25_7 (by decide) ?_
  refine W.istoreN (pc := 8) (ls' := #[rv p1, rv p2, iv 0]) d25_8 rfl ?_
  refine W.iloadN (pc := 9) d25_9 rfl ?_
  refine W.aloadN (pc := 10) d25_10 rfl rfl ?_
  refine W.alen (pc := 11) (2) d25_11 mp1 rfl ?_
  refine W.icmpN (pc := 12) d25_12 (n_ge (by decide)) ?_
  refine W.aloadN (pc := 15) d25_15 rfl rfl ?_
  refine W.iloadN (pc := 16) d25_16 rfl ?_
  refine W.baload (pc := 17) 0 d25_17 mp1 ix0 rfl ?_
  refine W.aloadN (pc := 18) d25_18 rfl rfl ?_
  refine W.iloadN (pc := 19) d25_19 rfl ?_
  refine W.baload (pc := 20) 0 d25_20 mp2 ix0 rfl ?_
  refine W.icmp (pc := 21) 26 d25_21 (by decide) (fun h1 => ?_) (fun h1 => ?_)
  ·
   have ih1 := t_eq h1
   refine W.iincK (pc := 26) (ls' := #[rv p1, rv p2, iv 1]) (1) (1 : Int32) d25_26 (by decide) rfl (by decide) rfl ?_
   refine W.goto (pc := 29) 9 d25_29 (by decide) ?_
   refine W.iloadN (pc := 9) d25_9 rfl ?_
   refine W.aloadN (pc := 10) d25_10 rfl rfl ?_
   refine W.alen (pc := 11) (2) d25_11 mp1 rfl ?_
   refine W.icmpN (pc := 12) d25_12 (n_ge (by decide)) ?_
   refine W.aloadN (pc := 15) d25_15 rfl rfl ?_
   refine W.iloadN (pc := 16) d25_16 rfl ?_
   refine W.baload (pc := 17) 1 d25_17 mp1 ix1 rfl ?_
   refine W.aloadN (pc := 18) d25_18 rfl rfl ?_
   refine W.iloadN (pc := 19) d25_19 rfl ?_
   refine W.baload (pc := 20) 1 d25_20 mp2 ix1 rfl ?_
   refine W.icmp (pc := 21) 26 d25_21 (by decide) (fun h2 => ?_) (fun h2 => ?_)
   ·
    have ih2 := t_eq h2
    refine W.iincK (pc := 26) (ls' := #[rv p1, rv p2, iv 2]) (1) (2 : Int32) d25_26 (by decide) rfl (by decide) rfl ?_
    refine W.goto (pc := 29) 9 d25_29 (by decide) ?_
    refine W.iloadN (pc := 9) d25_9 rfl ?_
    refine W.aloadN (pc := 10) d25_10 rfl rfl ?_
    refine W.alen (pc := 11) (2) d25_11 mp1 rfl ?_
    refine W.icmpY (pc := 12) 32 d25_12 (y_ge (by decide)) (by decide) ?_
    refine W.iconst (pc := 32) (1) d25_32 (by decide) ?_
    exact W.ireturn (pc := 33) d25_33 rfl (Or.inr (Or.inl rfl)) (nw_bool (by decide)) (by decide) (Or.inl ⟨h1, h2, rfl, rfl⟩)
   ·
    have ih2 := f_eq h2
    refine W.iconst (pc := 24) (0) d25_24 (by decide) ?_
    exact W.ireturn (pc := 25) d25_25 rfl (Or.inr (Or.inl rfl)) (nw_bool (by decide)) (by decide) (Or.inr (Or.inl ⟨h1, h2, rfl, rfl⟩))
  ·
   have ih1 := f_eq h1
   refine W.iconst (pc := 24) (0) d25_24 (by decide) ?_
   exact W.ireturn (pc := 25) d25_25 rfl (Or.inr (Or.inl rfl)) (nw_bool (by decide)) (by decide) (Or.inr (Or.inr ⟨h1, rfl, rfl⟩))
theorem c108_equals {Z a0} (hw : HW a0 Z) (hs : SF Z) {p1 p2 p3 p4 : Addr} {x1 : Int32} (hx1 : (45 ≤ x1.toInt ∧ x1.toInt ≤ 46) ∨ (48 ≤ x1.toInt ∧ x1.toInt ≤ 57) ∨ (65 ≤ x1.toInt ∧ x1.toInt ≤ 90) ∨ x1.toInt = 95 ∨ (97 ≤ x1.toInt ∧ x1.toInt ≤ 122)) {x2 : Int32} (hx2 : (45 ≤ x2.toInt ∧ x2.toInt ≤ 46) ∨ (48 ≤ x2.toInt ∧ x2.toInt ≤ 57) ∨ (65 ≤ x2.toInt ∧ x2.toInt ≤ 90) ∨ x2.toInt = 95 ∨ (97 ≤ x2.toInt ∧ x2.toInt ≤ 122)) {x3 : Int32} (hx3 : (45 ≤ x3.toInt ∧ x3.toInt ≤ 46) ∨ (48 ≤ x3.toInt ∧ x3.toInt ≤ 57) ∨ (65 ≤ x3.toInt ∧ x3.toInt ≤ 90) ∨ x3.toInt = 95 ∨ (97 ≤ x3.toInt ∧ x3.toInt ≤ 122)) {x4 : Int32} (hx4 : (45 ≤ x4.toInt ∧ x4.toInt ≤ 46) ∨ (48 ≤ x4.toInt ∧ x4.toInt ≤ 57) ∨ (65 ≤ x4.toInt ∧ x4.toInt ≤ 90) ∨ x4.toInt = 95 ∨ (97 ≤ x4.toInt ∧ x4.toInt ≤ 122)) {w_p2 : Bool} {w_p1 : Bool} {w_p3 : Bool} {ad_p3 : String} {w_p4 : Bool} {ad_p4 : String} (ne_p1_p2 : p1 ≠ p2) {F : List Ent} (mp2 : (p2, w_p2, oString (vr p4) (vi 0)) ∈ F) (mp1 : (p1, w_p1, oString (vr p3) (vi 0)) ∈ F) (mp3 : (p3, w_p3, ar ad_p3 .byte [(vi x1), (vi x2)]) ∈ F) (mp4 : (p4, w_p4, ar ad_p4 .byte [(vi x3), (vi x4)]) ∈ F) : Con Z EL (⟨"java/lang/String", "equals", "(Ljava/lang/Object;)Z"⟩ : MethodName) jdk_42_method_66_code 3 (Option.some Jvm.ClassFile.FieldType.boolean) (rmm 1 0 0 14) [(vr p1), (vr p2)] (F) (fun v D' => (Cd .eq x1 x3 ∧ Cd .eq x2 x4 ∧ v = some (vi 1) ∧ F = D') ∨ (Cd .eq x1 x3 ∧ ¬ Cd .eq x2 x4 ∧ v = some (vi 0) ∧ F = D') ∨ (¬ Cd .eq x1 x3 ∧ v = some (vi 0) ∧ F = D')) := by
  refine Con.of (ls := #[rv p1, rv p2, uu]) (by decide +kernel) rfl ?_
  show W Z EL _ "java/lang/String" "equals" _ _ _ _ _ _ _ _ _ _
  refine W.aloadN (pc := 0) d24_0 rfl rfl ?_
  refine W.aloadN (pc := 1) d24_1 rfl rfl ?_
  refine W.acmpY (pc := 2) 7 d24_2 rfl rfl (show Ca .ne _ _ from (fun z => ne_p1_p2 (by injection z))) (by decide) ?_
  refine W.aloadN (pc := 7) d24_7 rfl rfl ?_
  refine W.instY (pc := 8) d24_8 (w123 hw) (Hp.ins mp2) ?_
  refine W.ifN (pc := 11) d24_11 (n_eq (by decide)) ?_
  refine W.aloadN (pc := 14) d24_14 rfl rfl ?_
  refine W.castY (pc := 15) d24_15 (w123 hw) (Hp.ins mp2) ?_
  refine W.astoreN (pc := 18) (ls' := #[rv p1, rv p2, rv p2]) d24_18 rfl rfl ?_
  refine W.gets (pc := 19) d24_19 (w23 hw) Via.refl hs.1 ?_
  refine W.ifN (pc := 22) d24_22 (n_eq (by have := hs.2.1; have := q0; omega)) ?_
  refine W.aloadN (pc := 25) d24_25 rfl rfl ?_
  refine W.getf (pc := 26) d24_26 (w35 hw) Via.refl mp1 m1 ?_
  refine W.aloadN (pc := 29) d24_29 rfl rfl ?_
  refine W.getf (pc := 30) d24_30 (w35 hw) Via.refl mp2 m1 ?_
  refine W.icmpN (pc := 33) d24_33 (n_ne (by decide)) ?_
  refine W.aloadN (pc := 36) d24_36 rfl rfl ?_
  refine W.getf (pc := 37) d24_37 (w37 hw) Via.refl mp1 m0 ?_
  refine W.aloadN (pc := 40) d24_40 rfl rfl ?_
  refine W.getf (pc := 41) d24_41 (w37 hw) Via.refl mp2 m0 ?_
  refine W.callS (pc := 44) (as := [(vr p3), (vr p4)]) 0 [] d24_44 (w124 hw) (w125 hw) (w84 hw) (w126 hw) (c109_equals hw hs (hx1 := hx1) (hx2 := hx2) (hx3 := hx3) (hx4 := hx4) (mp1 := mp3) (mp2 := mp4)) (by decide) pd__B_B_Z rfl rfl rfl rfl (by decide) (fun v D' h => ?_)
  rcases h with ⟨h1, h2, rfl, rfl⟩ | ⟨h3, h4, rfl, rfl⟩ | ⟨h5, rfl, rfl⟩
  ·
   have ih1 := t_eq h1
   have ih2 := t_eq h2
   show W _ _ _ _ _ _ _ _ _ _ _ _ 47 _ [(vi 1)]
   refine W.ifN (pc := 47) d24_47 (n_eq (by decide)) ?_
   refine W.iconst (pc := 50) (1) d24_50 (by decide) ?_
   refine W.goto (pc := 51) 55 d24_51 (by decide) ?_
   exact W.ireturn (pc := 55) d24_55 rfl (Or.inr (Or.inl rfl)) (nw_bool (by decide)) (by decide) (Or.inl ⟨h1, h2, rfl, rfl⟩)
  ·
   have ih3 := t_eq h3
   have ih4 := f_eq h4
   show W _ _ _ _ _ _ _ _ _ _ _ _ 47 _ [(vi 0)]
   refine W.ifY (pc := 47) 54 d24_47 (y_eq (by decide)) (by decide) ?_
   refine W.iconst (pc := 54) (0) d24_54 (by decide) ?_
   exact W.ireturn (pc := 55) d24_55 rfl (Or.inr (Or.inl rfl)) (nw_bool (by decide)) (by decide) (Or.inr (Or.inl ⟨h3, h4, rfl, rfl⟩))
  ·
   have ih5 := f_eq h5
   show W _ _ _ _ _ _ _ _ _ _ _ _ 47 _ [(vi 0)]
   refine W.ifY (pc := 47) 54 d24_47 (y_eq (by decide)) (by decide) ?_
   refine W.iconst (pc := 54) (0) d24_54 (by decide) ?_
   exact W.ireturn (pc := 55) d24_55 rfl (Or.inr (Or.inl rfl)) (nw_bool (by decide)) (by decide) (Or.inr (Or.inr ⟨h5, rfl, rfl⟩))
theorem c107_equals {Z a0} (hw : HW a0 Z) (hs : SF Z) {p1 p2 p3 p4 p5 p6 p7 p8 p9 p10 : Addr} {x1 : Int32} (hx1 : (45 ≤ x1.toInt ∧ x1.toInt ≤ 46) ∨ (48 ≤ x1.toInt ∧ x1.toInt ≤ 57) ∨ (65 ≤ x1.toInt ∧ x1.toInt ≤ 90) ∨ x1.toInt = 95 ∨ (97 ≤ x1.toInt ∧ x1.toInt ≤ 122)) {x2 : Int32} (hx2 : (45 ≤ x2.toInt ∧ x2.toInt ≤ 46) ∨ (48 ≤ x2.toInt ∧ x2.toInt ≤ 57) ∨ (65 ≤ x2.toInt ∧ x2.toInt ≤ 90) ∨ x2.toInt = 95 ∨ (97 ≤ x2.toInt ∧ x2.toInt ≤ 122)) {x3 : Int32} (hx3 : (45 ≤ x3.toInt ∧ x3.toInt ≤ 46) ∨ (48 ≤ x3.toInt ∧ x3.toInt ≤ 58) ∨ (65 ≤ x3.toInt ∧ x3.toInt ≤ 90) ∨ x3.toInt = 95 ∨ (97 ≤ x3.toInt ∧ x3.toInt ≤ 122)) {x4 : Int32} (hx4 : (45 ≤ x4.toInt ∧ x4.toInt ≤ 46) ∨ (48 ≤ x4.toInt ∧ x4.toInt ≤ 57) ∨ (65 ≤ x4.toInt ∧ x4.toInt ≤ 90) ∨ x4.toInt = 95 ∨ (97 ≤ x4.toInt ∧ x4.toInt ≤ 122)) {x5 : Int32} (hx5 : (45 ≤ x5.toInt ∧ x5.toInt ≤ 46) ∨ (48 ≤ x5.toInt ∧ x5.toInt ≤ 57) ∨ (65 ≤ x5.toInt ∧ x5.toInt ≤ 90) ∨ x5.toInt = 95 ∨ (97 ≤ x5.toInt ∧ x5.toInt ≤ 122)) {x6 : Int32} (hx6 : (45 ≤ x6.toInt ∧ x6.toInt ≤ 46) ∨ (48 ≤ x6.toInt ∧ x6.toInt ≤ 58) ∨ (65 ≤ x6.toInt ∧ x6.toInt ≤ 90) ∨ x6.toInt = 95 ∨ (97 ≤ x6.toInt ∧ x6.toInt ≤ 122)) {w_p2 : Bool} {w_p1 : Bool} {w_p3 : Bool} {w_p5 : Bool} {w_p7 : Bool} {ad_p7 : String} {w_p9 : Bool} {ad_p9 : String} {w_p4 : Bool} {w_p6 : Bool} {w_p8 : Bool} {ad_p8 : String} {w_p10 : Bool} {ad_p10 : String} (ne_p1_p2 : p1 ≠ p2) (ne_p3_p5 : p3 ≠ p5) (ne_p4_p6 : p4 ≠ p6) {F : List Ent} (mp2 : (p2, w_p2, oJobKey (vr p5) (vr p6)) ∈ F) (mp1 : (p1, w_p1, oJobKey (vr p3) (vr p4)) ∈ F) (mp3 : (p3, w_p3, oString (vr p7) (vi 0)) ∈ F) (mp5 : (p5, w_p5, oString (vr p9) (vi 0)) ∈ F) (mp7 : (p7, w_p7, ar ad_p7 .byte [(vi x1), (vi x2)]) ∈ F) (mp9 : (p9, w_p9, ar ad_p9 .byte [(vi x4), (vi x5)]) ∈ F) (mp4 : (p4, w_p4, oString (vr p8) (vi 0)) ∈ F) (mp6 : (p6, w_p6, oString (vr p10) (vi 0)) ∈ F) (mp8 : (p8, w_p8, ar ad_p8 .byte [(vi x3)]) ∈ F) (mp10 : (p10, w_p10, ar ad_p10 .byte [(vi x6)]) ∈ F) : Con Z EL (⟨"com/example/cunctator/cunctator/JobKey", "equals", "(Ljava/lang/Object;)Z"⟩ : MethodName) prog_8_method_6_code 3 (Option.some Jvm.ClassFile.FieldType.boolean) (rmm 2 0 0 28) [(vr p1), (vr p2)] (F) (fun v D' => (Cd .eq x1 x4 ∧ Cd .eq x2 x5 ∧ Cd .eq x3 x6 ∧ v = some (vi 1) ∧ F = D') ∨ (Cd .eq x1 x4 ∧ Cd .eq x2 x5 ∧ ¬ Cd .eq x3 x6 ∧ v = some (vi 0) ∧ F = D') ∨ (Cd .eq x1 x4 ∧ ¬ Cd .eq x2 x5 ∧ v = some (vi 0) ∧ F = D') ∨ (¬ Cd .eq x1 x4 ∧ v = some (vi 0) ∧ F = D')) := by
  refine Con.of (ls := #[rv p1, rv p2, uu]) (by decide +kernel) rfl ?_
  show W Z EL _ "com/example/cunctator/cunctator/JobKey" "equals" _ _ _ _ _ _ _ _ _ _
  refine W.aloadN (pc := 0) d23_0 rfl rfl ?_
  refine W.aloadN (pc := 1) d23_1 rfl rfl ?_
  refine W.acmpY (pc := 2) 7 d23_2 rfl rfl (show Ca .ne _ _ from (fun z => ne_p1_p2 (by injection z))) (by decide) ?_
  refine W.aloadN (pc := 7) d23_7 rfl rfl ?_
  refine W.instY (pc := 8) d23_8 (w116 hw) (Hp.ins mp2) ?_
  refine W.ifY (pc := 11) 16 d23_11 (y_ne (by decide)) (by decide) ?_
  refine W.aloadN (pc := 16) d23_16 rfl rfl ?_
  refine W.castY (pc := 17) d23_17 (w116 hw) (Hp.ins mp2) ?_
  refine W.astoreN (pc := 20) (ls' := #[rv p1, rv p2, rv p2]) d23_20 rfl rfl ?_
  refine W.aloadN (pc := 21) d23_21 rfl rfl ?_
  refine W.getf (pc := 22) d23_22 (w99 hw) Via.refl mp1 m0 ?_
  refine W.aloadN (pc := 25) d23_25 rfl rfl ?_
  refine W.getf (pc := 26) d23_26 (w99 hw) Via.refl mp2 m0 ?_
  refine W.callV (pc := 29) (as := [(vr p5)]) 0 [] d23_29 (w118 hw) (w119 hw) (w121 hw) (w121 hw) (w120 hw) (w11 hw) (w122 hw) (Hp.exa mp3) (c108_equals hw hs (hx1 := hx1) (hx2 := hx2) (hx3 := hx4) (hx4 := hx5) (mp2 := mp5) (mp1 := mp3) (mp3 := mp7) (mp4 := mp9) (ne_p1_p2 := ne_p3_p5)) (by decide) pd_Ljava_lang_Object__Z rfl rfl rfl rfl (by decide) (fun v D' h => ?_)
  rcases h with ⟨h1, h2, rfl, rfl⟩ | ⟨h3, h4, rfl, rfl⟩ | ⟨h5, rfl, rfl⟩
  ·
   have ih1 := t_eq h1
   have ih2 := t_eq h2
   show W _ _ _ _ _ _ _ _ _ _ _ _ 32 _ [(vi 1)]
   refine W.ifN (pc := 32) d23_32 (n_eq (by decide)) ?_
   refine W.aloadN (pc := 35) d23_35 rfl rfl ?_
   refine W.getf (pc := 36) d23_36 (w106 hw) Via.refl mp1 m1 ?_
   refine W.aloadN (pc := 39) d23_39 rfl rfl ?_
   refine W.getf (pc := 40) d23_40 (w106 hw) Via.refl mp2 m1 ?_
   refine W.callV (pc := 43) (as := [(vr p6)]) 0 [] d23_43 (w118 hw) (w119 hw) (w121 hw) (w121 hw) (w120 hw) (w11 hw) (w122 hw) (Hp.exa mp4) (c64_equals hw hs (hx1 := hx3) (hx2 := hx6) (mp2 := mp6) (mp1 := mp4) (mp3 := mp8) (mp4 := mp10) (ne_p1_p2 := ne_p4_p6)) (by decide) pd_Ljava_lang_Object__Z rfl rfl rfl rfl (by decide) (fun v D' h => ?_)
   rcases h with ⟨h6, rfl, rfl⟩ | ⟨h7, rfl, rfl⟩
   ·
    have ih6 := t_eq h6
    show W _ _ _ _ _ _ _ _ _ _ _ _ 46 _ [(vi 1)]
    refine W.ifN (pc := 46) d23_46 (n_eq (by decide)) ?_
    refine W.iconst (pc := 49) (1) d23_49 (by decide) ?_
    refine W.goto (pc := 50) 54 d23_50 (by decide) ?_
    exact W.ireturn (pc := 54) d23_54 rfl (Or.inr (Or.inl rfl)) (nw_bool (by decide)) (by decide) (Or.inl ⟨h1, h2, h6, rfl, rfl⟩)
   ·
    have ih7 := f_eq h7
    show W _ _ _ _ _ _ _ _ _ _ _ _ 46 _ [(vi 0)]
    refine W.ifY (pc := 46) 53 d23_46 (y_eq (by decide)) (by decide) ?_
    refine W.iconst (pc := 53) (0) d23_53 (by decide) ?_
    exact W.ireturn (pc := 54) d23_54 rfl (Or.inr (Or.inl rfl)) (nw_bool (by decide)) (by decide) (Or.inr (Or.inl ⟨h1, h2, h7, rfl, rfl⟩))
  ·
   have ih3 := t_eq h3
   have ih4 := f_eq h4
   show W _ _ _ _ _ _ _ _ _ _ _ _ 32 _ [(vi 0)]
   refine W.ifY (pc := 32) 53 d23_32 (y_eq (by decide)) (by decide) ?_
   refine W.iconst (pc := 53) (0) d23_53 (by decide) ?_
   exact W.ireturn (pc := 54) d23_54 rfl (Or.inr (Or.inl rfl)) (nw_bool (by decide)) (by decide) (Or.inr (Or.inr (Or.inl ⟨h3, h4, rfl, rfl⟩)))
  ·
   have ih5 := f_eq h5
   show W _ _ _ _ _ _ _ _ _ _ _ _ 32 _ [(vi 0)]
   refine W.ifY (pc := 32) 53 d23_32 (y_eq (by decide)) (by decide) ?_
   refine W.iconst (pc := 53) (0) d23_53 (by decide) ?_
   exact W.ireturn (pc := 54) d23_54 rfl (Or.inr (Or.inl rfl)) (nw_bool (by decide)) (by decide) (Or.inr (Or.inr (Or.inr ⟨h5, rfl, rfl⟩)))
theorem c110_equals {Z a0} (hw : HW a0 Z) (hs : SF Z) {p1 p2 p3 p4 p5 p6 p7 p8 p9 p10 : Addr} {x1 : Int32} (hx1 : (45 ≤ x1.toInt ∧ x1.toInt ≤ 46) ∨ (48 ≤ x1.toInt ∧ x1.toInt ≤ 57) ∨ (65 ≤ x1.toInt ∧ x1.toInt ≤ 90) ∨ x1.toInt = 95 ∨ (97 ≤ x1.toInt ∧ x1.toInt ≤ 122)) {x2 : Int32} (hx2 : (45 ≤ x2.toInt ∧ x2.toInt ≤ 46) ∨ (48 ≤ x2.toInt ∧ x2.toInt ≤ 57) ∨ (65 ≤ x2.toInt ∧ x2.toInt ≤ 90) ∨ x2.toInt = 95 ∨ (97 ≤ x2.toInt ∧ x2.toInt ≤ 122)) {x3 : Int32} (hx3 : (45 ≤ x3.toInt ∧ x3.toInt ≤ 46) ∨ (48 ≤ x3.toInt ∧ x3.toInt ≤ 58) ∨ (65 ≤ x3.toInt ∧ x3.toInt ≤ 90) ∨ x3.toInt = 95 ∨ (97 ≤ x3.toInt ∧ x3.toInt ≤ 122)) {x4 : Int32} (hx4 : (45 ≤ x4.toInt ∧ x4.toInt ≤ 46) ∨ (48 ≤ x4.toInt ∧ x4.toInt ≤ 57) ∨ (65 ≤ x4.toInt ∧ x4.toInt ≤ 90) ∨ x4.toInt = 95 ∨ (97 ≤ x4.toInt ∧ x4.toInt ≤ 122)) {x5 : Int32} (hx5 : (45 ≤ x5.toInt ∧ x5.toInt ≤ 46) ∨ (48 ≤ x5.toInt ∧ x5.toInt ≤ 57) ∨ (65 ≤ x5.toInt ∧ x5.toInt ≤ 90) ∨ x5.toInt = 95 ∨ (97 ≤ x5.toInt ∧ x5.toInt ≤ 122)) {x6 : Int32} (hx6 : (45 ≤ x6.toInt ∧ x6.toInt ≤ 46) ∨ (48 ≤ x6.toInt ∧ x6.toInt ≤ 58) ∨ (65 ≤ x6.toInt ∧ x6.toInt ≤ 90) ∨ x6.toInt = 95 ∨ (97 ≤ x6.toInt ∧ x6.toInt ≤ 122)) {x7 : Int32} (hx7 : (45 ≤ x7.toInt ∧ x7.toInt ≤ 46) ∨ (48 ≤ x7.toInt ∧ x7.toInt ≤ 58) ∨ (65 ≤ x7.toInt ∧ x7.toInt ≤ 90) ∨ x7.toInt = 95 ∨ (97 ≤ x7.toInt ∧ x7.toInt ≤ 122)) {w_p2 : Bool} {w_p1 : Bool} {w_p3 : Bool} {w_p5 : Bool} {w_p7 : Bool} {ad_p7 : String} {w_p9 : Bool} {ad_p9 : String} {w_p4 : Bool} {w_p6 : Bool} {w_p8 : Bool} {ad_p8 : String} {w_p10 : Bool} {ad_p10 : String} (ne_p1_p2 : p1 ≠ p2) (ne_p3_p5 : p3 ≠ p5) (ne_p4_p6 : p4 ≠ p6) {F : List Ent} (mp2 : (p2, w_p2, oJobKey (vr p5) (vr p6)) ∈ F) (mp1 : (p1, w_p1, oJobKey (vr p3) (vr p4)) ∈ F) (mp3 : (p3, w_p3, oString (vr p7) (vi 0)) ∈ F) (mp5 : (p5, w_p5, oString (vr p9) (vi 0)) ∈ F) (mp7 : (p7, w_p7, ar ad_p7 .byte [(vi x1), (vi x2)]) ∈ F) (mp9 : (p9, w_p9, ar ad_p9 .byte [(vi x4), (vi x5)]) ∈ F) (mp4 : (p4, w_p4, oString (vr p8) (vi 0)) ∈ F) (mp6 : (p6, w_p6, oString (vr p10) (vi 0)) ∈ F) (mp8 : (p8, w_p8, ar ad_p8 .byte [(vi x3)]) ∈ F) (mp10 : (p10, w_p10, ar ad_p10 .byte [(vi x6), (vi x7)]) ∈ F) : Con Z EL (⟨"com/example/cunctator/cunctator/JobKey", "equals", "(Ljava/lang/Object;)Z"⟩ : MethodName) prog_8_method_6_code 3 (Option.some Jvm.ClassFile.FieldType.boolean) (rmm 2 0 0 28) [(vr p1), (vr p2)] (F) (fun v D' => (v = some (vi 0) ∧ F = D')) := by
  refine Con.of (ls := #[rv p1, rv p2, uu]) (by decide +kernel) rfl ?_
  show W Z EL _ "com/example/cunctator/cunctator/JobKey" "equals" _ _ _ _ _ _ _ _ _ _
  refine W.aloadN (pc := 0) d23_0 rfl rfl ?_
  refine W.aloadN (pc := 1) d23_1 rfl rfl ?_
  refine W.acmpY (pc := 2) 7 d23_2 rfl rfl (show Ca .ne _ _ from (fun z => ne_p1_p2 (by injection z))) (by decide) ?_
  refine W.aloadN (pc := 7) d23_7 rfl rfl ?_
  refine W.instY (pc := 8) d23_8 (w116 hw) (Hp.ins mp2) ?_
  refine W.ifY (pc := 11) 16 d23_11 (y_ne (by decide)) (by decide) ?_
  refine W.aloadN (pc := 16) d23_16 rfl rfl ?_
  refine W.castY (pc := 17) d23_17 (w116 hw) (Hp.ins mp2) ?_
  refine W.astoreN (pc := 20) (ls' := #[rv p1, rv p2, rv p2]) d23_20 rfl rfl ?_
  refine W.aloadN (pc := 21) d23_21 rfl rfl ?_
  refine W.getf (pc := 22) d23_22 (w99 hw) Via.refl mp1 m0 ?_
  refine W.aloadN (pc := 25) d23_25 rfl rfl ?_
  refine W.getf (pc := 26) d23_26 (w99 hw) Via.refl mp2 m0 ?_
  refine W.callV (pc := 29) (as := [(vr p5)]) 0 [] d23_29 (w118 hw) (w119 hw) (w121 hw) (w121 hw) (w120 hw) (w11 hw) (w122 hw) (Hp.exa mp3) (c108_equals hw hs (hx1 := hx1) (hx2 := hx2) (hx3 := hx4) (hx4 := hx5) (mp2 := mp5) (mp1 := mp3) (mp3 := mp7) (mp4 := mp9) (ne_p1_p2 := ne_p3_p5)) (by decide) pd_Ljava_lang_Object__Z rfl rfl rfl rfl (by decide) (fun v D' h => ?_)
  rcases h with ⟨h1, h2, rfl, rfl⟩ | ⟨h3, h4, rfl, rfl⟩ | ⟨h5, rfl, rfl⟩
  ·
   have ih1 := t_eq h1
   have ih2 := t_eq h2
   show W _ _ _ _ _ _ _ _ _ _ _ _ 32 _ [(vi 1)]
   refine W.ifN (pc := 32) d23_32 (n_eq (by decide)) ?_
   refine W.aloadN (pc := 35) d23_35 rfl rfl ?_
   refine W.getf (pc := 36) d23_36 (w106 hw) Via.refl mp1 m1 ?_
   refine W.aloadN (pc := 39) d23_39 rfl rfl ?_
   refine W.getf (pc := 40) d23_40 (w106 hw) Via.refl mp2 m1 ?_
   refine W.callV (pc := 43) (as := [(vr p6)]) 0 [] d23_43 (w118 hw) (w119 hw) (w121 hw) (w121 hw) (w120 hw) (w11 hw) (w122 hw) (Hp.exa mp4) (c83_equals hw hs (hx1 := hx3) (hx2 := hx6) (hx3 := hx7) (mp2 := mp6) (mp1 := mp4) (mp3 := mp8) (mp4 := mp10) (ne_p1_p2 := ne_p4_p6)) (by decide) pd_Ljava_lang_Object__Z rfl rfl rfl rfl (by decide) (fun v D' h => ?_)
   obtain ⟨rfl, rfl⟩ := h
   show W _ _ _ _ _ _ _ _ _ _ _ _ 46 _ [(vi 0)]
   refine W.ifY (pc := 46) 53 d23_46 (y_eq (by decide)) (by decide) ?_
   refine W.iconst (pc := 53) (0) d23_53 (by decide) ?_
   exact W.ireturn (pc := 54) d23_54 rfl (Or.inr (Or.inl rfl)) (nw_bool (by decide)) (by decide) ⟨rfl, rfl⟩
  ·
   have ih3 := t_eq h3
   have ih4 := f_eq h4
   show W _ _ _ _ _ _ _ _ _ _ _ _ 32 _ [(vi 0)]
   refine W.ifY (pc := 32) 53 d23_32 (y_eq (by decide)) (by decide) ?_
   refine W.iconst (pc := 53) (0) d23_53 (by decide) ?_
   exact W.ireturn (pc := 54) d23_54 rfl (Or.inr (Or.inl rfl)) (nw_bool (by decide)) (by decide) ⟨rfl, rfl⟩
  ·
   have ih5 := f_eq h5
   show W _ _ _ _ _ _ _ _ _ _ _ _ 32 _ [(vi 0)]
   refine W.ifY (pc := 32) 53 d23_32 (y_eq (by decide)) (by decide) ?_
   refine W.iconst (pc := 53) (0) d23_53 (by decide) ?_
   exact W.ireturn (pc := 54) d23_54 rfl (Or.inr (Or.inl rfl)) (nw_bool (by decide)) (by decide) ⟨rfl, rfl⟩
theorem c111_equals {Z a0} (hw : HW a0 Z) (hs : SF Z) {p1 p2 p3 p4 p5 p6 p7 p8 p9 p10 : Addr} {x1 : Int32} (hx1 : (45 ≤ x1.toInt ∧ x1.toInt ≤ 46) ∨ (48 ≤ x1.toInt ∧ x1.toInt ≤ 57) ∨ (65 ≤ x1.toInt ∧ x1.toInt ≤ 90) ∨ x1.toInt = 95 ∨ (97 ≤ x1.toInt ∧ x1.toInt ≤ 122)) {x2 : Int32} (hx2 : (45 ≤ x2.toInt ∧ x2.toInt ≤ 46) ∨ (48 ≤ x2.toInt ∧ x2.toInt ≤ 57) ∨ (65 ≤ x2.toInt ∧ x2.toInt ≤ 90) ∨ x2.toInt = 95 ∨ (97 ≤ x2.toInt ∧ x2.toInt ≤ 122)) {x3 : Int32} (hx3 : (45 ≤ x3.toInt ∧ x3.toInt ≤ 46) ∨ (48 ≤ x3.toInt ∧ x3.toInt ≤ 58) ∨ (65 ≤ x3.toInt ∧ x3.toInt ≤ 90) ∨ x3.toInt = 95 ∨ (97 ≤ x3.toInt ∧ x3.toInt ≤ 122)) {x4 : Int32} (hx4 : (45 ≤ x4.toInt ∧ x4.toInt ≤ 46) ∨ (48 ≤ x4.toInt ∧ x4.toInt ≤ 58) ∨ (65 ≤ x4.toInt ∧ x4.toInt ≤ 90) ∨ x4.toInt = 95 ∨ (97 ≤ x4.toInt ∧ x4.toInt ≤ 122)) {x5 : Int32} (hx5 : (45 ≤ x5.toInt ∧ x5.toInt ≤ 46) ∨ (48 ≤ x5.toInt ∧ x5.toInt ≤ 57) ∨ (65 ≤ x5.toInt ∧ x5.toInt ≤ 90) ∨ x5.toInt = 95 ∨ (97 ≤ x5.toInt ∧ x5.toInt ≤ 122)) {x6 : Int32} (hx6 : (45 ≤ x6.toInt ∧ x6.toInt ≤ 46) ∨ (48 ≤ x6.toInt ∧ x6.toInt ≤ 57) ∨ (65 ≤ x6.toInt ∧ x6.toInt ≤ 90) ∨ x6.toInt = 95 ∨ (97 ≤ x6.toInt ∧ x6.toInt ≤ 122)) {x7 : Int32} (hx7 : (45 ≤ x7.toInt ∧ x7.toInt ≤ 46) ∨ (48 ≤ x7.toInt ∧ x7.toInt ≤ 58) ∨ (65 ≤ x7.toInt ∧ x7.toInt ≤ 90) ∨ x7.toInt = 95 ∨ (97 ≤ x7.toInt ∧ x7.toInt ≤ 122)) {w_p2 : Bool} {w_p1 : Bool} {w_p3 : Bool} {w_p5 : Bool} {w_p7 : Bool} {ad_p7 : String} {w_p9 : Bool} {ad_p9 : String} {w_p4 : Bool} {w_p6 : Bool} {w_p8 : Bool} {ad_p8 : String} {w_p10 : Bool} {ad_p10 : String} (ne_p1_p2 : p1 ≠ p2) (ne_p3_p5 : p3 ≠ p5) (ne_p4_p6 : p4 ≠ p6) {F : List Ent} (mp2 : (p2, w_p2, oJobKey (vr p5) (vr p6)) ∈ F) (mp1 : (p1, w_p1, oJobKey (vr p3) (vr p4)) ∈ F) (mp3 : (p3, w_p3, oString (vr p7) (vi 0)) ∈ F) (mp5 : (p5, w_p5, oString (vr p9) (vi 0)) ∈ F) (mp7 : (p7, w_p7, ar ad_p7 .byte [(vi x1), (vi x2)]) ∈ F) (mp9 : (p9, w_p9, ar ad_p9 .byte [(vi x5), (vi x6)]) ∈ F) (mp4 : (p4, w_p4, oString (vr p8) (vi 0)) ∈ F) (mp6 : (p6, w_p6, oString (vr p10) (vi 0)) ∈ F) (mp8 : (p8, w_p8, ar ad_p8 .byte [(vi x3), (vi x4)]) ∈ F) (mp10 : (p10, w_p10, ar ad_p10 .byte [(vi x7)]) ∈ F) : Con Z EL (⟨"com/example/cunctator/cunctator/JobKey", "equals", "(Ljava/lang/Object;)Z"⟩ : MethodName) prog_8_method_6_code 3 (Option.some Jvm.ClassFile.FieldType.boolean) (rmm 2 0 0 28) [(vr p1), (vr p2)] (F) (fun v D' => (v = some (vi 0) ∧ F = D')) := by
  refine Con.of (ls := #[rv p1, rv p2, uu]) (by decide +kernel) rfl ?_
  show W Z EL _ "com/example/cunctator/cunctator/JobKey" "equals" _ _ _ _ _ _ _ _ _ _
  refine W.aloadN (pc := 0) d23_0 rfl rfl ?_
  refine W.aloadN (pc := 1) d23_1 rfl rfl ?_
  refine W.acmpY (pc := 2) 7 d23_2 rfl rfl (show Ca .ne _ _ from (fun z => ne_p1_p2 (by injection z))) (by decide) ?_
  refine W.aloadN (pc := 7) d23_7 rfl rfl ?_
  refine W.instY (pc := 8) d23_8 (w116 hw) (Hp.ins mp2) ?_
  refine W.ifY (pc := 11) 16 d23_11 (y_ne (by decide)) (by decide) ?_
  refine W.aloadN (pc := 16) d23_16 rfl rfl ?_
  refine W.castY (pc := 17) d23_17 (w116 hw) (Hp.ins mp2) ?_
  refine W.astoreN (pc := 20) (ls' := #[rv p1, rv p2, rv p2]) d23_20 rfl rfl ?_
  refine W.aloadN (pc := 21) d23_21 rfl rfl ?_
  refine W.getf (pc := 22) d23_22 (w99 hw) Via.refl mp1 m0 ?_
  refine W.aloadN (pc := 25) d23_25 rfl rfl ?_
  refine W.getf (pc := 26) d23_26 (w99 hw) Via.refl mp2 m0 ?_
  refine W.callV (pc := 29) (as := [(vr p5)]) 0 [] d23_29 (w118 hw) (w119 hw) (w121 hw) (w121 hw) (w120 hw) (w11 hw) (w122 hw) (Hp.exa mp3) (c108_equals hw hs (hx1 := hx1) (hx2 := hx2) (hx3 := hx5) (hx4 := hx6) (mp2 := mp5) (mp1 := mp3) (mp3 := mp7) (mp4 := mp9) (ne_p1_p2 := ne_p3_p5)) (by decide) pd_Ljava_lang_Object__Z rfl rfl rfl rfl (by decide) (fun v D' h => ?_)
  rcases h with ⟨h1, h2, rfl, rfl⟩ | ⟨h3, h4, rfl, rfl⟩ | ⟨h5, rfl, rfl⟩
  ·
   have ih1 := t_eq h1
   have ih2 := t_eq h2
   show W _ _ _ _ _ _ _ _ _ _ _ _ 32 _ [(vi 1)]
   refine W.ifN (pc := 32) d23_32 (n_eq (by decide)) ?_
   refine W.aloadN (pc := 35) d23_35 rfl rfl ?_
   refine W.getf (pc := 36) d23_36 (w106 hw) Via.refl mp1 m1 ?_
   refine W.aloadN (pc := 39) d23_39 rfl rfl ?_
   refine W.getf (pc := 40) d23_40 (w106 hw) Via.refl mp2 m1 ?_
   refine W.callV (pc := 43) (as := [(vr p6)]) 0 [] d23_43 (w118 hw) (w119 hw) (w121 hw) (w121 hw) (w120 hw) (w11 hw) (w122 hw) (Hp.exa mp4) (c86_equals hw hs (hx1 := hx3) (hx2 := hx4) (hx3 := hx7) (mp2 := mp6) (mp1 := mp4) (mp3 := mp8) (mp4 := mp10) (ne_p1_p2 := ne_p4_p6)) (by decide) pd_Ljava_lang_Object__Z rfl rfl rfl rfl (by decide) (fun v D' h => ?_)
   obtain ⟨rfl, rfl⟩ := h
   show W _ _ _ _ _ _ _ _ _ _ _ _ 46 _ [(vi 0)]
   refine W.ifY (pc := 46) 53 d23_46 (y_eq (by decide)) (by decide) ?_
   refine W.iconst (pc := 53) (0) d23_53 (by decide) ?_
   exact W.ireturn (pc := 54) d23_54 rfl (Or.inr (Or.inl rfl)) (nw_bool (by decide)) (by decide) ⟨rfl, rfl⟩
  ·
   have ih3 := t_eq h3
   have ih4 := f_eq h4
   show W _ _ _ _ _ _ _ _ _ _ _ _ 32 _ [(vi 0)]
   refine W.ifY (pc := 32) 53 d23_32 (y_eq (by decide)) (by decide) ?_
   refine W.iconst (pc := 53) (0) d23_53 (by decide) ?_
   exact W.ireturn (pc := 54) d23_54 rfl (Or.inr (Or.inl rfl)) (nw_bool (by decide)) (by decide) ⟨rfl, rfl⟩
  ·
   have ih5 := f_eq h5
   show W _ _ _ _ _ _ _ _ _ _ _ _ 32 _ [(vi 0)]
   refine W.ifY (pc := 32) 53 d23_32 (y_eq (by decide)) (by decide) ?_
   refine W.iconst (pc := 53) (0) d23_53 (by decide) ?_
   exact W.ireturn (pc := 54) d23_54 rfl (Or.inr (Or.inl rfl)) (nw_bool (by decide)) (by decide) ⟨rfl, rfl⟩
theorem c112_equals {Z a0} (hw : HW a0 Z) (hs : SF Z) {p1 p2 p3 p4 p5 p6 p7 p8 p9 p10 : Addr} {x1 : Int32} (hx1 : (45 ≤ x1.toInt ∧ x1.toInt ≤ 46) ∨ (48 ≤ x1.toInt ∧ x1.toInt ≤ 57) ∨ (65 ≤ x1.toInt ∧ x1.toInt ≤ 90) ∨ x1.toInt = 95 ∨ (97 ≤ x1.toInt ∧ x1.toInt ≤ 122)) {x2 : Int32} (hx2 : (45 ≤ x2.toInt ∧ x2.toInt ≤ 46) ∨ (48 ≤ x2.toInt ∧ x2.toInt ≤ 57) ∨ (65 ≤ x2.toInt ∧ x2.toInt ≤ 90) ∨ x2.toInt = 95 ∨ (97 ≤ x2.toInt ∧ x2.toInt ≤ 122)) {x3 : Int32} (hx3 : (45 ≤ x3.toInt ∧ x3.toInt ≤ 46) ∨ (48 ≤ x3.toInt ∧ x3.toInt ≤ 58) ∨ (65 ≤ x3.toInt ∧ x3.toInt ≤ 90) ∨ x3.toInt = 95 ∨ (97 ≤ x3.toInt ∧ x3.toInt ≤ 122)) {x4 : Int32} (hx4 : (45 ≤ x4.toInt ∧ x4.toInt ≤ 46) ∨ (48 ≤ x4.toInt ∧ x4.toInt ≤ 58) ∨ (65 ≤ x4.toInt ∧ x4.toInt ≤ 90) ∨ x4.toInt = 95 ∨ (97 ≤ x4.toInt ∧ x4.toInt ≤ 122)) {x5 : Int32} (hx5 : (45 ≤ x5.toInt ∧ x5.toInt ≤ 46) ∨ (48 ≤ x5.toInt ∧ x5.toInt ≤ 57) ∨ (65 ≤ x5.toInt ∧ x5.toInt ≤ 90) ∨ x5.toInt = 95 ∨ (97 ≤ x5.toInt ∧ x5.toInt ≤ 122)) {x6 : Int32} (hx6 : (45 ≤ x6.toInt ∧ x6.toInt ≤ 46) ∨ (48 ≤ x6.toInt ∧ x6.toInt ≤ 57) ∨ (65 ≤ x6.toInt ∧ x6.toInt ≤ 90) ∨ x6.toInt = 95 ∨ (97 ≤ x6.toInt ∧ x6.toInt ≤ 122)) {x7 : Int32} (hx7 : (45 ≤ x7.toInt ∧ x7.toInt ≤ 46) ∨ (48 ≤ x7.toInt ∧ x7.toInt ≤ 58) ∨ (65 ≤ x7.toInt ∧ x7.toInt ≤ 90) ∨ x7.toInt = 95 ∨ (97 ≤ x7.toInt ∧ x7.toInt ≤ 122)) {x8 : Int32} (hx8 : (45 ≤ x8.toInt ∧ x8.toInt ≤ 46) ∨ (48 ≤ x8.toInt ∧ x8.toInt ≤ 58) ∨ (65 ≤ x8.toInt ∧ x8.toInt ≤ 90) ∨ x8.toInt = 95 ∨ (97 ≤ x8.toInt ∧ x8.toInt ≤ 122)) {w_p2 : Bool} {w_p1 : Bool} {w_p3 : Bool} {w_p5 : Bool} {w_p7 : Bool} {ad_p7 : String} {w_p9 : Bool} {ad_p9 : String} {w_p4 : Bool} {w_p6 : Bool} {w_p8 : Bool} {ad_p8 : String} {w_p10 : Bool} {ad_p10 : String} (ne_p1_p2 : p1 ≠ p2) (ne_p3_p5 : p3 ≠ p5) (ne_p4_p6 : p4 ≠ p6) {F : List Ent} (mp2 : (p2, w_p2, oJobKey (vr p5) (vr p6)) ∈ F) (mp1 : (p1, w_p1, oJobKey (vr p3) (vr p4)) ∈ F) (mp3 : (p3, w_p3, oString (vr p7) (vi 0)) ∈ F) (mp5 : (p5, w_p5, oString (vr p9) (vi 0)) ∈ F) (mp7 : (p7, w_p7, ar ad_p7 .byte [(vi x1), (vi x2)]) ∈ F) (mp9 : (p9, w_p9, ar ad_p9 .byte [(vi x5), (vi x6)]) ∈ F) (mp4 : (p4, w_p4, oString (vr p8) (vi 0)) ∈ F) (mp6 : (p6, w_p6, oString (vr p10) (vi 0)) ∈ F) (mp8 : (p8, w_p8, ar ad_p8 .byte [(vi x3), (vi x4)]) ∈ F) (mp10 : (p10, w_p10, ar ad_p10 .byte [(vi x7), (vi x8)]) ∈ F) : Con Z EL (⟨"com/example/cunctator/cunctator/JobKey", "equals", "(Ljava/lang/Object;)Z"⟩ : MethodName) prog_8_method_6_code 3 (Option.some Jvm.ClassFile.FieldType.boolean) (rmm 2 0 0 28) [(vr p1), (vr p2)] (F) (fun v D' => (Cd .eq x1 x5 ∧ Cd .eq x2 x6 ∧ Cd .eq x3 x7 ∧ Cd .eq x4 x8 ∧ v = some (vi 1) ∧ F = D') ∨ (Cd .eq x1 x5 ∧ Cd .eq x2 x6 ∧ Cd .eq x3 x7 ∧ ¬ Cd .eq x4 x8 ∧ v = some (vi 0) ∧ F = D') ∨ (Cd .eq x1 x5 ∧ Cd .eq x2 x6 ∧ ¬ Cd .eq x3 x7 ∧ v = some (vi 0) ∧ F = D') ∨ (Cd .eq x1 x5 ∧ ¬ Cd .eq x2 x6 ∧ v = some (vi 0) ∧ F = D') ∨ (¬ Cd .eq x1 x5 ∧ v = some (vi 0) ∧ F = D')) := by
  refine Con.of (ls := #[rv p1, rv p2, uu]) (by decide +kernel) rfl ?_
  show W Z EL _ "com/example/cunctator/cunctator/JobKey" "equals" _ _ _ _ _ _ _ _ _ _
  refine W.aloadN (pc := 0) d23_0 rfl rfl ?_
  refine W.aloadN (pc := 1) d23_1 rfl rfl ?_
  refine W.acmpY (pc := 2) 7 d23_2 rfl rfl (show Ca .ne _ _ from (fun z => ne_p1_p2 (by injection z))) (by decide) ?_
  refine W.aloadN (pc := 7) d23_7 rfl rfl ?_
  refine W.instY (pc := 8) d23_8 (w116 hw) (Hp.ins mp2) ?_
  refine W.ifY (pc := 11) 16 d23_11 (y_ne (by decide)) (by decide) ?_
  refine W.aloadN (pc := 16) d23_16 rfl rfl ?_
  refine W.castY (pc := 17) d23_17 (w116 hw) (Hp.ins mp2) ?_
  refine W.astoreN (pc := 20) (ls' := #[rv p1, rv p2, rv p2]) d23_20 rfl rfl ?_
  refine W.aloadN (pc := 21) d23_21 rfl rfl ?_
  refine W.getf (pc := 22) d23_22 (w99 hw) Via.refl mp1 m0 ?_
  refine W.aloadN (pc := 25) d23_25 rfl rfl ?_
  refine W.getf (pc := 26) d23_26 (w99 hw) Via.refl mp2 m0 ?_
  refine W.callV (pc := 29) (as := [(vr p5)]) 0 [] d23_29 (w118 hw) (w119 hw) (w121 hw) (w121 hw) (w120 hw) (w11 hw) (w122 hw) (Hp.exa mp3) (c108_equals hw hs (hx1 := hx1) (hx2 := hx2) (hx3 := hx5) (hx4 := hx6) (mp2 := mp5) (mp1 := mp3) (mp3 := mp7) (mp4 := mp9) (ne_p1_p2 := ne_p3_p5)) (by decide) pd_Ljava_lang_Object__Z rfl rfl rfl rfl (by decide) (fun v D' h => ?_)
  rcases h with ⟨h1, h2, rfl, rfl⟩ | ⟨h3, h4, rfl, rfl⟩ | ⟨h5, rfl, rfl⟩
  ·
   have ih1 := t_eq h1
   have ih2 := t_eq h2
   show W _ _ _ _ _ _ _ _ _ _ _ _ 32 _ [(vi 1)]
   refine W.ifN (pc := 32) d23_32 (n_eq (by decide)) ?_
   refine W.aloadN (pc := 35) d23_35 rfl rfl ?_
   refine W.getf (pc := 36) d23_36 (w106 hw) Via.refl mp1 m1 ?_
   refine W.aloadN (pc := 39) d23_39 rfl rfl ?_
   refine W.getf (pc := 40) d23_40 (w106 hw) Via.refl mp2 m1 ?_
   refine W.callV (pc := 43) (as := [(vr p6)]) 0 [] d23_43 (w118 hw) (w119 hw) (w121 hw) (w121 hw) (w120 hw) (w11 hw) (w122 hw) (Hp.exa mp4) (c105_equals hw hs (hx1 := hx3) (hx2 := hx4) (hx3 := hx7) (hx4 := hx8) (mp2 := mp6) (mp1 := mp4) (mp3 := mp8) (mp4 := mp10) (ne_p1_p2 := ne_p4_p6)) (by decide) pd_Ljava_lang_Object__Z rfl rfl rfl rfl (by decide) (fun v D' h => ?_)
   rcases h with ⟨h6, h7, rfl, rfl⟩ | ⟨h8, h9, rfl, rfl⟩ | ⟨h10, rfl, rfl⟩
   ·
    have ih6 := t_eq h6
    have ih7 := t_eq h7
    show W _ _ _ _ _ _ _ _ _ _ _ _ 46 _ [(vi 1)]
    refine W.ifN (pc := 46) d23_46 (n_eq (by decide)) ?_
    refine W.iconst (pc := 49) (1) d23_49 (by decide) ?_
    refine W.goto (pc := 50) 54 d23_50 (by decide) ?_
    exact W.ireturn (pc := 54) d23_54 rfl (Or.inr (Or.inl rfl)) (nw_bool (by decide)) (by decide) (Or.inl ⟨h1, h2, h6, h7, rfl, rfl⟩)
   ·
    have ih8 := t_eq h8
    have ih9 := f_eq h9
    show W _ _ _ _ _ _ _ _ _ _ _ _ 46 _ [(vi 0)]
    refine W.ifY (pc := 46) 53 d23_46 (y_eq (by decide)) (by decide) ?_
    refine W.iconst (pc := 53) (0) d23_53 (by decide) ?_
    exact W.ireturn (pc := 54) d23_54 rfl (Or.inr (Or.inl rfl)) (nw_bool (by decide)) (by decide) (Or.inr (Or.inl ⟨h1, h2, h8, h9, rfl, rfl⟩))
   ·
    have ih10 := f_eq h10
    show W _ _ _ _ _ _ _ _ _ _ _ _ 46 _ [(vi 0)]
    refine W.ifY (pc := 46) 53 d23_46 (y_eq (by decide)) (by decide) ?_
    refine W.iconst (pc := 53) (0) d23_53 (by decide) ?_
    exact W.ireturn (pc := 54) d23_54 rfl (Or.inr (Or.inl rfl)) (nw_bool (by decide)) (by decide) (Or.inr (Or.inr (Or.inl ⟨h1, h2, h10, rfl, rfl⟩)))
  ·
   have ih3 := t_eq h3
   have ih4 := f_eq h4
   show W _ _ _ _ _ _ _ _ _ _ _ _ 32 _ [(vi 0)]
   refine W.ifY (pc := 32) 53 d23_32 (y_eq (by decide)) (by decide) ?_
   refine W.iconst (pc := 53) (0) d23_53 (by decide) ?_
   exact W.ireturn (pc := 54) d23_54 rfl (Or.inr (Or.inl rfl)) (nw_bool (by decide)) (by decide) (Or.inr (Or.inr (Or.inr (Or.inl ⟨h3, h4, rfl, rfl⟩))))
  ·
   have ih5 := f_eq h5
   show W _ _ _ _ _ _ _ _ _ _ _ _ 32 _ [(vi 0)]
   refine W.ifY (pc := 32) 53 d23_32 (y_eq (by decide)) (by decide) ?_
   refine W.iconst (pc := 53) (0) d23_53 (by decide) ?_
   exact W.ireturn (pc := 54) d23_54 rfl (Or.inr (Or.inl rfl)) (nw_bool (by decide)) (by decide) (Or.inr (Or.inr (Or.inr (Or.inr ⟨h5, rfl, rfl⟩))))
set_option maxHeartbeats 4000000 in
theorem lawW {Z a0} (hw : HW a0 Z) (hs : SF Z) (z0 : Int32) (z1 : Int32) (z2 : Int32) (z3 : Int32) (z4 : Int32) (z5 : Int32) : Con Z EL x code maxLocals ret room_1 [(vi z0), (vi z1), (vi z2), (vi z3), (vi z4), (vi z5)] (((og3 Z), false, ar "" .byte [(vi 46), (vi 95), (vi 45)]) :: ((og2 Z), false, oString (vr (og3 Z)) (vi 0)) :: ((og1 Z), false, oJobKey_NameRule (vi 64) (vr (og2 Z))) :: ((og6 Z), false, ar "" .byte [(vi 46), (vi 95), (vi 58), (vi 45)]) :: ((og5 Z), false, oString (vr (og6 Z)) (vi 0)) :: ((og4 Z), false, oJobKey_NameRule (vi 128) (vr (og5 Z))) :: []) (fun v _ => v = some (.int 1)) := by
  refine Con.of (ls := #[iv z0, iv z1, iv z2, iv z3, iv z4, iv z5, uu, uu, uu, uu, uu, uu, uu, uu, uu, uu, uu, uu, uu, uu, uu, uu, uu, uu, uu, uu, uu]) (by decide +kernel) rfl ?_
  show W Z EL _ "com/example/cunctator/cunctator/JobKeyEqualsPinLaw" "law" _ _ _ _ _ _ _ _ _ _
  have K3 : ∀ (g2 : Int32), 0 ≤ g2.toInt ∧ g2.toInt ≤ 1 → W Z EL room_1 "com/example/cunctator/cunctator/JobKeyEqualsPinLaw" "law" code maxLocals ret (fun v _ => v = some (.int 1)) (((og3 Z), false, ar "" .byte [(vi 46), (vi 95), (vi 45)]) :: ((og2 Z), false, oString (vr (og3 Z)) (vi 0)) :: ((og1 Z), false, oJobKey_NameRule (vi 64) (vr (og2 Z))) :: ((og6 Z), false, ar "" .byte [(vi 46), (vi 95), (vi 58), (vi 45)]) :: ((og5 Z), false, oString (vr (og6 Z)) (vi 0)) :: ((og4 Z), false, oJobKey_NameRule (vi 128) (vr (og5 Z))) :: []) 0 0 14 #[iv z0, iv z1, iv z2, iv z3, iv z4, iv z5, iv g2, uu, uu, uu, uu, uu, uu, uu, uu, uu, uu, uu, uu, uu, uu, uu, uu, uu, uu, uu, uu] [] := by
   intro g2 hg2
   have K6 : ∀ (g5 : Int32), 0 ≤ g5.toInt ∧ g5.toInt ≤ 1 → W Z EL room_1 "com/example/cunctator/cunctator/JobKeyEqualsPinLaw" "law" code maxLocals ret (fun v _ => v = some (.int 1)) (((og3 Z), false, ar "" .byte [(vi 46), (vi 95), (vi 45)]) :: ((og2 Z), false, oString (vr (og3 Z)) (vi 0)) :: ((og1 Z), false, oJobKey_NameRule (vi 64) (vr (og2 Z))) :: ((og6 Z), false, ar "" .byte [(vi 46), (vi 95), (vi 58), (vi 45)]) :: ((og5 Z), false, oString (vr (og6 Z)) (vi 0)) :: ((og4 Z), false, oJobKey_NameRule (vi 128) (vr (og5 Z))) :: []) 0 0 28 #[iv z0, iv z1, iv z2, iv z3, iv z4, iv z5, iv g2, iv g5, uu, uu, uu, uu, uu, uu, uu, uu, uu, uu, uu, uu, uu, uu, uu, uu, uu, uu, uu] [] := by
    intro g5 hg5
    refine W.iloadN (pc := 28) at_28 rfl ?_
    refine W.ldcI (pc := 29) at_29 (w0 hw) ?_
    refine W.iand (pc := 31) at_31 ?_
    refine W.iconst (pc := 32) (0) at_32 (by decide) ?_
    refine W.callS (pc := 33) (as := [(vi (z0 &&& (65535 : Int32))), (vi 0)]) 0 [] at_33 (w1 hw) (w2 hw) (w3 hw) (w4 hw) (c1_pickm hw hs (hx1 := (by have := rng32 z0; have := q65535; have := am_65535 z0; omega))) (by decide) pd_IZ_C rfl rfl rfl rfl (by decide) (fun v D' h => ?_)
    obtain ⟨g7, hg7, rfl, rfl⟩ := h
    show W _ _ _ _ _ _ _ _ _ _ _ _ 36 _ [(vi g7)]
    refine W.istore (pc := 36) (ls' := #[iv z0, iv z1, iv z2, iv z3, iv z4, iv z5, iv g2, iv g5, iv g7, uu, uu, uu, uu, uu, uu, uu, uu, uu, uu, uu, uu, uu, uu, uu, uu, uu, uu]) at_36 rfl ?_
    refine W.iloadN (pc := 38) at_38 rfl ?_
    refine W.bipush (pc := 39) (16) at_39 (by decide) ?_
    refine W.iushr (pc := 41) at_41 ?_
    refine W.iconst (pc := 42) (0) at_42 (by decide) ?_
    refine W.callS (pc := 43) (as := [(vi (XT.ushr z0 (16 : Int32))), (vi 0)]) 0 [] at_43 (w1 hw) (w2 hw) (w3 hw) (w4 hw) (c1_pickm hw hs (hx1 := (by have := rng32 z0; have := q16; have := aushr_16 z0; omega))) (by decide) pd_IZ_C rfl rfl rfl rfl (by decide) (fun v D' h => ?_)
    obtain ⟨g8, hg8, rfl, rfl⟩ := h
    show W _ _ _ _ _ _ _ _ _ _ _ _ 46 _ [(vi g8)]
    refine W.istore (pc := 46) (ls' := #[iv z0, iv z1, iv z2, iv z3, iv z4, iv z5, iv g2, iv g5, iv g7, iv g8, uu, uu, uu, uu, uu, uu, uu, uu, uu, uu, uu, uu, uu, uu, uu, uu, uu]) at_46 rfl ?_
    refine W.iloadN (pc := 48) at_48 rfl ?_
    refine W.ldcI (pc := 49) at_49 (w0 hw) ?_
    refine W.iand (pc := 51) at_51 ?_
    refine W.iconst (pc := 52) (1) at_52 (by decide) ?_
    refine W.callS (pc := 53) (as := [(vi (z1 &&& (65535 : Int32))), (vi 1)]) 0 [] at_53 (w1 hw) (w2 hw) (w3 hw) (w4 hw) (c2_pickm hw hs (hx1 := (by have := rng32 z1; have := q65535; have := am_65535 z1; omega))) (by decide) pd_IZ_C rfl rfl rfl rfl (by decide) (fun v D' h => ?_)
    obtain ⟨g9, hg9, rfl, rfl⟩ := h
    show W _ _ _ _ _ _ _ _ _ _ _ _ 56 _ [(vi g9)]
    refine W.istore (pc := 56) (ls' := #[iv z0, iv z1, iv z2, iv z3, iv z4, iv z5, iv g2, iv g5, iv g7, iv g8, iv g9, uu, uu, uu, uu, uu, uu, uu, uu, uu, uu, uu, uu, uu, uu, uu, uu]) at_56 rfl ?_
    refine W.iloadN (pc := 58) at_58 rfl ?_
    refine W.bipush (pc := 59) (16) at_59 (by decide) ?_
    refine W.iushr (pc := 61) at_61 ?_
    refine W.iconst (pc := 62) (1) at_62 (by decide) ?_
    refine W.callS (pc := 63) (as := [(vi (XT.ushr z1 (16 : Int32))), (vi 1)]) 0 [] at_63 (w1 hw) (w2 hw) (w3 hw) (w4 hw) (c2_pickm hw hs (hx1 := (by have := rng32 z1; have := q16; have := aushr_16 z1; omega))) (by decide) pd_IZ_C rfl rfl rfl rfl (by decide) (fun v D' h => ?_)
    obtain ⟨g10, hg10, rfl, rfl⟩ := h
    show W _ _ _ _ _ _ _ _ _ _ _ _ 66 _ [(vi g10)]
    refine W.istore (pc := 66) (ls' := #[iv z0, iv z1, iv z2, iv z3, iv z4, iv z5, iv g2, iv g5, iv g7, iv g8, iv g9, iv g10, uu, uu, uu, uu, uu, uu, uu, uu, uu, uu, uu, uu, uu, uu, uu]) at_66 rfl ?_
    have K15 : ∀ (g12 : Int32) (g13 : Int32) (g14 : Int32), ((45 ≤ g12.toInt ∧ g12.toInt ≤ 46) ∨ (48 ≤ g12.toInt ∧ g12.toInt ≤ 57) ∨ (65 ≤ g12.toInt ∧ g12.toInt ≤ 90) ∨ g12.toInt = 95 ∨ (97 ≤ g12.toInt ∧ g12.toInt ≤ 122)) → ((45 ≤ g13.toInt ∧ g13.toInt ≤ 46) ∨ (48 ≤ g13.toInt ∧ g13.toInt ≤ 57) ∨ (65 ≤ g13.toInt ∧ g13.toInt ≤ 90) ∨ g13.toInt = 95 ∨ (97 ≤ g13.toInt ∧ g13.toInt ≤ 122)) → 0 ≤ g14.toInt ∧ g14.toInt ≤ 1 → W Z EL room_1 "com/example/cunctator/cunctator/JobKeyEqualsPinLaw" "law" code maxLocals ret (fun v _ => v = some (.int 1)) (((og3 Z), false, ar "" .byte [(vi 46), (vi 95), (vi 45)]) :: ((og2 Z), false, oString (vr (og3 Z)) (vi 0)) :: ((og1 Z), false, oJobKey_NameRule (vi 64) (vr (og2 Z))) :: ((og6 Z), false, ar "" .byte [(vi 46), (vi 95), (vi 58), (vi 45)]) :: ((og5 Z), false, oString (vr (og6 Z)) (vi 0)) :: ((og4 Z), false, oJobKey_NameRule (vi 128) (vr (og5 Z))) :: []) 0 0 124 #[iv z0, iv z1, iv z2, iv z3, iv z4, iv z5, iv g2, iv g5, iv g7, iv g8, iv g9, iv g10, iv g12, iv g13, iv g14, uu, uu, uu, uu, uu, uu, uu, uu, uu, uu, uu, uu] [] := by
     intro g12 g13 g14 hg12 hg13 hg14
     have K20 : ∀ (g17 : Int32) (g18 : Int32) (g19 : Int32), ((45 ≤ g17.toInt ∧ g17.toInt ≤ 46) ∨ (48 ≤ g17.toInt ∧ g17.toInt ≤ 58) ∨ (65 ≤ g17.toInt ∧ g17.toInt ≤ 90) ∨ g17.toInt = 95 ∨ (97 ≤ g17.toInt ∧ g17.toInt ≤ 122)) → ((45 ≤ g18.toInt ∧ g18.toInt ≤ 46) ∨ (48 ≤ g18.toInt ∧ g18.toInt ≤ 58) ∨ (65 ≤ g18.toInt ∧ g18.toInt ≤ 90) ∨ g18.toInt = 95 ∨ (97 ≤ g18.toInt ∧ g18.toInt ≤ 122)) → 0 ≤ g19.toInt ∧ g19.toInt ≤ 1 → W Z EL room_1 "com/example/cunctator/cunctator/JobKeyEqualsPinLaw" "law" code maxLocals ret (fun v _ => v = some (.int 1)) (((og3 Z), false, ar "" .byte [(vi 46), (vi 95), (vi 45)]) :: ((og2 Z), false, oString (vr (og3 Z)) (vi 0)) :: ((og1 Z), false, oJobKey_NameRule (vi 64) (vr (og2 Z))) :: ((og6 Z), false, ar "" .byte [(vi 46), (vi 95), (vi 58), (vi 45)]) :: ((og5 Z), false, oString (vr (og6 Z)) (vi 0)) :: ((og4 Z), false, oJobKey_NameRule (vi 128) (vr (og5 Z))) :: []) 0 0 181 #[iv z0, iv z1, iv z2, iv z3, iv z4, iv z5, iv g2, iv g5, iv g7, iv g8, iv g9, iv g10, iv g12, iv g13, iv g14, iv g17, iv g18, iv g19, uu, uu, uu, uu, uu, uu, uu, uu, uu] [] := by
      intro g17 g18 g19 hg17 hg18 hg19
      refine W.iload (pc := 181) at_181 rfl ?_
      refine W.iload (pc := 183) at_183 rfl ?_
      refine W.iload (pc := 185) at_185 rfl ?_
      refine W.callS (pc := 187) (as := [(vi g7), (vi g8), (vi g2)]) 0 [] at_187 (w6 hw) (w7 hw) (w3 hw) (w8 hw) (c3_make hw hs (hx1 := hg7) (hx2 := hg8) (hx3 := hg2)) (by decide) pd_CCZ_Ljava_lang_String_ rfl rfl rfl rfl (by decide) (fun v D' h => ?_)
      rcases h with ⟨a21, a22, h1, rfl, rfl⟩ | ⟨a23, a24, h2, rfl, rfl⟩
      ·
       have ih1 := t_eq h1
       show W _ _ _ _ _ _ _ _ _ _ _ _ 190 _ [(vr a21)]
       refine W.astore (pc := 190) (ls' := #[iv z0, iv z1, iv z2, iv z3, iv z4, iv z5, iv g2, iv g5, iv g7, iv g8, iv g9, iv g10, iv g12, iv g13, iv g14, iv g17, iv g18, iv g19, rv a21, uu, uu, uu, uu, uu, uu, uu, uu]) at_190 rfl rfl ?_
       refine W.iload (pc := 192) at_192 rfl ?_
       refine W.iload (pc := 194) at_194 rfl ?_
       refine W.iload (pc := 196) at_196 rfl ?_
       refine W.callS (pc := 198) (as := [(vi g9), (vi g10), (vi g5)]) 0 [] at_198 (w6 hw) (w7 hw) (w3 hw) (w8 hw) (c14_make hw hs (hx1 := hg9) (hx2 := hg10) (hx3 := hg5)) (by decide) pd_CCZ_Ljava_lang_String_ rfl rfl rfl rfl (by decide) (fun v D' h => ?_)
       rcases h with ⟨a25, a26, h3, rfl, rfl⟩ | ⟨a27, a28, h4, rfl, rfl⟩
       ·
        have ih3 := t_eq h3
        show W _ _ _ _ _ _ _ _ _ _ _ _ 201 _ [(vr a25)]
        refine W.astore (pc := 201) (ls' := #[iv z0, iv z1, iv z2, iv z3, iv z4, iv z5, iv g2, iv g5, iv g7, iv g8, iv g9, iv g10, iv g12, iv g13, iv g14, iv g17, iv g18, iv g19, rv a21, rv a25, uu, uu, uu, uu, uu, uu, uu]) at_201 rfl rfl ?_
        refine W.iload (pc := 203) at_203 rfl ?_
        refine W.iload (pc := 205) at_205 rfl ?_
        refine W.iload (pc := 207) at_207 rfl ?_
        refine W.callS (pc := 209) (as := [(vi g12), (vi g13), (vi g14)]) 0 [] at_209 (w6 hw) (w7 hw) (w3 hw) (w8 hw) (c3_make hw hs (hx1 := hg12) (hx2 := hg13) (hx3 := hg14)) (by decide) pd_CCZ_Ljava_lang_String_ rfl rfl rfl rfl (by decide) (fun v D' h => ?_)
        rcases h with ⟨a29, a30, h5, rfl, rfl⟩ | ⟨a31, a32, h6, rfl, rfl⟩
        ·
         have ih5 := t_eq h5
         show W _ _ _ _ _ _ _ _ _ _ _ _ 212 _ [(vr a29)]
         refine W.astore (pc := 212) (ls' := #[iv z0, iv z1, iv z2, iv z3, iv z4, iv z5, iv g2, iv g5, iv g7, iv g8, iv g9, iv g10, iv g12, iv g13, iv g14, iv g17, iv g18, iv g19, rv a21, rv a25, rv a29, uu, uu, uu, uu, uu, uu]) at_212 rfl rfl ?_
         refine W.iload (pc := 214) at_214 rfl ?_
         refine W.iload (pc := 216) at_216 rfl ?_
         refine W.iload (pc := 218) at_218 rfl ?_
         refine W.callS (pc := 220) (as := [(vi g17), (vi g18), (vi g19)]) 0 [] at_220 (w6 hw) (w7 hw) (w3 hw) (w8 hw) (c14_make hw hs (hx1 := hg17) (hx2 := hg18) (hx3 := hg19)) (by decide) pd_CCZ_Ljava_lang_String_ rfl rfl rfl rfl (by decide) (fun v D' h => ?_)
         rcases h with ⟨a33, a34, h7, rfl, rfl⟩ | ⟨a35, a36, h8, rfl, rfl⟩
         ·
          have ih7 := t_eq h7
          show W _ _ _ _ _ _ _ _ _ _ _ _ 223 _ [(vr a33)]
          refine W.astore (pc := 223) (ls' := #[iv z0, iv z1, iv z2, iv z3, iv z4, iv z5, iv g2, iv g5, iv g7, iv g8, iv g9, iv g10, iv g12, iv g13, iv g14, iv g17, iv g18, iv g19, rv a21, rv a25, rv a29, rv a33, uu, uu, uu, uu, uu]) at_223 rfl rfl ?_
          refine W.iload (pc := 225) at_225 rfl ?_
          refine W.iload (pc := 227) at_227 rfl ?_
          refine W.iload (pc := 229) at_229 rfl ?_
          refine W.callS (pc := 231) (as := [(vi g7), (vi g8), (vi g2)]) 0 [] at_231 (w6 hw) (w7 hw) (w3 hw) (w8 hw) (c3_make hw hs (hx1 := hg7) (hx2 := hg8) (hx3 := hg2)) (by decide) pd_CCZ_Ljava_lang_String_ rfl rfl rfl rfl (by decide) (fun v D' h => ?_)
          rcases h with ⟨a37, a38, h9, rfl, rfl⟩ | ⟨a39, a40, h10, rfl, rfl⟩
          ·
           have ih9 := t_eq h9
           show W _ _ _ _ _ _ _ _ _ _ _ _ 234 _ [(vr a37)]
           refine W.astore (pc := 234) (ls' := #[iv z0, iv z1, iv z2, iv z3, iv z4, iv z5, iv g2, iv g5, iv g7, iv g8, iv g9, iv g10, iv g12, iv g13, iv g14, iv g17, iv g18, iv g19, rv a21, rv a25, rv a29, rv a33, rv a37, uu, uu, uu, uu]) at_234 rfl rfl ?_
           refine W.new (pc := 236) at_236 (w39 hw) (w40 hw) (w41 hw) (laJobKey hw) (by decide) (by decide) (fun a41 => ?_)
           show W _ _ _ _ _ _ _ _ _ _ _ _ 239 _ [(vr a41)]
           refine W.dup (pc := 239) at_239 rfl ?_
           refine W.aload (pc := 240) 18 at_240 rfl rfl ?_
           refine W.aload (pc := 242) 19 at_242 rfl rfl ?_
           refine W.callI (pc := 244) (as := [(vr a21), (vr a25)]) 1 [(vr a41)] at_244 rfl (w42 hw) (w43 hw) (w41 hw) (w44 hw) (c25_init hw hs (hx1 := hg7) (hx2 := hg9) (mog1Z := m12) (mp2 := m9) (mp4 := m8) (mog2Z := m11) (mog3Z := m10) (mog4Z := m15) (mp3 := m7) (mp5 := m6) (mog5Z := m14) (mog6Z := m13)) (by decide) pd_Ljava_lang_String_Ljava_lang_String__V rfl rfl rfl rfl (by decide) (fun v D' h => ?_)
           obtain ⟨rfl, rfl⟩ := h
           show W _ _ _ _ _ _ _ _ _ _ _ _ 247 _ [(vr a41)]
           refine W.astore (pc := 247) (ls' := #[iv z0, iv z1, iv z2, iv z3, iv z4, iv z5, iv g2, iv g5, iv g7, iv g8, iv g9, iv g10, iv g12, iv g13, iv g14, iv g17, iv g18, iv g19, rv a21, rv a25, rv a29, rv a33, rv a37, rv a41, uu, uu, uu]) at_247 rfl rfl ?_
           refine W.new (pc := 249) at_249 (w39 hw) (w40 hw) (w41 hw) (laJobKey hw) (by decide) (by decide) (fun a42 => ?_)
           show W _ _ _ _ _ _ _ _ _ _ _ _ 252 _ [(vr a42)]
           refine W.dup (pc := 252) at_252 rfl ?_
           refine W.aload (pc := 253) 20 at_253 rfl rfl ?_
           refine W.aload (pc := 255) 21 at_255 rfl rfl ?_
           refine W.callI (pc := 257) (as := [(vr a29), (vr a33)]) 1 [(vr a42)] at_257 rfl (w42 hw) (w43 hw) (w41 hw) (w44 hw) (c25_init hw hs (hx1 := hg12) (hx2 := hg17) (mog1Z := m13) (mp2 := m6) (mp4 := m5) (mog2Z := m12) (mog3Z := m11) (mog4Z := m16) (mp3 := m4) (mp5 := m3) (mog5Z := m15) (mog6Z := m14)) (by decide) pd_Ljava_lang_String_Ljava_lang_String__V rfl rfl rfl rfl (by decide) (fun v D' h => ?_)
           obtain ⟨rfl, rfl⟩ := h
           show W _ _ _ _ _ _ _ _ _ _ _ _ 260 _ [(vr a42)]
           refine W.astore (pc := 260) (ls' := #[iv z0, iv z1, iv z2, iv z3, iv z4, iv z5, iv g2, iv g5, iv g7, iv g8, iv g9, iv g10, iv g12, iv g13, iv g14, iv g17, iv g18, iv g19, rv a21, rv a25, rv a29, rv a33, rv a37, rv a41, rv a42, uu, uu]) at_260 rfl rfl ?_
           refine W.iload (pc := 262) at_262 rfl ?_
           refine W.iconst (pc := 264) (2) at_264 (by decide) ?_
           refine W.iushr (pc := 265) at_265 ?_
           refine W.iconst (pc := 266) (3) at_266 (by decide) ?_
           refine W.iand (pc := 267) at_267 ?_
           refine W.istore (pc := 268) (ls' := #[iv z0, iv z1, iv z2, iv z3, iv z4, iv z5, iv g2, iv g5, iv g7, iv g8, iv g9, iv g10, iv g12, iv g13, iv g14, iv g17, iv g18, iv g19, rv a21, rv a25, rv a29, rv a33, rv a37, rv a41, rv a42, iv ((XT.ushr z5 (2 : Int32)) &&& (3 : Int32)), uu]) at_268 rfl ?_
           refine W.iload (pc := 270) at_270 rfl ?_
           refine W.iconst (pc := 272) (1) at_272 (by decide) ?_
           refine W.icmp (pc := 273) 291 at_273 (by decide) (fun h11 => ?_) (fun h11 => ?_)
           ·
            have ih11 := t_ne h11
            refine W.iload (pc := 291) at_291 rfl ?_
            refine W.iconst (pc := 293) (2) at_293 (by decide) ?_
            refine W.icmp (pc := 294) 313 at_294 (by decide) (fun h12 => ?_) (fun h12 => ?_)
            ·
             have ih12 := t_ne h12
             refine W.iload (pc := 313) at_313 rfl ?_
             refine W.iconst (pc := 315) (3) at_315 (by decide) ?_
             refine W.icmp (pc := 316) 327 at_316 (by decide) (fun h13 => ?_) (fun h13 => ?_)
             ·
              have ih13 := t_ne h13
              refine W.iload (pc := 327) at_327 rfl ?_
              refine W.iload (pc := 329) at_329 rfl ?_
              refine W.iload (pc := 331) at_331 rfl ?_
              refine W.iload (pc := 333) at_333 rfl ?_
              refine W.iload (pc := 335) at_335 rfl ?_
              refine W.iload (pc := 337) at_337 rfl ?_
              refine W.callS (pc := 339) (as := [(vi g7), (vi g8), (vi g2), (vi g12), (vi g13), (vi g14)]) 0 [] at_339 (w108 hw) (w109 hw) (w3 hw) (w110 hw) (c59_same hw hs (hx1 := hg7) (hx2 := hg8) (hx3 := hg2) (hx4 := hg12) (hx5 := hg13) (hx6 := hg14)) (by decide) pd_CCZCCZ_Z rfl rfl rfl rfl (by decide) (fun v D' h => ?_)
              rcases h with ⟨h14, h15, h16, rfl, rfl⟩ | ⟨h17, h18, h19, h20, rfl, rfl⟩ | ⟨h21, h22, h23, h24, rfl, rfl⟩ | ⟨h25, h26, rfl, rfl⟩ | ⟨h27, rfl, rfl⟩
              ·
               have ih14 := t_eq h14
               have ih15 := t_eq h15
               have ih16 := t_eq h16
               show W _ _ _ _ _ _ _ _ _ _ _ _ 342 _ [(vi 1)]
               refine W.ifN (pc := 342) at_342 (n_eq (by decide)) ?_
               refine W.iload (pc := 345) at_345 rfl ?_
               refine W.iload (pc := 347) at_347 rfl ?_
               refine W.iload (pc := 349) at_349 rfl ?_
               refine W.iload (pc := 351) at_351 rfl ?_
               refine W.iload (pc := 353) at_353 rfl ?_
               refine W.iload (pc := 355) at_355 rfl ?_
               refine W.callS (pc := 357) (as := [(vi g9), (vi g10), (vi g5), (vi g17), (vi g18), (vi g19)]) 0 [] at_357 (w108 hw) (w109 hw) (w3 hw) (w110 hw) (c60_same hw hs (hx1 := hg9) (hx2 := hg10) (hx3 := hg5) (hx4 := hg17) (hx5 := hg18) (hx6 := hg19)) (by decide) pd_CCZCCZ_Z rfl rfl rfl rfl (by decide) (fun v D' h => ?_)
               rcases h with ⟨h28, h29, h30, rfl, rfl⟩ | ⟨h31, h32, h33, h34, rfl, rfl⟩ | ⟨h35, h36, h37, h38, rfl, rfl⟩ | ⟨h39, h40, rfl, rfl⟩ | ⟨h41, rfl, rfl⟩
               ·
                have ih28 := t_eq h28
                have ih29 := t_eq h29
                have ih30 := t_eq h30
                show W _ _ _ _ _ _ _ _ _ _ _ _ 360 _ [(vi 1)]
                refine W.ifN (pc := 360) at_360 (n_eq (by decide)) ?_
                refine W.iconst (pc := 363) (1) at_363 (by decide) ?_
                refine W.goto (pc := 364) 368 at_364 (by decide) ?_
                refine W.istore (pc := 368) (ls' := #[iv z0, iv z1, iv z2, iv z3, iv z4, iv z5, iv g2, iv g5, iv g7, iv g8, iv g9, iv g10, iv g12, iv g13, iv g14, iv g17, iv g18, iv g19, rv a21, rv a25, rv a29, rv a33, rv a37, rv a41, rv a42, iv ((XT.ushr z5 (2 : Int32)) &&& (3 : Int32)), iv 1]) at_368 rfl ?_
                refine W.aload (pc := 370) 23 at_370 rfl rfl ?_
                refine W.aload (pc := 372) 24 at_372 rfl rfl ?_
                refine W.know (fun _ _ H => H.ne (i := 1) (j := 0) (by decide) rfl rfl (Or.inl rfl)) (fun ne43 => ?_)
                refine W.know (fun _ _ H => H.ne (i := 11) (j := 7) (by decide) rfl rfl (Or.inl rfl)) (fun ne44 => ?_)
                refine W.know (fun _ _ H => H.ne (i := 9) (j := 5) (by decide) rfl rfl (Or.inl rfl)) (fun ne45 => ?_)
                refine W.callV (pc := 374) (as := [(vr a42)]) 0 [] at_374 (w111 hw) (w112 hw) (w114 hw) (w114 hw) (w113 hw) (w41 hw) (w115 hw) (Hp.exa m1) (c61_equals hw hs (hx1 := hg7) (hx2 := hg9) (hx3 := hg12) (hx4 := hg17) (mp2 := m0) (mp1 := m1) (mp3 := m11) (mp5 := m7) (mp7 := m10) (mp9 := m6) (mp4 := m9) (mp6 := m5) (mp8 := m8) (mp10 := m4) (ne_p1_p2 := ne43) (ne_p3_p5 := ne44) (ne_p4_p6 := ne45)) (by decide) pd_Ljava_lang_Object__Z rfl rfl rfl rfl (by decide) (fun v D' h => ?_)
                rcases h with ⟨h42, h43, rfl, rfl⟩ | ⟨h44, h45, rfl, rfl⟩ | ⟨h46, rfl, rfl⟩
                ·
                 have ih42 := t_eq h42
                 have ih43 := t_eq h43
                 show W _ _ _ _ _ _ _ _ _ _ _ _ 377 _ [(vi 1)]
                 refine W.iload (pc := 377) at_377 rfl ?_
                 refine W.icmpN (pc := 379) at_379 (n_ne (by decide)) ?_
                 refine W.aload (pc := 382) 24 at_382 rfl rfl ?_
                 refine W.aload (pc := 384) 23 at_384 rfl rfl ?_
                 refine W.callV (pc := 386) (as := [(vr a41)]) 0 [] at_386 (w111 hw) (w112 hw) (w114 hw) (w114 hw) (w113 hw) (w41 hw) (w115 hw) (Hp.exa m0) (c61_equals hw hs (hx1 := hg12) (hx2 := hg17) (hx3 := hg7) (hx4 := hg9) (mp2 := m1) (mp1 := m0) (mp3 := m7) (mp5 := m11) (mp7 := m6) (mp9 := m10) (mp4 := m5) (mp6 := m9) (mp8 := m4) (mp10 := m8) (ne_p1_p2 := (Ne.symm ne43)) (ne_p3_p5 := (Ne.symm ne44)) (ne_p4_p6 := (Ne.symm ne45))) (by decide) pd_Ljava_lang_Object__Z rfl rfl rfl rfl (by decide) (fun v D' h => ?_)
                 rcases h with ⟨h47, h48, rfl, rfl⟩ | ⟨h49, h50, rfl, rfl⟩ | ⟨h51, rfl, rfl⟩
                 ·
                  have ih47 := t_eq h47
                  have ih48 := t_eq h48
                  show W _ _ _ _ _ _ _ _ _ _ _ _ 389 _ [(vi 1)]
                  refine W.iload (pc := 389) at_389 rfl ?_
                  refine W.icmpN (pc := 391) at_391 (n_ne (by decide)) ?_
                  refine W.iconst (pc := 394) (1) at_394 (by decide) ?_
                  refine W.goto (pc := 395) 399 at_395 (by decide) ?_
                  exact W.ireturn (pc := 399) at_399 rfl (Or.inr (Or.inl rfl)) (nw_bool (by decide)) (by decide) rfl
                 ·
                  have ih49 := t_eq h49
                  exact absurd h50 (Classical.not_not.mpr (y_eq (by have := q0; have := rng32 z5; have := q2; have := aushr_2 z5; have := q3; have := am_3 (XT.ushr z5 (2 : Int32)); have := q1; omega)))
                 ·
                  exact absurd h51 (Classical.not_not.mpr (y_eq (by have := q0; have := rng32 z5; have := q2; have := aushr_2 z5; have := q3; have := am_3 (XT.ushr z5 (2 : Int32)); have := q1; omega)))
                ·
                 have ih44 := t_eq h44
                 exact absurd h45 (Classical.not_not.mpr (y_eq (by have := q0; have := rng32 z5; have := q2; have := aushr_2 z5; have := q3; have := am_3 (XT.ushr z5 (2 : Int32)); have := q1; omega)))
                ·
                 exact absurd h46 (Classical.not_not.mpr (y_eq (by have := q0; have := rng32 z5; have := q2; have := aushr_2 z5; have := q3; have := am_3 (XT.ushr z5 (2 : Int32)); have := q1; omega)))
               ·
                have ih31 := t_eq h31
                have ih32 := t_eq h32
                exact absurd h33 (Classical.not_not.mpr (y_eq (by have := q0; have := rng32 z5; have := q2; have := aushr_2 z5; have := q3; have := am_3 (XT.ushr z5 (2 : Int32)); have := q1; omega)))
               ·
                have ih35 := t_eq h35
                have ih36 := t_eq h36
                exact absurd h37 (Classical.not_not.mpr (y_eq (by have := q0; have := rng32 z5; have := q2; have := aushr_2 z5; have := q3; have := am_3 (XT.ushr z5 (2 : Int32)); have := q1; omega)))
               ·
                have ih39 := t_eq h39
                have ih40 := f_eq h40
                show W _ _ _ _ _ _ _ _ _ _ _ _ 360 _ [(vi 0)]
                refine W.ifY (pc := 360) 367 at_360 (y_eq (by decide)) (by decide) ?_
                refine W.iconst (pc := 367) (0) at_367 (by decide) ?_
                refine W.istore (pc := 368) (ls' := #[iv z0, iv z1, iv z2, iv z3, iv z4, iv z5, iv g2, iv g5, iv g7, iv g8, iv g9, iv g10, iv g12, iv g13, iv g14, iv g17, iv g18, iv g19, rv a21, rv a25, rv a29, rv a33, rv a37, rv a41, rv a42, iv ((XT.ushr z5 (2 : Int32)) &&& (3 : Int32)), iv 0]) at_368 rfl ?_
                refine W.aload (pc := 370) 23 at_370 rfl rfl ?_
                refine W.aload (pc := 372) 24 at_372 rfl rfl ?_
                refine W.know (fun _ _ H => H.ne (i := 1) (j := 0) (by decide) rfl rfl (Or.inl rfl)) (fun ne46 => ?_)
                refine W.know (fun _ _ H => H.ne (i := 11) (j := 7) (by decide) rfl rfl (Or.inl rfl)) (fun ne47 => ?_)
                refine W.know (fun _ _ H => H.ne (i := 9) (j := 5) (by decide) rfl rfl (Or.inl rfl)) (fun ne48 => ?_)
                refine W.callV (pc := 374) (as := [(vr a42)]) 0 [] at_374 (w111 hw) (w112 hw) (w114 hw) (w114 hw) (w113 hw) (w41 hw) (w115 hw) (Hp.exa m1) (c61_equals hw hs (hx1 := hg7) (hx2 := hg9) (hx3 := hg12) (hx4 := hg17) (mp2 := m0) (mp1 := m1) (mp3 := m11) (mp5 := m7) (mp7 := m10) (mp9 := m6) (mp4 := m9) (mp6 := m5) (mp8 := m8) (mp10 := m4) (ne_p1_p2 := ne46) (ne_p3_p5 := ne47) (ne_p4_p6 := ne48)) (by decide) pd_Ljava_lang_Object__Z rfl rfl rfl rfl (by decide) (fun v D' h => ?_)
                rcases h with ⟨h52, h53, rfl, rfl⟩ | ⟨h54, h55, rfl, rfl⟩ | ⟨h56, rfl, rfl⟩
                ·
                 have ih52 := t_eq h52
                 exact absurd h53 (n_eq (by have := q0; have := rng32 z5; have := q2; have := aushr_2 z5; have := q3; have := am_3 (XT.ushr z5 (2 : Int32)); have := q1; omega))
                ·
                 have ih54 := t_eq h54
                 have ih55 := f_eq h55
                 show W _ _ _ _ _ _ _ _ _ _ _ _ 377 _ [(vi 0)]
                 refine W.iload (pc := 377) at_377 rfl ?_
                 refine W.icmpN (pc := 379) at_379 (n_ne (by decide)) ?_
                 refine W.aload (pc := 382) 24 at_382 rfl rfl ?_
                 refine W.aload (pc := 384) 23 at_384 rfl rfl ?_
                 refine W.callV (pc := 386) (as := [(vr a41)]) 0 [] at_386 (w111 hw) (w112 hw) (w114 hw) (w114 hw) (w113 hw) (w41 hw) (w115 hw) (Hp.exa m0) (c61_equals hw hs (hx1 := hg12) (hx2 := hg17) (hx3 := hg7) (hx4 := hg9) (mp2 := m1) (mp1 := m0) (mp3 := m7) (mp5 := m11) (mp7 := m6) (mp9 := m10) (mp4 := m5) (mp6 := m9) (mp8 := m4) (mp10 := m8) (ne_p1_p2 := (Ne.symm ne46)) (ne_p3_p5 := (Ne.symm ne47)) (ne_p4_p6 := (Ne.symm ne48))) (by decide) pd_Ljava_lang_Object__Z rfl rfl rfl rfl (by decide) (fun v D' h => ?_)
                 rcases h with ⟨h57, h58, rfl, rfl⟩ | ⟨h59, h60, rfl, rfl⟩ | ⟨h61, rfl, rfl⟩
                 ·
                  have ih57 := t_eq h57
                  exact absurd h58 (n_eq (by have := q0; have := rng32 z5; have := q2; have := aushr_2 z5; have := q3; have := am_3 (XT.ushr z5 (2 : Int32)); have := q1; omega))
                 ·
                  have ih59 := t_eq h59
                  have ih60 := f_eq h60
                  show W _ _ _ _ _ _ _ _ _ _ _ _ 389 _ [(vi 0)]
                  refine W.iload (pc := 389) at_389 rfl ?_
                  refine W.icmpN (pc := 391) at_391 (n_ne (by decide)) ?_
                  refine W.iconst (pc := 394) (1) at_394 (by decide) ?_
                  refine W.goto (pc := 395) 399 at_395 (by decide) ?_
                  exact W.ireturn (pc := 399) at_399 rfl (Or.inr (Or.inl rfl)) (nw_bool (by decide)) (by decide) rfl
                 ·
                  exact absurd h61 (Classical.not_not.mpr (y_eq (by have := q0; have := rng32 z5; have := q2; have := aushr_2 z5; have := q3; have := am_3 (XT.ushr z5 (2 : Int32)); have := q1; omega)))
                ·
                 exact absurd h56 (Classical.not_not.mpr (y_eq (by have := q0; have := rng32 z5; have := q2; have := aushr_2 z5; have := q3; have := am_3 (XT.ushr z5 (2 : Int32)); have := q1; omega)))
               ·
                exact absurd h41 (Classical.not_not.mpr (y_eq (by have := q0; have := rng32 z5; have := q2; have := aushr_2 z5; have := q3; have := am_3 (XT.ushr z5 (2 : Int32)); have := q1; omega)))
              ·
               have ih17 := t_eq h17
               have ih18 := t_eq h18
               exact absurd h19 (Classical.not_not.mpr (y_eq (by have := q0; have := rng32 z5; have := q2; have := aushr_2 z5; have := q3; have := am_3 (XT.ushr z5 (2 : Int32)); have := q1; omega)))
              ·
               have ih21 := t_eq h21
               have ih22 := t_eq h22
               exact absurd h23 (Classical.not_not.mpr (y_eq (by have := q0; have := rng32 z5; have := q2; have := aushr_2 z5; have := q3; have := am_3 (XT.ushr z5 (2 : Int32)); have := q1; omega)))
              ·
               have ih25 := t_eq h25
               have ih26 := f_eq h26
               show W _ _ _ _ _ _ _ _ _ _ _ _ 342 _ [(vi 0)]
               refine W.ifY (pc := 342) 367 at_342 (y_eq (by decide)) (by decide) ?_
               refine W.iconst (pc := 367) (0) at_367 (by decide) ?_
               refine W.istore (pc := 368) (ls' := #[iv z0, iv z1, iv z2, iv z3, iv z4, iv z5, iv g2, iv g5, iv g7, iv g8, iv g9, iv g10, iv g12, iv g13, iv g14, iv g17, iv g18, iv g19, rv a21, rv a25, rv a29, rv a33, rv a37, rv a41, rv a42, iv ((XT.ushr z5 (2 : Int32)) &&& (3 : Int32)), iv 0]) at_368 rfl ?_
               refine W.aload (pc := 370) 23 at_370 rfl rfl ?_
               refine W.aload (pc := 372) 24 at_372 rfl rfl ?_
               refine W.know (fun _ _ H => H.ne (i := 1) (j := 0) (by decide) rfl rfl (Or.inl rfl)) (fun ne49 => ?_)
               refine W.know (fun _ _ H => H.ne (i := 11) (j := 7) (by decide) rfl rfl (Or.inl rfl)) (fun ne50 => ?_)
               refine W.know (fun _ _ H => H.ne (i := 9) (j := 5) (by decide) rfl rfl (Or.inl rfl)) (fun ne51 => ?_)
               refine W.callV (pc := 374) (as := [(vr a42)]) 0 [] at_374 (w111 hw) (w112 hw) (w114 hw) (w114 hw) (w113 hw) (w41 hw) (w115 hw) (Hp.exa m1) (c61_equals hw hs (hx1 := hg7) (hx2 := hg9) (hx3 := hg12) (hx4 := hg17) (mp2 := m0) (mp1 := m1) (mp3 := m11) (mp5 := m7) (mp7 := m10) (mp9 := m6) (mp4 := m9) (mp6 := m5) (mp8 := m8) (mp10 := m4) (ne_p1_p2 := ne49) (ne_p3_p5 := ne50) (ne_p4_p6 := ne51)) (by decide) pd_Ljava_lang_Object__Z rfl rfl rfl rfl (by decide) (fun v D' h => ?_)
               rcases h with ⟨h62, h63, rfl, rfl⟩ | ⟨h64, h65, rfl, rfl⟩ | ⟨h66, rfl, rfl⟩
               ·
                exact absurd h62 (n_eq (by have := q0; have := rng32 z5; have := q2; have := aushr_2 z5; have := q3; have := am_3 (XT.ushr z5 (2 : Int32)); have := q1; omega))
               ·
                exact absurd h64 (n_eq (by have := q0; have := rng32 z5; have := q2; have := aushr_2 z5; have := q3; have := am_3 (XT.ushr z5 (2 : Int32)); have := q1; omega))
               ·
                have ih66 := f_eq h66
                show W _ _ _ _ _ _ _ _ _ _ _ _ 377 _ [(vi 0)]
                refine W.iload (pc := 377) at_377 rfl ?_
                refine W.icmpN (pc := 379) at_379 (n_ne (by decide)) ?_
                refine W.aload (pc := 382) 24 at_382 rfl rfl ?_
                refine W.aload (pc := 384) 23 at_384 rfl rfl ?_
                refine W.callV (pc := 386) (as := [(vr a41)]) 0 [] at_386 (w111 hw) (w112 hw) (w114 hw) (w114 hw) (w113 hw) (w41 hw) (w115 hw) (Hp.exa m0) (c61_equals hw hs (hx1 := hg12) (hx2 := hg17) (hx3 := hg7) (hx4 := hg9) (mp2 := m1) (mp1 := m0) (mp3 := m7) (mp5 := m11) (mp7 := m6) (mp9 := m10) (mp4 := m5) (mp6 := m9) (mp8 := m4) (mp10 := m8) (ne_p1_p2 := (Ne.symm ne49)) (ne_p3_p5 := (Ne.symm ne50)) (ne_p4_p6 := (Ne.symm ne51))) (by decide) pd_Ljava_lang_Object__Z rfl rfl rfl rfl (by decide) (fun v D' h => ?_)
                rcases h with ⟨h67, h68, rfl, rfl⟩ | ⟨h69, h70, rfl, rfl⟩ | ⟨h71, rfl, rfl⟩
                ·
                 exact absurd h67 (n_eq (by have := q0; have := rng32 z5; have := q2; have := aushr_2 z5; have := q3; have := am_3 (XT.ushr z5 (2 : Int32)); have := q1; omega))
                ·
                 exact absurd h69 (n_eq (by have := q0; have := rng32 z5; have := q2; have := aushr_2 z5; have := q3; have := am_3 (XT.ushr z5 (2 : Int32)); have := q1; omega))
                ·
                 have ih71 := f_eq h71
                 show W _ _ _ _ _ _ _ _ _ _ _ _ 389 _ [(vi 0)]
                 refine W.iload (pc := 389) at_389 rfl ?_
                 refine W.icmpN (pc := 391) at_391 (n_ne (by decide)) ?_
                 refine W.iconst (pc := 394) (1) at_394 (by decide) ?_
                 refine W.goto (pc := 395) 399 at_395 (by decide) ?_
                 exact W.ireturn (pc := 399) at_399 rfl (Or.inr (Or.inl rfl)) (nw_bool (by decide)) (by decide) rfl
              ·
               exact absurd h27 (Classical.not_not.mpr (y_eq (by have := q0; have := rng32 z5; have := q2; have := aushr_2 z5; have := q3; have := am_3 (XT.ushr z5 (2 : Int32)); have := q1; omega)))
             ·
              have ih13 := f_ne h13
              refine W.aload (pc := 319) 23 at_319 rfl rfl ?_
              refine W.aload (pc := 321) 23 at_321 rfl rfl ?_
              refine W.callV (pc := 323) (as := [(vr a41)]) 0 [] at_323 (w111 hw) (w112 hw) (w114 hw) (w114 hw) (w113 hw) (w41 hw) (w115 hw) (Hp.exa m1) (c66_equals hw hs) (by decide) pd_Ljava_lang_Object__Z rfl rfl rfl rfl (by decide) (fun v D' h => ?_)
              obtain ⟨rfl, rfl⟩ := h
              show W _ _ _ _ _ _ _ _ _ _ _ _ 326 _ [(vi 1)]
              exact W.ireturn (pc := 326) at_326 rfl (Or.inr (Or.inl rfl)) (nw_bool (by decide)) (by decide) rfl
            ·
             have ih12 := f_ne h12
             refine W.aload (pc := 297) 23 at_297 rfl rfl ?_
             refine W.aload (pc := 299) 22 at_299 rfl rfl ?_
             refine W.know (fun _ _ H => H.ne (i := 1) (j := 3) (by decide) rfl rfl (Or.inl rfl)) (fun ne52 => ?_)
             refine W.callV (pc := 301) (as := [(vr a37)]) 0 [] at_301 (w111 hw) (w112 hw) (w114 hw) (w114 hw) (w113 hw) (w41 hw) (w115 hw) (Hp.exa m1) (c67_equals hw hs (mp2 := m3) (ne_p1_p2 := ne52)) (by decide) pd_Ljava_lang_Object__Z rfl rfl rfl rfl (by decide) (fun v D' h => ?_)
             obtain ⟨rfl, rfl⟩ := h
             show W _ _ _ _ _ _ _ _ _ _ _ _ 304 _ [(vi 0)]
             refine W.ifN (pc := 304) at_304 (n_ne (by decide)) ?_
             refine W.iconst (pc := 307) (1) at_307 (by decide) ?_
             refine W.goto (pc := 308) 312 at_308 (by decide) ?_
             exact W.ireturn (pc := 312) at_312 rfl (Or.inr (Or.inl rfl)) (nw_bool (by decide)) (by decide) rfl
           ·
            have ih11 := f_ne h11
            refine W.aload (pc := 276) 23 at_276 rfl rfl ?_
            refine W.aconstNull (pc := 278) at_278 ?_
            refine W.callV (pc := 279) (as := [.null]) 0 [] at_279 (w111 hw) (w112 hw) (w114 hw) (w114 hw) (w113 hw) (w41 hw) (w115 hw) (Hp.exa m1) (c68_equals hw hs) (by decide) pd_Ljava_lang_Object__Z rfl rfl rfl rfl (by decide) (fun v D' h => ?_)
            obtain ⟨rfl, rfl⟩ := h
            show W _ _ _ _ _ _ _ _ _ _ _ _ 282 _ [(vi 0)]
            refine W.ifN (pc := 282) at_282 (n_ne (by decide)) ?_
            refine W.iconst (pc := 285) (1) at_285 (by decide) ?_
            refine W.goto (pc := 286) 290 at_286 (by decide) ?_
            exact W.ireturn (pc := 290) at_290 rfl (Or.inr (Or.inl rfl)) (nw_bool (by decide)) (by decide) rfl
          ·
           exact absurd h10 (Classical.not_not.mpr (y_eq (by have := q0; omega)))
         ·
          have ih8 := f_eq h8
          show W _ _ _ _ _ _ _ _ _ _ _ _ 223 _ [(vr a35)]
          refine W.astore (pc := 223) (ls' := #[iv z0, iv z1, iv z2, iv z3, iv z4, iv z5, iv g2, iv g5, iv g7, iv g8, iv g9, iv g10, iv g12, iv g13, iv g14, iv g17, iv g18, iv g19, rv a21, rv a25, rv a29, rv a35, uu, uu, uu, uu, uu]) at_223 rfl rfl ?_
          refine W.iload (pc := 225) at_225 rfl ?_
          refine W.iload (pc := 227) at_227 rfl ?_
          refine W.iload (pc := 229) at_229 rfl ?_
          refine W.callS (pc := 231) (as := [(vi g7), (vi g8), (vi g2)]) 0 [] at_231 (w6 hw) (w7 hw) (w3 hw) (w8 hw) (c3_make hw hs (hx1 := hg7) (hx2 := hg8) (hx3 := hg2)) (by decide) pd_CCZ_Ljava_lang_String_ rfl rfl rfl rfl (by decide) (fun v D' h => ?_)
          rcases h with ⟨a53, a54, h72, rfl, rfl⟩ | ⟨a55, a56, h73, rfl, rfl⟩
          ·
           have ih72 := t_eq h72
           show W _ _ _ _ _ _ _ _ _ _ _ _ 234 _ [(vr a53)]
           refine W.astore (pc := 234) (ls' := #[iv z0, iv z1, iv z2, iv z3, iv z4, iv z5, iv g2, iv g5, iv g7, iv g8, iv g9, iv g10, iv g12, iv g13, iv g14, iv g17, iv g18, iv g19, rv a21, rv a25, rv a29, rv a35, rv a53, uu, uu, uu, uu]) at_234 rfl rfl ?_
           refine W.new (pc := 236) at_236 (w39 hw) (w40 hw) (w41 hw) (laJobKey hw) (by decide) (by decide) (fun a57 => ?_)
           show W _ _ _ _ _ _ _ _ _ _ _ _ 239 _ [(vr a57)]
           refine W.dup (pc := 239) at_239 rfl ?_
           refine W.aload (pc := 240) 18 at_240 rfl rfl ?_
           refine W.aload (pc := 242) 19 at_242 rfl rfl ?_
           refine W.callI (pc := 244) (as := [(vr a21), (vr a25)]) 1 [(vr a57)] at_244 rfl (w42 hw) (w43 hw) (w41 hw) (w44 hw) (c25_init hw hs (hx1 := hg7) (hx2 := hg9) (mog1Z := m12) (mp2 := m9) (mp4 := m8) (mog2Z := m11) (mog3Z := m10) (mog4Z := m15) (mp3 := m7) (mp5 := m6) (mog5Z := m14) (mog6Z := m13)) (by decide) pd_Ljava_lang_String_Ljava_lang_String__V rfl rfl rfl rfl (by decide) (fun v D' h => ?_)
           obtain ⟨rfl, rfl⟩ := h
           show W _ _ _ _ _ _ _ _ _ _ _ _ 247 _ [(vr a57)]
           refine W.astore (pc := 247) (ls' := #[iv z0, iv z1, iv z2, iv z3, iv z4, iv z5, iv g2, iv g5, iv g7, iv g8, iv g9, iv g10, iv g12, iv g13, iv g14, iv g17, iv g18, iv g19, rv a21, rv a25, rv a29, rv a35, rv a53, rv a57, uu, uu, uu]) at_247 rfl rfl ?_
           refine W.new (pc := 249) at_249 (w39 hw) (w40 hw) (w41 hw) (laJobKey hw) (by decide) (by decide) (fun a58 => ?_)
           show W _ _ _ _ _ _ _ _ _ _ _ _ 252 _ [(vr a58)]
           refine W.dup (pc := 252) at_252 rfl ?_
           refine W.aload (pc := 253) 20 at_253 rfl rfl ?_
           refine W.aload (pc := 255) 21 at_255 rfl rfl ?_
           refine W.callI (pc := 257) (as := [(vr a29), (vr a35)]) 1 [(vr a58)] at_257 rfl (w42 hw) (w43 hw) (w41 hw) (w44 hw) (c69_init hw hs (hx1 := hg12) (hx2 := hg17) (hx3 := hg18) (mog1Z := m13) (mp2 := m6) (mp4 := m5) (mog2Z := m12) (mog3Z := m11) (mog4Z := m16) (mp3 := m4) (mp5 := m3) (mog5Z := m15) (mog6Z := m14)) (by decide) pd_Ljava_lang_String_Ljava_lang_String__V rfl rfl rfl rfl (by decide) (fun v D' h => ?_)
           obtain ⟨rfl, rfl⟩ := h
           show W _ _ _ _ _ _ _ _ _ _ _ _ 260 _ [(vr a58)]
           refine W.astore (pc := 260) (ls' := #[iv z0, iv z1, iv z2, iv z3, iv z4, iv z5, iv g2, iv g5, iv g7, iv g8, iv g9, iv g10, iv g12, iv g13, iv g14, iv g17, iv g18, iv g19, rv a21, rv a25, rv a29, rv a35, rv a53, rv a57, rv a58, uu, uu]) at_260 rfl rfl ?_
           refine W.iload (pc := 262) at_262 rfl ?_
           refine W.iconst (pc := 264) (2) at_264 (by decide) ?_
           refine W.iushr (pc := 265) at_265 ?_
           refine W.iconst (pc := 266) (3) at_266 (by decide) ?_
           refine W.iand (pc := 267) at_267 ?_
           refine W.istore (pc := 268) (ls' := #[iv z0, iv z1, iv z2, iv z3, iv z4, iv z5, iv g2, iv g5, iv g7, iv g8, iv g9, iv g10, iv g12, iv g13, iv g14, iv g17, iv g18, iv g19, rv a21, rv a25, rv a29, rv a35, rv a53, rv a57, rv a58, iv ((XT.ushr z5 (2 : Int32)) &&& (3 : Int32)), uu]) at_268 rfl ?_
           refine W.iload (pc := 270) at_270 rfl ?_
           refine W.iconst (pc := 272) (1) at_272 (by decide) ?_
           refine W.icmp (pc := 273) 291 at_273 (by decide) (fun h74 => ?_) (fun h74 => ?_)
           ·
            have ih74 := t_ne h74
            refine W.iload (pc := 291) at_291 rfl ?_
            refine W.iconst (pc := 293) (2) at_293 (by decide) ?_
            refine W.icmp (pc := 294) 313 at_294 (by decide) (fun h75 => ?_) (fun h75 => ?_)
            ·
             have ih75 := t_ne h75
             refine W.iload (pc := 313) at_313 rfl ?_
             refine W.iconst (pc := 315) (3) at_315 (by decide) ?_
             refine W.icmp (pc := 316) 327 at_316 (by decide) (fun h76 => ?_) (fun h76 => ?_)
             ·
              have ih76 := t_ne h76
              refine W.iload (pc := 327) at_327 rfl ?_
              refine W.iload (pc := 329) at_329 rfl ?_
              refine W.iload (pc := 331) at_331 rfl ?_
              refine W.iload (pc := 333) at_333 rfl ?_
              refine W.iload (pc := 335) at_335 rfl ?_
              refine W.iload (pc := 337) at_337 rfl ?_
              refine W.callS (pc := 339) (as := [(vi g7), (vi g8), (vi g2), (vi g12), (vi g13), (vi g14)]) 0 [] at_339 (w108 hw) (w109 hw) (w3 hw) (w110 hw) (c59_same hw hs (hx1 := hg7) (hx2 := hg8) (hx3 := hg2) (hx4 := hg12) (hx5 := hg13) (hx6 := hg14)) (by decide) pd_CCZCCZ_Z rfl rfl rfl rfl (by decide) (fun v D' h => ?_)
              rcases h with ⟨h77, h78, h79, rfl, rfl⟩ | ⟨h80, h81, h82, h83, rfl, rfl⟩ | ⟨h84, h85, h86, h87, rfl, rfl⟩ | ⟨h88, h89, rfl, rfl⟩ | ⟨h90, rfl, rfl⟩
              ·
               have ih77 := t_eq h77
               have ih78 := t_eq h78
               have ih79 := t_eq h79
               show W _ _ _ _ _ _ _ _ _ _ _ _ 342 _ [(vi 1)]
               refine W.ifN (pc := 342) at_342 (n_eq (by decide)) ?_
               refine W.iload (pc := 345) at_345 rfl ?_
               refine W.iload (pc := 347) at_347 rfl ?_
               refine W.iload (pc := 349) at_349 rfl ?_
               refine W.iload (pc := 351) at_351 rfl ?_
               refine W.iload (pc := 353) at_353 rfl ?_
               refine W.iload (pc := 355) at_355 rfl ?_
               refine W.callS (pc := 357) (as := [(vi g9), (vi g10), (vi g5), (vi g17), (vi g18), (vi g19)]) 0 [] at_357 (w108 hw) (w109 hw) (w3 hw) (w110 hw) (c60_same hw hs (hx1 := hg9) (hx2 := hg10) (hx3 := hg5) (hx4 := hg17) (hx5 := hg18) (hx6 := hg19)) (by decide) pd_CCZCCZ_Z rfl rfl rfl rfl (by decide) (fun v D' h => ?_)
               rcases h with ⟨h91, h92, h93, rfl, rfl⟩ | ⟨h94, h95, h96, h97, rfl, rfl⟩ | ⟨h98, h99, h100, h101, rfl, rfl⟩ | ⟨h102, h103, rfl, rfl⟩ | ⟨h104, rfl, rfl⟩
               ·
                exact absurd h91 (n_eq (by have := q0; have := rng32 z5; have := q2; have := aushr_2 z5; have := q3; have := am_3 (XT.ushr z5 (2 : Int32)); have := q1; omega))
               ·
                exact absurd h94 (n_eq (by have := q0; have := rng32 z5; have := q2; have := aushr_2 z5; have := q3; have := am_3 (XT.ushr z5 (2 : Int32)); have := q1; omega))
               ·
                exact absurd h98 (n_eq (by have := q0; have := rng32 z5; have := q2; have := aushr_2 z5; have := q3; have := am_3 (XT.ushr z5 (2 : Int32)); have := q1; omega))
               ·
                exact absurd h102 (n_eq (by have := q0; have := rng32 z5; have := q2; have := aushr_2 z5; have := q3; have := am_3 (XT.ushr z5 (2 : Int32)); have := q1; omega))
               ·
                have ih104 := f_eq h104
                show W _ _ _ _ _ _ _ _ _ _ _ _ 360 _ [(vi 0)]
                refine W.ifY (pc := 360) 367 at_360 (y_eq (by decide)) (by decide) ?_
                refine W.iconst (pc := 367) (0) at_367 (by decide) ?_
                refine W.istore (pc := 368) (ls' := #[iv z0, iv z1, iv z2, iv z3, iv z4, iv z5, iv g2, iv g5, iv g7, iv g8, iv g9, iv g10, iv g12, iv g13, iv g14, iv g17, iv g18, iv g19, rv a21, rv a25, rv a29, rv a35, rv a53, rv a57, rv a58, iv ((XT.ushr z5 (2 : Int32)) &&& (3 : Int32)), iv 0]) at_368 rfl ?_
                refine W.aload (pc := 370) 23 at_370 rfl rfl ?_
                refine W.aload (pc := 372) 24 at_372 rfl rfl ?_
                refine W.know (fun _ _ H => H.ne (i := 1) (j := 0) (by decide) rfl rfl (Or.inl rfl)) (fun ne59 => ?_)
                refine W.know (fun _ _ H => H.ne (i := 11) (j := 7) (by decide) rfl rfl (Or.inl rfl)) (fun ne60 => ?_)
                refine W.know (fun _ _ H => H.ne (i := 9) (j := 5) (by decide) rfl rfl (Or.inl rfl)) (fun ne61 => ?_)
                refine W.callV (pc := 374) (as := [(vr a58)]) 0 [] at_374 (w111 hw) (w112 hw) (w114 hw) (w114 hw) (w113 hw) (w41 hw) (w115 hw) (Hp.exa m1) (c82_equals hw hs (hx1 := hg7) (hx2 := hg9) (hx3 := hg12) (hx4 := hg17) (hx5 := hg18) (mp2 := m0) (mp1 := m1) (mp3 := m11) (mp5 := m7) (mp7 := m10) (mp9 := m6) (mp4 := m9) (mp6 := m5) (mp8 := m8) (mp10 := m4) (ne_p1_p2 := ne59) (ne_p3_p5 := ne60) (ne_p4_p6 := ne61)) (by decide) pd_Ljava_lang_Object__Z rfl rfl rfl rfl (by decide) (fun v D' h => ?_)
                obtain ⟨rfl, rfl⟩ := h
                show W _ _ _ _ _ _ _ _ _ _ _ _ 377 _ [(vi 0)]
                refine W.iload (pc := 377) at_377 rfl ?_
                refine W.icmpN (pc := 379) at_379 (n_ne (by decide)) ?_
                refine W.aload (pc := 382) 24 at_382 rfl rfl ?_
                refine W.aload (pc := 384) 23 at_384 rfl rfl ?_
                refine W.callV (pc := 386) (as := [(vr a57)]) 0 [] at_386 (w111 hw) (w112 hw) (w114 hw) (w114 hw) (w113 hw) (w41 hw) (w115 hw) (Hp.exa m0) (c85_equals hw hs (hx1 := hg12) (hx2 := hg17) (hx3 := hg18) (hx4 := hg7) (hx5 := hg9) (mp2 := m1) (mp1 := m0) (mp3 := m7) (mp5 := m11) (mp7 := m6) (mp9 := m10) (mp4 := m5) (mp6 := m9) (mp8 := m4) (mp10 := m8) (ne_p1_p2 := (Ne.symm ne59)) (ne_p3_p5 := (Ne.symm ne60)) (ne_p4_p6 := (Ne.symm ne61))) (by decide) pd_Ljava_lang_Object__Z rfl rfl rfl rfl (by decide) (fun v D' h => ?_)
                obtain ⟨rfl, rfl⟩ := h
                show W _ _ _ _ _ _ _ _ _ _ _ _ 389 _ [(vi 0)]
                refine W.iload (pc := 389) at_389 rfl ?_
                refine W.icmpN (pc := 391) at_391 (n_ne (by decide)) ?_
                refine W.iconst (pc := 394) (1) at_394 (by decide) ?_
                refine W.goto (pc := 395) 399 at_395 (by decide) ?_
                exact W.ireturn (pc := 399) at_399 rfl (Or.inr (Or.inl rfl)) (nw_bool (by decide)) (by decide) rfl
              ·
               have ih80 := t_eq h80
               have ih81 := t_eq h81
               exact absurd h82 (Classical.not_not.mpr (y_eq (by have := q0; have := rng32 z5; have := q2; have := aushr_2 z5; have := q3; have := am_3 (XT.ushr z5 (2 : Int32)); have := q1; omega)))
              ·
               have ih84 := t_eq h84
               have ih85 := t_eq h85
               exact absurd h86 (Classical.not_not.mpr (y_eq (by have := q0; have := rng32 z5; have := q2; have := aushr_2 z5; have := q3; have := am_3 (XT.ushr z5 (2 : Int32)); have := q1; omega)))
              ·
               have ih88 := t_eq h88
               have ih89 := f_eq h89
               show W _ _ _ _ _ _ _ _ _ _ _ _ 342 _ [(vi 0)]
               refine W.ifY (pc := 342) 367 at_342 (y_eq (by decide)) (by decide) ?_
               refine W.iconst (pc := 367) (0) at_367 (by decide) ?_
               refine W.istore (pc := 368) (ls' := #[iv z0, iv z1, iv z2, iv z3, iv z4, iv z5, iv g2, iv g5, iv g7, iv g8, iv g9, iv g10, iv g12, iv g13, iv g14, iv g17, iv g18, iv g19, rv a21, rv a25, rv a29, rv a35, rv a53, rv a57, rv a58, iv ((XT.ushr z5 (2 : Int32)) &&& (3 : Int32)), iv 0]) at_368 rfl ?_
               refine W.aload (pc := 370) 23 at_370 rfl rfl ?_
               refine W.aload (pc := 372) 24 at_372 rfl rfl ?_
               refine W.know (fun _ _ H => H.ne (i := 1) (j := 0) (by decide) rfl rfl (Or.inl rfl)) (fun ne62 => ?_)
               refine W.know (fun _ _ H => H.ne (i := 11) (j := 7) (by decide) rfl rfl (Or.inl rfl)) (fun ne63 => ?_)
               refine W.know (fun _ _ H => H.ne (i := 9) (j := 5) (by decide) rfl rfl (Or.inl rfl)) (fun ne64 => ?_)
               refine W.callV (pc := 374) (as := [(vr a58)]) 0 [] at_374 (w111 hw) (w112 hw) (w114 hw) (w114 hw) (w113 hw) (w41 hw) (w115 hw) (Hp.exa m1) (c82_equals hw hs (hx1 := hg7) (hx2 := hg9) (hx3 := hg12) (hx4 := hg17) (hx5 := hg18) (mp2 := m0) (mp1 := m1) (mp3 := m11) (mp5 := m7) (mp7 := m10) (mp9 := m6) (mp4 := m9) (mp6 := m5) (mp8 := m8) (mp10 := m4) (ne_p1_p2 := ne62) (ne_p3_p5 := ne63) (ne_p4_p6 := ne64)) (by decide) pd_Ljava_lang_Object__Z rfl rfl rfl rfl (by decide) (fun v D' h => ?_)
               obtain ⟨rfl, rfl⟩ := h
               show W _ _ _ _ _ _ _ _ _ _ _ _ 377 _ [(vi 0)]
               refine W.iload (pc := 377) at_377 rfl ?_
               refine W.icmpN (pc := 379) at_379 (n_ne (by decide)) ?_
               refine W.aload (pc := 382) 24 at_382 rfl rfl ?_
               refine W.aload (pc := 384) 23 at_384 rfl rfl ?_
               refine W.callV (pc := 386) (as := [(vr a57)]) 0 [] at_386 (w111 hw) (w112 hw) (w114 hw) (w114 hw) (w113 hw) (w41 hw) (w115 hw) (Hp.exa m0) (c85_equals hw hs (hx1 := hg12) (hx2 := hg17) (hx3 := hg18) (hx4 := hg7) (hx5 := hg9) (mp2 := m1) (mp1 := m0) (mp3 := m7) (mp5 := m11) (mp7 := m6) (mp9 := m10) (mp4 := m5) (mp6 := m9) (mp8 := m4) (mp10 := m8) (ne_p1_p2 := (Ne.symm ne62)) (ne_p3_p5 := (Ne.symm ne63)) (ne_p4_p6 := (Ne.symm ne64))) (by decide) pd_Ljava_lang_Object__Z rfl rfl rfl rfl (by decide) (fun v D' h => ?_)
               obtain ⟨rfl, rfl⟩ := h
               show W _ _ _ _ _ _ _ _ _ _ _ _ 389 _ [(vi 0)]
               refine W.iload (pc := 389) at_389 rfl ?_
               refine W.icmpN (pc := 391) at_391 (n_ne (by decide)) ?_
               refine W.iconst (pc := 394) (1) at_394 (by decide) ?_
               refine W.goto (pc := 395) 399 at_395 (by decide) ?_
               exact W.ireturn (pc := 399) at_399 rfl (Or.inr (Or.inl rfl)) (nw_bool (by decide)) (by decide) rfl
              ·
               exact absurd h90 (Classical.not_not.mpr (y_eq (by have := q0; have := rng32 z5; have := q2; have := aushr_2 z5; have := q3; have := am_3 (XT.ushr z5 (2 : Int32)); have := q1; omega)))
             ·
              have ih76 := f_ne h76
              refine W.aload (pc := 319) 23 at_319 rfl rfl ?_
              refine W.aload (pc := 321) 23 at_321 rfl rfl ?_
              refine W.callV (pc := 323) (as := [(vr a57)]) 0 [] at_323 (w111 hw) (w112 hw) (w114 hw) (w114 hw) (w113 hw) (w41 hw) (w115 hw) (Hp.exa m1) (c66_equals hw hs) (by decide) pd_Ljava_lang_Object__Z rfl rfl rfl rfl (by decide) (fun v D' h => ?_)
              obtain ⟨rfl, rfl⟩ := h
              show W _ _ _ _ _ _ _ _ _ _ _ _ 326 _ [(vi 1)]
              exact W.ireturn (pc := 326) at_326 rfl (Or.inr (Or.inl rfl)) (nw_bool (by decide)) (by decide) rfl
            ·
             have ih75 := f_ne h75
             refine W.aload (pc := 297) 23 at_297 rfl rfl ?_
             refine W.aload (pc := 299) 22 at_299 rfl rfl ?_
             refine W.know (fun _ _ H => H.ne (i := 1) (j := 3) (by decide) rfl rfl (Or.inl rfl)) (fun ne65 => ?_)
             refine W.callV (pc := 301) (as := [(vr a53)]) 0 [] at_301 (w111 hw) (w112 hw) (w114 hw) (w114 hw) (w113 hw) (w41 hw) (w115 hw) (Hp.exa m1) (c67_equals hw hs (mp2 := m3) (ne_p1_p2 := ne65)) (by decide) pd_Ljava_lang_Object__Z rfl rfl rfl rfl (by decide) (fun v D' h => ?_)
             obtain ⟨rfl, rfl⟩ := h
             show W _ _ _ _ _ _ _ _ _ _ _ _ 304 _ [(vi 0)]
             refine W.ifN (pc := 304) at_304 (n_ne (by decide)) ?_
             refine W.iconst (pc := 307) (1) at_307 (by decide) ?_
             refine W.goto (pc := 308) 312 at_308 (by decide) ?_
             exact W.ireturn (pc := 312) at_312 rfl (Or.inr (Or.inl rfl)) (nw_bool (by decide)) (by decide) rfl
           ·
            have ih74 := f_ne h74
            refine W.aload (pc := 276) 23 at_276 rfl rfl ?_
            refine W.aconstNull (pc := 278) at_278 ?_
            refine W.callV (pc := 279) (as := [.null]) 0 [] at_279 (w111 hw) (w112 hw) (w114 hw) (w114 hw) (w113 hw) (w41 hw) (w115 hw) (Hp.exa m1) (c68_equals hw hs) (by decide) pd_Ljava_lang_Object__Z rfl rfl rfl rfl (by decide) (fun v D' h => ?_)
            obtain ⟨rfl, rfl⟩ := h
            show W _ _ _ _ _ _ _ _ _ _ _ _ 282 _ [(vi 0)]
            refine W.ifN (pc := 282) at_282 (n_ne (by decide)) ?_
            refine W.iconst (pc := 285) (1) at_285 (by decide) ?_
            refine W.goto (pc := 286) 290 at_286 (by decide) ?_
            exact W.ireturn (pc := 290) at_290 rfl (Or.inr (Or.inl rfl)) (nw_bool (by decide)) (by decide) rfl
          ·
           exact absurd h73 (Classical.not_not.mpr (y_eq (by have := q0; omega)))
        ·
         have ih6 := f_eq h6
         show W _ _ _ _ _ _ _ _ _ _ _ _ 212 _ [(vr a31)]
         refine W.astore (pc := 212) (ls' := #[iv z0, iv z1, iv z2, iv z3, iv z4, iv z5, iv g2, iv g5, iv g7, iv g8, iv g9, iv g10, iv g12, iv g13, iv g14, iv g17, iv g18, iv g19, rv a21, rv a25, rv a31, uu, uu, uu, uu, uu, uu]) at_212 rfl rfl ?_
         refine W.iload (pc := 214) at_214 rfl ?_
         refine W.iload (pc := 216) at_216 rfl ?_
         refine W.iload (pc := 218) at_218 rfl ?_
         refine W.callS (pc := 220) (as := [(vi g17), (vi g18), (vi g19)]) 0 [] at_220 (w6 hw) (w7 hw) (w3 hw) (w8 hw) (c14_make hw hs (hx1 := hg17) (hx2 := hg18) (hx3 := hg19)) (by decide) pd_CCZ_Ljava_lang_String_ rfl rfl rfl rfl (by decide) (fun v D' h => ?_)
         rcases h with ⟨a66, a67, h105, rfl, rfl⟩ | ⟨a68, a69, h106, rfl, rfl⟩
         ·
          have ih105 := t_eq h105
          show W _ _ _ _ _ _ _ _ _ _ _ _ 223 _ [(vr a66)]
          refine W.astore (pc := 223) (ls' := #[iv z0, iv z1, iv z2, iv z3, iv z4, iv z5, iv g2, iv g5, iv g7, iv g8, iv g9, iv g10, iv g12, iv g13, iv g14, iv g17, iv g18, iv g19, rv a21, rv a25, rv a31, rv a66, uu, uu, uu, uu, uu]) at_223 rfl rfl ?_
          refine W.iload (pc := 225) at_225 rfl ?_
          refine W.iload (pc := 227) at_227 rfl ?_
          refine W.iload (pc := 229) at_229 rfl ?_
          refine W.callS (pc := 231) (as := [(vi g7), (vi g8), (vi g2)]) 0 [] at_231 (w6 hw) (w7 hw) (w3 hw) (w8 hw) (c3_make hw hs (hx1 := hg7) (hx2 := hg8) (hx3 := hg2)) (by decide) pd_CCZ_Ljava_lang_String_ rfl rfl rfl rfl (by decide) (fun v D' h => ?_)
          rcases h with ⟨a70, a71, h107, rfl, rfl⟩ | ⟨a72, a73, h108, rfl, rfl⟩
          ·
           have ih107 := t_eq h107
           show W _ _ _ _ _ _ _ _ _ _ _ _ 234 _ [(vr a70)]
           refine W.astore (pc := 234) (ls' := #[iv z0, iv z1, iv z2, iv z3, iv z4, iv z5, iv g2, iv g5, iv g7, iv g8, iv g9, iv g10, iv g12, iv g13, iv g14, iv g17, iv g18, iv g19, rv a21, rv a25, rv a31, rv a66, rv a70, uu, uu, uu, uu]) at_234 rfl rfl ?_
           refine W.new (pc := 236) at_236 (w39 hw) (w40 hw) (w41 hw) (laJobKey hw) (by decide) (by decide) (fun a74 => ?_)
           show W _ _ _ _ _ _ _ _ _ _ _ _ 239 _ [(vr a74)]
           refine W.dup (pc := 239) at_239 rfl ?_
           refine W.aload (pc := 240) 18 at_240 rfl rfl ?_
           refine W.aload (pc := 242) 19 at_242 rfl rfl ?_
           refine W.callI (pc := 244) (as := [(vr a21), (vr a25)]) 1 [(vr a74)] at_244 rfl (w42 hw) (w43 hw) (w41 hw) (w44 hw) (c25_init hw hs (hx1 := hg7) (hx2 := hg9) (mog1Z := m12) (mp2 := m9) (mp4 := m8) (mog2Z := m11) (mog3Z := m10) (mog4Z := m15) (mp3 := m7) (mp5 := m6) (mog5Z := m14) (mog6Z := m13)) (by decide) pd_Ljava_lang_String_Ljava_lang_String__V rfl rfl rfl rfl (by decide) (fun v D' h => ?_)
           obtain ⟨rfl, rfl⟩ := h
           show W _ _ _ _ _ _ _ _ _ _ _ _ 247 _ [(vr a74)]
           refine W.astore (pc := 247) (ls' := #[iv z0, iv z1, iv z2, iv z3, iv z4, iv z5, iv g2, iv g5, iv g7, iv g8, iv g9, iv g10, iv g12, iv g13, iv g14, iv g17, iv g18, iv g19, rv a21, rv a25, rv a31, rv a66, rv a70, rv a74, uu, uu, uu]) at_247 rfl rfl ?_
           refine W.new (pc := 249) at_249 (w39 hw) (w40 hw) (w41 hw) (laJobKey hw) (by decide) (by decide) (fun a75 => ?_)
           show W _ _ _ _ _ _ _ _ _ _ _ _ 252 _ [(vr a75)]
           refine W.dup (pc := 252) at_252 rfl ?_
           refine W.aload (pc := 253) 20 at_253 rfl rfl ?_
           refine W.aload (pc := 255) 21 at_255 rfl rfl ?_
           refine W.callI (pc := 257) (as := [(vr a31), (vr a66)]) 1 [(vr a75)] at_257 rfl (w42 hw) (w43 hw) (w41 hw) (w44 hw) (c88_init hw hs (hx1 := hg12) (hx2 := hg13) (hx3 := hg17) (mog1Z := m13) (mp2 := m6) (mp4 := m5) (mog2Z := m12) (mog3Z := m11) (mog4Z := m16) (mp3 := m4) (mp5 := m3) (mog5Z := m15) (mog6Z := m14)) (by decide) pd_Ljava_lang_String_Ljava_lang_String__V rfl rfl rfl rfl (by decide) (fun v D' h => ?_)
           obtain ⟨rfl, rfl⟩ := h
           show W _ _ _ _ _ _ _ _ _ _ _ _ 260 _ [(vr a75)]
           refine W.astore (pc := 260) (ls' := #[iv z0, iv z1, iv z2, iv z3, iv z4, iv z5, iv g2, iv g5, iv g7, iv g8, iv g9, iv g10, iv g12, iv g13, iv g14, iv g17, iv g18, iv g19, rv a21, rv a25, rv a31, rv a66, rv a70, rv a74, rv a75, uu, uu]) at_260 rfl rfl ?_
           refine W.iload (pc := 262) at_262 rfl ?_
           refine W.iconst (pc := 264) (2) at_264 (by decide) ?_
           refine W.iushr (pc := 265) at_265 ?_
           refine W.iconst (pc := 266) (3) at_266 (by decide) ?_
           refine W.iand (pc := 267) at_267 ?_
           refine W.istore (pc := 268) (ls' := #[iv z0, iv z1, iv z2, iv z3, iv z4, iv z5, iv g2, iv g5, iv g7, iv g8, iv g9, iv g10, iv g12, iv g13, iv g14, iv g17, iv g18, iv g19, rv a21, rv a25, rv a31, rv a66, rv a70, rv a74, rv a75, iv ((XT.ushr z5 (2 : Int32)) &&& (3 : Int32)), uu]) at_268 rfl ?_
           refine W.iload (pc := 270) at_270 rfl ?_
           refine W.iconst (pc := 272) (1) at_272 (by decide) ?_
           refine W.icmp (pc := 273) 291 at_273 (by decide) (fun h109 => ?_) (fun h109 => ?_)
           ·
            have ih109 := t_ne h109
            refine W.iload (pc := 291) at_291 rfl ?_
            refine W.iconst (pc := 293) (2) at_293 (by decide) ?_
            refine W.icmp (pc := 294) 313 at_294 (by decide) (fun h110 => ?_) (fun h110 => ?_)
            ·
             have ih110 := t_ne h110
             refine W.iload (pc := 313) at_313 rfl ?_
             refine W.iconst (pc := 315) (3) at_315 (by decide) ?_
             refine W.icmp (pc := 316) 327 at_316 (by decide) (fun h111 => ?_) (fun h111 => ?_)
             ·
              have ih111 := t_ne h111
              refine W.iload (pc := 327) at_327 rfl ?_
              refine W.iload (pc := 329) at_329 rfl ?_
              refine W.iload (pc := 331) at_331 rfl ?_
              refine W.iload (pc := 333) at_333 rfl ?_
              refine W.iload (pc := 335) at_335 rfl ?_
              refine W.iload (pc := 337) at_337 rfl ?_
              refine W.callS (pc := 339) (as := [(vi g7), (vi g8), (vi g2), (vi g12), (vi g13), (vi g14)]) 0 [] at_339 (w108 hw) (w109 hw) (w3 hw) (w110 hw) (c59_same hw hs (hx1 := hg7) (hx2 := hg8) (hx3 := hg2) (hx4 := hg12) (hx5 := hg13) (hx6 := hg14)) (by decide) pd_CCZCCZ_Z rfl rfl rfl rfl (by decide) (fun v D' h => ?_)
              rcases h with ⟨h112, h113, h114, rfl, rfl⟩ | ⟨h115, h116, h117, h118, rfl, rfl⟩ | ⟨h119, h120, h121, h122, rfl, rfl⟩ | ⟨h123, h124, rfl, rfl⟩ | ⟨h125, rfl, rfl⟩
              ·
               exact absurd h112 (n_eq (by have := q0; have := rng32 z5; have := q2; have := aushr_2 z5; have := q3; have := am_3 (XT.ushr z5 (2 : Int32)); have := q1; omega))
              ·
               exact absurd h115 (n_eq (by have := q0; have := rng32 z5; have := q2; have := aushr_2 z5; have := q3; have := am_3 (XT.ushr z5 (2 : Int32)); have := q1; omega))
              ·
               exact absurd h119 (n_eq (by have := q0; have := rng32 z5; have := q2; have := aushr_2 z5; have := q3; have := am_3 (XT.ushr z5 (2 : Int32)); have := q1; omega))
              ·
               exact absurd h123 (n_eq (by have := q0; have := rng32 z5; have := q2; have := aushr_2 z5; have := q3; have := am_3 (XT.ushr z5 (2 : Int32)); have := q1; omega))
              ·
               have ih125 := f_eq h125
               show W _ _ _ _ _ _ _ _ _ _ _ _ 342 _ [(vi 0)]
               refine W.ifY (pc := 342) 367 at_342 (y_eq (by decide)) (by decide) ?_
               refine W.iconst (pc := 367) (0) at_367 (by decide) ?_
               refine W.istore (pc := 368) (ls' := #[iv z0, iv z1, iv z2, iv z3, iv z4, iv z5, iv g2, iv g5, iv g7, iv g8, iv g9, iv g10, iv g12, iv g13, iv g14, iv g17, iv g18, iv g19, rv a21, rv a25, rv a31, rv a66, rv a70, rv a74, rv a75, iv ((XT.ushr z5 (2 : Int32)) &&& (3 : Int32)), iv 0]) at_368 rfl ?_
               refine W.aload (pc := 370) 23 at_370 rfl rfl ?_
               refine W.aload (pc := 372) 24 at_372 rfl rfl ?_
               refine W.know (fun _ _ H => H.ne (i := 1) (j := 0) (by decide) rfl rfl (Or.inl rfl)) (fun ne76 => ?_)
               refine W.know (fun _ _ H => H.ne (i := 11) (j := 7) (by decide) rfl rfl (Or.inl rfl)) (fun ne77 => ?_)
               refine W.callV (pc := 374) (as := [(vr a75)]) 0 [] at_374 (w111 hw) (w112 hw) (w114 hw) (w114 hw) (w113 hw) (w41 hw) (w115 hw) (Hp.exa m1) (c97_equals hw hs (hx1 := hg7) (hx3 := hg12) (hx4 := hg13) (mp2 := m0) (mp1 := m1) (mp3 := m11) (mp5 := m7) (mp7 := m10) (mp9 := m6) (ne_p1_p2 := ne76) (ne_p3_p5 := ne77)) (by decide) pd_Ljava_lang_Object__Z rfl rfl rfl rfl (by decide) (fun v D' h => ?_)
               obtain ⟨rfl, rfl⟩ := h
               show W _ _ _ _ _ _ _ _ _ _ _ _ 377 _ [(vi 0)]
               refine W.iload (pc := 377) at_377 rfl ?_
               refine W.icmpN (pc := 379) at_379 (n_ne (by decide)) ?_
               refine W.aload (pc := 382) 24 at_382 rfl rfl ?_
               refine W.aload (pc := 384) 23 at_384 rfl rfl ?_
               refine W.callV (pc := 386) (as := [(vr a74)]) 0 [] at_386 (w111 hw) (w112 hw) (w114 hw) (w114 hw) (w113 hw) (w41 hw) (w115 hw) (Hp.exa m0) (c100_equals hw hs (hx1 := hg12) (hx2 := hg13) (hx4 := hg7) (mp2 := m1) (mp1 := m0) (mp3 := m7) (mp5 := m11) (mp7 := m6) (mp9 := m10) (ne_p1_p2 := (Ne.symm ne76)) (ne_p3_p5 := (Ne.symm ne77))) (by decide) pd_Ljava_lang_Object__Z rfl rfl rfl rfl (by decide) (fun v D' h => ?_)
               obtain ⟨rfl, rfl⟩ := h
               show W _ _ _ _ _ _ _ _ _ _ _ _ 389 _ [(vi 0)]
               refine W.iload (pc := 389) at_389 rfl ?_
               refine W.icmpN (pc := 391) at_391 (n_ne (by decide)) ?_
               refine W.iconst (pc := 394) (1) at_394 (by decide) ?_
               refine W.goto (pc := 395) 399 at_395 (by decide) ?_
               exact W.ireturn (pc := 399) at_399 rfl (Or.inr (Or.inl rfl)) (nw_bool (by decide)) (by decide) rfl
             ·
              have ih111 := f_ne h111
              refine W.aload (pc := 319) 23 at_319 rfl rfl ?_
              refine W.aload (pc := 321) 23 at_321 rfl rfl ?_
              refine W.callV (pc := 323) (as := [(vr a74)]) 0 [] at_323 (w111 hw) (w112 hw) (w114 hw) (w114 hw) (w113 hw) (w41 hw) (w115 hw) (Hp.exa m1) (c66_equals hw hs) (by decide) pd_Ljava_lang_Object__Z rfl rfl rfl rfl (by decide) (fun v D' h => ?_)
              obtain ⟨rfl, rfl⟩ := h
              show W _ _ _ _ _ _ _ _ _ _ _ _ 326 _ [(vi 1)]
              exact W.ireturn (pc := 326) at_326 rfl (Or.inr (Or.inl rfl)) (nw_bool (by decide)) (by decide) rfl
            ·
             have ih110 := f_ne h110
             refine W.aload (pc := 297) 23 at_297 rfl rfl ?_
             refine W.aload (pc := 299) 22 at_299 rfl rfl ?_
             refine W.know (fun _ _ H => H.ne (i := 1) (j := 3) (by decide) rfl rfl (Or.inl rfl)) (fun ne78 => ?_)
             refine W.callV (pc := 301) (as := [(vr a70)]) 0 [] at_301 (w111 hw) (w112 hw) (w114 hw) (w114 hw) (w113 hw) (w41 hw) (w115 hw) (Hp.exa m1) (c67_equals hw hs (mp2 := m3) (ne_p1_p2 := ne78)) (by decide) pd_Ljava_lang_Object__Z rfl rfl rfl rfl (by decide) (fun v D' h => ?_)
             obtain ⟨rfl, rfl⟩ := h
             show W _ _ _ _ _ _ _ _ _ _ _ _ 304 _ [(vi 0)]
             refine W.ifN (pc := 304) at_304 (n_ne (by decide)) ?_
             refine W.iconst (pc := 307) (1) at_307 (by decide) ?_
             refine W.goto (pc := 308) 312 at_308 (by decide) ?_
             exact W.ireturn (pc := 312) at_312 rfl (Or.inr (Or.inl rfl)) (nw_bool (by decide)) (by decide) rfl
           ·
            have ih109 := f_ne h109
            refine W.aload (pc := 276) 23 at_276 rfl rfl ?_
            refine W.aconstNull (pc := 278) at_278 ?_
            refine W.callV (pc := 279) (as := [.null]) 0 [] at_279 (w111 hw) (w112 hw) (w114 hw) (w114 hw) (w113 hw) (w41 hw) (w115 hw) (Hp.exa m1) (c68_equals hw hs) (by decide) pd_Ljava_lang_Object__Z rfl rfl rfl rfl (by decide) (fun v D' h => ?_)
            obtain ⟨rfl, rfl⟩ := h
            show W _ _ _ _ _ _ _ _ _ _ _ _ 282 _ [(vi 0)]
            refine W.ifN (pc := 282) at_282 (n_ne (by decide)) ?_
            refine W.iconst (pc := 285) (1) at_285 (by decide) ?_
            refine W.goto (pc := 286) 290 at_286 (by decide) ?_
            exact W.ireturn (pc := 290) at_290 rfl (Or.inr (Or.inl rfl)) (nw_bool (by decide)) (by decide) rfl
          ·
           exact absurd h108 (Classical.not_not.mpr (y_eq (by have := q0; omega)))
         ·
          have ih106 := f_eq h106
          show W _ _ _ _ _ _ _ _ _ _ _ _ 223 _ [(vr a68)]
          refine W.astore (pc := 223) (ls' := #[iv z0, iv z1, iv z2, iv z3, iv z4, iv z5, iv g2, iv g5, iv g7, iv g8, iv g9, iv g10, iv g12, iv g13, iv g14, iv g17, iv g18, iv g19, rv a21, rv a25, rv a31, rv a68, uu, uu, uu, uu, uu]) at_223 rfl rfl ?_
          refine W.iload (pc := 225) at_225 rfl ?_
          refine W.iload (pc := 227) at_227 rfl ?_
          refine W.iload (pc := 229) at_229 rfl ?_
          refine W.callS (pc := 231) (as := [(vi g7), (vi g8), (vi g2)]) 0 [] at_231 (w6 hw) (w7 hw) (w3 hw) (w8 hw) (c3_make hw hs (hx1 := hg7) (hx2 := hg8) (hx3 := hg2)) (by decide) pd_CCZ_Ljava_lang_String_ rfl rfl rfl rfl (by decide) (fun v D' h => ?_)
          rcases h with ⟨a79, a80, h126, rfl, rfl⟩ | ⟨a81, a82, h127, rfl, rfl⟩
          ·
           have ih126 := t_eq h126
           show W _ _ _ _ _ _ _ _ _ _ _ _ 234 _ [(vr a79)]
           refine W.astore (pc := 234) (ls' := #[iv z0, iv z1, iv z2, iv z3, iv z4, iv z5, iv g2, iv g5, iv g7, iv g8, iv g9, iv g10, iv g12, iv g13, iv g14, iv g17, iv g18, iv g19, rv a21, rv a25, rv a31, rv a68, rv a79, uu, uu, uu, uu]) at_234 rfl rfl ?_
           refine W.new (pc := 236) at_236 (w39 hw) (w40 hw) (w41 hw) (laJobKey hw) (by decide) (by decide) (fun a83 => ?_)
           show W _ _ _ _ _ _ _ _ _ _ _ _ 239 _ [(vr a83)]
           refine W.dup (pc := 239) at_239 rfl ?_
           refine W.aload (pc := 240) 18 at_240 rfl rfl ?_
           refine W.aload (pc := 242) 19 at_242 rfl rfl ?_
           refine W.callI (pc := 244) (as := [(vr a21), (vr a25)]) 1 [(vr a83)] at_244 rfl (w42 hw) (w43 hw) (w41 hw) (w44 hw) (c25_init hw hs (hx1 := hg7) (hx2 := hg9) (mog1Z := m12) (mp2 := m9) (mp4 := m8) (mog2Z := m11) (mog3Z := m10) (mog4Z := m15) (mp3 := m7) (mp5 := m6) (mog5Z := m14) (mog6Z := m13)) (by decide) pd_Ljava_lang_String_Ljava_lang_String__V rfl rfl rfl rfl (by decide) (fun v D' h => ?_)
           obtain ⟨rfl, rfl⟩ := h
           show W _ _ _ _ _ _ _ _ _ _ _ _ 247 _ [(vr a83)]
           refine W.astore (pc := 247) (ls' := #[iv z0, iv z1, iv z2, iv z3, iv z4, iv z5, iv g2, iv g5, iv g7, iv g8, iv g9, iv g10, iv g12, iv g13, iv g14, iv g17, iv g18, iv g19, rv a21, rv a25, rv a31, rv a68, rv a79, rv a83, uu, uu, uu]) at_247 rfl rfl ?_
           refine W.new (pc := 249) at_249 (w39 hw) (w40 hw) (w41 hw) (laJobKey hw) (by decide) (by decide) (fun a84 => ?_)
           show W _ _ _ _ _ _ _ _ _ _ _ _ 252 _ [(vr a84)]
           refine W.dup (pc := 252) at_252 rfl ?_
           refine W.aload (pc := 253) 20 at_253 rfl rfl ?_
           refine W.aload (pc := 255) 21 at_255 rfl rfl ?_
           refine W.callI (pc := 257) (as := [(vr a31), (vr a68)]) 1 [(vr a84)] at_257 rfl (w42 hw) (w43 hw) (w41 hw) (w44 hw) (c103_init hw hs (hx1 := hg12) (hx2 := hg13) (hx3 := hg17) (hx4 := hg18) (mog1Z := m13) (mp2 := m6) (mp4 := m5) (mog2Z := m12) (mog3Z := m11) (mog4Z := m16) (mp3 := m4) (mp5 := m3) (mog5Z := m15) (mog6Z := m14)) (by decide) pd_Ljava_lang_String_Ljava_lang_String__V rfl rfl rfl rfl (by decide) (fun v D' h => ?_)
           obtain ⟨rfl, rfl⟩ := h
           show W _ _ _ _ _ _ _ _ _ _ _ _ 260 _ [(vr a84)]
           refine W.astore (pc := 260) (ls' := #[iv z0, iv z1, iv z2, iv z3, iv z4, iv z5, iv g2, iv g5, iv g7, iv g8, iv g9, iv g10, iv g12, iv g13, iv g14, iv g17, iv g18, iv g19, rv a21, rv a25, rv a31, rv a68, rv a79, rv a83, rv a84, uu, uu]) at_260 rfl rfl ?_
           refine W.iload (pc := 262) at_262 rfl ?_
           refine W.iconst (pc := 264) (2) at_264 (by decide) ?_
           refine W.iushr (pc := 265) at_265 ?_
           refine W.iconst (pc := 266) (3) at_266 (by decide) ?_
           refine W.iand (pc := 267) at_267 ?_
           refine W.istore (pc := 268) (ls' := #[iv z0, iv z1, iv z2, iv z3, iv z4, iv z5, iv g2, iv g5, iv g7, iv g8, iv g9, iv g10, iv g12, iv g13, iv g14, iv g17, iv g18, iv g19, rv a21, rv a25, rv a31, rv a68, rv a79, rv a83, rv a84, iv ((XT.ushr z5 (2 : Int32)) &&& (3 : Int32)), uu]) at_268 rfl ?_
           refine W.iload (pc := 270) at_270 rfl ?_
           refine W.iconst (pc := 272) (1) at_272 (by decide) ?_
           refine W.icmp (pc := 273) 291 at_273 (by decide) (fun h128 => ?_) (fun h128 => ?_)
           ·
            have ih128 := t_ne h128
            refine W.iload (pc := 291) at_291 rfl ?_
            refine W.iconst (pc := 293) (2) at_293 (by decide) ?_
            refine W.icmp (pc := 294) 313 at_294 (by decide) (fun h129 => ?_) (fun h129 => ?_)
            ·
             have ih129 := t_ne h129
             refine W.iload (pc := 313) at_313 rfl ?_
             refine W.iconst (pc := 315) (3) at_315 (by decide) ?_
             refine W.icmp (pc := 316) 327 at_316 (by decide) (fun h130 => ?_) (fun h130 => ?_)
             ·
              have ih130 := t_ne h130
              refine W.iload (pc := 327) at_327 rfl ?_
              refine W.iload (pc := 329) at_329 rfl ?_
              refine W.iload (pc := 331) at_331 rfl ?_
              refine W.iload (pc := 333) at_333 rfl ?_
              refine W.iload (pc := 335) at_335 rfl ?_
              refine W.iload (pc := 337) at_337 rfl ?_
              refine W.callS (pc := 339) (as := [(vi g7), (vi g8), (vi g2), (vi g12), (vi g13), (vi g14)]) 0 [] at_339 (w108 hw) (w109 hw) (w3 hw) (w110 hw) (c59_same hw hs (hx1 := hg7) (hx2 := hg8) (hx3 := hg2) (hx4 := hg12) (hx5 := hg13) (hx6 := hg14)) (by decide) pd_CCZCCZ_Z rfl rfl rfl rfl (by decide) (fun v D' h => ?_)
              rcases h with ⟨h131, h132, h133, rfl, rfl⟩ | ⟨h134, h135, h136, h137, rfl, rfl⟩ | ⟨h138, h139, h140, h141, rfl, rfl⟩ | ⟨h142, h143, rfl, rfl⟩ | ⟨h144, rfl, rfl⟩
              ·
               exact absurd h131 (n_eq (by have := q0; have := rng32 z5; have := q2; have := aushr_2 z5; have := q3; have := am_3 (XT.ushr z5 (2 : Int32)); have := q1; omega))
              ·
               exact absurd h134 (n_eq (by have := q0; have := rng32 z5; have := q2; have := aushr_2 z5; have := q3; have := am_3 (XT.ushr z5 (2 : Int32)); have := q1; omega))
              ·
               exact absurd h138 (n_eq (by have := q0; have := rng32 z5; have := q2; have := aushr_2 z5; have := q3; have := am_3 (XT.ushr z5 (2 : Int32)); have := q1; omega))
              ·
               exact absurd h142 (n_eq (by have := q0; have := rng32 z5; have := q2; have := aushr_2 z5; have := q3; have := am_3 (XT.ushr z5 (2 : Int32)); have := q1; omega))
              ·
               have ih144 := f_eq h144
               show W _ _ _ _ _ _ _ _ _ _ _ _ 342 _ [(vi 0)]
               refine W.ifY (pc := 342) 367 at_342 (y_eq (by decide)) (by decide) ?_
               refine W.iconst (pc := 367) (0) at_367 (by decide) ?_
               refine W.istore (pc := 368) (ls' := #[iv z0, iv z1, iv z2, iv z3, iv z4, iv z5, iv g2, iv g5, iv g7, iv g8, iv g9, iv g10, iv g12, iv g13, iv g14, iv g17, iv g18, iv g19, rv a21, rv a25, rv a31, rv a68, rv a79, rv a83, rv a84, iv ((XT.ushr z5 (2 : Int32)) &&& (3 : Int32)), iv 0]) at_368 rfl ?_
               refine W.aload (pc := 370) 23 at_370 rfl rfl ?_
               refine W.aload (pc := 372) 24 at_372 rfl rfl ?_
               refine W.know (fun _ _ H => H.ne (i := 1) (j := 0) (by decide) rfl rfl (Or.inl rfl)) (fun ne85 => ?_)
               refine W.know (fun _ _ H => H.ne (i := 11) (j := 7) (by decide) rfl rfl (Or.inl rfl)) (fun ne86 => ?_)
               refine W.callV (pc := 374) (as := [(vr a84)]) 0 [] at_374 (w111 hw) (w112 hw) (w114 hw) (w114 hw) (w113 hw) (w41 hw) (w115 hw) (Hp.exa m1) (c97_equals hw hs (hx1 := hg7) (hx3 := hg12) (hx4 := hg13) (mp2 := m0) (mp1 := m1) (mp3 := m11) (mp5 := m7) (mp7 := m10) (mp9 := m6) (ne_p1_p2 := ne85) (ne_p3_p5 := ne86)) (by decide) pd_Ljava_lang_Object__Z rfl rfl rfl rfl (by decide) (fun v D' h => ?_)
               obtain ⟨rfl, rfl⟩ := h
               show W _ _ _ _ _ _ _ _ _ _ _ _ 377 _ [(vi 0)]
               refine W.iload (pc := 377) at_377 rfl ?_
               refine W.icmpN (pc := 379) at_379 (n_ne (by decide)) ?_
               refine W.aload (pc := 382) 24 at_382 rfl rfl ?_
               refine W.aload (pc := 384) 23 at_384 rfl rfl ?_
               refine W.callV (pc := 386) (as := [(vr a83)]) 0 [] at_386 (w111 hw) (w112 hw) (w114 hw) (w114 hw) (w113 hw) (w41 hw) (w115 hw) (Hp.exa m0) (c100_equals hw hs (hx1 := hg12) (hx2 := hg13) (hx4 := hg7) (mp2 := m1) (mp1 := m0) (mp3 := m7) (mp5 := m11) (mp7 := m6) (mp9 := m10) (ne_p1_p2 := (Ne.symm ne85)) (ne_p3_p5 := (Ne.symm ne86))) (by decide) pd_Ljava_lang_Object__Z rfl rfl rfl rfl (by decide) (fun v D' h => ?_)
               obtain ⟨rfl, rfl⟩ := h
               show W _ _ _ _ _ _ _ _ _ _ _ _ 389 _ [(vi 0)]
               refine W.iload (pc := 389) at_389 rfl ?_
               refine W.icmpN (pc := 391) at_391 (n_ne (by decide)) ?_
               refine W.iconst (pc := 394) (1) at_394 (by decide) ?_
               refine W.goto (pc := 395) 399 at_395 (by decide) ?_
               exact W.ireturn (pc := 399) at_399 rfl (Or.inr (Or.inl rfl)) (nw_bool (by decide)) (by decide) rfl
             ·
              have ih130 := f_ne h130
              refine W.aload (pc := 319) 23 at_319 rfl rfl ?_
              refine W.aload (pc := 321) 23 at_321 rfl rfl ?_
              refine W.callV (pc := 323) (as := [(vr a83)]) 0 [] at_323 (w111 hw) (w112 hw) (w114 hw) (w114 hw) (w113 hw) (w41 hw) (w115 hw) (Hp.exa m1) (c66_equals hw hs) (by decide) pd_Ljava_lang_Object__Z rfl rfl rfl rfl (by decide) (fun v D' h => ?_)
              obtain ⟨rfl, rfl⟩ := h
              show W _ _ _ _ _ _ _ _ _ _ _ _ 326 _ [(vi 1)]
              exact W.ireturn (pc := 326) at_326 rfl (Or.inr (Or.inl rfl)) (nw_bool (by decide)) (by decide) rfl
            ·
             have ih129 := f_ne h129
             refine W.aload (pc := 297) 23 at_297 rfl rfl ?_
             refine W.aload (pc := 299) 22 at_299 rfl rfl ?_
             refine W.know (fun _ _ H => H.ne (i := 1) (j := 3) (by decide) rfl rfl (Or.inl rfl)) (fun ne87 => ?_)
             refine W.callV (pc := 301) (as := [(vr a79)]) 0 [] at_301 (w111 hw) (w112 hw) (w114 hw) (w114 hw) (w113 hw) (w41 hw) (w115 hw) (Hp.exa m1) (c67_equals hw hs (mp2 := m3) (ne_p1_p2 := ne87)) (by decide) pd_Ljava_lang_Object__Z rfl rfl rfl rfl (by decide) (fun v D' h => ?_)
             obtain ⟨rfl, rfl⟩ := h
             show W _ _ _ _ _ _ _ _ _ _ _ _ 304 _ [(vi 0)]
             refine W.ifN (pc := 304) at_304 (n_ne (by decide)) ?_
             refine W.iconst (pc := 307) (1) at_307 (by decide) ?_
             refine W.goto (pc := 308) 312 at_308 (by decide) ?_
             exact W.ireturn (pc := 312) at_312 rfl (Or.inr (Or.inl rfl)) (nw_bool (by decide)) (by decide) rfl
           ·
            have ih128 := f_ne h128
            refine W.aload (pc := 276) 23 at_276 rfl rfl ?_
            refine W.aconstNull (pc := 278) at_278 ?_
            refine W.callV (pc := 279) (as := [.null]) 0 [] at_279 (w111 hw) (w112 hw) (w114 hw) (w114 hw) (w113 hw) (w41 hw) (w115 hw) (Hp.exa m1) (c68_equals hw hs) (by decide) pd_Ljava_lang_Object__Z rfl rfl rfl rfl (by decide) (fun v D' h => ?_)
            obtain ⟨rfl, rfl⟩ := h
            show W _ _ _ _ _ _ _ _ _ _ _ _ 282 _ [(vi 0)]
            refine W.ifN (pc := 282) at_282 (n_ne (by decide)) ?_
            refine W.iconst (pc := 285) (1) at_285 (by decide) ?_
            refine W.goto (pc := 286) 290 at_286 (by decide) ?_
            exact W.ireturn (pc := 290) at_290 rfl (Or.inr (Or.inl rfl)) (nw_bool (by decide)) (by decide) rfl
          ·
           exact absurd h127 (Classical.not_not.mpr (y_eq (by have := q0; omega)))
       ·
        have ih4 := f_eq h4
        show W _ _ _ _ _ _ _ _ _ _ _ _ 201 _ [(vr a27)]
        refine W.astore (pc := 201) (ls' := #[iv z0, iv z1, iv z2, iv z3, iv z4, iv z5, iv g2, iv g5, iv g7, iv g8, iv g9, iv g10, iv g12, iv g13, iv g14, iv g17, iv g18, iv g19, rv a21, rv a27, uu, uu, uu, uu, uu, uu, uu]) at_201 rfl rfl ?_
        refine W.iload (pc := 203) at_203 rfl ?_
        refine W.iload (pc := 205) at_205 rfl ?_
        refine W.iload (pc := 207) at_207 rfl ?_
        refine W.callS (pc := 209) (as := [(vi g12), (vi g13), (vi g14)]) 0 [] at_209 (w6 hw) (w7 hw) (w3 hw) (w8 hw) (c3_make hw hs (hx1 := hg12) (hx2 := hg13) (hx3 := hg14)) (by decide) pd_CCZ_Ljava_lang_String_ rfl rfl rfl rfl (by decide) (fun v D' h => ?_)
        rcases h with ⟨a88, a89, h145, rfl, rfl⟩ | ⟨a90, a91, h146, rfl, rfl⟩
        ·
         have ih145 := t_eq h145
         show W _ _ _ _ _ _ _ _ _ _ _ _ 212 _ [(vr a88)]
         refine W.astore (pc := 212) (ls' := #[iv z0, iv z1, iv z2, iv z3, iv z4, iv z5, iv g2, iv g5, iv g7, iv g8, iv g9, iv g10, iv g12, iv g13, iv g14, iv g17, iv g18, iv g19, rv a21, rv a27, rv a88, uu, uu, uu, uu, uu, uu]) at_212 rfl rfl ?_
         refine W.iload (pc := 214) at_214 rfl ?_
         refine W.iload (pc := 216) at_216 rfl ?_
         refine W.iload (pc := 218) at_218 rfl ?_
         refine W.callS (pc := 220) (as := [(vi g17), (vi g18), (vi g19)]) 0 [] at_220 (w6 hw) (w7 hw) (w3 hw) (w8 hw) (c14_make hw hs (hx1 := hg17) (hx2 := hg18) (hx3 := hg19)) (by decide) pd_CCZ_Ljava_lang_String_ rfl rfl rfl rfl (by decide) (fun v D' h => ?_)
         rcases h with ⟨a92, a93, h147, rfl, rfl⟩ | ⟨a94, a95, h148, rfl, rfl⟩
         ·
          have ih147 := t_eq h147
          show W _ _ _ _ _ _ _ _ _ _ _ _ 223 _ [(vr a92)]
          refine W.astore (pc := 223) (ls' := #[iv z0, iv z1, iv z2, iv z3, iv z4, iv z5, iv g2, iv g5, iv g7, iv g8, iv g9, iv g10, iv g12, iv g13, iv g14, iv g17, iv g18, iv g19, rv a21, rv a27, rv a88, rv a92, uu, uu, uu, uu, uu]) at_223 rfl rfl ?_
          refine W.iload (pc := 225) at_225 rfl ?_
          refine W.iload (pc := 227) at_227 rfl ?_
          refine W.iload (pc := 229) at_229 rfl ?_
          refine W.callS (pc := 231) (as := [(vi g7), (vi g8), (vi g2)]) 0 [] at_231 (w6 hw) (w7 hw) (w3 hw) (w8 hw) (c3_make hw hs (hx1 := hg7) (hx2 := hg8) (hx3 := hg2)) (by decide) pd_CCZ_Ljava_lang_String_ rfl rfl rfl rfl (by decide) (fun v D' h => ?_)
          rcases h with ⟨a96, a97, h149, rfl, rfl⟩ | ⟨a98, a99, h150, rfl, rfl⟩
          ·
           have ih149 := t_eq h149
           show W _ _ _ _ _ _ _ _ _ _ _ _ 234 _ [(vr a96)]
           refine W.astore (pc := 234) (ls' := #[iv z0, iv z1, iv z2, iv z3, iv z4, iv z5, iv g2, iv g5, iv g7, iv g8, iv g9, iv g10, iv g12, iv g13, iv g14, iv g17, iv g18, iv g19, rv a21, rv a27, rv a88, rv a92, rv a96, uu, uu, uu, uu]) at_234 rfl rfl ?_
           refine W.new (pc := 236) at_236 (w39 hw) (w40 hw) (w41 hw) (laJobKey hw) (by decide) (by decide) (fun a100 => ?_)
           show W _ _ _ _ _ _ _ _ _ _ _ _ 239 _ [(vr a100)]
           refine W.dup (pc := 239) at_239 rfl ?_
           refine W.aload (pc := 240) 18 at_240 rfl rfl ?_
           refine W.aload (pc := 242) 19 at_242 rfl rfl ?_
           refine W.callI (pc := 244) (as := [(vr a21), (vr a27)]) 1 [(vr a100)] at_244 rfl (w42 hw) (w43 hw) (w41 hw) (w44 hw) (c69_init hw hs (hx1 := hg7) (hx2 := hg9) (hx3 := hg10) (mog1Z := m12) (mp2 := m9) (mp4 := m8) (mog2Z := m11) (mog3Z := m10) (mog4Z := m15) (mp3 := m7) (mp5 := m6) (mog5Z := m14) (mog6Z := m13)) (by decide) pd_Ljava_lang_String_Ljava_lang_String__V rfl rfl rfl rfl (by decide) (fun v D' h => ?_)
           obtain ⟨rfl, rfl⟩ := h
           show W _ _ _ _ _ _ _ _ _ _ _ _ 247 _ [(vr a100)]
           refine W.astore (pc := 247) (ls' := #[iv z0, iv z1, iv z2, iv z3, iv z4, iv z5, iv g2, iv g5, iv g7, iv g8, iv g9, iv g10, iv g12, iv g13, iv g14, iv g17, iv g18, iv g19, rv a21, rv a27, rv a88, rv a92, rv a96, rv a100, uu, uu, uu]) at_247 rfl rfl ?_
           refine W.new (pc := 249) at_249 (w39 hw) (w40 hw) (w41 hw) (laJobKey hw) (by decide) (by decide) (fun a101 => ?_)
           show W _ _ _ _ _ _ _ _ _ _ _ _ 252 _ [(vr a101)]
           refine W.dup (pc := 252) at_252 rfl ?_
           refine W.aload (pc := 253) 20 at_253 rfl rfl ?_
           refine W.aload (pc := 255) 21 at_255 rfl rfl ?_
           refine W.callI (pc := 257) (as := [(vr a88), (vr a92)]) 1 [(vr a101)] at_257 rfl (w42 hw) (w43 hw) (w41 hw) (w44 hw) (c25_init hw hs (hx1 := hg12) (hx2 := hg17) (mog1Z := m13) (mp2 := m6) (mp4 := m5) (mog2Z := m12) (mog3Z := m11) (mog4Z := m16) (mp3 := m4) (mp5 := m3) (mog5Z := m15) (mog6Z := m14)) (by decide) pd_Ljava_lang_String_Ljava_lang_String__V rfl rfl rfl rfl (by decide) (fun v D' h => ?_)
           obtain ⟨rfl, rfl⟩ := h
           show W _ _ _ _ _ _ _ _ _ _ _ _ 260 _ [(vr a101)]
           refine W.astore (pc := 260) (ls' := #[iv z0, iv z1, iv z2, iv z3, iv z4, iv z5, iv g2, iv g5, iv g7, iv g8, iv g9, iv g10, iv g12, iv g13, iv g14, iv g17, iv g18, iv g19, rv a21, rv a27, rv a88, rv a92, rv a96, rv a100, rv a101, uu, uu]) at_260 rfl rfl ?_
           refine W.iload (pc := 262) at_262 rfl ?_
           refine W.iconst (pc := 264) (2) at_264 (by decide) ?_
           refine W.iushr (pc := 265) at_265 ?_
           refine W.iconst (pc := 266) (3) at_266 (by decide) ?_
           refine W.iand (pc := 267) at_267 ?_
           refine W.istore (pc := 268) (ls' := #[iv z0, iv z1, iv z2, iv z3, iv z4, iv z5, iv g2, iv g5, iv g7, iv g8, iv g9, iv g10, iv g12, iv g13, iv g14, iv g17, iv g18, iv g19, rv a21, rv a27, rv a88, rv a92, rv a96, rv a100, rv a101, iv ((XT.ushr z5 (2 : Int32)) &&& (3 : Int32)), uu]) at_268 rfl ?_
           refine W.iload (pc := 270) at_270 rfl ?_
           refine W.iconst (pc := 272) (1) at_272 (by decide) ?_
           refine W.icmp (pc := 273) 291 at_273 (by decide) (fun h151 => ?_) (fun h151 => ?_)
           ·
            have ih151 := t_ne h151
            refine W.iload (pc := 291) at_291 rfl ?_
            refine W.iconst (pc := 293) (2) at_293 (by decide) ?_
            refine W.icmp (pc := 294) 313 at_294 (by decide) (fun h152 => ?_) (fun h152 => ?_)
            ·
             have ih152 := t_ne h152
             refine W.iload (pc := 313) at_313 rfl ?_
             refine W.iconst (pc := 315) (3) at_315 (by decide) ?_
             refine W.icmp (pc := 316) 327 at_316 (by decide) (fun h153 => ?_) (fun h153 => ?_)
             ·
              have ih153 := t_ne h153
              refine W.iload (pc := 327) at_327 rfl ?_
              refine W.iload (pc := 329) at_329 rfl ?_
              refine W.iload (pc := 331) at_331 rfl ?_
              refine W.iload (pc := 333) at_333 rfl ?_
              refine W.iload (pc := 335) at_335 rfl ?_
              refine W.iload (pc := 337) at_337 rfl ?_
              refine W.callS (pc := 339) (as := [(vi g7), (vi g8), (vi g2), (vi g12), (vi g13), (vi g14)]) 0 [] at_339 (w108 hw) (w109 hw) (w3 hw) (w110 hw) (c59_same hw hs (hx1 := hg7) (hx2 := hg8) (hx3 := hg2) (hx4 := hg12) (hx5 := hg13) (hx6 := hg14)) (by decide) pd_CCZCCZ_Z rfl rfl rfl rfl (by decide) (fun v D' h => ?_)
              rcases h with ⟨h154, h155, h156, rfl, rfl⟩ | ⟨h157, h158, h159, h160, rfl, rfl⟩ | ⟨h161, h162, h163, h164, rfl, rfl⟩ | ⟨h165, h166, rfl, rfl⟩ | ⟨h167, rfl, rfl⟩
              ·
               have ih154 := t_eq h154
               have ih155 := t_eq h155
               have ih156 := t_eq h156
               show W _ _ _ _ _ _ _ _ _ _ _ _ 342 _ [(vi 1)]
               refine W.ifN (pc := 342) at_342 (n_eq (by decide)) ?_
               refine W.iload (pc := 345) at_345 rfl ?_
               refine W.iload (pc := 347) at_347 rfl ?_
               refine W.iload (pc := 349) at_349 rfl ?_
               refine W.iload (pc := 351) at_351 rfl ?_
               refine W.iload (pc := 353) at_353 rfl ?_
               refine W.iload (pc := 355) at_355 rfl ?_
               refine W.callS (pc := 357) (as := [(vi g9), (vi g10), (vi g5), (vi g17), (vi g18), (vi g19)]) 0 [] at_357 (w108 hw) (w109 hw) (w3 hw) (w110 hw) (c60_same hw hs (hx1 := hg9) (hx2 := hg10) (hx3 := hg5) (hx4 := hg17) (hx5 := hg18) (hx6 := hg19)) (by decide) pd_CCZCCZ_Z rfl rfl rfl rfl (by decide) (fun v D' h => ?_)
               rcases h with ⟨h168, h169, h170, rfl, rfl⟩ | ⟨h171, h172, h173, h174, rfl, rfl⟩ | ⟨h175, h176, h177, h178, rfl, rfl⟩ | ⟨h179, h180, rfl, rfl⟩ | ⟨h181, rfl, rfl⟩
               ·
                exact absurd h168 (n_eq (by have := q0; have := rng32 z5; have := q2; have := aushr_2 z5; have := q3; have := am_3 (XT.ushr z5 (2 : Int32)); have := q1; omega))
               ·
                exact absurd h171 (n_eq (by have := q0; have := rng32 z5; have := q2; have := aushr_2 z5; have := q3; have := am_3 (XT.ushr z5 (2 : Int32)); have := q1; omega))
               ·
                exact absurd h175 (n_eq (by have := q0; have := rng32 z5; have := q2; have := aushr_2 z5; have := q3; have := am_3 (XT.ushr z5 (2 : Int32)); have := q1; omega))
               ·
                exact absurd h179 (n_eq (by have := q0; have := rng32 z5; have := q2; have := aushr_2 z5; have := q3; have := am_3 (XT.ushr z5 (2 : Int32)); have := q1; omega))
               ·
                have ih181 := f_eq h181
                show W _ _ _ _ _ _ _ _ _ _ _ _ 360 _ [(vi 0)]
                refine W.ifY (pc := 360) 367 at_360 (y_eq (by decide)) (by decide) ?_
                refine W.iconst (pc := 367) (0) at_367 (by decide) ?_
                refine W.istore (pc := 368) (ls' := #[iv z0, iv z1, iv z2, iv z3, iv z4, iv z5, iv g2, iv g5, iv g7, iv g8, iv g9, iv g10, iv g12, iv g13, iv g14, iv g17, iv g18, iv g19, rv a21, rv a27, rv a88, rv a92, rv a96, rv a100, rv a101, iv ((XT.ushr z5 (2 : Int32)) &&& (3 : Int32)), iv 0]) at_368 rfl ?_
                refine W.aload (pc := 370) 23 at_370 rfl rfl ?_
                refine W.aload (pc := 372) 24 at_372 rfl rfl ?_
                refine W.know (fun _ _ H => H.ne (i := 1) (j := 0) (by decide) rfl rfl (Or.inl rfl)) (fun ne102 => ?_)
                refine W.know (fun _ _ H => H.ne (i := 11) (j := 7) (by decide) rfl rfl (Or.inl rfl)) (fun ne103 => ?_)
                refine W.know (fun _ _ H => H.ne (i := 9) (j := 5) (by decide) rfl rfl (Or.inl rfl)) (fun ne104 => ?_)
                refine W.callV (pc := 374) (as := [(vr a101)]) 0 [] at_374 (w111 hw) (w112 hw) (w114 hw) (w114 hw) (w113 hw) (w41 hw) (w115 hw) (Hp.exa m1) (c85_equals hw hs (hx1 := hg7) (hx2 := hg9) (hx3 := hg10) (hx4 := hg12) (hx5 := hg17) (mp2 := m0) (mp1 := m1) (mp3 := m11) (mp5 := m7) (mp7 := m10) (mp9 := m6) (mp4 := m9) (mp6 := m5) (mp8 := m8) (mp10 := m4) (ne_p1_p2 := ne102) (ne_p3_p5 := ne103) (ne_p4_p6 := ne104)) (by decide) pd_Ljava_lang_Object__Z rfl rfl rfl rfl (by decide) (fun v D' h => ?_)
                obtain ⟨rfl, rfl⟩ := h
                show W _ _ _ _ _ _ _ _ _ _ _ _ 377 _ [(vi 0)]
                refine W.iload (pc := 377) at_377 rfl ?_
                refine W.icmpN (pc := 379) at_379 (n_ne (by decide)) ?_
                refine W.aload (pc := 382) 24 at_382 rfl rfl ?_
                refine W.aload (pc := 384) 23 at_384 rfl rfl ?_
                refine W.callV (pc := 386) (as := [(vr a100)]) 0 [] at_386 (w111 hw) (w112 hw) (w114 hw) (w114 hw) (w113 hw) (w41 hw) (w115 hw) (Hp.exa m0) (c82_equals hw hs (hx1 := hg12) (hx2 := hg17) (hx3 := hg7) (hx4 := hg9) (hx5 := hg10) (mp2 := m1) (mp1 := m0) (mp3 := m7) (mp5 := m11) (mp7 := m6) (mp9 := m10) (mp4 := m5) (mp6 := m9) (mp8 := m4) (mp10 := m8) (ne_p1_p2 := (Ne.symm ne102)) (ne_p3_p5 := (Ne.symm ne103)) (ne_p4_p6 := (Ne.symm ne104))) (by decide) pd_Ljava_lang_Object__Z rfl rfl rfl rfl (by decide) (fun v D' h => ?_)
                obtain ⟨rfl, rfl⟩ := h
                show W _ _ _ _ _ _ _ _ _ _ _ _ 389 _ [(vi 0)]
                refine W.iload (pc := 389) at_389 rfl ?_
                refine W.icmpN (pc := 391) at_391 (n_ne (by decide)) ?_
                refine W.iconst (pc := 394) (1) at_394 (by decide) ?_
                refine W.goto (pc := 395) 399 at_395 (by decide) ?_
                exact W.ireturn (pc := 399) at_399 rfl (Or.inr (Or.inl rfl)) (nw_bool (by decide)) (by decide) rfl
              ·
               have ih157 := t_eq h157
               have ih158 := t_eq h158
               exact absurd h159 (Classical.not_not.mpr (y_eq (by have := q0; have := rng32 z5; have := q2; have := aushr_2 z5; have := q3; have := am_3 (XT.ushr z5 (2 : Int32)); have := q1; omega)))
              ·
               have ih161 := t_eq h161
               have ih162 := t_eq h162
               exact absurd h163 (Classical.not_not.mpr (y_eq (by have := q0; have := rng32 z5; have := q2; have := aushr_2 z5; have := q3; have := am_3 (XT.ushr z5 (2 : Int32)); have := q1; omega)))
              ·
               have ih165 := t_eq h165
               have ih166 := f_eq h166
               show W _ _ _ _ _ _ _ _ _ _ _ _ 342 _ [(vi 0)]
               refine W.ifY (pc := 342) 367 at_342 (y_eq (by decide)) (by decide) ?_
               refine W.iconst (pc := 367) (0) at_367 (by decide) ?_
               refine W.istore (pc := 368) (ls' := #[iv z0, iv z1, iv z2, iv z3, iv z4, iv z5, iv g2, iv g5, iv g7, iv g8, iv g9, iv g10, iv g12, iv g13, iv g14, iv g17, iv g18, iv g19, rv a21, rv a27, rv a88, rv a92, rv a96, rv a100, rv a101, iv ((XT.ushr z5 (2 : Int32)) &&& (3 : Int32)), iv 0]) at_368 rfl ?_
               refine W.aload (pc := 370) 23 at_370 rfl rfl ?_
               refine W.aload (pc := 372) 24 at_372 rfl rfl ?_
               refine W.know (fun _ _ H => H.ne (i := 1) (j := 0) (by decide) rfl rfl (Or.inl rfl)) (fun ne105 => ?_)
               refine W.know (fun _ _ H => H.ne (i := 11) (j := 7) (by decide) rfl rfl (Or.inl rfl)) (fun ne106 => ?_)
               refine W.know (fun _ _ H => H.ne (i := 9) (j := 5) (by decide) rfl rfl (Or.inl rfl)) (fun ne107 => ?_)
               refine W.callV (pc := 374) (as := [(vr a101)]) 0 [] at_374 (w111 hw) (w112 hw) (w114 hw) (w114 hw) (w113 hw) (w41 hw) (w115 hw) (Hp.exa m1) (c85_equals hw hs (hx1 := hg7) (hx2 := hg9) (hx3 := hg10) (hx4 := hg12) (hx5 := hg17) (mp2 := m0) (mp1 := m1) (mp3 := m11) (mp5 := m7) (mp7 := m10) (mp9 := m6) (mp4 := m9) (mp6 := m5) (mp8 := m8) (mp10 := m4) (ne_p1_p2 := ne105) (ne_p3_p5 := ne106) (ne_p4_p6 := ne107)) (by decide) pd_Ljava_lang_Object__Z rfl rfl rfl rfl (by decide) (fun v D' h => ?_)
               obtain ⟨rfl, rfl⟩ := h
               show W _ _ _ _ _ _ _ _ _ _ _ _ 377 _ [(vi 0)]
               refine W.iload (pc := 377) at_377 rfl ?_
               refine W.icmpN (pc := 379) at_379 (n_ne (by decide)) ?_
               refine W.aload (pc := 382) 24 at_382 rfl rfl ?_
               refine W.aload (pc := 384) 23 at_384 rfl rfl ?_
               refine W.callV (pc := 386) (as := [(vr a100)]) 0 [] at_386 (w111 hw) (w112 hw) (w114 hw) (w114 hw) (w113 hw) (w41 hw) (w115 hw) (Hp.exa m0) (c82_equals hw hs (hx1 := hg12) (hx2 := hg17) (hx3 := hg7) (hx4 := hg9) (hx5 := hg10) (mp2 := m1) (mp1 := m0) (mp3 := m7) (mp5 := m11) (mp7 := m6) (mp9 := m10) (mp4 := m5) (mp6 := m9) (mp8 := m4) (mp10 := m8) (ne_p1_p2 := (Ne.symm ne105)) (ne_p3_p5 := (Ne.symm ne106)) (ne_p4_p6 := (Ne.symm ne107))) (by decide) pd_Ljava_lang_Object__Z rfl rfl rfl rfl (by decide) (fun v D' h => ?_)
               obtain ⟨rfl, rfl⟩ := h
               show W _ _ _ _ _ _ _ _ _ _ _ _ 389 _ [(vi 0)]
               refine W.iload (pc := 389) at_389 rfl ?_
               refine W.icmpN (pc := 391) at_391 (n_ne (by decide)) ?_
               refine W.iconst (pc := 394) (1) at_394 (by decide) ?_
               refine W.goto (pc := 395) 399 at_395 (by decide) ?_
               exact W.ireturn (pc := 399) at_399 rfl (Or.inr (Or.inl rfl)) (nw_bool (by decide)) (by decide) rfl
              ·
               exact absurd h167 (Classical.not_not.mpr (y_eq (by have := q0; have := rng32 z5; have := q2; have := aushr_2 z5; have := q3; have := am_3 (XT.ushr z5 (2 : Int32)); have := q1; omega)))
             ·
              have ih153 := f_ne h153
              refine W.aload (pc := 319) 23 at_319 rfl rfl ?_
              refine W.aload (pc := 321) 23 at_321 rfl rfl ?_
              refine W.callV (pc := 323) (as := [(vr a100)]) 0 [] at_323 (w111 hw) (w112 hw) (w114 hw) (w114 hw) (w113 hw) (w41 hw) (w115 hw) (Hp.exa m1) (c66_equals hw hs) (by decide) pd_Ljava_lang_Object__Z rfl rfl rfl rfl (by decide) (fun v D' h => ?_)
              obtain ⟨rfl, rfl⟩ := h
              show W _ _ _ _ _ _ _ _ _ _ _ _ 326 _ [(vi 1)]
              exact W.ireturn (pc := 326) at_326 rfl (Or.inr (Or.inl rfl)) (nw_bool (by decide)) (by decide) rfl
            ·
             have ih152 := f_ne h152
             refine W.aload (pc := 297) 23 at_297 rfl rfl ?_
             refine W.aload (pc := 299) 22 at_299 rfl rfl ?_
             refine W.know (fun _ _ H => H.ne (i := 1) (j := 3) (by decide) rfl rfl (Or.inl rfl)) (fun ne108 => ?_)
             refine W.callV (pc := 301) (as := [(vr a96)]) 0 [] at_301 (w111 hw) (w112 hw) (w114 hw) (w114 hw) (w113 hw) (w41 hw) (w115 hw) (Hp.exa m1) (c67_equals hw hs (mp2 := m3) (ne_p1_p2 := ne108)) (by decide) pd_Ljava_lang_Object__Z rfl rfl rfl rfl (by decide) (fun v D' h => ?_)
             obtain ⟨rfl, rfl⟩ := h
             show W _ _ _ _ _ _ _ _ _ _ _ _ 304 _ [(vi 0)]
             refine W.ifN (pc := 304) at_304 (n_ne (by decide)) ?_
             refine W.iconst (pc := 307) (1) at_307 (by decide) ?_
             refine W.goto (pc := 308) 312 at_308 (by decide) ?_
             exact W.ireturn (pc := 312) at_312 rfl (Or.inr (Or.inl rfl)) (nw_bool (by decide)) (by decide) rfl
           ·
            have ih151 := f_ne h151
            refine W.aload (pc := 276) 23 at_276 rfl rfl ?_
            refine W.aconstNull (pc := 278) at_278 ?_
            refine W.callV (pc := 279) (as := [.null]) 0 [] at_279 (w111 hw) (w112 hw) (w114 hw) (w114 hw) (w113 hw) (w41 hw) (w115 hw) (Hp.exa m1) (c68_equals hw hs) (by decide) pd_Ljava_lang_Object__Z rfl rfl rfl rfl (by decide) (fun v D' h => ?_)
            obtain ⟨rfl, rfl⟩ := h
            show W _ _ _ _ _ _ _ _ _ _ _ _ 282 _ [(vi 0)]
            refine W.ifN (pc := 282) at_282 (n_ne (by decide)) ?_
            refine W.iconst (pc := 285) (1) at_285 (by decide) ?_
            refine W.goto (pc := 286) 290 at_286 (by decide) ?_
            exact W.ireturn (pc := 290) at_290 rfl (Or.inr (Or.inl rfl)) (nw_bool (by decide)) (by decide) rfl
          ·
           exact absurd h150 (Classical.not_not.mpr (y_eq (by have := q0; omega)))
         ·
          have ih148 := f_eq h148
          show W _ _ _ _ _ _ _ _ _ _ _ _ 223 _ [(vr a94)]
          refine W.astore (pc := 223) (ls' := #[iv z0, iv z1, iv z2, iv z3, iv z4, iv z5, iv g2, iv g5, iv g7, iv g8, iv g9, iv g10, iv g12, iv g13, iv g14, iv g17, iv g18, iv g19, rv a21, rv a27, rv a88, rv a94, uu, uu, uu, uu, uu]) at_223 rfl rfl ?_
          refine W.iload (pc := 225) at_225 rfl ?_
          refine W.iload (pc := 227) at_227 rfl ?_
          refine W.iload (pc := 229) at_229 rfl ?_
          refine W.callS (pc := 231) (as := [(vi g7), (vi g8), (vi g2)]) 0 [] at_231 (w6 hw) (w7 hw) (w3 hw) (w8 hw) (c3_make hw hs (hx1 := hg7) (hx2 := hg8) (hx3 := hg2)) (by decide) pd_CCZ_Ljava_lang_String_ rfl rfl rfl rfl (by decide) (fun v D' h => ?_)
          rcases h with ⟨a109, a110, h182, rfl, rfl⟩ | ⟨a111, a112, h183, rfl, rfl⟩
          ·
           have ih182 := t_eq h182
           show W _ _ _ _ _ _ _ _ _ _ _ _ 234 _ [(vr a109)]
           refine W.astore (pc := 234) (ls' := #[iv z0, iv z1, iv z2, iv z3, iv z4, iv z5, iv g2, iv g5, iv g7, iv g8, iv g9, iv g10, iv g12, iv g13, iv g14, iv g17, iv g18, iv g19, rv a21, rv a27, rv a88, rv a94, rv a109, uu, uu, uu, uu]) at_234 rfl rfl ?_
           refine W.new (pc := 236) at_236 (w39 hw) (w40 hw) (w41 hw) (laJobKey hw) (by decide) (by decide) (fun a113 => ?_)
           show W _ _ _ _ _ _ _ _ _ _ _ _ 239 _ [(vr a113)]
           refine W.dup (pc := 239) at_239 rfl ?_
           refine W.aload (pc := 240) 18 at_240 rfl rfl ?_
           refine W.aload (pc := 242) 19 at_242 rfl rfl ?_
           refine W.callI (pc := 244) (as := [(vr a21), (vr a27)]) 1 [(vr a113)] at_244 rfl (w42 hw) (w43 hw) (w41 hw) (w44 hw) (c69_init hw hs (hx1 := hg7) (hx2 := hg9) (hx3 := hg10) (mog1Z := m12) (mp2 := m9) (mp4 := m8) (mog2Z := m11) (mog3Z := m10) (mog4Z := m15) (mp3 := m7) (mp5 := m6) (mog5Z := m14) (mog6Z := m13)) (by decide) pd_Ljava_lang_String_Ljava_lang_String__V rfl rfl rfl rfl (by decide) (fun v D' h => ?_)
           obtain ⟨rfl, rfl⟩ := h
           show W _ _ _ _ _ _ _ _ _ _ _ _ 247 _ [(vr a113)]
           refine W.astore (pc := 247) (ls' := #[iv z0, iv z1, iv z2, iv z3, iv z4, iv z5, iv g2, iv g5, iv g7, iv g8, iv g9, iv g10, iv g12, iv g13, iv g14, iv g17, iv g18, iv g19, rv a21, rv a27, rv a88, rv a94, rv a109, rv a113, uu, uu, uu]) at_247 rfl rfl ?_
           refine W.new (pc := 249) at_249 (w39 hw) (w40 hw) (w41 hw) (laJobKey hw) (by decide) (by decide) (fun a114 => ?_)
           show W _ _ _ _ _ _ _ _ _ _ _ _ 252 _ [(vr a114)]
           refine W.dup (pc := 252) at_252 rfl ?_
           refine W.aload (pc := 253) 20 at_253 rfl rfl ?_
           refine W.aload (pc := 255) 21 at_255 rfl rfl ?_
           refine W.callI (pc := 257) (as := [(vr a88), (vr a94)]) 1 [(vr a114)] at_257 rfl (w42 hw) (w43 hw) (w41 hw) (w44 hw) (c69_init hw hs (hx1 := hg12) (hx2 := hg17) (hx3 := hg18) (mog1Z := m13) (mp2 := m6) (mp4 := m5) (mog2Z := m12) (mog3Z := m11) (mog4Z := m16) (mp3 := m4) (mp5 := m3) (mog5Z := m15) (mog6Z := m14)) (by decide) pd_Ljava_lang_String_Ljava_lang_String__V rfl rfl rfl rfl (by decide) (fun v D' h => ?_)
           obtain ⟨rfl, rfl⟩ := h
           show W _ _ _ _ _ _ _ _ _ _ _ _ 260 _ [(vr a114)]
           refine W.astore (pc := 260) (ls' := #[iv z0, iv z1, iv z2, iv z3, iv z4, iv z5, iv g2, iv g5, iv g7, iv g8, iv g9, iv g10, iv g12, iv g13, iv g14, iv g17, iv g18, iv g19, rv a21, rv a27, rv a88, rv a94, rv a109, rv a113, rv a114, uu, uu]) at_260 rfl rfl ?_
           refine W.iload (pc := 262) at_262 rfl ?_
           refine W.iconst (pc := 264) (2) at_264 (by decide) ?_
           refine W.iushr (pc := 265) at_265 ?_
           refine W.iconst (pc := 266) (3) at_266 (by decide) ?_
           refine W.iand (pc := 267) at_267 ?_
           refine W.istore (pc := 268) (ls' := #[iv z0, iv z1, iv z2, iv z3, iv z4, iv z5, iv g2, iv g5, iv g7, iv g8, iv g9, iv g10, iv g12, iv g13, iv g14, iv g17, iv g18, iv g19, rv a21, rv a27, rv a88, rv a94, rv a109, rv a113, rv a114, iv ((XT.ushr z5 (2 : Int32)) &&& (3 : Int32)), uu]) at_268 rfl ?_
           refine W.iload (pc := 270) at_270 rfl ?_
           refine W.iconst (pc := 272) (1) at_272 (by decide) ?_
           refine W.icmp (pc := 273) 291 at_273 (by decide) (fun h184 => ?_) (fun h184 => ?_)
           ·
            have ih184 := t_ne h184
            refine W.iload (pc := 291) at_291 rfl ?_
            refine W.iconst (pc := 293) (2) at_293 (by decide) ?_
            refine W.icmp (pc := 294) 313 at_294 (by decide) (fun h185 => ?_) (fun h185 => ?_)
            ·
             have ih185 := t_ne h185
             refine W.iload (pc := 313) at_313 rfl ?_
             refine W.iconst (pc := 315) (3) at_315 (by decide) ?_
             refine W.icmp (pc := 316) 327 at_316 (by decide) (fun h186 => ?_) (fun h186 => ?_)
             ·
              have ih186 := t_ne h186
              refine W.iload (pc := 327) at_327 rfl ?_
              refine W.iload (pc := 329) at_329 rfl ?_
              refine W.iload (pc := 331) at_331 rfl ?_
              refine W.iload (pc := 333) at_333 rfl ?_
              refine W.iload (pc := 335) at_335 rfl ?_
              refine W.iload (pc := 337) at_337 rfl ?_
              refine W.callS (pc := 339) (as := [(vi g7), (vi g8), (vi g2), (vi g12), (vi g13), (vi g14)]) 0 [] at_339 (w108 hw) (w109 hw) (w3 hw) (w110 hw) (c59_same hw hs (hx1 := hg7) (hx2 := hg8) (hx3 := hg2) (hx4 := hg12) (hx5 := hg13) (hx6 := hg14)) (by decide) pd_CCZCCZ_Z rfl rfl rfl rfl (by decide) (fun v D' h => ?_)
              rcases h with ⟨h187, h188, h189, rfl, rfl⟩ | ⟨h190, h191, h192, h193, rfl, rfl⟩ | ⟨h194, h195, h196, h197, rfl, rfl⟩ | ⟨h198, h199, rfl, rfl⟩ | ⟨h200, rfl, rfl⟩
              ·
               have ih187 := t_eq h187
               have ih188 := t_eq h188
               have ih189 := t_eq h189
               show W _ _ _ _ _ _ _ _ _ _ _ _ 342 _ [(vi 1)]
               refine W.ifN (pc := 342) at_342 (n_eq (by decide)) ?_
               refine W.iload (pc := 345) at_345 rfl ?_
               refine W.iload (pc := 347) at_347 rfl ?_
               refine W.iload (pc := 349) at_349 rfl ?_
               refine W.iload (pc := 351) at_351 rfl ?_
               refine W.iload (pc := 353) at_353 rfl ?_
               refine W.iload (pc := 355) at_355 rfl ?_
               refine W.callS (pc := 357) (as := [(vi g9), (vi g10), (vi g5), (vi g17), (vi g18), (vi g19)]) 0 [] at_357 (w108 hw) (w109 hw) (w3 hw) (w110 hw) (c60_same hw hs (hx1 := hg9) (hx2 := hg10) (hx3 := hg5) (hx4 := hg17) (hx5 := hg18) (hx6 := hg19)) (by decide) pd_CCZCCZ_Z rfl rfl rfl rfl (by decide) (fun v D' h => ?_)
               rcases h with ⟨h201, h202, h203, rfl, rfl⟩ | ⟨h204, h205, h206, h207, rfl, rfl⟩ | ⟨h208, h209, h210, h211, rfl, rfl⟩ | ⟨h212, h213, rfl, rfl⟩ | ⟨h214, rfl, rfl⟩
               ·
                have ih201 := t_eq h201
                have ih202 := t_eq h202
                exact absurd h203 (n_eq (by have := q0; have := rng32 z5; have := q2; have := aushr_2 z5; have := q3; have := am_3 (XT.ushr z5 (2 : Int32)); have := q1; omega))
               ·
                have ih204 := t_eq h204
                have ih205 := t_eq h205
                have ih206 := f_eq h206
                have ih207 := t_ne h207
                show W _ _ _ _ _ _ _ _ _ _ _ _ 360 _ [(vi 0)]
                refine W.ifY (pc := 360) 367 at_360 (y_eq (by decide)) (by decide) ?_
                refine W.iconst (pc := 367) (0) at_367 (by decide) ?_
                refine W.istore (pc := 368) (ls' := #[iv z0, iv z1, iv z2, iv z3, iv z4, iv z5, iv g2, iv g5, iv g7, iv g8, iv g9, iv g10, iv g12, iv g13, iv g14, iv g17, iv g18, iv g19, rv a21, rv a27, rv a88, rv a94, rv a109, rv a113, rv a114, iv ((XT.ushr z5 (2 : Int32)) &&& (3 : Int32)), iv 0]) at_368 rfl ?_
                refine W.aload (pc := 370) 23 at_370 rfl rfl ?_
                refine W.aload (pc := 372) 24 at_372 rfl rfl ?_
                refine W.know (fun _ _ H => H.ne (i := 1) (j := 0) (by decide) rfl rfl (Or.inl rfl)) (fun ne115 => ?_)
                refine W.know (fun _ _ H => H.ne (i := 11) (j := 7) (by decide) rfl rfl (Or.inl rfl)) (fun ne116 => ?_)
                refine W.know (fun _ _ H => H.ne (i := 9) (j := 5) (by decide) rfl rfl (Or.inl rfl)) (fun ne117 => ?_)
                refine W.callV (pc := 374) (as := [(vr a114)]) 0 [] at_374 (w111 hw) (w112 hw) (w114 hw) (w114 hw) (w113 hw) (w41 hw) (w115 hw) (Hp.exa m1) (c104_equals hw hs (hx1 := hg7) (hx2 := hg9) (hx3 := hg10) (hx4 := hg12) (hx5 := hg17) (hx6 := hg18) (mp2 := m0) (mp1 := m1) (mp3 := m11) (mp5 := m7) (mp7 := m10) (mp9 := m6) (mp4 := m9) (mp6 := m5) (mp8 := m8) (mp10 := m4) (ne_p1_p2 := ne115) (ne_p3_p5 := ne116) (ne_p4_p6 := ne117)) (by decide) pd_Ljava_lang_Object__Z rfl rfl rfl rfl (by decide) (fun v D' h => ?_)
                rcases h with ⟨h215, h216, h217, rfl, rfl⟩ | ⟨h218, h219, h220, rfl, rfl⟩ | ⟨h221, h222, rfl, rfl⟩ | ⟨h223, rfl, rfl⟩
                ·
                 have ih215 := t_eq h215
                 have ih216 := t_eq h216
                 exact absurd h217 (n_eq (by have := q0; have := rng32 z5; have := q2; have := aushr_2 z5; have := q3; have := am_3 (XT.ushr z5 (2 : Int32)); have := q1; omega))
                ·
                 have ih218 := t_eq h218
                 have ih219 := t_eq h219
                 have ih220 := f_eq h220
                 show W _ _ _ _ _ _ _ _ _ _ _ _ 377 _ [(vi 0)]
                 refine W.iload (pc := 377) at_377 rfl ?_
                 refine W.icmpN (pc := 379) at_379 (n_ne (by decide)) ?_
                 refine W.aload (pc := 382) 24 at_382 rfl rfl ?_
                 refine W.aload (pc := 384) 23 at_384 rfl rfl ?_
                 refine W.callV (pc := 386) (as := [(vr a113)]) 0 [] at_386 (w111 hw) (w112 hw) (w114 hw) (w114 hw) (w113 hw) (w41 hw) (w115 hw) (Hp.exa m0) (c104_equals hw hs (hx1 := hg12) (hx2 := hg17) (hx3 := hg18) (hx4 := hg7) (hx5 := hg9) (hx6 := hg10) (mp2 := m1) (mp1 := m0) (mp3 := m7) (mp5 := m11) (mp7 := m6) (mp9 := m10) (mp4 := m5) (mp6 := m9) (mp8 := m4) (mp10 := m8) (ne_p1_p2 := (Ne.symm ne115)) (ne_p3_p5 := (Ne.symm ne116)) (ne_p4_p6 := (Ne.symm ne117))) (by decide) pd_Ljava_lang_Object__Z rfl rfl rfl rfl (by decide) (fun v D' h => ?_)
                 rcases h with ⟨h224, h225, h226, rfl, rfl⟩ | ⟨h227, h228, h229, rfl, rfl⟩ | ⟨h230, h231, rfl, rfl⟩ | ⟨h232, rfl, rfl⟩
                 ·
                  have ih224 := t_eq h224
                  have ih225 := t_eq h225
                  exact absurd h226 (n_eq (by have := q0; have := rng32 z5; have := q2; have := aushr_2 z5; have := q3; have := am_3 (XT.ushr z5 (2 : Int32)); have := q1; omega))
                 ·
                  have ih227 := t_eq h227
                  have ih228 := t_eq h228
                  have ih229 := f_eq h229
                  show W _ _ _ _ _ _ _ _ _ _ _ _ 389 _ [(vi 0)]
                  refine W.iload (pc := 389) at_389 rfl ?_
                  refine W.icmpN (pc := 391) at_391 (n_ne (by decide)) ?_
                  refine W.iconst (pc := 394) (1) at_394 (by decide) ?_
                  refine W.goto (pc := 395) 399 at_395 (by decide) ?_
                  exact W.ireturn (pc := 399) at_399 rfl (Or.inr (Or.inl rfl)) (nw_bool (by decide)) (by decide) rfl
                 ·
                  have ih230 := t_eq h230
                  exact absurd h231 (Classical.not_not.mpr (y_eq (by have := q0; have := rng32 z5; have := q2; have := aushr_2 z5; have := q3; have := am_3 (XT.ushr z5 (2 : Int32)); have := q1; omega)))
                 ·
                  exact absurd h232 (Classical.not_not.mpr (y_eq (by have := q0; have := rng32 z5; have := q2; have := aushr_2 z5; have := q3; have := am_3 (XT.ushr z5 (2 : Int32)); have := q1; omega)))
                ·
                 have ih221 := t_eq h221
                 exact absurd h222 (Classical.not_not.mpr (y_eq (by have := q0; have := rng32 z5; have := q2; have := aushr_2 z5; have := q3; have := am_3 (XT.ushr z5 (2 : Int32)); have := q1; omega)))
                ·
                 exact absurd h223 (Classical.not_not.mpr (y_eq (by have := q0; have := rng32 z5; have := q2; have := aushr_2 z5; have := q3; have := am_3 (XT.ushr z5 (2 : Int32)); have := q1; omega)))
               ·
                have ih208 := t_eq h208
                have ih209 := t_eq h209
                have ih210 := f_eq h210
                have ih211 := f_ne h211
                show W _ _ _ _ _ _ _ _ _ _ _ _ 360 _ [(vi 1)]
                refine W.ifN (pc := 360) at_360 (n_eq (by decide)) ?_
                refine W.iconst (pc := 363) (1) at_363 (by decide) ?_
                refine W.goto (pc := 364) 368 at_364 (by decide) ?_
                refine W.istore (pc := 368) (ls' := #[iv z0, iv z1, iv z2, iv z3, iv z4, iv z5, iv g2, iv g5, iv g7, iv g8, iv g9, iv g10, iv g12, iv g13, iv g14, iv g17, iv g18, iv g19, rv a21, rv a27, rv a88, rv a94, rv a109, rv a113, rv a114, iv ((XT.ushr z5 (2 : Int32)) &&& (3 : Int32)), iv 1]) at_368 rfl ?_
                refine W.aload (pc := 370) 23 at_370 rfl rfl ?_
                refine W.aload (pc := 372) 24 at_372 rfl rfl ?_
                refine W.know (fun _ _ H => H.ne (i := 1) (j := 0) (by decide) rfl rfl (Or.inl rfl)) (fun ne118 => ?_)
                refine W.know (fun _ _ H => H.ne (i := 11) (j := 7) (by decide) rfl rfl (Or.inl rfl)) (fun ne119 => ?_)
                refine W.know (fun _ _ H => H.ne (i := 9) (j := 5) (by decide) rfl rfl (Or.inl rfl)) (fun ne120 => ?_)
                refine W.callV (pc := 374) (as := [(vr a114)]) 0 [] at_374 (w111 hw) (w112 hw) (w114 hw) (w114 hw) (w113 hw) (w41 hw) (w115 hw) (Hp.exa m1) (c104_equals hw hs (hx1 := hg7) (hx2 := hg9) (hx3 := hg10) (hx4 := hg12) (hx5 := hg17) (hx6 := hg18) (mp2 := m0) (mp1 := m1) (mp3 := m11) (mp5 := m7) (mp7 := m10) (mp9 := m6) (mp4 := m9) (mp6 := m5) (mp8 := m8) (mp10 := m4) (ne_p1_p2 := ne118) (ne_p3_p5 := ne119) (ne_p4_p6 := ne120)) (by decide) pd_Ljava_lang_Object__Z rfl rfl rfl rfl (by decide) (fun v D' h => ?_)
                rcases h with ⟨h233, h234, h235, rfl, rfl⟩ | ⟨h236, h237, h238, rfl, rfl⟩ | ⟨h239, h240, rfl, rfl⟩ | ⟨h241, rfl, rfl⟩
                ·
                 have ih233 := t_eq h233
                 have ih234 := t_eq h234
                 have ih235 := t_eq h235
                 show W _ _ _ _ _ _ _ _ _ _ _ _ 377 _ [(vi 1)]
                 refine W.iload (pc := 377) at_377 rfl ?_
                 refine W.icmpN (pc := 379) at_379 (n_ne (by decide)) ?_
                 refine W.aload (pc := 382) 24 at_382 rfl rfl ?_
                 refine W.aload (pc := 384) 23 at_384 rfl rfl ?_
                 refine W.callV (pc := 386) (as := [(vr a113)]) 0 [] at_386 (w111 hw) (w112 hw) (w114 hw) (w114 hw) (w113 hw) (w41 hw) (w115 hw) (Hp.exa m0) (c104_equals hw hs (hx1 := hg12) (hx2 := hg17) (hx3 := hg18) (hx4 := hg7) (hx5 := hg9) (hx6 := hg10) (mp2 := m1) (mp1 := m0) (mp3 := m7) (mp5 := m11) (mp7 := m6) (mp9 := m10) (mp4 := m5) (mp6 := m9) (mp8 := m4) (mp10 := m8) (ne_p1_p2 := (Ne.symm ne118)) (ne_p3_p5 := (Ne.symm ne119)) (ne_p4_p6 := (Ne.symm ne120))) (by decide) pd_Ljava_lang_Object__Z rfl rfl rfl rfl (by decide) (fun v D' h => ?_)
                 rcases h with ⟨h242, h243, h244, rfl, rfl⟩ | ⟨h245, h246, h247, rfl, rfl⟩ | ⟨h248, h249, rfl, rfl⟩ | ⟨h250, rfl, rfl⟩
                 ·
                  have ih242 := t_eq h242
                  have ih243 := t_eq h243
                  have ih244 := t_eq h244
                  show W _ _ _ _ _ _ _ _ _ _ _ _ 389 _ [(vi 1)]
                  refine W.iload (pc := 389) at_389 rfl ?_
                  refine W.icmpN (pc := 391) at_391 (n_ne (by decide)) ?_
                  refine W.iconst (pc := 394) (1) at_394 (by decide) ?_
                  refine W.goto (pc := 395) 399 at_395 (by decide) ?_
                  exact W.ireturn (pc := 399) at_399 rfl (Or.inr (Or.inl rfl)) (nw_bool (by decide)) (by decide) rfl
                 ·
                  have ih245 := t_eq h245
                  have ih246 := t_eq h246
                  exact absurd h247 (Classical.not_not.mpr (y_eq (by have := q0; have := rng32 z5; have := q2; have := aushr_2 z5; have := q3; have := am_3 (XT.ushr z5 (2 : Int32)); have := q1; omega)))
                 ·
                  have ih248 := t_eq h248
                  exact absurd h249 (Classical.not_not.mpr (y_eq (by have := q0; have := rng32 z5; have := q2; have := aushr_2 z5; have := q3; have := am_3 (XT.ushr z5 (2 : Int32)); have := q1; omega)))
                 ·
                  exact absurd h250 (Classical.not_not.mpr (y_eq (by have := q0; have := rng32 z5; have := q2; have := aushr_2 z5; have := q3; have := am_3 (XT.ushr z5 (2 : Int32)); have := q1; omega)))
                ·
                 have ih236 := t_eq h236
                 have ih237 := t_eq h237
                 exact absurd h238 (Classical.not_not.mpr (y_eq (by have := q0; have := rng32 z5; have := q2; have := aushr_2 z5; have := q3; have := am_3 (XT.ushr z5 (2 : Int32)); have := q1; omega)))
                ·
                 have ih239 := t_eq h239
                 exact absurd h240 (Classical.not_not.mpr (y_eq (by have := q0; have := rng32 z5; have := q2; have := aushr_2 z5; have := q3; have := am_3 (XT.ushr z5 (2 : Int32)); have := q1; omega)))
                ·
                 exact absurd h241 (Classical.not_not.mpr (y_eq (by have := q0; have := rng32 z5; have := q2; have := aushr_2 z5; have := q3; have := am_3 (XT.ushr z5 (2 : Int32)); have := q1; omega)))
               ·
                have ih212 := t_eq h212
                have ih213 := f_eq h213
                show W _ _ _ _ _ _ _ _ _ _ _ _ 360 _ [(vi 0)]
                refine W.ifY (pc := 360) 367 at_360 (y_eq (by decide)) (by decide) ?_
                refine W.iconst (pc := 367) (0) at_367 (by decide) ?_
                refine W.istore (pc := 368) (ls' := #[iv z0, iv z1, iv z2, iv z3, iv z4, iv z5, iv g2, iv g5, iv g7, iv g8, iv g9, iv g10, iv g12, iv g13, iv g14, iv g17, iv g18, iv g19, rv a21, rv a27, rv a88, rv a94, rv a109, rv a113, rv a114, iv ((XT.ushr z5 (2 : Int32)) &&& (3 : Int32)), iv 0]) at_368 rfl ?_
                refine W.aload (pc := 370) 23 at_370 rfl rfl ?_
                refine W.aload (pc := 372) 24 at_372 rfl rfl ?_
                refine W.know (fun _ _ H => H.ne (i := 1) (j := 0) (by decide) rfl rfl (Or.inl rfl)) (fun ne121 => ?_)
                refine W.know (fun _ _ H => H.ne (i := 11) (j := 7) (by decide) rfl rfl (Or.inl rfl)) (fun ne122 => ?_)
                refine W.know (fun _ _ H => H.ne (i := 9) (j := 5) (by decide) rfl rfl (Or.inl rfl)) (fun ne123 => ?_)
                refine W.callV (pc := 374) (as := [(vr a114)]) 0 [] at_374 (w111 hw) (w112 hw) (w114 hw) (w114 hw) (w113 hw) (w41 hw) (w115 hw) (Hp.exa m1) (c104_equals hw hs (hx1 := hg7) (hx2 := hg9) (hx3 := hg10) (hx4 := hg12) (hx5 := hg17) (hx6 := hg18) (mp2 := m0) (mp1 := m1) (mp3 := m11) (mp5 := m7) (mp7 := m10) (mp9 := m6) (mp4 := m9) (mp6 := m5) (mp8 := m8) (mp10 := m4) (ne_p1_p2 := ne121) (ne_p3_p5 := ne122) (ne_p4_p6 := ne123)) (by decide) pd_Ljava_lang_Object__Z rfl rfl rfl rfl (by decide) (fun v D' h => ?_)
                rcases h with ⟨h251, h252, h253, rfl, rfl⟩ | ⟨h254, h255, h256, rfl, rfl⟩ | ⟨h257, h258, rfl, rfl⟩ | ⟨h259, rfl, rfl⟩
                ·
                 have ih251 := t_eq h251
                 exact absurd h252 (n_eq (by have := q0; have := rng32 z5; have := q2; have := aushr_2 z5; have := q3; have := am_3 (XT.ushr z5 (2 : Int32)); have := q1; omega))
                ·
                 have ih254 := t_eq h254
                 exact absurd h255 (n_eq (by have := q0; have := rng32 z5; have := q2; have := aushr_2 z5; have := q3; have := am_3 (XT.ushr z5 (2 : Int32)); have := q1; omega))
                ·
                 have ih257 := t_eq h257
                 have ih258 := f_eq h258
                 show W _ _ _ _ _ _ _ _ _ _ _ _ 377 _ [(vi 0)]
                 refine W.iload (pc := 377) at_377 rfl ?_
                 refine W.icmpN (pc := 379) at_379 (n_ne (by decide)) ?_
                 refine W.aload (pc := 382) 24 at_382 rfl rfl ?_
                 refine W.aload (pc := 384) 23 at_384 rfl rfl ?_
                 refine W.callV (pc := 386) (as := [(vr a113)]) 0 [] at_386 (w111 hw) (w112 hw) (w114 hw) (w114 hw) (w113 hw) (w41 hw) (w115 hw) (Hp.exa m0) (c104_equals hw hs (hx1 := hg12) (hx2 := hg17) (hx3 := hg18) (hx4 := hg7) (hx5 := hg9) (hx6 := hg10) (mp2 := m1) (mp1 := m0) (mp3 := m7) (mp5 := m11) (mp7 := m6) (mp9 := m10) (mp4 := m5) (mp6 := m9) (mp8 := m4) (mp10 := m8) (ne_p1_p2 := (Ne.symm ne121)) (ne_p3_p5 := (Ne.symm ne122)) (ne_p4_p6 := (Ne.symm ne123))) (by decide) pd_Ljava_lang_Object__Z rfl rfl rfl rfl (by decide) (fun v D' h => ?_)
                 rcases h with ⟨h260, h261, h262, rfl, rfl⟩ | ⟨h263, h264, h265, rfl, rfl⟩ | ⟨h266, h267, rfl, rfl⟩ | ⟨h268, rfl, rfl⟩
                 ·
                  have ih260 := t_eq h260
                  exact absurd h261 (n_eq (by have := q0; have := rng32 z5; have := q2; have := aushr_2 z5; have := q3; have := am_3 (XT.ushr z5 (2 : Int32)); have := q1; omega))
                 ·
                  have ih263 := t_eq h263
                  exact absurd h264 (n_eq (by have := q0; have := rng32 z5; have := q2; have := aushr_2 z5; have := q3; have := am_3 (XT.ushr z5 (2 : Int32)); have := q1; omega))
                 ·
                  have ih266 := t_eq h266
                  have ih267 := f_eq h267
                  show W _ _ _ _ _ _ _ _ _ _ _ _ 389 _ [(vi 0)]
                  refine W.iload (pc := 389) at_389 rfl ?_
                  refine W.icmpN (pc := 391) at_391 (n_ne (by decide)) ?_
                  refine W.iconst (pc := 394) (1) at_394 (by decide) ?_
                  refine W.goto (pc := 395) 399 at_395 (by decide) ?_
                  exact W.ireturn (pc := 399) at_399 rfl (Or.inr (Or.inl rfl)) (nw_bool (by decide)) (by decide) rfl
                 ·
                  exact absurd h268 (Classical.not_not.mpr (y_eq (by have := q0; have := rng32 z5; have := q2; have := aushr_2 z5; have := q3; have := am_3 (XT.ushr z5 (2 : Int32)); have := q1; omega)))
                ·
                 exact absurd h259 (Classical.not_not.mpr (y_eq (by have := q0; have := rng32 z5; have := q2; have := aushr_2 z5; have := q3; have := am_3 (XT.ushr z5 (2 : Int32)); have := q1; omega)))
               ·
                exact absurd h214 (Classical.not_not.mpr (y_eq (by have := q0; have := rng32 z5; have := q2; have := aushr_2 z5; have := q3; have := am_3 (XT.ushr z5 (2 : Int32)); have := q1; omega)))
              ·
               have ih190 := t_eq h190
               have ih191 := t_eq h191
               exact absurd h192 (Classical.not_not.mpr (y_eq (by have := q0; have := rng32 z5; have := q2; have := aushr_2 z5; have := q3; have := am_3 (XT.ushr z5 (2 : Int32)); have := q1; omega)))
              ·
               have ih194 := t_eq h194
               have ih195 := t_eq h195
               exact absurd h196 (Classical.not_not.mpr (y_eq (by have := q0; have := rng32 z5; have := q2; have := aushr_2 z5; have := q3; have := am_3 (XT.ushr z5 (2 : Int32)); have := q1; omega)))
              ·
               have ih198 := t_eq h198
               have ih199 := f_eq h199
               show W _ _ _ _ _ _ _ _ _ _ _ _ 342 _ [(vi 0)]
               refine W.ifY (pc := 342) 367 at_342 (y_eq (by decide)) (by decide) ?_
               refine W.iconst (pc := 367) (0) at_367 (by decide) ?_
               refine W.istore (pc := 368) (ls' := #[iv z0, iv z1, iv z2, iv z3, iv z4, iv z5, iv g2, iv g5, iv g7, iv g8, iv g9, iv g10, iv g12, iv g13, iv g14, iv g17, iv g18, iv g19, rv a21, rv a27, rv a88, rv a94, rv a109, rv a113, rv a114, iv ((XT.ushr z5 (2 : Int32)) &&& (3 : Int32)), iv 0]) at_368 rfl ?_
               refine W.aload (pc := 370) 23 at_370 rfl rfl ?_
               refine W.aload (pc := 372) 24 at_372 rfl rfl ?_
               refine W.know (fun _ _ H => H.ne (i := 1) (j := 0) (by decide) rfl rfl (Or.inl rfl)) (fun ne124 => ?_)
               refine W.know (fun _ _ H => H.ne (i := 11) (j := 7) (by decide) rfl rfl (Or.inl rfl)) (fun ne125 => ?_)
               refine W.know (fun _ _ H => H.ne (i := 9) (j := 5) (by decide) rfl rfl (Or.inl rfl)) (fun ne126 => ?_)
               refine W.callV (pc := 374) (as := [(vr a114)]) 0 [] at_374 (w111 hw) (w112 hw) (w114 hw) (w114 hw) (w113 hw) (w41 hw) (w115 hw) (Hp.exa m1) (c104_equals hw hs (hx1 := hg7) (hx2 := hg9) (hx3 := hg10) (hx4 := hg12) (hx5 := hg17) (hx6 := hg18) (mp2 := m0) (mp1 := m1) (mp3 := m11) (mp5 := m7) (mp7 := m10) (mp9 := m6) (mp4 := m9) (mp6 := m5) (mp8 := m8) (mp10 := m4) (ne_p1_p2 := ne124) (ne_p3_p5 := ne125) (ne_p4_p6 := ne126)) (by decide) pd_Ljava_lang_Object__Z rfl rfl rfl rfl (by decide) (fun v D' h => ?_)
               rcases h with ⟨h269, h270, h271, rfl, rfl⟩ | ⟨h272, h273, h274, rfl, rfl⟩ | ⟨h275, h276, rfl, rfl⟩ | ⟨h277, rfl, rfl⟩
               ·
                exact absurd h269 (n_eq (by have := q0; have := rng32 z5; have := q2; have := aushr_2 z5; have := q3; have := am_3 (XT.ushr z5 (2 : Int32)); have := q1; omega))
               ·
                exact absurd h272 (n_eq (by have := q0; have := rng32 z5; have := q2; have := aushr_2 z5; have := q3; have := am_3 (XT.ushr z5 (2 : Int32)); have := q1; omega))
               ·
                exact absurd h275 (n_eq (by have := q0; have := rng32 z5; have := q2; have := aushr_2 z5; have := q3; have := am_3 (XT.ushr z5 (2 : Int32)); have := q1; omega))
               ·
                have ih277 := f_eq h277
                show W _ _ _ _ _ _ _ _ _ _ _ _ 377 _ [(vi 0)]
                refine W.iload (pc := 377) at_377 rfl ?_
                refine W.icmpN (pc := 379) at_379 (n_ne (by decide)) ?_
                refine W.aload (pc := 382) 24 at_382 rfl rfl ?_
                refine W.aload (pc := 384) 23 at_384 rfl rfl ?_
                refine W.callV (pc := 386) (as := [(vr a113)]) 0 [] at_386 (w111 hw) (w112 hw) (w114 hw) (w114 hw) (w113 hw) (w41 hw) (w115 hw) (Hp.exa m0) (c104_equals hw hs (hx1 := hg12) (hx2 := hg17) (hx3 := hg18) (hx4 := hg7) (hx5 := hg9) (hx6 := hg10) (mp2 := m1) (mp1 := m0) (mp3 := m7) (mp5 := m11) (mp7 := m6) (mp9 := m10) (mp4 := m5) (mp6 := m9) (mp8 := m4) (mp10 := m8) (ne_p1_p2 := (Ne.symm ne124)) (ne_p3_p5 := (Ne.symm ne125)) (ne_p4_p6 := (Ne.symm ne126))) (by decide) pd_Ljava_lang_Object__Z rfl rfl rfl rfl (by decide) (fun v D' h => ?_)
                rcases h with ⟨h278, h279, h280, rfl, rfl⟩ | ⟨h281, h282, h283, rfl, rfl⟩ | ⟨h284, h285, rfl, rfl⟩ | ⟨h286, rfl, rfl⟩
                ·
                 exact absurd h278 (n_eq (by have := q0; have := rng32 z5; have := q2; have := aushr_2 z5; have := q3; have := am_3 (XT.ushr z5 (2 : Int32)); have := q1; omega))
                ·
                 exact absurd h281 (n_eq (by have := q0; have := rng32 z5; have := q2; have := aushr_2 z5; have := q3; have := am_3 (XT.ushr z5 (2 : Int32)); have := q1; omega))
                ·
                 exact absurd h284 (n_eq (by have := q0; have := rng32 z5; have := q2; have := aushr_2 z5; have := q3; have := am_3 (XT.ushr z5 (2 : Int32)); have := q1; omega))
                ·
                 have ih286 := f_eq h286
                 show W _ _ _ _ _ _ _ _ _ _ _ _ 389 _ [(vi 0)]
                 refine W.iload (pc := 389) at_389 rfl ?_
                 refine W.icmpN (pc := 391) at_391 (n_ne (by decide)) ?_
                 refine W.iconst (pc := 394) (1) at_394 (by decide) ?_
                 refine W.goto (pc := 395) 399 at_395 (by decide) ?_
                 exact W.ireturn (pc := 399) at_399 rfl (Or.inr (Or.inl rfl)) (nw_bool (by decide)) (by decide) rfl
              ·
               exact absurd h200 (Classical.not_not.mpr (y_eq (by have := q0; have := rng32 z5; have := q2; have := aushr_2 z5; have := q3; have := am_3 (XT.ushr z5 (2 : Int32)); have := q1; omega)))
             ·
              have ih186 := f_ne h186
              refine W.aload (pc := 319) 23 at_319 rfl rfl ?_
              refine W.aload (pc := 321) 23 at_321 rfl rfl ?_
              refine W.callV (pc := 323) (as := [(vr a113)]) 0 [] at_323 (w111 hw) (w112 hw) (w114 hw) (w114 hw) (w113 hw) (w41 hw) (w115 hw) (Hp.exa m1) (c66_equals hw hs) (by decide) pd_Ljava_lang_Object__Z rfl rfl rfl rfl (by decide) (fun v D' h => ?_)
              obtain ⟨rfl, rfl⟩ := h
              show W _ _ _ _ _ _ _ _ _ _ _ _ 326 _ [(vi 1)]
              exact W.ireturn (pc := 326) at_326 rfl (Or.inr (Or.inl rfl)) (nw_bool (by decide)) (by decide) rfl
            ·
             have ih185 := f_ne h185
             refine W.aload (pc := 297) 23 at_297 rfl rfl ?_
             refine W.aload (pc := 299) 22 at_299 rfl rfl ?_
             refine W.know (fun _ _ H => H.ne (i := 1) (j := 3) (by decide) rfl rfl (Or.inl rfl)) (fun ne127 => ?_)
             refine W.callV (pc := 301) (as := [(vr a109)]) 0 [] at_301 (w111 hw) (w112 hw) (w114 hw) (w114 hw) (w113 hw) (w41 hw) (w115 hw) (Hp.exa m1) (c67_equals hw hs (mp2 := m3) (ne_p1_p2 := ne127)) (by decide) pd_Ljava_lang_Object__Z rfl rfl rfl rfl (by decide) (fun v D' h => ?_)
             obtain ⟨rfl, rfl⟩ := h
             show W _ _ _ _ _ _ _ _ _ _ _ _ 304 _ [(vi 0)]
             refine W.ifN (pc := 304) at_304 (n_ne (by decide)) ?_
             refine W.iconst (pc := 307) (1) at_307 (by decide) ?_
             refine W.goto (pc := 308) 312 at_308 (by decide) ?_
             exact W.ireturn (pc := 312) at_312 rfl (Or.inr (Or.inl rfl)) (nw_bool (by decide)) (by decide) rfl
           ·
            have ih184 := f_ne h184
            refine W.aload (pc := 276) 23 at_276 rfl rfl ?_
            refine W.aconstNull (pc := 278) at_278 ?_
            refine W.callV (pc := 279) (as := [.null]) 0 [] at_279 (w111 hw) (w112 hw) (w114 hw) (w114 hw) (w113 hw) (w41 hw) (w115 hw) (Hp.exa m1) (c68_equals hw hs) (by decide) pd_Ljava_lang_Object__Z rfl rfl rfl rfl (by decide) (fun v D' h => ?_)
            obtain ⟨rfl, rfl⟩ := h
            show W _ _ _ _ _ _ _ _ _ _ _ _ 282 _ [(vi 0)]
            refine W.ifN (pc := 282) at_282 (n_ne (by decide)) ?_
            refine W.iconst (pc := 285) (1) at_285 (by decide) ?_
            refine W.goto (pc := 286) 290 at_286 (by decide) ?_
            exact W.ireturn (pc := 290) at_290 rfl (Or.inr (Or.inl rfl)) (nw_bool (by decide)) (by decide) rfl
          ·
           exact absurd h183 (Classical.not_not.mpr (y_eq (by have := q0; omega)))
        ·
         have ih146 := f_eq h146
         show W _ _ _ _ _ _ _ _ _ _ _ _ 212 _ [(vr a90)]
         refine W.astore (pc := 212) (ls' := #[iv z0, iv z1, iv z2, iv z3, iv z4, iv z5, iv g2, iv g5, iv g7, iv g8, iv g9, iv g10, iv g12, iv g13, iv g14, iv g17, iv g18, iv g19, rv a21, rv a27, rv a90, uu, uu, uu, uu, uu, uu]) at_212 rfl rfl ?_
         refine W.iload (pc := 214) at_214 rfl ?_
         refine W.iload (pc := 216) at_216 rfl ?_
         refine W.iload (pc := 218) at_218 rfl ?_
         refine W.callS (pc := 220) (as := [(vi g17), (vi g18), (vi g19)]) 0 [] at_220 (w6 hw) (w7 hw) (w3 hw) (w8 hw) (c14_make hw hs (hx1 := hg17) (hx2 := hg18) (hx3 := hg19)) (by decide) pd_CCZ_Ljava_lang_String_ rfl rfl rfl rfl (by decide) (fun v D' h => ?_)
         rcases h with ⟨a128, a129, h287, rfl, rfl⟩ | ⟨a130, a131, h288, rfl, rfl⟩
         ·
          have ih287 := t_eq h287
          show W _ _ _ _ _ _ _ _ _ _ _ _ 223 _ [(vr a128)]
          refine W.astore (pc := 223) (ls' := #[iv z0, iv z1, iv z2, iv z3, iv z4, iv z5, iv g2, iv g5, iv g7, iv g8, iv g9, iv g10, iv g12, iv g13, iv g14, iv g17, iv g18, iv g19, rv a21, rv a27, rv a90, rv a128, uu, uu, uu, uu, uu]) at_223 rfl rfl ?_
          refine W.iload (pc := 225) at_225 rfl ?_
          refine W.iload (pc := 227) at_227 rfl ?_
          refine W.iload (pc := 229) at_229 rfl ?_
          refine W.callS (pc := 231) (as := [(vi g7), (vi g8), (vi g2)]) 0 [] at_231 (w6 hw) (w7 hw) (w3 hw) (w8 hw) (c3_make hw hs (hx1 := hg7) (hx2 := hg8) (hx3 := hg2)) (by decide) pd_CCZ_Ljava_lang_String_ rfl rfl rfl rfl (by decide) (fun v D' h => ?_)
          rcases h with ⟨a132, a133, h289, rfl, rfl⟩ | ⟨a134, a135, h290, rfl, rfl⟩
          ·
           have ih289 := t_eq h289
           show W _ _ _ _ _ _ _ _ _ _ _ _ 234 _ [(vr a132)]
           refine W.astore (pc := 234) (ls' := #[iv z0, iv z1, iv z2, iv z3, iv z4, iv z5, iv g2, iv g5, iv g7, iv g8, iv g9, iv g10, iv g12, iv g13, iv g14, iv g17, iv g18, iv g19, rv a21, rv a27, rv a90, rv a128, rv a132, uu, uu, uu, uu]) at_234 rfl rfl ?_
           refine W.new (pc := 236) at_236 (w39 hw) (w40 hw) (w41 hw) (laJobKey hw) (by decide) (by decide) (fun a136 => ?_)
           show W _ _ _ _ _ _ _ _ _ _ _ _ 239 _ [(vr a136)]
           refine W.dup (pc := 239) at_239 rfl ?_
           refine W.aload (pc := 240) 18 at_240 rfl rfl ?_
           refine W.aload (pc := 242) 19 at_242 rfl rfl ?_
           refine W.callI (pc := 244) (as := [(vr a21), (vr a27)]) 1 [(vr a136)] at_244 rfl (w42 hw) (w43 hw) (w41 hw) (w44 hw) (c69_init hw hs (hx1 := hg7) (hx2 := hg9) (hx3 := hg10) (mog1Z := m12) (mp2 := m9) (mp4 := m8) (mog2Z := m11) (mog3Z := m10) (mog4Z := m15) (mp3 := m7) (mp5 := m6) (mog5Z := m14) (mog6Z := m13)) (by decide) pd_Ljava_lang_String_Ljava_lang_String__V rfl rfl rfl rfl (by decide) (fun v D' h => ?_)
           obtain ⟨rfl, rfl⟩ := h
           show W _ _ _ _ _ _ _ _ _ _ _ _ 247 _ [(vr a136)]
           refine W.astore (pc := 247) (ls' := #[iv z0, iv z1, iv z2, iv z3, iv z4, iv z5, iv g2, iv g5, iv g7, iv g8, iv g9, iv g10, iv g12, iv g13, iv g14, iv g17, iv g18, iv g19, rv a21, rv a27, rv a90, rv a128, rv a132, rv a136, uu, uu, uu]) at_247 rfl rfl ?_
           refine W.new (pc := 249) at_249 (w39 hw) (w40 hw) (w41 hw) (laJobKey hw) (by decide) (by decide) (fun a137 => ?_)
           show W _ _ _ _ _ _ _ _ _ _ _ _ 252 _ [(vr a137)]
           refine W.dup (pc := 252) at_252 rfl ?_
           refine W.aload (pc := 253) 20 at_253 rfl rfl ?_
           refine W.aload (pc := 255) 21 at_255 rfl rfl ?_
           refine W.callI (pc := 257) (as := [(vr a90), (vr a128)]) 1 [(vr a137)] at_257 rfl (w42 hw) (w43 hw) (w41 hw) (w44 hw) (c88_init hw hs (hx1 := hg12) (hx2 := hg13) (hx3 := hg17) (mog1Z := m13) (mp2 := m6) (mp4 := m5) (mog2Z := m12) (mog3Z := m11) (mog4Z := m16) (mp3 := m4) (mp5 := m3) (mog5Z := m15) (mog6Z := m14)) (by decide) pd_Ljava_lang_String_Ljava_lang_String__V rfl rfl rfl rfl (by decide) (fun v D' h => ?_)
           obtain ⟨rfl, rfl⟩ := h
           show W _ _ _ _ _ _ _ _ _ _ _ _ 260 _ [(vr a137)]
           refine W.astore (pc := 260) (ls' := #[iv z0, iv z1, iv z2, iv z3, iv z4, iv z5, iv g2, iv g5, iv g7, iv g8, iv g9, iv g10, iv g12, iv g13, iv g14, iv g17, iv g18, iv g19, rv a21, rv a27, rv a90, rv a128, rv a132, rv a136, rv a137, uu, uu]) at_260 rfl rfl ?_
           refine W.iload (pc := 262) at_262 rfl ?_
           refine W.iconst (pc := 264) (2) at_264 (by decide) ?_
           refine W.iushr (pc := 265) at_265 ?_
           refine W.iconst (pc := 266) (3) at_266 (by decide) ?_
           refine W.iand (pc := 267) at_267 ?_
           refine W.istore (pc := 268) (ls' := #[iv z0, iv z1, iv z2, iv z3, iv z4, iv z5, iv g2, iv g5, iv g7, iv g8, iv g9, iv g10, iv g12, iv g13, iv g14, iv g17, iv g18, iv g19, rv a21, rv a27, rv a90, rv a128, rv a132, rv a136, rv a137, iv ((XT.ushr z5 (2 : Int32)) &&& (3 : Int32)), uu]) at_268 rfl ?_
           refine W.iload (pc := 270) at_270 rfl ?_
           refine W.iconst (pc := 272) (1) at_272 (by decide) ?_
           refine W.icmp (pc := 273) 291 at_273 (by decide) (fun h291 => ?_) (fun h291 => ?_)
           ·
            have ih291 := t_ne h291
            refine W.iload (pc := 291) at_291 rfl ?_
            refine W.iconst (pc := 293) (2) at_293 (by decide) ?_
            refine W.icmp (pc := 294) 313 at_294 (by decide) (fun h292 => ?_) (fun h292 => ?_)
            ·
             have ih292 := t_ne h292
             refine W.iload (pc := 313) at_313 rfl ?_
             refine W.iconst (pc := 315) (3) at_315 (by decide) ?_
             refine W.icmp (pc := 316) 327 at_316 (by decide) (fun h293 => ?_) (fun h293 => ?_)
             ·
              have ih293 := t_ne h293
              refine W.iload (pc := 327) at_327 rfl ?_
              refine W.iload (pc := 329) at_329 rfl ?_
              refine W.iload (pc := 331) at_331 rfl ?_
              refine W.iload (pc := 333) at_333 rfl ?_
              refine W.iload (pc := 335) at_335 rfl ?_
              refine W.iload (pc := 337) at_337 rfl ?_
              refine W.callS (pc := 339) (as := [(vi g7), (vi g8), (vi g2), (vi g12), (vi g13), (vi g14)]) 0 [] at_339 (w108 hw) (w109 hw) (w3 hw) (w110 hw) (c59_same hw hs (hx1 := hg7) (hx2 := hg8) (hx3 := hg2) (hx4 := hg12) (hx5 := hg13) (hx6 := hg14)) (by decide) pd_CCZCCZ_Z rfl rfl rfl rfl (by decide) (fun v D' h => ?_)
              rcases h with ⟨h294, h295, h296, rfl, rfl⟩ | ⟨h297, h298, h299, h300, rfl, rfl⟩ | ⟨h301, h302, h303, h304, rfl, rfl⟩ | ⟨h305, h306, rfl, rfl⟩ | ⟨h307, rfl, rfl⟩
              ·
               exact absurd h294 (n_eq (by have := q0; have := rng32 z5; have := q2; have := aushr_2 z5; have := q3; have := am_3 (XT.ushr z5 (2 : Int32)); have := q1; omega))
              ·
               exact absurd h297 (n_eq (by have := q0; have := rng32 z5; have := q2; have := aushr_2 z5; have := q3; have := am_3 (XT.ushr z5 (2 : Int32)); have := q1; omega))
              ·
               exact absurd h301 (n_eq (by have := q0; have := rng32 z5; have := q2; have := aushr_2 z5; have := q3; have := am_3 (XT.ushr z5 (2 : Int32)); have := q1; omega))
              ·
               exact absurd h305 (n_eq (by have := q0; have := rng32 z5; have := q2; have := aushr_2 z5; have := q3; have := am_3 (XT.ushr z5 (2 : Int32)); have := q1; omega))
              ·
               have ih307 := f_eq h307
               show W _ _ _ _ _ _ _ _ _ _ _ _ 342 _ [(vi 0)]
               refine W.ifY (pc := 342) 367 at_342 (y_eq (by decide)) (by decide) ?_
               refine W.iconst (pc := 367) (0) at_367 (by decide) ?_
               refine W.istore (pc := 368) (ls' := #[iv z0, iv z1, iv z2, iv z3, iv z4, iv z5, iv g2, iv g5, iv g7, iv g8, iv g9, iv g10, iv g12, iv g13, iv g14, iv g17, iv g18, iv g19, rv a21, rv a27, rv a90, rv a128, rv a132, rv a136, rv a137, iv ((XT.ushr z5 (2 : Int32)) &&& (3 : Int32)), iv 0]) at_368 rfl ?_
               refine W.aload (pc := 370) 23 at_370 rfl rfl ?_
               refine W.aload (pc := 372) 24 at_372 rfl rfl ?_
               refine W.know (fun _ _ H => H.ne (i := 1) (j := 0) (by decide) rfl rfl (Or.inl rfl)) (fun ne138 => ?_)
               refine W.know (fun _ _ H => H.ne (i := 11) (j := 7) (by decide) rfl rfl (Or.inl rfl)) (fun ne139 => ?_)
               refine W.callV (pc := 374) (as := [(vr a137)]) 0 [] at_374 (w111 hw) (w112 hw) (w114 hw) (w114 hw) (w113 hw) (w41 hw) (w115 hw) (Hp.exa m1) (c97_equals hw hs (hx1 := hg7) (hx3 := hg12) (hx4 := hg13) (mp2 := m0) (mp1 := m1) (mp3 := m11) (mp5 := m7) (mp7 := m10) (mp9 := m6) (ne_p1_p2 := ne138) (ne_p3_p5 := ne139)) (by decide) pd_Ljava_lang_Object__Z rfl rfl rfl rfl (by decide) (fun v D' h => ?_)
               obtain ⟨rfl, rfl⟩ := h
               show W _ _ _ _ _ _ _ _ _ _ _ _ 377 _ [(vi 0)]
               refine W.iload (pc := 377) at_377 rfl ?_
               refine W.icmpN (pc := 379) at_379 (n_ne (by decide)) ?_
               refine W.aload (pc := 382) 24 at_382 rfl rfl ?_
               refine W.aload (pc := 384) 23 at_384 rfl rfl ?_
               refine W.callV (pc := 386) (as := [(vr a136)]) 0 [] at_386 (w111 hw) (w112 hw) (w114 hw) (w114 hw) (w113 hw) (w41 hw) (w115 hw) (Hp.exa m0) (c100_equals hw hs (hx1 := hg12) (hx2 := hg13) (hx4 := hg7) (mp2 := m1) (mp1 := m0) (mp3 := m7) (mp5 := m11) (mp7 := m6) (mp9 := m10) (ne_p1_p2 := (Ne.symm ne138)) (ne_p3_p5 := (Ne.symm ne139))) (by decide) pd_Ljava_lang_Object__Z rfl rfl rfl rfl (by decide) (fun v D' h => ?_)
               obtain ⟨rfl, rfl⟩ := h
               show W _ _ _ _ _ _ _ _ _ _ _ _ 389 _ [(vi 0)]
               refine W.iload (pc := 389) at_389 rfl ?_
               refine W.icmpN (pc := 391) at_391 (n_ne (by decide)) ?_
               refine W.iconst (pc := 394) (1) at_394 (by decide) ?_
               refine W.goto (pc := 395) 399 at_395 (by decide) ?_
               exact W.ireturn (pc := 399) at_399 rfl (Or.inr (Or.inl rfl)) (nw_bool (by decide)) (by decide) rfl
             ·
              have ih293 := f_ne h293
              refine W.aload (pc := 319) 23 at_319 rfl rfl ?_
              refine W.aload (pc := 321) 23 at_321 rfl rfl ?_
              refine W.callV (pc := 323) (as := [(vr a136)]) 0 [] at_323 (w111 hw) (w112 hw) (w114 hw) (w114 hw) (w113 hw) (w41 hw) (w115 hw) (Hp.exa m1) (c66_equals hw hs) (by decide) pd_Ljava_lang_Object__Z rfl rfl rfl rfl (by decide) (fun v D' h => ?_)
              obtain ⟨rfl, rfl⟩ := h
              show W _ _ _ _ _ _ _ _ _ _ _ _ 326 _ [(vi 1)]
              exact W.ireturn (pc := 326) at_326 rfl (Or.inr (Or.inl rfl)) (nw_bool (by decide)) (by decide) rfl
            ·
             have ih292 := f_ne h292
             refine W.aload (pc := 297) 23 at_297 rfl rfl ?_
             refine W.aload (pc := 299) 22 at_299 rfl rfl ?_
             refine W.know (fun _ _ H => H.ne (i := 1) (j := 3) (by decide) rfl rfl (Or.inl rfl)) (fun ne140 => ?_)
             refine W.callV (pc := 301) (as := [(vr a132)]) 0 [] at_301 (w111 hw) (w112 hw) (w114 hw) (w114 hw) (w113 hw) (w41 hw) (w115 hw) (Hp.exa m1) (c67_equals hw hs (mp2 := m3) (ne_p1_p2 := ne140)) (by decide) pd_Ljava_lang_Object__Z rfl rfl rfl rfl (by decide) (fun v D' h => ?_)
             obtain ⟨rfl, rfl⟩ := h
             show W _ _ _ _ _ _ _ _ _ _ _ _ 304 _ [(vi 0)]
             refine W.ifN (pc := 304) at_304 (n_ne (by decide)) ?_
             refine W.iconst (pc := 307) (1) at_307 (by decide) ?_
             refine W.goto (pc := 308) 312 at_308 (by decide) ?_
             exact W.ireturn (pc := 312) at_312 rfl (Or.inr (Or.inl rfl)) (nw_bool (by decide)) (by decide) rfl
           ·
            have ih291 := f_ne h291
            refine W.aload (pc := 276) 23 at_276 rfl rfl ?_
            refine W.aconstNull (pc := 278) at_278 ?_
            refine W.callV (pc := 279) (as := [.null]) 0 [] at_279 (w111 hw) (w112 hw) (w114 hw) (w114 hw) (w113 hw) (w41 hw) (w115 hw) (Hp.exa m1) (c68_equals hw hs) (by decide) pd_Ljava_lang_Object__Z rfl rfl rfl rfl (by decide) (fun v D' h => ?_)
            obtain ⟨rfl, rfl⟩ := h
            show W _ _ _ _ _ _ _ _ _ _ _ _ 282 _ [(vi 0)]
            refine W.ifN (pc := 282) at_282 (n_ne (by decide)) ?_
            refine W.iconst (pc := 285) (1) at_285 (by decide) ?_
            refine W.goto (pc := 286) 290 at_286 (by decide) ?_
            exact W.ireturn (pc := 290) at_290 rfl (Or.inr (Or.inl rfl)) (nw_bool (by decide)) (by decide) rfl
          ·
           exact absurd h290 (Classical.not_not.mpr (y_eq (by have := q0; omega)))
         ·
          have ih288 := f_eq h288
          show W _ _ _ _ _ _ _ _ _ _ _ _ 223 _ [(vr a130)]
          refine W.astore (pc := 223) (ls' := #[iv z0, iv z1, iv z2, iv z3, iv z4, iv z5, iv g2, iv g5, iv g7, iv g8, iv g9, iv g10, iv g12, iv g13, iv g14, iv g17, iv g18, iv g19, rv a21, rv a27, rv a90, rv a130, uu, uu, uu, uu, uu]) at_223 rfl rfl ?_
          refine W.iload (pc := 225) at_225 rfl ?_
          refine W.iload (pc := 227) at_227 rfl ?_
          refine W.iload (pc := 229) at_229 rfl ?_
          refine W.callS (pc := 231) (as := [(vi g7), (vi g8), (vi g2)]) 0 [] at_231 (w6 hw) (w7 hw) (w3 hw) (w8 hw) (c3_make hw hs (hx1 := hg7) (hx2 := hg8) (hx3 := hg2)) (by decide) pd_CCZ_Ljava_lang_String_ rfl rfl rfl rfl (by decide) (fun v D' h => ?_)
          rcases h with ⟨a141, a142, h308, rfl, rfl⟩ | ⟨a143, a144, h309, rfl, rfl⟩
          ·
           have ih308 := t_eq h308
           show W _ _ _ _ _ _ _ _ _ _ _ _ 234 _ [(vr a141)]
           refine W.astore (pc := 234) (ls' := #[iv z0, iv z1, iv z2, iv z3, iv z4, iv z5, iv g2, iv g5, iv g7, iv g8, iv g9, iv g10, iv g12, iv g13, iv g14, iv g17, iv g18, iv g19, rv a21, rv a27, rv a90, rv a130, rv a141, uu, uu, uu, uu]) at_234 rfl rfl ?_
           refine W.new (pc := 236) at_236 (w39 hw) (w40 hw) (w41 hw) (laJobKey hw) (by decide) (by decide) (fun a145 => ?_)
           show W _ _ _ _ _ _ _ _ _ _ _ _ 239 _ [(vr a145)]
           refine W.dup (pc := 239) at_239 rfl ?_
           refine W.aload (pc := 240) 18 at_240 rfl rfl ?_
           refine W.aload (pc := 242) 19 at_242 rfl rfl ?_
           refine W.callI (pc := 244) (as := [(vr a21), (vr a27)]) 1 [(vr a145)] at_244 rfl (w42 hw) (w43 hw) (w41 hw) (w44 hw) (c69_init hw hs (hx1 := hg7) (hx2 := hg9) (hx3 := hg10) (mog1Z := m12) (mp2 := m9) (mp4 := m8) (mog2Z := m11) (mog3Z := m10) (mog4Z := m15) (mp3 := m7) (mp5 := m6) (mog5Z := m14) (mog6Z := m13)) (by decide) pd_Ljava_lang_String_Ljava_lang_String__V rfl rfl rfl rfl (by decide) (fun v D' h => ?_)
           obtain ⟨rfl, rfl⟩ := h
           show W _ _ _ _ _ _ _ _ _ _ _ _ 247 _ [(vr a145)]
           refine W.astore (pc := 247) (ls' := #[iv z0, iv z1, iv z2, iv z3, iv z4, iv z5, iv g2, iv g5, iv g7, iv g8, iv g9, iv g10, iv g12, iv g13, iv g14, iv g17, iv g18, iv g19, rv a21, rv a27, rv a90, rv a130, rv a141, rv a145, uu, uu, uu]) at_247 rfl rfl ?_
           refine W.new (pc := 249) at_249 (w39 hw) (w40 hw) (w41 hw) (laJobKey hw) (by decide) (by decide) (fun a146 => ?_)
           show W _ _ _ _ _ _ _ _ _ _ _ _ 252 _ [(vr a146)]
           refine W.dup (pc := 252) at_252 rfl ?_
           refine W.aload (pc := 253) 20 at_253 rfl rfl ?_
           refine W.aload (pc := 255) 21 at_255 rfl rfl ?_
           refine W.callI (pc := 257) (as := [(vr a90), (vr a130)]) 1 [(vr a146)] at_257 rfl (w42 hw) (w43 hw) (w41 hw) (w44 hw) (c103_init hw hs (hx1 := hg12) (hx2 := hg13) (hx3 := hg17) (hx4 := hg18) (mog1Z := m13) (mp2 := m6) (mp4 := m5) (mog2Z := m12) (mog3Z := m11) (mog4Z := m16) (mp3 := m4) (mp5 := m3) (mog5Z := m15) (mog6Z := m14)) (by decide) pd_Ljava_lang_String_Ljava_lang_String__V rfl rfl rfl rfl (by decide) (fun v D' h => ?_)
           obtain ⟨rfl, rfl⟩ := h
           show W _ _ _ _ _ _ _ _ _ _ _ _ 260 _ [(vr a146)]
           refine W.astore (pc := 260) (ls' := #[iv z0, iv z1, iv z2, iv z3, iv z4, iv z5, iv g2, iv g5, iv g7, iv g8, iv g9, iv g10, iv g12, iv g13, iv g14, iv g17, iv g18, iv g19, rv a21, rv a27, rv a90, rv a130, rv a141, rv a145, rv a146, uu, uu]) at_260 rfl rfl ?_
           refine W.iload (pc := 262) at_262 rfl ?_
           refine W.iconst (pc := 264) (2) at_264 (by decide) ?_
           refine W.iushr (pc := 265) at_265 ?_
           refine W.iconst (pc := 266) (3) at_266 (by decide) ?_
           refine W.iand (pc := 267) at_267 ?_
           refine W.istore (pc := 268) (ls' := #[iv z0, iv z1, iv z2, iv z3, iv z4, iv z5, iv g2, iv g5, iv g7, iv g8, iv g9, iv g10, iv g12, iv g13, iv g14, iv g17, iv g18, iv g19, rv a21, rv a27, rv a90, rv a130, rv a141, rv a145, rv a146, iv ((XT.ushr z5 (2 : Int32)) &&& (3 : Int32)), uu]) at_268 rfl ?_
           refine W.iload (pc := 270) at_270 rfl ?_
           refine W.iconst (pc := 272) (1) at_272 (by decide) ?_
           refine W.icmp (pc := 273) 291 at_273 (by decide) (fun h310 => ?_) (fun h310 => ?_)
           ·
            have ih310 := t_ne h310
            refine W.iload (pc := 291) at_291 rfl ?_
            refine W.iconst (pc := 293) (2) at_293 (by decide) ?_
            refine W.icmp (pc := 294) 313 at_294 (by decide) (fun h311 => ?_) (fun h311 => ?_)
            ·
             have ih311 := t_ne h311
             refine W.iload (pc := 313) at_313 rfl ?_
             refine W.iconst (pc := 315) (3) at_315 (by decide) ?_
             refine W.icmp (pc := 316) 327 at_316 (by decide) (fun h312 => ?_) (fun h312 => ?_)
             ·
              have ih312 := t_ne h312
              refine W.iload (pc := 327) at_327 rfl ?_
              refine W.iload (pc := 329) at_329 rfl ?_
              refine W.iload (pc := 331) at_331 rfl ?_
              refine W.iload (pc := 333) at_333 rfl ?_
              refine W.iload (pc := 335) at_335 rfl ?_
              refine W.iload (pc := 337) at_337 rfl ?_
              refine W.callS (pc := 339) (as := [(vi g7), (vi g8), (vi g2), (vi g12), (vi g13), (vi g14)]) 0 [] at_339 (w108 hw) (w109 hw) (w3 hw) (w110 hw) (c59_same hw hs (hx1 := hg7) (hx2 := hg8) (hx3 := hg2) (hx4 := hg12) (hx5 := hg13) (hx6 := hg14)) (by decide) pd_CCZCCZ_Z rfl rfl rfl rfl (by decide) (fun v D' h => ?_)
              rcases h with ⟨h313, h314, h315, rfl, rfl⟩ | ⟨h316, h317, h318, h319, rfl, rfl⟩ | ⟨h320, h321, h322, h323, rfl, rfl⟩ | ⟨h324, h325, rfl, rfl⟩ | ⟨h326, rfl, rfl⟩
              ·
               exact absurd h313 (n_eq (by have := q0; have := rng32 z5; have := q2; have := aushr_2 z5; have := q3; have := am_3 (XT.ushr z5 (2 : Int32)); have := q1; omega))
              ·
               exact absurd h316 (n_eq (by have := q0; have := rng32 z5; have := q2; have := aushr_2 z5; have := q3; have := am_3 (XT.ushr z5 (2 : Int32)); have := q1; omega))
              ·
               exact absurd h320 (n_eq (by have := q0; have := rng32 z5; have := q2; have := aushr_2 z5; have := q3; have := am_3 (XT.ushr z5 (2 : Int32)); have := q1; omega))
              ·
               exact absurd h324 (n_eq (by have := q0; have := rng32 z5; have := q2; have := aushr_2 z5; have := q3; have := am_3 (XT.ushr z5 (2 : Int32)); have := q1; omega))
              ·
               have ih326 := f_eq h326
               show W _ _ _ _ _ _ _ _ _ _ _ _ 342 _ [(vi 0)]
               refine W.ifY (pc := 342) 367 at_342 (y_eq (by decide)) (by decide) ?_
               refine W.iconst (pc := 367) (0) at_367 (by decide) ?_
               refine W.istore (pc := 368) (ls' := #[iv z0, iv z1, iv z2, iv z3, iv z4, iv z5, iv g2, iv g5, iv g7, iv g8, iv g9, iv g10, iv g12, iv g13, iv g14, iv g17, iv g18, iv g19, rv a21, rv a27, rv a90, rv a130, rv a141, rv a145, rv a146, iv ((XT.ushr z5 (2 : Int32)) &&& (3 : Int32)), iv 0]) at_368 rfl ?_
               refine W.aload (pc := 370) 23 at_370 rfl rfl ?_
               refine W.aload (pc := 372) 24 at_372 rfl rfl ?_
               refine W.know (fun _ _ H => H.ne (i := 1) (j := 0) (by decide) rfl rfl (Or.inl rfl)) (fun ne147 => ?_)
               refine W.know (fun _ _ H => H.ne (i := 11) (j := 7) (by decide) rfl rfl (Or.inl rfl)) (fun ne148 => ?_)
               refine W.callV (pc := 374) (as := [(vr a146)]) 0 [] at_374 (w111 hw) (w112 hw) (w114 hw) (w114 hw) (w113 hw) (w41 hw) (w115 hw) (Hp.exa m1) (c97_equals hw hs (hx1 := hg7) (hx3 := hg12) (hx4 := hg13) (mp2 := m0) (mp1 := m1) (mp3 := m11) (mp5 := m7) (mp7 := m10) (mp9 := m6) (ne_p1_p2 := ne147) (ne_p3_p5 := ne148)) (by decide) pd_Ljava_lang_Object__Z rfl rfl rfl rfl (by decide) (fun v D' h => ?_)
               obtain ⟨rfl, rfl⟩ := h
               show W _ _ _ _ _ _ _ _ _ _ _ _ 377 _ [(vi 0)]
               refine W.iload (pc := 377) at_377 rfl ?_
               refine W.icmpN (pc := 379) at_379 (n_ne (by decide)) ?_
               refine W.aload (pc := 382) 24 at_382 rfl rfl ?_
               refine W.aload (pc := 384) 23 at_384 rfl rfl ?_
               refine W.callV (pc := 386) (as := [(vr a145)]) 0 [] at_386 (w111 hw) (w112 hw) (w114 hw) (w114 hw) (w113 hw) (w41 hw) (w115 hw) (Hp.exa m0) (c100_equals hw hs (hx1 := hg12) (hx2 := hg13) (hx4 := hg7) (mp2 := m1) (mp1 := m0) (mp3 := m7) (mp5 := m11) (mp7 := m6) (mp9 := m10) (ne_p1_p2 := (Ne.symm ne147)) (ne_p3_p5 := (Ne.symm ne148))) (by decide) pd_Ljava_lang_Object__Z rfl rfl rfl rfl (by decide) (fun v D' h => ?_)
               obtain ⟨rfl, rfl⟩ := h
               show W _ _ _ _ _ _ _ _ _ _ _ _ 389 _ [(vi 0)]
               refine W.iload (pc := 389) at_389 rfl ?_
               refine W.icmpN (pc := 391) at_391 (n_ne (by decide)) ?_
               refine W.iconst (pc := 394) (1) at_394 (by decide) ?_
               refine W.goto (pc := 395) 399 at_395 (by decide) ?_
               exact W.ireturn (pc := 399) at_399 rfl (Or.inr (Or.inl rfl)) (nw_bool (by decide)) (by decide) rfl
             ·
              have ih312 := f_ne h312
              refine W.aload (pc := 319) 23 at_319 rfl rfl ?_
              refine W.aload (pc := 321) 23 at_321 rfl rfl ?_
              refine W.callV (pc := 323) (as := [(vr a145)]) 0 [] at_323 (w111 hw) (w112 hw) (w114 hw) (w114 hw) (w113 hw) (w41 hw) (w115 hw) (Hp.exa m1) (c66_equals hw hs) (by decide) pd_Ljava_lang_Object__Z rfl rfl rfl rfl (by decide) (fun v D' h => ?_)
              obtain ⟨rfl, rfl⟩ := h
              show W _ _ _ _ _ _ _ _ _ _ _ _ 326 _ [(vi 1)]
              exact W.ireturn (pc := 326) at_326 rfl (Or.inr (Or.inl rfl)) (nw_bool (by decide)) (by decide) rfl
            ·
             have ih311 := f_ne h311
             refine W.aload (pc := 297) 23 at_297 rfl rfl ?_
             refine W.aload (pc := 299) 22 at_299 rfl rfl ?_
             refine W.know (fun _ _ H => H.ne (i := 1) (j := 3) (by decide) rfl rfl (Or.inl rfl)) (fun ne149 => ?_)
             refine W.callV (pc := 301) (as := [(vr a141)]) 0 [] at_301 (w111 hw) (w112 hw) (w114 hw) (w114 hw) (w113 hw) (w41 hw) (w115 hw) (Hp.exa m1) (c67_equals hw hs (mp2 := m3) (ne_p1_p2 := ne149)) (by decide) pd_Ljava_lang_Object__Z rfl rfl rfl rfl (by decide) (fun v D' h => ?_)
             obtain ⟨rfl, rfl⟩ := h
             show W _ _ _ _ _ _ _ _ _ _ _ _ 304 _ [(vi 0)]
             refine W.ifN (pc := 304) at_304 (n_ne (by decide)) ?_
             refine W.iconst (pc := 307) (1) at_307 (by decide) ?_
             refine W.goto (pc := 308) 312 at_308 (by decide) ?_
             exact W.ireturn (pc := 312) at_312 rfl (Or.inr (Or.inl rfl)) (nw_bool (by decide)) (by decide) rfl
           ·
            have ih310 := f_ne h310
            refine W.aload (pc := 276) 23 at_276 rfl rfl ?_
            refine W.aconstNull (pc := 278) at_278 ?_
            refine W.callV (pc := 279) (as := [.null]) 0 [] at_279 (w111 hw) (w112 hw) (w114 hw) (w114 hw) (w113 hw) (w41 hw) (w115 hw) (Hp.exa m1) (c68_equals hw hs) (by decide) pd_Ljava_lang_Object__Z rfl rfl rfl rfl (by decide) (fun v D' h => ?_)
            obtain ⟨rfl, rfl⟩ := h
            show W _ _ _ _ _ _ _ _ _ _ _ _ 282 _ [(vi 0)]
            refine W.ifN (pc := 282) at_282 (n_ne (by decide)) ?_
            refine W.iconst (pc := 285) (1) at_285 (by decide) ?_
            refine W.goto (pc := 286) 290 at_286 (by decide) ?_
            exact W.ireturn (pc := 290) at_290 rfl (Or.inr (Or.inl rfl)) (nw_bool (by decide)) (by decide) rfl
          ·
           exact absurd h309 (Classical.not_not.mpr (y_eq (by have := q0; omega)))
      ·
       have ih2 := f_eq h2
       show W _ _ _ _ _ _ _ _ _ _ _ _ 190 _ [(vr a23)]
       refine W.astore (pc := 190) (ls' := #[iv z0, iv z1, iv z2, iv z3, iv z4, iv z5, iv g2, iv g5, iv g7, iv g8, iv g9, iv g10, iv g12, iv g13, iv g14, iv g17, iv g18, iv g19, rv a23, uu, uu, uu, uu, uu, uu, uu, uu]) at_190 rfl rfl ?_
       refine W.iload (pc := 192) at_192 rfl ?_
       refine W.iload (pc := 194) at_194 rfl ?_
       refine W.iload (pc := 196) at_196 rfl ?_
       refine W.callS (pc := 198) (as := [(vi g9), (vi g10), (vi g5)]) 0 [] at_198 (w6 hw) (w7 hw) (w3 hw) (w8 hw) (c14_make hw hs (hx1 := hg9) (hx2 := hg10) (hx3 := hg5)) (by decide) pd_CCZ_Ljava_lang_String_ rfl rfl rfl rfl (by decide) (fun v D' h => ?_)
       rcases h with ⟨a150, a151, h327, rfl, rfl⟩ | ⟨a152, a153, h328, rfl, rfl⟩
       ·
        have ih327 := t_eq h327
        show W _ _ _ _ _ _ _ _ _ _ _ _ 201 _ [(vr a150)]
        refine W.astore (pc := 201) (ls' := #[iv z0, iv z1, iv z2, iv z3, iv z4, iv z5, iv g2, iv g5, iv g7, iv g8, iv g9, iv g10, iv g12, iv g13, iv g14, iv g17, iv g18, iv g19, rv a23, rv a150, uu, uu, uu, uu, uu, uu, uu]) at_201 rfl rfl ?_
        refine W.iload (pc := 203) at_203 rfl ?_
        refine W.iload (pc := 205) at_205 rfl ?_
        refine W.iload (pc := 207) at_207 rfl ?_
        refine W.callS (pc := 209) (as := [(vi g12), (vi g13), (vi g14)]) 0 [] at_209 (w6 hw) (w7 hw) (w3 hw) (w8 hw) (c3_make hw hs (hx1 := hg12) (hx2 := hg13) (hx3 := hg14)) (by decide) pd_CCZ_Ljava_lang_String_ rfl rfl rfl rfl (by decide) (fun v D' h => ?_)
        rcases h with ⟨a154, a155, h329, rfl, rfl⟩ | ⟨a156, a157, h330, rfl, rfl⟩
        ·
         have ih329 := t_eq h329
         show W _ _ _ _ _ _ _ _ _ _ _ _ 212 _ [(vr a154)]
         refine W.astore (pc := 212) (ls' := #[iv z0, iv z1, iv z2, iv z3, iv z4, iv z5, iv g2, iv g5, iv g7, iv g8, iv g9, iv g10, iv g12, iv g13, iv g14, iv g17, iv g18, iv g19, rv a23, rv a150, rv a154, uu, uu, uu, uu, uu, uu]) at_212 rfl rfl ?_
         refine W.iload (pc := 214) at_214 rfl ?_
         refine W.iload (pc := 216) at_216 rfl ?_
         refine W.iload (pc := 218) at_218 rfl ?_
         refine W.callS (pc := 220) (as := [(vi g17), (vi g18), (vi g19)]) 0 [] at_220 (w6 hw) (w7 hw) (w3 hw) (w8 hw) (c14_make hw hs (hx1 := hg17) (hx2 := hg18) (hx3 := hg19)) (by decide) pd_CCZ_Ljava_lang_String_ rfl rfl rfl rfl (by decide) (fun v D' h => ?_)
         rcases h with ⟨a158, a159, h331, rfl, rfl⟩ | ⟨a160, a161, h332, rfl, rfl⟩
         ·
          have ih331 := t_eq h331
          show W _ _ _ _ _ _ _ _ _ _ _ _ 223 _ [(vr a158)]
          refine W.astore (pc := 223) (ls' := #[iv z0, iv z1, iv z2, iv z3, iv z4, iv z5, iv g2, iv g5, iv g7, iv g8, iv g9, iv g10, iv g12, iv g13, iv g14, iv g17, iv g18, iv g19, rv a23, rv a150, rv a154, rv a158, uu, uu, uu, uu, uu]) at_223 rfl rfl ?_
          refine W.iload (pc := 225) at_225 rfl ?_
          refine W.iload (pc := 227) at_227 rfl ?_
          refine W.iload (pc := 229) at_229 rfl ?_
          refine W.callS (pc := 231) (as := [(vi g7), (vi g8), (vi g2)]) 0 [] at_231 (w6 hw) (w7 hw) (w3 hw) (w8 hw) (c3_make hw hs (hx1 := hg7) (hx2 := hg8) (hx3 := hg2)) (by decide) pd_CCZ_Ljava_lang_String_ rfl rfl rfl rfl (by decide) (fun v D' h => ?_)
          rcases h with ⟨a162, a163, h333, rfl, rfl⟩ | ⟨a164, a165, h334, rfl, rfl⟩
          ·
           exact absurd h333 (n_eq (by have := q0; omega))
          ·
           have ih334 := f_eq h334
           show W _ _ _ _ _ _ _ _ _ _ _ _ 234 _ [(vr a164)]
           refine W.astore (pc := 234) (ls' := #[iv z0, iv z1, iv z2, iv z3, iv z4, iv z5, iv g2, iv g5, iv g7, iv g8, iv g9, iv g10, iv g12, iv g13, iv g14, iv g17, iv g18, iv g19, rv a23, rv a150, rv a154, rv a158, rv a164, uu, uu, uu, uu]) at_234 rfl rfl ?_
           refine W.new (pc := 236) at_236 (w39 hw) (w40 hw) (w41 hw) (laJobKey hw) (by decide) (by decide) (fun a166 => ?_)
           show W _ _ _ _ _ _ _ _ _ _ _ _ 239 _ [(vr a166)]
           refine W.dup (pc := 239) at_239 rfl ?_
           refine W.aload (pc := 240) 18 at_240 rfl rfl ?_
           refine W.aload (pc := 242) 19 at_242 rfl rfl ?_
           refine W.callI (pc := 244) (as := [(vr a23), (vr a150)]) 1 [(vr a166)] at_244 rfl (w42 hw) (w43 hw) (w41 hw) (w44 hw) (c88_init hw hs (hx1 := hg7) (hx2 := hg8) (hx3 := hg9) (mog1Z := m12) (mp2 := m9) (mp4 := m8) (mog2Z := m11) (mog3Z := m10) (mog4Z := m15) (mp3 := m7) (mp5 := m6) (mog5Z := m14) (mog6Z := m13)) (by decide) pd_Ljava_lang_String_Ljava_lang_String__V rfl rfl rfl rfl (by decide) (fun v D' h => ?_)
           obtain ⟨rfl, rfl⟩ := h
           show W _ _ _ _ _ _ _ _ _ _ _ _ 247 _ [(vr a166)]
           refine W.astore (pc := 247) (ls' := #[iv z0, iv z1, iv z2, iv z3, iv z4, iv z5, iv g2, iv g5, iv g7, iv g8, iv g9, iv g10, iv g12, iv g13, iv g14, iv g17, iv g18, iv g19, rv a23, rv a150, rv a154, rv a158, rv a164, rv a166, uu, uu, uu]) at_247 rfl rfl ?_
           refine W.new (pc := 249) at_249 (w39 hw) (w40 hw) (w41 hw) (laJobKey hw) (by decide) (by decide) (fun a167 => ?_)
           show W _ _ _ _ _ _ _ _ _ _ _ _ 252 _ [(vr a167)]
           refine W.dup (pc := 252) at_252 rfl ?_
           refine W.aload (pc := 253) 20 at_253 rfl rfl ?_
           refine W.aload (pc := 255) 21 at_255 rfl rfl ?_
           refine W.callI (pc := 257) (as := [(vr a154), (vr a158)]) 1 [(vr a167)] at_257 rfl (w42 hw) (w43 hw) (w41 hw) (w44 hw) (c25_init hw hs (hx1 := hg12) (hx2 := hg17) (mog1Z := m13) (mp2 := m6) (mp4 := m5) (mog2Z := m12) (mog3Z := m11) (mog4Z := m16) (mp3 := m4) (mp5 := m3) (mog5Z := m15) (mog6Z := m14)) (by decide) pd_Ljava_lang_String_Ljava_lang_String__V rfl rfl rfl rfl (by decide) (fun v D' h => ?_)
           obtain ⟨rfl, rfl⟩ := h
           show W _ _ _ _ _ _ _ _ _ _ _ _ 260 _ [(vr a167)]
           refine W.astore (pc := 260) (ls' := #[iv z0, iv z1, iv z2, iv z3, iv z4, iv z5, iv g2, iv g5, iv g7, iv g8, iv g9, iv g10, iv g12, iv g13, iv g14, iv g17, iv g18, iv g19, rv a23, rv a150, rv a154, rv a158, rv a164, rv a166, rv a167, uu, uu]) at_260 rfl rfl ?_
           refine W.iload (pc := 262) at_262 rfl ?_
           refine W.iconst (pc := 264) (2) at_264 (by decide) ?_
           refine W.iushr (pc := 265) at_265 ?_
           refine W.iconst (pc := 266) (3) at_266 (by decide) ?_
           refine W.iand (pc := 267) at_267 ?_
           refine W.istore (pc := 268) (ls' := #[iv z0, iv z1, iv z2, iv z3, iv z4, iv z5, iv g2, iv g5, iv g7, iv g8, iv g9, iv g10, iv g12, iv g13, iv g14, iv g17, iv g18, iv g19, rv a23, rv a150, rv a154, rv a158, rv a164, rv a166, rv a167, iv ((XT.ushr z5 (2 : Int32)) &&& (3 : Int32)), uu]) at_268 rfl ?_
           refine W.iload (pc := 270) at_270 rfl ?_
           refine W.iconst (pc := 272) (1) at_272 (by decide) ?_
           refine W.icmp (pc := 273) 291 at_273 (by decide) (fun h335 => ?_) (fun h335 => ?_)
           ·
            have ih335 := t_ne h335
            refine W.iload (pc := 291) at_291 rfl ?_
            refine W.iconst (pc := 293) (2) at_293 (by decide) ?_
            refine W.icmp (pc := 294) 313 at_294 (by decide) (fun h336 => ?_) (fun h336 => ?_)
            ·
             have ih336 := t_ne h336
             refine W.iload (pc := 313) at_313 rfl ?_
             refine W.iconst (pc := 315) (3) at_315 (by decide) ?_
             refine W.icmp (pc := 316) 327 at_316 (by decide) (fun h337 => ?_) (fun h337 => ?_)
             ·
              have ih337 := t_ne h337
              refine W.iload (pc := 327) at_327 rfl ?_
              refine W.iload (pc := 329) at_329 rfl ?_
              refine W.iload (pc := 331) at_331 rfl ?_
              refine W.iload (pc := 333) at_333 rfl ?_
              refine W.iload (pc := 335) at_335 rfl ?_
              refine W.iload (pc := 337) at_337 rfl ?_
              refine W.callS (pc := 339) (as := [(vi g7), (vi g8), (vi g2), (vi g12), (vi g13), (vi g14)]) 0 [] at_339 (w108 hw) (w109 hw) (w3 hw) (w110 hw) (c59_same hw hs (hx1 := hg7) (hx2 := hg8) (hx3 := hg2) (hx4 := hg12) (hx5 := hg13) (hx6 := hg14)) (by decide) pd_CCZCCZ_Z rfl rfl rfl rfl (by decide) (fun v D' h => ?_)
              rcases h with ⟨h338, h339, h340, rfl, rfl⟩ | ⟨h341, h342, h343, h344, rfl, rfl⟩ | ⟨h345, h346, h347, h348, rfl, rfl⟩ | ⟨h349, h350, rfl, rfl⟩ | ⟨h351, rfl, rfl⟩
              ·
               exact absurd h338 (n_eq (by have := q0; have := rng32 z5; have := q2; have := aushr_2 z5; have := q3; have := am_3 (XT.ushr z5 (2 : Int32)); have := q1; omega))
              ·
               exact absurd h341 (n_eq (by have := q0; have := rng32 z5; have := q2; have := aushr_2 z5; have := q3; have := am_3 (XT.ushr z5 (2 : Int32)); have := q1; omega))
              ·
               exact absurd h345 (n_eq (by have := q0; have := rng32 z5; have := q2; have := aushr_2 z5; have := q3; have := am_3 (XT.ushr z5 (2 : Int32)); have := q1; omega))
              ·
               exact absurd h349 (n_eq (by have := q0; have := rng32 z5; have := q2; have := aushr_2 z5; have := q3; have := am_3 (XT.ushr z5 (2 : Int32)); have := q1; omega))
              ·
               have ih351 := f_eq h351
               show W _ _ _ _ _ _ _ _ _ _ _ _ 342 _ [(vi 0)]
               refine W.ifY (pc := 342) 367 at_342 (y_eq (by decide)) (by decide) ?_
               refine W.iconst (pc := 367) (0) at_367 (by decide) ?_
               refine W.istore (pc := 368) (ls' := #[iv z0, iv z1, iv z2, iv z3, iv z4, iv z5, iv g2, iv g5, iv g7, iv g8, iv g9, iv g10, iv g12, iv g13, iv g14, iv g17, iv g18, iv g19, rv a23, rv a150, rv a154, rv a158, rv a164, rv a166, rv a167, iv ((XT.ushr z5 (2 : Int32)) &&& (3 : Int32)), iv 0]) at_368 rfl ?_
               refine W.aload (pc := 370) 23 at_370 rfl rfl ?_
               refine W.aload (pc := 372) 24 at_372 rfl rfl ?_
               refine W.know (fun _ _ H => H.ne (i := 1) (j := 0) (by decide) rfl rfl (Or.inl rfl)) (fun ne168 => ?_)
               refine W.know (fun _ _ H => H.ne (i := 11) (j := 7) (by decide) rfl rfl (Or.inl rfl)) (fun ne169 => ?_)
               refine W.callV (pc := 374) (as := [(vr a167)]) 0 [] at_374 (w111 hw) (w112 hw) (w114 hw) (w114 hw) (w113 hw) (w41 hw) (w115 hw) (Hp.exa m1) (c100_equals hw hs (hx1 := hg7) (hx2 := hg8) (hx4 := hg12) (mp2 := m0) (mp1 := m1) (mp3 := m11) (mp5 := m7) (mp7 := m10) (mp9 := m6) (ne_p1_p2 := ne168) (ne_p3_p5 := ne169)) (by decide) pd_Ljava_lang_Object__Z rfl rfl rfl rfl (by decide) (fun v D' h => ?_)
               obtain ⟨rfl, rfl⟩ := h
               show W _ _ _ _ _ _ _ _ _ _ _ _ 377 _ [(vi 0)]
               refine W.iload (pc := 377) at_377 rfl ?_
               refine W.icmpN (pc := 379) at_379 (n_ne (by decide)) ?_
               refine W.aload (pc := 382) 24 at_382 rfl rfl ?_
               refine W.aload (pc := 384) 23 at_384 rfl rfl ?_
               refine W.callV (pc := 386) (as := [(vr a166)]) 0 [] at_386 (w111 hw) (w112 hw) (w114 hw) (w114 hw) (w113 hw) (w41 hw) (w115 hw) (Hp.exa m0) (c97_equals hw hs (hx1 := hg12) (hx3 := hg7) (hx4 := hg8) (mp2 := m1) (mp1 := m0) (mp3 := m7) (mp5 := m11) (mp7 := m6) (mp9 := m10) (ne_p1_p2 := (Ne.symm ne168)) (ne_p3_p5 := (Ne.symm ne169))) (by decide) pd_Ljava_lang_Object__Z rfl rfl rfl rfl (by decide) (fun v D' h => ?_)
               obtain ⟨rfl, rfl⟩ := h
               show W _ _ _ _ _ _ _ _ _ _ _ _ 389 _ [(vi 0)]
               refine W.iload (pc := 389) at_389 rfl ?_
               refine W.icmpN (pc := 391) at_391 (n_ne (by decide)) ?_
               refine W.iconst (pc := 394) (1) at_394 (by decide) ?_
               refine W.goto (pc := 395) 399 at_395 (by decide) ?_
               exact W.ireturn (pc := 399) at_399 rfl (Or.inr (Or.inl rfl)) (nw_bool (by decide)) (by decide) rfl
             ·
              have ih337 := f_ne h337
              refine W.aload (pc := 319) 23 at_319 rfl rfl ?_
              refine W.aload (pc := 321) 23 at_321 rfl rfl ?_
              refine W.callV (pc := 323) (as := [(vr a166)]) 0 [] at_323 (w111 hw) (w112 hw) (w114 hw) (w114 hw) (w113 hw) (w41 hw) (w115 hw) (Hp.exa m1) (c66_equals hw hs) (by decide) pd_Ljava_lang_Object__Z rfl rfl rfl rfl (by decide) (fun v D' h => ?_)
              obtain ⟨rfl, rfl⟩ := h
              show W _ _ _ _ _ _ _ _ _ _ _ _ 326 _ [(vi 1)]
              exact W.ireturn (pc := 326) at_326 rfl (Or.inr (Or.inl rfl)) (nw_bool (by decide)) (by decide) rfl
            ·
             have ih336 := f_ne h336
             refine W.aload (pc := 297) 23 at_297 rfl rfl ?_
             refine W.aload (pc := 299) 22 at_299 rfl rfl ?_
             refine W.know (fun _ _ H => H.ne (i := 1) (j := 3) (by decide) rfl rfl (Or.inl rfl)) (fun ne170 => ?_)
             refine W.callV (pc := 301) (as := [(vr a164)]) 0 [] at_301 (w111 hw) (w112 hw) (w114 hw) (w114 hw) (w113 hw) (w41 hw) (w115 hw) (Hp.exa m1) (c67_equals hw hs (mp2 := m3) (ne_p1_p2 := ne170)) (by decide) pd_Ljava_lang_Object__Z rfl rfl rfl rfl (by decide) (fun v D' h => ?_)
             obtain ⟨rfl, rfl⟩ := h
             show W _ _ _ _ _ _ _ _ _ _ _ _ 304 _ [(vi 0)]
             refine W.ifN (pc := 304) at_304 (n_ne (by decide)) ?_
             refine W.iconst (pc := 307) (1) at_307 (by decide) ?_
             refine W.goto (pc := 308) 312 at_308 (by decide) ?_
             exact W.ireturn (pc := 312) at_312 rfl (Or.inr (Or.inl rfl)) (nw_bool (by decide)) (by decide) rfl
           ·
            have ih335 := f_ne h335
            refine W.aload (pc := 276) 23 at_276 rfl rfl ?_
            refine W.aconstNull (pc := 278) at_278 ?_
            refine W.callV (pc := 279) (as := [.null]) 0 [] at_279 (w111 hw) (w112 hw) (w114 hw) (w114 hw) (w113 hw) (w41 hw) (w115 hw) (Hp.exa m1) (c68_equals hw hs) (by decide) pd_Ljava_lang_Object__Z rfl rfl rfl rfl (by decide) (fun v D' h => ?_)
            obtain ⟨rfl, rfl⟩ := h
            show W _ _ _ _ _ _ _ _ _ _ _ _ 282 _ [(vi 0)]
            refine W.ifN (pc := 282) at_282 (n_ne (by decide)) ?_
            refine W.iconst (pc := 285) (1) at_285 (by decide) ?_
            refine W.goto (pc := 286) 290 at_286 (by decide) ?_
            exact W.ireturn (pc := 290) at_290 rfl (Or.inr (Or.inl rfl)) (nw_bool (by decide)) (by decide) rfl
         ·
          have ih332 := f_eq h332
          show W _ _ _ _ _ _ _ _ _ _ _ _ 223 _ [(vr a160)]
          refine W.astore (pc := 223) (ls' := #[iv z0, iv z1, iv z2, iv z3, iv z4, iv z5, iv g2, iv g5, iv g7, iv g8, iv g9, iv g10, iv g12, iv g13, iv g14, iv g17, iv g18, iv g19, rv a23, rv a150, rv a154, rv a160, uu, uu, uu, uu, uu]) at_223 rfl rfl ?_
          refine W.iload (pc := 225) at_225 rfl ?_
          refine W.iload (pc := 227) at_227 rfl ?_
          refine W.iload (pc := 229) at_229 rfl ?_
          refine W.callS (pc := 231) (as := [(vi g7), (vi g8), (vi g2)]) 0 [] at_231 (w6 hw) (w7 hw) (w3 hw) (w8 hw) (c3_make hw hs (hx1 := hg7) (hx2 := hg8) (hx3 := hg2)) (by decide) pd_CCZ_Ljava_lang_String_ rfl rfl rfl rfl (by decide) (fun v D' h => ?_)
          rcases h with ⟨a171, a172, h352, rfl, rfl⟩ | ⟨a173, a174, h353, rfl, rfl⟩
          ·
           exact absurd h352 (n_eq (by have := q0; omega))
          ·
           have ih353 := f_eq h353
           show W _ _ _ _ _ _ _ _ _ _ _ _ 234 _ [(vr a173)]
           refine W.astore (pc := 234) (ls' := #[iv z0, iv z1, iv z2, iv z3, iv z4, iv z5, iv g2, iv g5, iv g7, iv g8, iv g9, iv g10, iv g12, iv g13, iv g14, iv g17, iv g18, iv g19, rv a23, rv a150, rv a154, rv a160, rv a173, uu, uu, uu, uu]) at_234 rfl rfl ?_
           refine W.new (pc := 236) at_236 (w39 hw) (w40 hw) (w41 hw) (laJobKey hw) (by decide) (by decide) (fun a175 => ?_)
           show W _ _ _ _ _ _ _ _ _ _ _ _ 239 _ [(vr a175)]
           refine W.dup (pc := 239) at_239 rfl ?_
           refine W.aload (pc := 240) 18 at_240 rfl rfl ?_
           refine W.aload (pc := 242) 19 at_242 rfl rfl ?_
           refine W.callI (pc := 244) (as := [(vr a23), (vr a150)]) 1 [(vr a175)] at_244 rfl (w42 hw) (w43 hw) (w41 hw) (w44 hw) (c88_init hw hs (hx1 := hg7) (hx2 := hg8) (hx3 := hg9) (mog1Z := m12) (mp2 := m9) (mp4 := m8) (mog2Z := m11) (mog3Z := m10) (mog4Z := m15) (mp3 := m7) (mp5 := m6) (mog5Z := m14) (mog6Z := m13)) (by decide) pd_Ljava_lang_String_Ljava_lang_String__V rfl rfl rfl rfl (by decide) (fun v D' h => ?_)
           obtain ⟨rfl, rfl⟩ := h
           show W _ _ _ _ _ _ _ _ _ _ _ _ 247 _ [(vr a175)]
           refine W.astore (pc := 247) (ls' := #[iv z0, iv z1, iv z2, iv z3, iv z4, iv z5, iv g2, iv g5, iv g7, iv g8, iv g9, iv g10, iv g12, iv g13, iv g14, iv g17, iv g18, iv g19, rv a23, rv a150, rv a154, rv a160, rv a173, rv a175, uu, uu, uu]) at_247 rfl rfl ?_
           refine W.new (pc := 249) at_249 (w39 hw) (w40 hw) (w41 hw) (laJobKey hw) (by decide) (by decide) (fun a176 => ?_)
           show W _ _ _ _ _ _ _ _ _ _ _ _ 252 _ [(vr a176)]
           refine W.dup (pc := 252) at_252 rfl ?_
           refine W.aload (pc := 253) 20 at_253 rfl rfl ?_
           refine W.aload (pc := 255) 21 at_255 rfl rfl ?_
           refine W.callI (pc := 257) (as := [(vr a154), (vr a160)]) 1 [(vr a176)] at_257 rfl (w42 hw) (w43 hw) (w41 hw) (w44 hw) (c69_init hw hs (hx1 := hg12) (hx2 := hg17) (hx3 := hg18) (mog1Z := m13) (mp2 := m6) (mp4 := m5) (mog2Z := m12) (mog3Z := m11) (mog4Z := m16) (mp3 := m4) (mp5 := m3) (mog5Z := m15) (mog6Z := m14)) (by decide) pd_Ljava_lang_String_Ljava_lang_String__V rfl rfl rfl rfl (by decide) (fun v D' h => ?_)
           obtain ⟨rfl, rfl⟩ := h
           show W _ _ _ _ _ _ _ _ _ _ _ _ 260 _ [(vr a176)]
           refine W.astore (pc := 260) (ls' := #[iv z0, iv z1, iv z2, iv z3, iv z4, iv z5, iv g2, iv g5, iv g7, iv g8, iv g9, iv g10, iv g12, iv g13, iv g14, iv g17, iv g18, iv g19, rv a23, rv a150, rv a154, rv a160, rv a173, rv a175, rv a176, uu, uu]) at_260 rfl rfl ?_
           refine W.iload (pc := 262) at_262 rfl ?_
           refine W.iconst (pc := 264) (2) at_264 (by decide) ?_
           refine W.iushr (pc := 265) at_265 ?_
           refine W.iconst (pc := 266) (3) at_266 (by decide) ?_
           refine W.iand (pc := 267) at_267 ?_
           refine W.istore (pc := 268) (ls' := #[iv z0, iv z1, iv z2, iv z3, iv z4, iv z5, iv g2, iv g5, iv g7, iv g8, iv g9, iv g10, iv g12, iv g13, iv g14, iv g17, iv g18, iv g19, rv a23, rv a150, rv a154, rv a160, rv a173, rv a175, rv a176, iv ((XT.ushr z5 (2 : Int32)) &&& (3 : Int32)), uu]) at_268 rfl ?_
           refine W.iload (pc := 270) at_270 rfl ?_
           refine W.iconst (pc := 272) (1) at_272 (by decide) ?_
           refine W.icmp (pc := 273) 291 at_273 (by decide) (fun h354 => ?_) (fun h354 => ?_)
           ·
            have ih354 := t_ne h354
            refine W.iload (pc := 291) at_291 rfl ?_
            refine W.iconst (pc := 293) (2) at_293 (by decide) ?_
            refine W.icmp (pc := 294) 313 at_294 (by decide) (fun h355 => ?_) (fun h355 => ?_)
            ·
             have ih355 := t_ne h355
             refine W.iload (pc := 313) at_313 rfl ?_
             refine W.iconst (pc := 315) (3) at_315 (by decide) ?_
             refine W.icmp (pc := 316) 327 at_316 (by decide) (fun h356 => ?_) (fun h356 => ?_)
             ·
              have ih356 := t_ne h356
              refine W.iload (pc := 327) at_327 rfl ?_
              refine W.iload (pc := 329) at_329 rfl ?_
              refine W.iload (pc := 331) at_331 rfl ?_
              refine W.iload (pc := 333) at_333 rfl ?_
              refine W.iload (pc := 335) at_335 rfl ?_
              refine W.iload (pc := 337) at_337 rfl ?_
              refine W.callS (pc := 339) (as := [(vi g7), (vi g8), (vi g2), (vi g12), (vi g13), (vi g14)]) 0 [] at_339 (w108 hw) (w109 hw) (w3 hw) (w110 hw) (c59_same hw hs (hx1 := hg7) (hx2 := hg8) (hx3 := hg2) (hx4 := hg12) (hx5 := hg13) (hx6 := hg14)) (by decide) pd_CCZCCZ_Z rfl rfl rfl rfl (by decide) (fun v D' h => ?_)
              rcases h with ⟨h357, h358, h359, rfl, rfl⟩ | ⟨h360, h361, h362, h363, rfl, rfl⟩ | ⟨h364, h365, h366, h367, rfl, rfl⟩ | ⟨h368, h369, rfl, rfl⟩ | ⟨h370, rfl, rfl⟩
              ·
               exact absurd h357 (n_eq (by have := q0; have := rng32 z5; have := q2; have := aushr_2 z5; have := q3; have := am_3 (XT.ushr z5 (2 : Int32)); have := q1; omega))
              ·
               exact absurd h360 (n_eq (by have := q0; have := rng32 z5; have := q2; have := aushr_2 z5; have := q3; have := am_3 (XT.ushr z5 (2 : Int32)); have := q1; omega))
              ·
               exact absurd h364 (n_eq (by have := q0; have := rng32 z5; have := q2; have := aushr_2 z5; have := q3; have := am_3 (XT.ushr z5 (2 : Int32)); have := q1; omega))
              ·
               exact absurd h368 (n_eq (by have := q0; have := rng32 z5; have := q2; have := aushr_2 z5; have := q3; have := am_3 (XT.ushr z5 (2 : Int32)); have := q1; omega))
              ·
               have ih370 := f_eq h370
               show W _ _ _ _ _ _ _ _ _ _ _ _ 342 _ [(vi 0)]
               refine W.ifY (pc := 342) 367 at_342 (y_eq (by decide)) (by decide) ?_
               refine W.iconst (pc := 367) (0) at_367 (by decide) ?_
               refine W.istore (pc := 368) (ls' := #[iv z0, iv z1, iv z2, iv z3, iv z4, iv z5, iv g2, iv g5, iv g7, iv g8, iv g9, iv g10, iv g12, iv g13, iv g14, iv g17, iv g18, iv g19, rv a23, rv a150, rv a154, rv a160, rv a173, rv a175, rv a176, iv ((XT.ushr z5 (2 : Int32)) &&& (3 : Int32)), iv 0]) at_368 rfl ?_
               refine W.aload (pc := 370) 23 at_370 rfl rfl ?_
               refine W.aload (pc := 372) 24 at_372 rfl rfl ?_
               refine W.know (fun _ _ H => H.ne (i := 1) (j := 0) (by decide) rfl rfl (Or.inl rfl)) (fun ne177 => ?_)
               refine W.know (fun _ _ H => H.ne (i := 11) (j := 7) (by decide) rfl rfl (Or.inl rfl)) (fun ne178 => ?_)
               refine W.callV (pc := 374) (as := [(vr a176)]) 0 [] at_374 (w111 hw) (w112 hw) (w114 hw) (w114 hw) (w113 hw) (w41 hw) (w115 hw) (Hp.exa m1) (c100_equals hw hs (hx1 := hg7) (hx2 := hg8) (hx4 := hg12) (mp2 := m0) (mp1 := m1) (mp3 := m11) (mp5 := m7) (mp7 := m10) (mp9 := m6) (ne_p1_p2 := ne177) (ne_p3_p5 := ne178)) (by decide) pd_Ljava_lang_Object__Z rfl rfl rfl rfl (by decide) (fun v D' h => ?_)
               obtain ⟨rfl, rfl⟩ := h
               show W _ _ _ _ _ _ _ _ _ _ _ _ 377 _ [(vi 0)]
               refine W.iload (pc := 377) at_377 rfl ?_
               refine W.icmpN (pc := 379) at_379 (n_ne (by decide)) ?_
               refine W.aload (pc := 382) 24 at_382 rfl rfl ?_
               refine W.aload (pc := 384) 23 at_384 rfl rfl ?_
               refine W.callV (pc := 386) (as := [(vr a175)]) 0 [] at_386 (w111 hw) (w112 hw) (w114 hw) (w114 hw) (w113 hw) (w41 hw) (w115 hw) (Hp.exa m0) (c97_equals hw hs (hx1 := hg12) (hx3 := hg7) (hx4 := hg8) (mp2 := m1) (mp1 := m0) (mp3 := m7) (mp5 := m11) (mp7 := m6) (mp9 := m10) (ne_p1_p2 := (Ne.symm ne177)) (ne_p3_p5 := (Ne.symm ne178))) (by decide) pd_Ljava_lang_Object__Z rfl rfl rfl rfl (by decide) (fun v D' h => ?_)
               obtain ⟨rfl, rfl⟩ := h
               show W _ _ _ _ _ _ _ _ _ _ _ _ 389 _ [(vi 0)]
               refine W.iload (pc := 389) at_389 rfl ?_
               refine W.icmpN (pc := 391) at_391 (n_ne (by decide)) ?_
               refine W.iconst (pc := 394) (1) at_394 (by decide) ?_
               refine W.goto (pc := 395) 399 at_395 (by decide) ?_
               exact W.ireturn (pc := 399) at_399 rfl (Or.inr (Or.inl rfl)) (nw_bool (by decide)) (by decide) rfl
             ·
              have ih356 := f_ne h356
              refine W.aload (pc := 319) 23 at_319 rfl rfl ?_
              refine W.aload (pc := 321) 23 at_321 rfl rfl ?_
              refine W.callV (pc := 323) (as := [(vr a175)]) 0 [] at_323 (w111 hw) (w112 hw) (w114 hw) (w114 hw) (w113 hw) (w41 hw) (w115 hw) (Hp.exa m1) (c66_equals hw hs) (by decide) pd_Ljava_lang_Object__Z rfl rfl rfl rfl (by decide) (fun v D' h => ?_)
              obtain ⟨rfl, rfl⟩ := h
              show W _ _ _ _ _ _ _ _ _ _ _ _ 326 _ [(vi 1)]
              exact W.ireturn (pc := 326) at_326 rfl (Or.inr (Or.inl rfl)) (nw_bool (by decide)) (by decide) rfl
            ·
             have ih355 := f_ne h355
             refine W.aload (pc := 297) 23 at_297 rfl rfl ?_
             refine W.aload (pc := 299) 22 at_299 rfl rfl ?_
             refine W.know (fun _ _ H => H.ne (i := 1) (j := 3) (by decide) rfl rfl (Or.inl rfl)) (fun ne179 => ?_)
             refine W.callV (pc := 301) (as := [(vr a173)]) 0 [] at_301 (w111 hw) (w112 hw) (w114 hw) (w114 hw) (w113 hw) (w41 hw) (w115 hw) (Hp.exa m1) (c67_equals hw hs (mp2 := m3) (ne_p1_p2 := ne179)) (by decide) pd_Ljava_lang_Object__Z rfl rfl rfl rfl (by decide) (fun v D' h => ?_)
             obtain ⟨rfl, rfl⟩ := h
             show W _ _ _ _ _ _ _ _ _ _ _ _ 304 _ [(vi 0)]
             refine W.ifN (pc := 304) at_304 (n_ne (by decide)) ?_
             refine W.iconst (pc := 307) (1) at_307 (by decide) ?_
             refine W.goto (pc := 308) 312 at_308 (by decide) ?_
             exact W.ireturn (pc := 312) at_312 rfl (Or.inr (Or.inl rfl)) (nw_bool (by decide)) (by decide) rfl
           ·
            have ih354 := f_ne h354
            refine W.aload (pc := 276) 23 at_276 rfl rfl ?_
            refine W.aconstNull (pc := 278) at_278 ?_
            refine W.callV (pc := 279) (as := [.null]) 0 [] at_279 (w111 hw) (w112 hw) (w114 hw) (w114 hw) (w113 hw) (w41 hw) (w115 hw) (Hp.exa m1) (c68_equals hw hs) (by decide) pd_Ljava_lang_Object__Z rfl rfl rfl rfl (by decide) (fun v D' h => ?_)
            obtain ⟨rfl, rfl⟩ := h
            show W _ _ _ _ _ _ _ _ _ _ _ _ 282 _ [(vi 0)]
            refine W.ifN (pc := 282) at_282 (n_ne (by decide)) ?_
            refine W.iconst (pc := 285) (1) at_285 (by decide) ?_
            refine W.goto (pc := 286) 290 at_286 (by decide) ?_
            exact W.ireturn (pc := 290) at_290 rfl (Or.inr (Or.inl rfl)) (nw_bool (by decide)) (by decide) rfl
        ·
         have ih330 := f_eq h330
         show W _ _ _ _ _ _ _ _ _ _ _ _ 212 _ [(vr a156)]
         refine W.astore (pc := 212) (ls' := #[iv z0, iv z1, iv z2, iv z3, iv z4, iv z5, iv g2, iv g5, iv g7, iv g8, iv g9, iv g10, iv g12, iv g13, iv g14, iv g17, iv g18, iv g19, rv a23, rv a150, rv a156, uu, uu, uu, uu, uu, uu]) at_212 rfl rfl ?_
         refine W.iload (pc := 214) at_214 rfl ?_
         refine W.iload (pc := 216) at_216 rfl ?_
         refine W.iload (pc := 218) at_218 rfl ?_
         refine W.callS (pc := 220) (as := [(vi g17), (vi g18), (vi g19)]) 0 [] at_220 (w6 hw) (w7 hw) (w3 hw) (w8 hw) (c14_make hw hs (hx1 := hg17) (hx2 := hg18) (hx3 := hg19)) (by decide) pd_CCZ_Ljava_lang_String_ rfl rfl rfl rfl (by decide) (fun v D' h => ?_)
         rcases h with ⟨a180, a181, h371, rfl, rfl⟩ | ⟨a182, a183, h372, rfl, rfl⟩
         ·
          have ih371 := t_eq h371
          show W _ _ _ _ _ _ _ _ _ _ _ _ 223 _ [(vr a180)]
          refine W.astore (pc := 223) (ls' := #[iv z0, iv z1, iv z2, iv z3, iv z4, iv z5, iv g2, iv g5, iv g7, iv g8, iv g9, iv g10, iv g12, iv g13, iv g14, iv g17, iv g18, iv g19, rv a23, rv a150, rv a156, rv a180, uu, uu, uu, uu, uu]) at_223 rfl rfl ?_
          refine W.iload (pc := 225) at_225 rfl ?_
          refine W.iload (pc := 227) at_227 rfl ?_
          refine W.iload (pc := 229) at_229 rfl ?_
          refine W.callS (pc := 231) (as := [(vi g7), (vi g8), (vi g2)]) 0 [] at_231 (w6 hw) (w7 hw) (w3 hw) (w8 hw) (c3_make hw hs (hx1 := hg7) (hx2 := hg8) (hx3 := hg2)) (by decide) pd_CCZ_Ljava_lang_String_ rfl rfl rfl rfl (by decide) (fun v D' h => ?_)
          rcases h with ⟨a184, a185, h373, rfl, rfl⟩ | ⟨a186, a187, h374, rfl, rfl⟩
          ·
           exact absurd h373 (n_eq (by have := q0; omega))
          ·
           have ih374 := f_eq h374
           show W _ _ _ _ _ _ _ _ _ _ _ _ 234 _ [(vr a186)]
           refine W.astore (pc := 234) (ls' := #[iv z0, iv z1, iv z2, iv z3, iv z4, iv z5, iv g2, iv g5, iv g7, iv g8, iv g9, iv g10, iv g12, iv g13, iv g14, iv g17, iv g18, iv g19, rv a23, rv a150, rv a156, rv a180, rv a186, uu, uu, uu, uu]) at_234 rfl rfl ?_
           refine W.new (pc := 236) at_236 (w39 hw) (w40 hw) (w41 hw) (laJobKey hw) (by decide) (by decide) (fun a188 => ?_)
           show W _ _ _ _ _ _ _ _ _ _ _ _ 239 _ [(vr a188)]
           refine W.dup (pc := 239) at_239 rfl ?_
           refine W.aload (pc := 240) 18 at_240 rfl rfl ?_
           refine W.aload (pc := 242) 19 at_242 rfl rfl ?_
           refine W.callI (pc := 244) (as := [(vr a23), (vr a150)]) 1 [(vr a188)] at_244 rfl (w42 hw) (w43 hw) (w41 hw) (w44 hw) (c88_init hw hs (hx1 := hg7) (hx2 := hg8) (hx3 := hg9) (mog1Z := m12) (mp2 := m9) (mp4 := m8) (mog2Z := m11) (mog3Z := m10) (mog4Z := m15) (mp3 := m7) (mp5 := m6) (mog5Z := m14) (mog6Z := m13)) (by decide) pd_Ljava_lang_String_Ljava_lang_String__V rfl rfl rfl rfl (by decide) (fun v D' h => ?_)
           obtain ⟨rfl, rfl⟩ := h
           show W _ _ _ _ _ _ _ _ _ _ _ _ 247 _ [(vr a188)]
           refine W.astore (pc := 247) (ls' := #[iv z0, iv z1, iv z2, iv z3, iv z4, iv z5, iv g2, iv g5, iv g7, iv g8, iv g9, iv g10, iv g12, iv g13, iv g14, iv g17, iv g18, iv g19, rv a23, rv a150, rv a156, rv a180, rv a186, rv a188, uu, uu, uu]) at_247 rfl rfl ?_
           refine W.new (pc := 249) at_249 (w39 hw) (w40 hw) (w41 hw) (laJobKey hw) (by decide) (by decide) (fun a189 => ?_)
           show W _ _ _ _ _ _ _ _ _ _ _ _ 252 _ [(vr a189)]
           refine W.dup (pc := 252) at_252 rfl ?_
           refine W.aload (pc := 253) 20 at_253 rfl rfl ?_
           refine W.aload (pc := 255) 21 at_255 rfl rfl ?_
           refine W.callI (pc := 257) (as := [(vr a156), (vr a180)]) 1 [(vr a189)] at_257 rfl (w42 hw) (w43 hw) (w41 hw) (w44 hw) (c88_init hw hs (hx1 := hg12) (hx2 := hg13) (hx3 := hg17) (mog1Z := m13) (mp2 := m6) (mp4 := m5) (mog2Z := m12) (mog3Z := m11) (mog4Z := m16) (mp3 := m4) (mp5 := m3) (mog5Z := m15) (mog6Z := m14)) (by decide) pd_Ljava_lang_String_Ljava_lang_String__V rfl rfl rfl rfl (by decide) (fun v D' h => ?_)
           obtain ⟨rfl, rfl⟩ := h
           show W _ _ _ _ _ _ _ _ _ _ _ _ 260 _ [(vr a189)]
           refine W.astore (pc := 260) (ls' := #[iv z0, iv z1, iv z2, iv z3, iv z4, iv z5, iv g2, iv g5, iv g7, iv g8, iv g9, iv g10, iv g12, iv g13, iv g14, iv g17, iv g18, iv g19, rv a23, rv a150, rv a156, rv a180, rv a186, rv a188, rv a189, uu, uu]) at_260 rfl rfl ?_
           refine W.iload (pc := 262) at_262 rfl ?_
           refine W.iconst (pc := 264) (2) at_264 (by decide) ?_
           refine W.iushr (pc := 265) at_265 ?_
           refine W.iconst (pc := 266) (3) at_266 (by decide) ?_
           refine W.iand (pc := 267) at_267 ?_
           refine W.istore (pc := 268) (ls' := #[iv z0, iv z1, iv z2, iv z3, iv z4, iv z5, iv g2, iv g5, iv g7, iv g8, iv g9, iv g10, iv g12, iv g13, iv g14, iv g17, iv g18, iv g19, rv a23, rv a150, rv a156, rv a180, rv a186, rv a188, rv a189, iv ((XT.ushr z5 (2 : Int32)) &&& (3 : Int32)), uu]) at_268 rfl ?_
           refine W.iload (pc := 270) at_270 rfl ?_
           refine W.iconst (pc := 272) (1) at_272 (by decide) ?_
           refine W.icmp (pc := 273) 291 at_273 (by decide) (fun h375 => ?_) (fun h375 => ?_)
           ·
            have ih375 := t_ne h375
            refine W.iload (pc := 291) at_291 rfl ?_
            refine W.iconst (pc := 293) (2) at_293 (by decide) ?_
            refine W.icmp (pc := 294) 313 at_294 (by decide) (fun h376 => ?_) (fun h376 => ?_)
            ·
             have ih376 := t_ne h376
             refine W.iload (pc := 313) at_313 rfl ?_
             refine W.iconst (pc := 315) (3) at_315 (by decide) ?_
             refine W.icmp (pc := 316) 327 at_316 (by decide) (fun h377 => ?_) (fun h377 => ?_)
             ·
              have ih377 := t_ne h377
              refine W.iload (pc := 327) at_327 rfl ?_
              refine W.iload (pc := 329) at_329 rfl ?_
              refine W.iload (pc := 331) at_331 rfl ?_
              refine W.iload (pc := 333) at_333 rfl ?_
              refine W.iload (pc := 335) at_335 rfl ?_
              refine W.iload (pc := 337) at_337 rfl ?_
              refine W.callS (pc := 339) (as := [(vi g7), (vi g8), (vi g2), (vi g12), (vi g13), (vi g14)]) 0 [] at_339 (w108 hw) (w109 hw) (w3 hw) (w110 hw) (c59_same hw hs (hx1 := hg7) (hx2 := hg8) (hx3 := hg2) (hx4 := hg12) (hx5 := hg13) (hx6 := hg14)) (by decide) pd_CCZCCZ_Z rfl rfl rfl rfl (by decide) (fun v D' h => ?_)
              rcases h with ⟨h378, h379, h380, rfl, rfl⟩ | ⟨h381, h382, h383, h384, rfl, rfl⟩ | ⟨h385, h386, h387, h388, rfl, rfl⟩ | ⟨h389, h390, rfl, rfl⟩ | ⟨h391, rfl, rfl⟩
              ·
               have ih378 := t_eq h378
               have ih379 := t_eq h379
               exact absurd h380 (n_eq (by have := q0; have := rng32 z5; have := q2; have := aushr_2 z5; have := q3; have := am_3 (XT.ushr z5 (2 : Int32)); have := q1; omega))
              ·
               have ih381 := t_eq h381
               have ih382 := t_eq h382
               have ih383 := f_eq h383
               have ih384 := t_ne h384
               show W _ _ _ _ _ _ _ _ _ _ _ _ 342 _ [(vi 0)]
               refine W.ifY (pc := 342) 367 at_342 (y_eq (by decide)) (by decide) ?_
               refine W.iconst (pc := 367) (0) at_367 (by decide) ?_
               refine W.istore (pc := 368) (ls' := #[iv z0, iv z1, iv z2, iv z3, iv z4, iv z5, iv g2, iv g5, iv g7, iv g8, iv g9, iv g10, iv g12, iv g13, iv g14, iv g17, iv g18, iv g19, rv a23, rv a150, rv a156, rv a180, rv a186, rv a188, rv a189, iv ((XT.ushr z5 (2 : Int32)) &&& (3 : Int32)), iv 0]) at_368 rfl ?_
               refine W.aload (pc := 370) 23 at_370 rfl rfl ?_
               refine W.aload (pc := 372) 24 at_372 rfl rfl ?_
               refine W.know (fun _ _ H => H.ne (i := 1) (j := 0) (by decide) rfl rfl (Or.inl rfl)) (fun ne190 => ?_)
               refine W.know (fun _ _ H => H.ne (i := 11) (j := 7) (by decide) rfl rfl (Or.inl rfl)) (fun ne191 => ?_)
               refine W.know (fun _ _ H => H.ne (i := 9) (j := 5) (by decide) rfl rfl (Or.inl rfl)) (fun ne192 => ?_)
               refine W.callV (pc := 374) (as := [(vr a189)]) 0 [] at_374 (w111 hw) (w112 hw) (w114 hw) (w114 hw) (w113 hw) (w41 hw) (w115 hw) (Hp.exa m1) (c107_equals hw hs (hx1 := hg7) (hx2 := hg8) (hx3 := hg9) (hx4 := hg12) (hx5 := hg13) (hx6 := hg17) (mp2 := m0) (mp1 := m1) (mp3 := m11) (mp5 := m7) (mp7 := m10) (mp9 := m6) (mp4 := m9) (mp6 := m5) (mp8 := m8) (mp10 := m4) (ne_p1_p2 := ne190) (ne_p3_p5 := ne191) (ne_p4_p6 := ne192)) (by decide) pd_Ljava_lang_Object__Z rfl rfl rfl rfl (by decide) (fun v D' h => ?_)
               rcases h with ⟨h392, h393, h394, rfl, rfl⟩ | ⟨h395, h396, h397, rfl, rfl⟩ | ⟨h398, h399, rfl, rfl⟩ | ⟨h400, rfl, rfl⟩
               ·
                have ih392 := t_eq h392
                exact absurd h393 (n_eq (by have := q0; have := rng32 z5; have := q2; have := aushr_2 z5; have := q3; have := am_3 (XT.ushr z5 (2 : Int32)); have := q1; omega))
               ·
                have ih395 := t_eq h395
                exact absurd h396 (n_eq (by have := q0; have := rng32 z5; have := q2; have := aushr_2 z5; have := q3; have := am_3 (XT.ushr z5 (2 : Int32)); have := q1; omega))
               ·
                have ih398 := t_eq h398
                have ih399 := f_eq h399
                show W _ _ _ _ _ _ _ _ _ _ _ _ 377 _ [(vi 0)]
                refine W.iload (pc := 377) at_377 rfl ?_
                refine W.icmpN (pc := 379) at_379 (n_ne (by decide)) ?_
                refine W.aload (pc := 382) 24 at_382 rfl rfl ?_
                refine W.aload (pc := 384) 23 at_384 rfl rfl ?_
                refine W.callV (pc := 386) (as := [(vr a188)]) 0 [] at_386 (w111 hw) (w112 hw) (w114 hw) (w114 hw) (w113 hw) (w41 hw) (w115 hw) (Hp.exa m0) (c107_equals hw hs (hx1 := hg12) (hx2 := hg13) (hx3 := hg17) (hx4 := hg7) (hx5 := hg8) (hx6 := hg9) (mp2 := m1) (mp1 := m0) (mp3 := m7) (mp5 := m11) (mp7 := m6) (mp9 := m10) (mp4 := m5) (mp6 := m9) (mp8 := m4) (mp10 := m8) (ne_p1_p2 := (Ne.symm ne190)) (ne_p3_p5 := (Ne.symm ne191)) (ne_p4_p6 := (Ne.symm ne192))) (by decide) pd_Ljava_lang_Object__Z rfl rfl rfl rfl (by decide) (fun v D' h => ?_)
                rcases h with ⟨h401, h402, h403, rfl, rfl⟩ | ⟨h404, h405, h406, rfl, rfl⟩ | ⟨h407, h408, rfl, rfl⟩ | ⟨h409, rfl, rfl⟩
                ·
                 have ih401 := t_eq h401
                 exact absurd h402 (n_eq (by have := q0; have := rng32 z5; have := q2; have := aushr_2 z5; have := q3; have := am_3 (XT.ushr z5 (2 : Int32)); have := q1; omega))
                ·
                 have ih404 := t_eq h404
                 exact absurd h405 (n_eq (by have := q0; have := rng32 z5; have := q2; have := aushr_2 z5; have := q3; have := am_3 (XT.ushr z5 (2 : Int32)); have := q1; omega))
                ·
                 have ih407 := t_eq h407
                 have ih408 := f_eq h408
                 show W _ _ _ _ _ _ _ _ _ _ _ _ 389 _ [(vi 0)]
                 refine W.iload (pc := 389) at_389 rfl ?_
                 refine W.icmpN (pc := 391) at_391 (n_ne (by decide)) ?_
                 refine W.iconst (pc := 394) (1) at_394 (by decide) ?_
                 refine W.goto (pc := 395) 399 at_395 (by decide) ?_
                 exact W.ireturn (pc := 399) at_399 rfl (Or.inr (Or.inl rfl)) (nw_bool (by decide)) (by decide) rfl
                ·
                 exact absurd h409 (Classical.not_not.mpr (y_eq (by have := q0; have := rng32 z5; have := q2; have := aushr_2 z5; have := q3; have := am_3 (XT.ushr z5 (2 : Int32)); have := q1; omega)))
               ·
                exact absurd h400 (Classical.not_not.mpr (y_eq (by have := q0; have := rng32 z5; have := q2; have := aushr_2 z5; have := q3; have := am_3 (XT.ushr z5 (2 : Int32)); have := q1; omega)))
              ·
               have ih385 := t_eq h385
               have ih386 := t_eq h386
               have ih387 := f_eq h387
               have ih388 := f_ne h388
               show W _ _ _ _ _ _ _ _ _ _ _ _ 342 _ [(vi 1)]
               refine W.ifN (pc := 342) at_342 (n_eq (by decide)) ?_
               refine W.iload (pc := 345) at_345 rfl ?_
               refine W.iload (pc := 347) at_347 rfl ?_
               refine W.iload (pc := 349) at_349 rfl ?_
               refine W.iload (pc := 351) at_351 rfl ?_
               refine W.iload (pc := 353) at_353 rfl ?_
               refine W.iload (pc := 355) at_355 rfl ?_
               refine W.callS (pc := 357) (as := [(vi g9), (vi g10), (vi g5), (vi g17), (vi g18), (vi g19)]) 0 [] at_357 (w108 hw) (w109 hw) (w3 hw) (w110 hw) (c60_same hw hs (hx1 := hg9) (hx2 := hg10) (hx3 := hg5) (hx4 := hg17) (hx5 := hg18) (hx6 := hg19)) (by decide) pd_CCZCCZ_Z rfl rfl rfl rfl (by decide) (fun v D' h => ?_)
               rcases h with ⟨h410, h411, h412, rfl, rfl⟩ | ⟨h413, h414, h415, h416, rfl, rfl⟩ | ⟨h417, h418, h419, h420, rfl, rfl⟩ | ⟨h421, h422, rfl, rfl⟩ | ⟨h423, rfl, rfl⟩
               ·
                have ih410 := t_eq h410
                have ih411 := t_eq h411
                have ih412 := t_eq h412
                show W _ _ _ _ _ _ _ _ _ _ _ _ 360 _ [(vi 1)]
                refine W.ifN (pc := 360) at_360 (n_eq (by decide)) ?_
                refine W.iconst (pc := 363) (1) at_363 (by decide) ?_
                refine W.goto (pc := 364) 368 at_364 (by decide) ?_
                refine W.istore (pc := 368) (ls' := #[iv z0, iv z1, iv z2, iv z3, iv z4, iv z5, iv g2, iv g5, iv g7, iv g8, iv g9, iv g10, iv g12, iv g13, iv g14, iv g17, iv g18, iv g19, rv a23, rv a150, rv a156, rv a180, rv a186, rv a188, rv a189, iv ((XT.ushr z5 (2 : Int32)) &&& (3 : Int32)), iv 1]) at_368 rfl ?_
                refine W.aload (pc := 370) 23 at_370 rfl rfl ?_
                refine W.aload (pc := 372) 24 at_372 rfl rfl ?_
                refine W.know (fun _ _ H => H.ne (i := 1) (j := 0) (by decide) rfl rfl (Or.inl rfl)) (fun ne193 => ?_)
                refine W.know (fun _ _ H => H.ne (i := 11) (j := 7) (by decide) rfl rfl (Or.inl rfl)) (fun ne194 => ?_)
                refine W.know (fun _ _ H => H.ne (i := 9) (j := 5) (by decide) rfl rfl (Or.inl rfl)) (fun ne195 => ?_)
                refine W.callV (pc := 374) (as := [(vr a189)]) 0 [] at_374 (w111 hw) (w112 hw) (w114 hw) (w114 hw) (w113 hw) (w41 hw) (w115 hw) (Hp.exa m1) (c107_equals hw hs (hx1 := hg7) (hx2 := hg8) (hx3 := hg9) (hx4 := hg12) (hx5 := hg13) (hx6 := hg17) (mp2 := m0) (mp1 := m1) (mp3 := m11) (mp5 := m7) (mp7 := m10) (mp9 := m6) (mp4 := m9) (mp6 := m5) (mp8 := m8) (mp10 := m4) (ne_p1_p2 := ne193) (ne_p3_p5 := ne194) (ne_p4_p6 := ne195)) (by decide) pd_Ljava_lang_Object__Z rfl rfl rfl rfl (by decide) (fun v D' h => ?_)
                rcases h with ⟨h424, h425, h426, rfl, rfl⟩ | ⟨h427, h428, h429, rfl, rfl⟩ | ⟨h430, h431, rfl, rfl⟩ | ⟨h432, rfl, rfl⟩
                ·
                 have ih424 := t_eq h424
                 have ih425 := t_eq h425
                 have ih426 := t_eq h426
                 show W _ _ _ _ _ _ _ _ _ _ _ _ 377 _ [(vi 1)]
                 refine W.iload (pc := 377) at_377 rfl ?_
                 refine W.icmpN (pc := 379) at_379 (n_ne (by decide)) ?_
                 refine W.aload (pc := 382) 24 at_382 rfl rfl ?_
                 refine W.aload (pc := 384) 23 at_384 rfl rfl ?_
                 refine W.callV (pc := 386) (as := [(vr a188)]) 0 [] at_386 (w111 hw) (w112 hw) (w114 hw) (w114 hw) (w113 hw) (w41 hw) (w115 hw) (Hp.exa m0) (c107_equals hw hs (hx1 := hg12) (hx2 := hg13) (hx3 := hg17) (hx4 := hg7) (hx5 := hg8) (hx6 := hg9) (mp2 := m1) (mp1 := m0) (mp3 := m7) (mp5 := m11) (mp7 := m6) (mp9 := m10) (mp4 := m5) (mp6 := m9) (mp8 := m4) (mp10 := m8) (ne_p1_p2 := (Ne.symm ne193)) (ne_p3_p5 := (Ne.symm ne194)) (ne_p4_p6 := (Ne.symm ne195))) (by decide) pd_Ljava_lang_Object__Z rfl rfl rfl rfl (by decide) (fun v D' h => ?_)
                 rcases h with ⟨h433, h434, h435, rfl, rfl⟩ | ⟨h436, h437, h438, rfl, rfl⟩ | ⟨h439, h440, rfl, rfl⟩ | ⟨h441, rfl, rfl⟩
                 ·
                  have ih433 := t_eq h433
                  have ih434 := t_eq h434
                  have ih435 := t_eq h435
                  show W _ _ _ _ _ _ _ _ _ _ _ _ 389 _ [(vi 1)]
                  refine W.iload (pc := 389) at_389 rfl ?_
                  refine W.icmpN (pc := 391) at_391 (n_ne (by decide)) ?_
                  refine W.iconst (pc := 394) (1) at_394 (by decide) ?_
                  refine W.goto (pc := 395) 399 at_395 (by decide) ?_
                  exact W.ireturn (pc := 399) at_399 rfl (Or.inr (Or.inl rfl)) (nw_bool (by decide)) (by decide) rfl
                 ·
                  have ih436 := t_eq h436
                  have ih437 := t_eq h437
                  exact absurd h438 (Classical.not_not.mpr (y_eq (by have := q0; have := rng32 z5; have := q2; have := aushr_2 z5; have := q3; have := am_3 (XT.ushr z5 (2 : Int32)); have := q1; omega)))
                 ·
                  have ih439 := t_eq h439
                  exact absurd h440 (Classical.not_not.mpr (y_eq (by have := q0; have := rng32 z5; have := q2; have := aushr_2 z5; have := q3; have := am_3 (XT.ushr z5 (2 : Int32)); have := q1; omega)))
                 ·
                  exact absurd h441 (Classical.not_not.mpr (y_eq (by have := q0; have := rng32 z5; have := q2; have := aushr_2 z5; have := q3; have := am_3 (XT.ushr z5 (2 : Int32)); have := q1; omega)))
                ·
                 have ih427 := t_eq h427
                 have ih428 := t_eq h428
                 exact absurd h429 (Classical.not_not.mpr (y_eq (by have := q0; have := rng32 z5; have := q2; have := aushr_2 z5; have := q3; have := am_3 (XT.ushr z5 (2 : Int32)); have := q1; omega)))
                ·
                 have ih430 := t_eq h430
                 exact absurd h431 (Classical.not_not.mpr (y_eq (by have := q0; have := rng32 z5; have := q2; have := aushr_2 z5; have := q3; have := am_3 (XT.ushr z5 (2 : Int32)); have := q1; omega)))
                ·
                 exact absurd h432 (Classical.not_not.mpr (y_eq (by have := q0; have := rng32 z5; have := q2; have := aushr_2 z5; have := q3; have := am_3 (XT.ushr z5 (2 : Int32)); have := q1; omega)))
               ·
                have ih413 := t_eq h413
                have ih414 := t_eq h414
                exact absurd h415 (Classical.not_not.mpr (y_eq (by have := q0; have := rng32 z5; have := q2; have := aushr_2 z5; have := q3; have := am_3 (XT.ushr z5 (2 : Int32)); have := q1; omega)))
               ·
                have ih417 := t_eq h417
                have ih418 := t_eq h418
                exact absurd h419 (Classical.not_not.mpr (y_eq (by have := q0; have := rng32 z5; have := q2; have := aushr_2 z5; have := q3; have := am_3 (XT.ushr z5 (2 : Int32)); have := q1; omega)))
               ·
                have ih421 := t_eq h421
                have ih422 := f_eq h422
                show W _ _ _ _ _ _ _ _ _ _ _ _ 360 _ [(vi 0)]
                refine W.ifY (pc := 360) 367 at_360 (y_eq (by decide)) (by decide) ?_
                refine W.iconst (pc := 367) (0) at_367 (by decide) ?_
                refine W.istore (pc := 368) (ls' := #[iv z0, iv z1, iv z2, iv z3, iv z4, iv z5, iv g2, iv g5, iv g7, iv g8, iv g9, iv g10, iv g12, iv g13, iv g14, iv g17, iv g18, iv g19, rv a23, rv a150, rv a156, rv a180, rv a186, rv a188, rv a189, iv ((XT.ushr z5 (2 : Int32)) &&& (3 : Int32)), iv 0]) at_368 rfl ?_
                refine W.aload (pc := 370) 23 at_370 rfl rfl ?_
                refine W.aload (pc := 372) 24 at_372 rfl rfl ?_
                refine W.know (fun _ _ H => H.ne (i := 1) (j := 0) (by decide) rfl rfl (Or.inl rfl)) (fun ne196 => ?_)
                refine W.know (fun _ _ H => H.ne (i := 11) (j := 7) (by decide) rfl rfl (Or.inl rfl)) (fun ne197 => ?_)
                refine W.know (fun _ _ H => H.ne (i := 9) (j := 5) (by decide) rfl rfl (Or.inl rfl)) (fun ne198 => ?_)
                refine W.callV (pc := 374) (as := [(vr a189)]) 0 [] at_374 (w111 hw) (w112 hw) (w114 hw) (w114 hw) (w113 hw) (w41 hw) (w115 hw) (Hp.exa m1) (c107_equals hw hs (hx1 := hg7) (hx2 := hg8) (hx3 := hg9) (hx4 := hg12) (hx5 := hg13) (hx6 := hg17) (mp2 := m0) (mp1 := m1) (mp3 := m11) (mp5 := m7) (mp7 := m10) (mp9 := m6) (mp4 := m9) (mp6 := m5) (mp8 := m8) (mp10 := m4) (ne_p1_p2 := ne196) (ne_p3_p5 := ne197) (ne_p4_p6 := ne198)) (by decide) pd_Ljava_lang_Object__Z rfl rfl rfl rfl (by decide) (fun v D' h => ?_)
                rcases h with ⟨h442, h443, h444, rfl, rfl⟩ | ⟨h445, h446, h447, rfl, rfl⟩ | ⟨h448, h449, rfl, rfl⟩ | ⟨h450, rfl, rfl⟩
                ·
                 have ih442 := t_eq h442
                 have ih443 := t_eq h443
                 exact absurd h444 (n_eq (by have := q0; have := rng32 z5; have := q2; have := aushr_2 z5; have := q3; have := am_3 (XT.ushr z5 (2 : Int32)); have := q1; omega))
                ·
                 have ih445 := t_eq h445
                 have ih446 := t_eq h446
                 have ih447 := f_eq h447
                 show W _ _ _ _ _ _ _ _ _ _ _ _ 377 _ [(vi 0)]
                 refine W.iload (pc := 377) at_377 rfl ?_
                 refine W.icmpN (pc := 379) at_379 (n_ne (by decide)) ?_
                 refine W.aload (pc := 382) 24 at_382 rfl rfl ?_
                 refine W.aload (pc := 384) 23 at_384 rfl rfl ?_
                 refine W.callV (pc := 386) (as := [(vr a188)]) 0 [] at_386 (w111 hw) (w112 hw) (w114 hw) (w114 hw) (w113 hw) (w41 hw) (w115 hw) (Hp.exa m0) (c107_equals hw hs (hx1 := hg12) (hx2 := hg13) (hx3 := hg17) (hx4 := hg7) (hx5 := hg8) (hx6 := hg9) (mp2 := m1) (mp1 := m0) (mp3 := m7) (mp5 := m11) (mp7 := m6) (mp9 := m10) (mp4 := m5) (mp6 := m9) (mp8 := m4) (mp10 := m8) (ne_p1_p2 := (Ne.symm ne196)) (ne_p3_p5 := (Ne.symm ne197)) (ne_p4_p6 := (Ne.symm ne198))) (by decide) pd_Ljava_lang_Object__Z rfl rfl rfl rfl (by decide) (fun v D' h => ?_)
                 rcases h with ⟨h451, h452, h453, rfl, rfl⟩ | ⟨h454, h455, h456, rfl, rfl⟩ | ⟨h457, h458, rfl, rfl⟩ | ⟨h459, rfl, rfl⟩
                 ·
                  have ih451 := t_eq h451
                  have ih452 := t_eq h452
                  exact absurd h453 (n_eq (by have := q0; have := rng32 z5; have := q2; have := aushr_2 z5; have := q3; have := am_3 (XT.ushr z5 (2 : Int32)); have := q1; omega))
                 ·
                  have ih454 := t_eq h454
                  have ih455 := t_eq h455
                  have ih456 := f_eq h456
                  show W _ _ _ _ _ _ _ _ _ _ _ _ 389 _ [(vi 0)]
                  refine W.iload (pc := 389) at_389 rfl ?_
                  refine W.icmpN (pc := 391) at_391 (n_ne (by decide)) ?_
                  refine W.iconst (pc := 394) (1) at_394 (by decide) ?_
                  refine W.goto (pc := 395) 399 at_395 (by decide) ?_
                  exact W.ireturn (pc := 399) at_399 rfl (Or.inr (Or.inl rfl)) (nw_bool (by decide)) (by decide) rfl
                 ·
                  have ih457 := t_eq h457
                  exact absurd h458 (Classical.not_not.mpr (y_eq (by have := q0; have := rng32 z5; have := q2; have := aushr_2 z5; have := q3; have := am_3 (XT.ushr z5 (2 : Int32)); have := q1; omega)))
                 ·
                  exact absurd h459 (Classical.not_not.mpr (y_eq (by have := q0; have := rng32 z5; have := q2; have := aushr_2 z5; have := q3; have := am_3 (XT.ushr z5 (2 : Int32)); have := q1; omega)))
                ·
                 have ih448 := t_eq h448
                 exact absurd h449 (Classical.not_not.mpr (y_eq (by have := q0; have := rng32 z5; have := q2; have := aushr_2 z5; have := q3; have := am_3 (XT.ushr z5 (2 : Int32)); have := q1; omega)))
                ·
                 exact absurd h450 (Classical.not_not.mpr (y_eq (by have := q0; have := rng32 z5; have := q2; have := aushr_2 z5; have := q3; have := am_3 (XT.ushr z5 (2 : Int32)); have := q1; omega)))
               ·
                exact absurd h423 (Classical.not_not.mpr (y_eq (by have := q0; have := rng32 z5; have := q2; have := aushr_2 z5; have := q3; have := am_3 (XT.ushr z5 (2 : Int32)); have := q1; omega)))
              ·
               have ih389 := t_eq h389
               have ih390 := f_eq h390
               show W _ _ _ _ _ _ _ _ _ _ _ _ 342 _ [(vi 0)]
               refine W.ifY (pc := 342) 367 at_342 (y_eq (by decide)) (by decide) ?_
               refine W.iconst (pc := 367) (0) at_367 (by decide) ?_
               refine W.istore (pc := 368) (ls' := #[iv z0, iv z1, iv z2, iv z3, iv z4, iv z5, iv g2, iv g5, iv g7, iv g8, iv g9, iv g10, iv g12, iv g13, iv g14, iv g17, iv g18, iv g19, rv a23, rv a150, rv a156, rv a180, rv a186, rv a188, rv a189, iv ((XT.ushr z5 (2 : Int32)) &&& (3 : Int32)), iv 0]) at_368 rfl ?_
               refine W.aload (pc := 370) 23 at_370 rfl rfl ?_
               refine W.aload (pc := 372) 24 at_372 rfl rfl ?_
               refine W.know (fun _ _ H => H.ne (i := 1) (j := 0) (by decide) rfl rfl (Or.inl rfl)) (fun ne199 => ?_)
               refine W.know (fun _ _ H => H.ne (i := 11) (j := 7) (by decide) rfl rfl (Or.inl rfl)) (fun ne200 => ?_)
               refine W.know (fun _ _ H => H.ne (i := 9) (j := 5) (by decide) rfl rfl (Or.inl rfl)) (fun ne201 => ?_)
               refine W.callV (pc := 374) (as := [(vr a189)]) 0 [] at_374 (w111 hw) (w112 hw) (w114 hw) (w114 hw) (w113 hw) (w41 hw) (w115 hw) (Hp.exa m1) (c107_equals hw hs (hx1 := hg7) (hx2 := hg8) (hx3 := hg9) (hx4 := hg12) (hx5 := hg13) (hx6 := hg17) (mp2 := m0) (mp1 := m1) (mp3 := m11) (mp5 := m7) (mp7 := m10) (mp9 := m6) (mp4 := m9) (mp6 := m5) (mp8 := m8) (mp10 := m4) (ne_p1_p2 := ne199) (ne_p3_p5 := ne200) (ne_p4_p6 := ne201)) (by decide) pd_Ljava_lang_Object__Z rfl rfl rfl rfl (by decide) (fun v D' h => ?_)
               rcases h with ⟨h460, h461, h462, rfl, rfl⟩ | ⟨h463, h464, h465, rfl, rfl⟩ | ⟨h466, h467, rfl, rfl⟩ | ⟨h468, rfl, rfl⟩
               ·
                exact absurd h460 (n_eq (by have := q0; have := rng32 z5; have := q2; have := aushr_2 z5; have := q3; have := am_3 (XT.ushr z5 (2 : Int32)); have := q1; omega))
               ·
                exact absurd h463 (n_eq (by have := q0; have := rng32 z5; have := q2; have := aushr_2 z5; have := q3; have := am_3 (XT.ushr z5 (2 : Int32)); have := q1; omega))
               ·
                exact absurd h466 (n_eq (by have := q0; have := rng32 z5; have := q2; have := aushr_2 z5; have := q3; have := am_3 (XT.ushr z5 (2 : Int32)); have := q1; omega))
               ·
                have ih468 := f_eq h468
                show W _ _ _ _ _ _ _ _ _ _ _ _ 377 _ [(vi 0)]
                refine W.iload (pc := 377) at_377 rfl ?_
                refine W.icmpN (pc := 379) at_379 (n_ne (by decide)) ?_
                refine W.aload (pc := 382) 24 at_382 rfl rfl ?_
                refine W.aload (pc := 384) 23 at_384 rfl rfl ?_
                refine W.callV (pc := 386) (as := [(vr a188)]) 0 [] at_386 (w111 hw) (w112 hw) (w114 hw) (w114 hw) (w113 hw) (w41 hw) (w115 hw) (Hp.exa m0) (c107_equals hw hs (hx1 := hg12) (hx2 := hg13) (hx3 := hg17) (hx4 := hg7) (hx5 := hg8) (hx6 := hg9) (mp2 := m1) (mp1 := m0) (mp3 := m7) (mp5 := m11) (mp7 := m6) (mp9 := m10) (mp4 := m5) (mp6 := m9) (mp8 := m4) (mp10 := m8) (ne_p1_p2 := (Ne.symm ne199)) (ne_p3_p5 := (Ne.symm ne200)) (ne_p4_p6 := (Ne.symm ne201))) (by decide) pd_Ljava_lang_Object__Z rfl rfl rfl rfl (by decide) (fun v D' h => ?_)
                rcases h with ⟨h469, h470, h471, rfl, rfl⟩ | ⟨h472, h473, h474, rfl, rfl⟩ | ⟨h475, h476, rfl, rfl⟩ | ⟨h477, rfl, rfl⟩
                ·
                 exact absurd h469 (n_eq (by have := q0; have := rng32 z5; have := q2; have := aushr_2 z5; have := q3; have := am_3 (XT.ushr z5 (2 : Int32)); have := q1; omega))
                ·
                 exact absurd h472 (n_eq (by have := q0; have := rng32 z5; have := q2; have := aushr_2 z5; have := q3; have := am_3 (XT.ushr z5 (2 : Int32)); have := q1; omega))
                ·
                 exact absurd h475 (n_eq (by have := q0; have := rng32 z5; have := q2; have := aushr_2 z5; have := q3; have := am_3 (XT.ushr z5 (2 : Int32)); have := q1; omega))
                ·
                 have ih477 := f_eq h477
                 show W _ _ _ _ _ _ _ _ _ _ _ _ 389 _ [(vi 0)]
                 refine W.iload (pc := 389) at_389 rfl ?_
                 refine W.icmpN (pc := 391) at_391 (n_ne (by decide)) ?_
                 refine W.iconst (pc := 394) (1) at_394 (by decide) ?_
                 refine W.goto (pc := 395) 399 at_395 (by decide) ?_
                 exact W.ireturn (pc := 399) at_399 rfl (Or.inr (Or.inl rfl)) (nw_bool (by decide)) (by decide) rfl
              ·
               exact absurd h391 (Classical.not_not.mpr (y_eq (by have := q0; have := rng32 z5; have := q2; have := aushr_2 z5; have := q3; have := am_3 (XT.ushr z5 (2 : Int32)); have := q1; omega)))
             ·
              have ih377 := f_ne h377
              refine W.aload (pc := 319) 23 at_319 rfl rfl ?_
              refine W.aload (pc := 321) 23 at_321 rfl rfl ?_
              refine W.callV (pc := 323) (as := [(vr a188)]) 0 [] at_323 (w111 hw) (w112 hw) (w114 hw) (w114 hw) (w113 hw) (w41 hw) (w115 hw) (Hp.exa m1) (c66_equals hw hs) (by decide) pd_Ljava_lang_Object__Z rfl rfl rfl rfl (by decide) (fun v D' h => ?_)
              obtain ⟨rfl, rfl⟩ := h
              show W _ _ _ _ _ _ _ _ _ _ _ _ 326 _ [(vi 1)]
              exact W.ireturn (pc := 326) at_326 rfl (Or.inr (Or.inl rfl)) (nw_bool (by decide)) (by decide) rfl
            ·
             have ih376 := f_ne h376
             refine W.aload (pc := 297) 23 at_297 rfl rfl ?_
             refine W.aload (pc := 299) 22 at_299 rfl rfl ?_
             refine W.know (fun _ _ H => H.ne (i := 1) (j := 3) (by decide) rfl rfl (Or.inl rfl)) (fun ne202 => ?_)
             refine W.callV (pc := 301) (as := [(vr a186)]) 0 [] at_301 (w111 hw) (w112 hw) (w114 hw) (w114 hw) (w113 hw) (w41 hw) (w115 hw) (Hp.exa m1) (c67_equals hw hs (mp2 := m3) (ne_p1_p2 := ne202)) (by decide) pd_Ljava_lang_Object__Z rfl rfl rfl rfl (by decide) (fun v D' h => ?_)
             obtain ⟨rfl, rfl⟩ := h
             show W _ _ _ _ _ _ _ _ _ _ _ _ 304 _ [(vi 0)]
             refine W.ifN (pc := 304) at_304 (n_ne (by decide)) ?_
             refine W.iconst (pc := 307) (1) at_307 (by decide) ?_
             refine W.goto (pc := 308) 312 at_308 (by decide) ?_
             exact W.ireturn (pc := 312) at_312 rfl (Or.inr (Or.inl rfl)) (nw_bool (by decide)) (by decide) rfl
           ·
            have ih375 := f_ne h375
            refine W.aload (pc := 276) 23 at_276 rfl rfl ?_
            refine W.aconstNull (pc := 278) at_278 ?_
            refine W.callV (pc := 279) (as := [.null]) 0 [] at_279 (w111 hw) (w112 hw) (w114 hw) (w114 hw) (w113 hw) (w41 hw) (w115 hw) (Hp.exa m1) (c68_equals hw hs) (by decide) pd_Ljava_lang_Object__Z rfl rfl rfl rfl (by decide) (fun v D' h => ?_)
            obtain ⟨rfl, rfl⟩ := h
            show W _ _ _ _ _ _ _ _ _ _ _ _ 282 _ [(vi 0)]
            refine W.ifN (pc := 282) at_282 (n_ne (by decide)) ?_
            refine W.iconst (pc := 285) (1) at_285 (by decide) ?_
            refine W.goto (pc := 286) 290 at_286 (by decide) ?_
            exact W.ireturn (pc := 290) at_290 rfl (Or.inr (Or.inl rfl)) (nw_bool (by decide)) (by decide) rfl
         ·
          have ih372 := f_eq h372
          show W _ _ _ _ _ _ _ _ _ _ _ _ 223 _ [(vr a182)]
          refine W.astore (pc := 223) (ls' := #[iv z0, iv z1, iv z2, iv z3, iv z4, iv z5, iv g2, iv g5, iv g7, iv g8, iv g9, iv g10, iv g12, iv g13, iv g14, iv g17, iv g18, iv g19, rv a23, rv a150, rv a156, rv a182, uu, uu, uu, uu, uu]) at_223 rfl rfl ?_
          refine W.iload (pc := 225) at_225 rfl ?_
          refine W.iload (pc := 227) at_227 rfl ?_
          refine W.iload (pc := 229) at_229 rfl ?_
          refine W.callS (pc := 231) (as := [(vi g7), (vi g8), (vi g2)]) 0 [] at_231 (w6 hw) (w7 hw) (w3 hw) (w8 hw) (c3_make hw hs (hx1 := hg7) (hx2 := hg8) (hx3 := hg2)) (by decide) pd_CCZ_Ljava_lang_String_ rfl rfl rfl rfl (by decide) (fun v D' h => ?_)
          rcases h with ⟨a203, a204, h478, rfl, rfl⟩ | ⟨a205, a206, h479, rfl, rfl⟩
          ·
           exact absurd h478 (n_eq (by have := q0; omega))
          ·
           have ih479 := f_eq h479
           show W _ _ _ _ _ _ _ _ _ _ _ _ 234 _ [(vr a205)]
           refine W.astore (pc := 234) (ls' := #[iv z0, iv z1, iv z2, iv z3, iv z4, iv z5, iv g2, iv g5, iv g7, iv g8, iv g9, iv g10, iv g12, iv g13, iv g14, iv g17, iv g18, iv g19, rv a23, rv a150, rv a156, rv a182, rv a205, uu, uu, uu, uu]) at_234 rfl rfl ?_
           refine W.new (pc := 236) at_236 (w39 hw) (w40 hw) (w41 hw) (laJobKey hw) (by decide) (by decide) (fun a207 => ?_)
           show W _ _ _ _ _ _ _ _ _ _ _ _ 239 _ [(vr a207)]
           refine W.dup (pc := 239) at_239 rfl ?_
           refine W.aload (pc := 240) 18 at_240 rfl rfl ?_
           refine W.aload (pc := 242) 19 at_242 rfl rfl ?_
           refine W.callI (pc := 244) (as := [(vr a23), (vr a150)]) 1 [(vr a207)] at_244 rfl (w42 hw) (w43 hw) (w41 hw) (w44 hw) (c88_init hw hs (hx1 := hg7) (hx2 := hg8) (hx3 := hg9) (mog1Z := m12) (mp2 := m9) (mp4 := m8) (mog2Z := m11) (mog3Z := m10) (mog4Z := m15) (mp3 := m7) (mp5 := m6) (mog5Z := m14) (mog6Z := m13)) (by decide) pd_Ljava_lang_String_Ljava_lang_String__V rfl rfl rfl rfl (by decide) (fun v D' h => ?_)
           obtain ⟨rfl, rfl⟩ := h
           show W _ _ _ _ _ _ _ _ _ _ _ _ 247 _ [(vr a207)]
           refine W.astore (pc := 247) (ls' := #[iv z0, iv z1, iv z2, iv z3, iv z4, iv z5, iv g2, iv g5, iv g7, iv g8, iv g9, iv g10, iv g12, iv g13, iv g14, iv g17, iv g18, iv g19, rv a23, rv a150, rv a156, rv a182, rv a205, rv a207, uu, uu, uu]) at_247 rfl rfl ?_
           refine W.new (pc := 249) at_249 (w39 hw) (w40 hw) (w41 hw) (laJobKey hw) (by decide) (by decide) (fun a208 => ?_)
           show W _ _ _ _ _ _ _ _ _ _ _ _ 252 _ [(vr a208)]
           refine W.dup (pc := 252) at_252 rfl ?_
           refine W.aload (pc := 253) 20 at_253 rfl rfl ?_
           refine W.aload (pc := 255) 21 at_255 rfl rfl ?_
           refine W.callI (pc := 257) (as := [(vr a156), (vr a182)]) 1 [(vr a208)] at_257 rfl (w42 hw) (w43 hw) (w41 hw) (w44 hw) (c103_init hw hs (hx1 := hg12) (hx2 := hg13) (hx3 := hg17) (hx4 := hg18) (mog1Z := m13) (mp2 := m6) (mp4 := m5) (mog2Z := m12) (mog3Z := m11) (mog4Z := m16) (mp3 := m4) (mp5 := m3) (mog5Z := m15) (mog6Z := m14)) (by decide) pd_Ljava_lang_String_Ljava_lang_String__V rfl rfl rfl rfl (by decide) (fun v D' h => ?_)
           obtain ⟨rfl, rfl⟩ := h
           show W _ _ _ _ _ _ _ _ _ _ _ _ 260 _ [(vr a208)]
           refine W.astore (pc := 260) (ls' := #[iv z0, iv z1, iv z2, iv z3, iv z4, iv z5, iv g2, iv g5, iv g7, iv g8, iv g9, iv g10, iv g12, iv g13, iv g14, iv g17, iv g18, iv g19, rv a23, rv a150, rv a156, rv a182, rv a205, rv a207, rv a208, uu, uu]) at_260 rfl rfl ?_
           refine W.iload (pc := 262) at_262 rfl ?_
           refine W.iconst (pc := 264) (2) at_264 (by decide) ?_
           refine W.iushr (pc := 265) at_265 ?_
           refine W.iconst (pc := 266) (3) at_266 (by decide) ?_
           refine W.iand (pc := 267) at_267 ?_
           refine W.istore (pc := 268) (ls' := #[iv z0, iv z1, iv z2, iv z3, iv z4, iv z5, iv g2, iv g5, iv g7, iv g8, iv g9, iv g10, iv g12, iv g13, iv g14, iv g17, iv g18, iv g19, rv a23, rv a150, rv a156, rv a182, rv a205, rv a207, rv a208, iv ((XT.ushr z5 (2 : Int32)) &&& (3 : Int32)), uu]) at_268 rfl ?_
           refine W.iload (pc := 270) at_270 rfl ?_
           refine W.iconst (pc := 272) (1) at_272 (by decide) ?_
           refine W.icmp (pc := 273) 291 at_273 (by decide) (fun h480 => ?_) (fun h480 => ?_)
           ·
            have ih480 := t_ne h480
            refine W.iload (pc := 291) at_291 rfl ?_
            refine W.iconst (pc := 293) (2) at_293 (by decide) ?_
            refine W.icmp (pc := 294) 313 at_294 (by decide) (fun h481 => ?_) (fun h481 => ?_)
            ·
             have ih481 := t_ne h481
             refine W.iload (pc := 313) at_313 rfl ?_
             refine W.iconst (pc := 315) (3) at_315 (by decide) ?_
             refine W.icmp (pc := 316) 327 at_316 (by decide) (fun h482 => ?_) (fun h482 => ?_)
             ·
              have ih482 := t_ne h482
              refine W.iload (pc := 327) at_327 rfl ?_
              refine W.iload (pc := 329) at_329 rfl ?_
              refine W.iload (pc := 331) at_331 rfl ?_
              refine W.iload (pc := 333) at_333 rfl ?_
              refine W.iload (pc := 335) at_335 rfl ?_
              refine W.iload (pc := 337) at_337 rfl ?_
              refine W.callS (pc := 339) (as := [(vi g7), (vi g8), (vi g2), (vi g12), (vi g13), (vi g14)]) 0 [] at_339 (w108 hw) (w109 hw) (w3 hw) (w110 hw) (c59_same hw hs (hx1 := hg7) (hx2 := hg8) (hx3 := hg2) (hx4 := hg12) (hx5 := hg13) (hx6 := hg14)) (by decide) pd_CCZCCZ_Z rfl rfl rfl rfl (by decide) (fun v D' h => ?_)
              rcases h with ⟨h483, h484, h485, rfl, rfl⟩ | ⟨h486, h487, h488, h489, rfl, rfl⟩ | ⟨h490, h491, h492, h493, rfl, rfl⟩ | ⟨h494, h495, rfl, rfl⟩ | ⟨h496, rfl, rfl⟩
              ·
               have ih483 := t_eq h483
               have ih484 := t_eq h484
               exact absurd h485 (n_eq (by have := q0; have := rng32 z5; have := q2; have := aushr_2 z5; have := q3; have := am_3 (XT.ushr z5 (2 : Int32)); have := q1; omega))
              ·
               have ih486 := t_eq h486
               have ih487 := t_eq h487
               have ih488 := f_eq h488
               have ih489 := t_ne h489
               show W _ _ _ _ _ _ _ _ _ _ _ _ 342 _ [(vi 0)]
               refine W.ifY (pc := 342) 367 at_342 (y_eq (by decide)) (by decide) ?_
               refine W.iconst (pc := 367) (0) at_367 (by decide) ?_
               refine W.istore (pc := 368) (ls' := #[iv z0, iv z1, iv z2, iv z3, iv z4, iv z5, iv g2, iv g5, iv g7, iv g8, iv g9, iv g10, iv g12, iv g13, iv g14, iv g17, iv g18, iv g19, rv a23, rv a150, rv a156, rv a182, rv a205, rv a207, rv a208, iv ((XT.ushr z5 (2 : Int32)) &&& (3 : Int32)), iv 0]) at_368 rfl ?_
               refine W.aload (pc := 370) 23 at_370 rfl rfl ?_
               refine W.aload (pc := 372) 24 at_372 rfl rfl ?_
               refine W.know (fun _ _ H => H.ne (i := 1) (j := 0) (by decide) rfl rfl (Or.inl rfl)) (fun ne209 => ?_)
               refine W.know (fun _ _ H => H.ne (i := 11) (j := 7) (by decide) rfl rfl (Or.inl rfl)) (fun ne210 => ?_)
               refine W.know (fun _ _ H => H.ne (i := 9) (j := 5) (by decide) rfl rfl (Or.inl rfl)) (fun ne211 => ?_)
               refine W.callV (pc := 374) (as := [(vr a208)]) 0 [] at_374 (w111 hw) (w112 hw) (w114 hw) (w114 hw) (w113 hw) (w41 hw) (w115 hw) (Hp.exa m1) (c110_equals hw hs (hx1 := hg7) (hx2 := hg8) (hx3 := hg9) (hx4 := hg12) (hx5 := hg13) (hx6 := hg17) (hx7 := hg18) (mp2 := m0) (mp1 := m1) (mp3 := m11) (mp5 := m7) (mp7 := m10) (mp9 := m6) (mp4 := m9) (mp6 := m5) (mp8 := m8) (mp10 := m4) (ne_p1_p2 := ne209) (ne_p3_p5 := ne210) (ne_p4_p6 := ne211)) (by decide) pd_Ljava_lang_Object__Z rfl rfl rfl rfl (by decide) (fun v D' h => ?_)
               obtain ⟨rfl, rfl⟩ := h
               show W _ _ _ _ _ _ _ _ _ _ _ _ 377 _ [(vi 0)]
               refine W.iload (pc := 377) at_377 rfl ?_
               refine W.icmpN (pc := 379) at_379 (n_ne (by decide)) ?_
               refine W.aload (pc := 382) 24 at_382 rfl rfl ?_
               refine W.aload (pc := 384) 23 at_384 rfl rfl ?_
               refine W.callV (pc := 386) (as := [(vr a207)]) 0 [] at_386 (w111 hw) (w112 hw) (w114 hw) (w114 hw) (w113 hw) (w41 hw) (w115 hw) (Hp.exa m0) (c111_equals hw hs (hx1 := hg12) (hx2 := hg13) (hx3 := hg17) (hx4 := hg18) (hx5 := hg7) (hx6 := hg8) (hx7 := hg9) (mp2 := m1) (mp1 := m0) (mp3 := m7) (mp5 := m11) (mp7 := m6) (mp9 := m10) (mp4 := m5) (mp6 := m9) (mp8 := m4) (mp10 := m8) (ne_p1_p2 := (Ne.symm ne209)) (ne_p3_p5 := (Ne.symm ne210)) (ne_p4_p6 := (Ne.symm ne211))) (by decide) pd_Ljava_lang_Object__Z rfl rfl rfl rfl (by decide) (fun v D' h => ?_)
               obtain ⟨rfl, rfl⟩ := h
               show W _ _ _ _ _ _ _ _ _ _ _ _ 389 _ [(vi 0)]
               refine W.iload (pc := 389) at_389 rfl ?_
               refine W.icmpN (pc := 391) at_391 (n_ne (by decide)) ?_
               refine W.iconst (pc := 394) (1) at_394 (by decide) ?_
               refine W.goto (pc := 395) 399 at_395 (by decide) ?_
               exact W.ireturn (pc := 399) at_399 rfl (Or.inr (Or.inl rfl)) (nw_bool (by decide)) (by decide) rfl
              ·
               have ih490 := t_eq h490
               have ih491 := t_eq h491
               have ih492 := f_eq h492
               have ih493 := f_ne h493
               show W _ _ _ _ _ _ _ _ _ _ _ _ 342 _ [(vi 1)]
               refine W.ifN (pc := 342) at_342 (n_eq (by decide)) ?_
               refine W.iload (pc := 345) at_345 rfl ?_
               refine W.iload (pc := 347) at_347 rfl ?_
               refine W.iload (pc := 349) at_349 rfl ?_
               refine W.iload (pc := 351) at_351 rfl ?_
               refine W.iload (pc := 353) at_353 rfl ?_
               refine W.iload (pc := 355) at_355 rfl ?_
               refine W.callS (pc := 357) (as := [(vi g9), (vi g10), (vi g5), (vi g17), (vi g18), (vi g19)]) 0 [] at_357 (w108 hw) (w109 hw) (w3 hw) (w110 hw) (c60_same hw hs (hx1 := hg9) (hx2 := hg10) (hx3 := hg5) (hx4 := hg17) (hx5 := hg18) (hx6 := hg19)) (by decide) pd_CCZCCZ_Z rfl rfl rfl rfl (by decide) (fun v D' h => ?_)
               rcases h with ⟨h497, h498, h499, rfl, rfl⟩ | ⟨h500, h501, h502, h503, rfl, rfl⟩ | ⟨h504, h505, h506, h507, rfl, rfl⟩ | ⟨h508, h509, rfl, rfl⟩ | ⟨h510, rfl, rfl⟩
               ·
                exact absurd h497 (n_eq (by have := q0; have := rng32 z5; have := q2; have := aushr_2 z5; have := q3; have := am_3 (XT.ushr z5 (2 : Int32)); have := q1; omega))
               ·
                exact absurd h500 (n_eq (by have := q0; have := rng32 z5; have := q2; have := aushr_2 z5; have := q3; have := am_3 (XT.ushr z5 (2 : Int32)); have := q1; omega))
               ·
                exact absurd h504 (n_eq (by have := q0; have := rng32 z5; have := q2; have := aushr_2 z5; have := q3; have := am_3 (XT.ushr z5 (2 : Int32)); have := q1; omega))
               ·
                exact absurd h508 (n_eq (by have := q0; have := rng32 z5; have := q2; have := aushr_2 z5; have := q3; have := am_3 (XT.ushr z5 (2 : Int32)); have := q1; omega))
               ·
                have ih510 := f_eq h510
                show W _ _ _ _ _ _ _ _ _ _ _ _ 360 _ [(vi 0)]
                refine W.ifY (pc := 360) 367 at_360 (y_eq (by decide)) (by decide) ?_
                refine W.iconst (pc := 367) (0) at_367 (by decide) ?_
                refine W.istore (pc := 368) (ls' := #[iv z0, iv z1, iv z2, iv z3, iv z4, iv z5, iv g2, iv g5, iv g7, iv g8, iv g9, iv g10, iv g12, iv g13, iv g14, iv g17, iv g18, iv g19, rv a23, rv a150, rv a156, rv a182, rv a205, rv a207, rv a208, iv ((XT.ushr z5 (2 : Int32)) &&& (3 : Int32)), iv 0]) at_368 rfl ?_
                refine W.aload (pc := 370) 23 at_370 rfl rfl ?_
                refine W.aload (pc := 372) 24 at_372 rfl rfl ?_
                refine W.know (fun _ _ H => H.ne (i := 1) (j := 0) (by decide) rfl rfl (Or.inl rfl)) (fun ne212 => ?_)
                refine W.know (fun _ _ H => H.ne (i := 11) (j := 7) (by decide) rfl rfl (Or.inl rfl)) (fun ne213 => ?_)
                refine W.know (fun _ _ H => H.ne (i := 9) (j := 5) (by decide) rfl rfl (Or.inl rfl)) (fun ne214 => ?_)
                refine W.callV (pc := 374) (as := [(vr a208)]) 0 [] at_374 (w111 hw) (w112 hw) (w114 hw) (w114 hw) (w113 hw) (w41 hw) (w115 hw) (Hp.exa m1) (c110_equals hw hs (hx1 := hg7) (hx2 := hg8) (hx3 := hg9) (hx4 := hg12) (hx5 := hg13) (hx6 := hg17) (hx7 := hg18) (mp2 := m0) (mp1 := m1) (mp3 := m11) (mp5 := m7) (mp7 := m10) (mp9 := m6) (mp4 := m9) (mp6 := m5) (mp8 := m8) (mp10 := m4) (ne_p1_p2 := ne212) (ne_p3_p5 := ne213) (ne_p4_p6 := ne214)) (by decide) pd_Ljava_lang_Object__Z rfl rfl rfl rfl (by decide) (fun v D' h => ?_)
                obtain ⟨rfl, rfl⟩ := h
                show W _ _ _ _ _ _ _ _ _ _ _ _ 377 _ [(vi 0)]
                refine W.iload (pc := 377) at_377 rfl ?_
                refine W.icmpN (pc := 379) at_379 (n_ne (by decide)) ?_
                refine W.aload (pc := 382) 24 at_382 rfl rfl ?_
                refine W.aload (pc := 384) 23 at_384 rfl rfl ?_
                refine W.callV (pc := 386) (as := [(vr a207)]) 0 [] at_386 (w111 hw) (w112 hw) (w114 hw) (w114 hw) (w113 hw) (w41 hw) (w115 hw) (Hp.exa m0) (c111_equals hw hs (hx1 := hg12) (hx2 := hg13) (hx3 := hg17) (hx4 := hg18) (hx5 := hg7) (hx6 := hg8) (hx7 := hg9) (mp2 := m1) (mp1 := m0) (mp3 := m7) (mp5 := m11) (mp7 := m6) (mp9 := m10) (mp4 := m5) (mp6 := m9) (mp8 := m4) (mp10 := m8) (ne_p1_p2 := (Ne.symm ne212)) (ne_p3_p5 := (Ne.symm ne213)) (ne_p4_p6 := (Ne.symm ne214))) (by decide) pd_Ljava_lang_Object__Z rfl rfl rfl rfl (by decide) (fun v D' h => ?_)
                obtain ⟨rfl, rfl⟩ := h
                show W _ _ _ _ _ _ _ _ _ _ _ _ 389 _ [(vi 0)]
                refine W.iload (pc := 389) at_389 rfl ?_
                refine W.icmpN (pc := 391) at_391 (n_ne (by decide)) ?_
                refine W.iconst (pc := 394) (1) at_394 (by decide) ?_
                refine W.goto (pc := 395) 399 at_395 (by decide) ?_
                exact W.ireturn (pc := 399) at_399 rfl (Or.inr (Or.inl rfl)) (nw_bool (by decide)) (by decide) rfl
              ·
               have ih494 := t_eq h494
               have ih495 := f_eq h495
               show W _ _ _ _ _ _ _ _ _ _ _ _ 342 _ [(vi 0)]
               refine W.ifY (pc := 342) 367 at_342 (y_eq (by decide)) (by decide) ?_
               refine W.iconst (pc := 367) (0) at_367 (by decide) ?_
               refine W.istore (pc := 368) (ls' := #[iv z0, iv z1, iv z2, iv z3, iv z4, iv z5, iv g2, iv g5, iv g7, iv g8, iv g9, iv g10, iv g12, iv g13, iv g14, iv g17, iv g18, iv g19, rv a23, rv a150, rv a156, rv a182, rv a205, rv a207, rv a208, iv ((XT.ushr z5 (2 : Int32)) &&& (3 : Int32)), iv 0]) at_368 rfl ?_
               refine W.aload (pc := 370) 23 at_370 rfl rfl ?_
               refine W.aload (pc := 372) 24 at_372 rfl rfl ?_
               refine W.know (fun _ _ H => H.ne (i := 1) (j := 0) (by decide) rfl rfl (Or.inl rfl)) (fun ne215 => ?_)
               refine W.know (fun _ _ H => H.ne (i := 11) (j := 7) (by decide) rfl rfl (Or.inl rfl)) (fun ne216 => ?_)
               refine W.know (fun _ _ H => H.ne (i := 9) (j := 5) (by decide) rfl rfl (Or.inl rfl)) (fun ne217 => ?_)
               refine W.callV (pc := 374) (as := [(vr a208)]) 0 [] at_374 (w111 hw) (w112 hw) (w114 hw) (w114 hw) (w113 hw) (w41 hw) (w115 hw) (Hp.exa m1) (c110_equals hw hs (hx1 := hg7) (hx2 := hg8) (hx3 := hg9) (hx4 := hg12) (hx5 := hg13) (hx6 := hg17) (hx7 := hg18) (mp2 := m0) (mp1 := m1) (mp3 := m11) (mp5 := m7) (mp7 := m10) (mp9 := m6) (mp4 := m9) (mp6 := m5) (mp8 := m8) (mp10 := m4) (ne_p1_p2 := ne215) (ne_p3_p5 := ne216) (ne_p4_p6 := ne217)) (by decide) pd_Ljava_lang_Object__Z rfl rfl rfl rfl (by decide) (fun v D' h => ?_)
               obtain ⟨rfl, rfl⟩ := h
               show W _ _ _ _ _ _ _ _ _ _ _ _ 377 _ [(vi 0)]
               refine W.iload (pc := 377) at_377 rfl ?_
               refine W.icmpN (pc := 379) at_379 (n_ne (by decide)) ?_
               refine W.aload (pc := 382) 24 at_382 rfl rfl ?_
               refine W.aload (pc := 384) 23 at_384 rfl rfl ?_
               refine W.callV (pc := 386) (as := [(vr a207)]) 0 [] at_386 (w111 hw) (w112 hw) (w114 hw) (w114 hw) (w113 hw) (w41 hw) (w115 hw) (Hp.exa m0) (c111_equals hw hs (hx1 := hg12) (hx2 := hg13) (hx3 := hg17) (hx4 := hg18) (hx5 := hg7) (hx6 := hg8) (hx7 := hg9) (mp2 := m1) (mp1 := m0) (mp3 := m7) (mp5 := m11) (mp7 := m6) (mp9 := m10) (mp4 := m5) (mp6 := m9) (mp8 := m4) (mp10 := m8) (ne_p1_p2 := (Ne.symm ne215)) (ne_p3_p5 := (Ne.symm ne216)) (ne_p4_p6 := (Ne.symm ne217))) (by decide) pd_Ljava_lang_Object__Z rfl rfl rfl rfl (by decide) (fun v D' h => ?_)
               obtain ⟨rfl, rfl⟩ := h
               show W _ _ _ _ _ _ _ _ _ _ _ _ 389 _ [(vi 0)]
               refine W.iload (pc := 389) at_389 rfl ?_
               refine W.icmpN (pc := 391) at_391 (n_ne (by decide)) ?_
               refine W.iconst (pc := 394) (1) at_394 (by decide) ?_
               refine W.goto (pc := 395) 399 at_395 (by decide) ?_
               exact W.ireturn (pc := 399) at_399 rfl (Or.inr (Or.inl rfl)) (nw_bool (by decide)) (by decide) rfl
              ·
               exact absurd h496 (Classical.not_not.mpr (y_eq (by have := q0; have := rng32 z5; have := q2; have := aushr_2 z5; have := q3; have := am_3 (XT.ushr z5 (2 : Int32)); have := q1; omega)))
             ·
              have ih482 := f_ne h482
              refine W.aload (pc := 319) 23 at_319 rfl rfl ?_
              refine W.aload (pc := 321) 23 at_321 rfl rfl ?_
              refine W.callV (pc := 323) (as := [(vr a207)]) 0 [] at_323 (w111 hw) (w112 hw) (w114 hw) (w114 hw) (w113 hw) (w41 hw) (w115 hw) (Hp.exa m1) (c66_equals hw hs) (by decide) pd_Ljava_lang_Object__Z rfl rfl rfl rfl (by decide) (fun v D' h => ?_)
              obtain ⟨rfl, rfl⟩ := h
              show W _ _ _ _ _ _ _ _ _ _ _ _ 326 _ [(vi 1)]
              exact W.ireturn (pc := 326) at_326 rfl (Or.inr (Or.inl rfl)) (nw_bool (by decide)) (by decide) rfl
            ·
             have ih481 := f_ne h481
             refine W.aload (pc := 297) 23 at_297 rfl rfl ?_
             refine W.aload (pc := 299) 22 at_299 rfl rfl ?_
             refine W.know (fun _ _ H => H.ne (i := 1) (j := 3) (by decide) rfl rfl (Or.inl rfl)) (fun ne218 => ?_)
             refine W.callV (pc := 301) (as := [(vr a205)]) 0 [] at_301 (w111 hw) (w112 hw) (w114 hw) (w114 hw) (w113 hw) (w41 hw) (w115 hw) (Hp.exa m1) (c67_equals hw hs (mp2 := m3) (ne_p1_p2 := ne218)) (by decide) pd_Ljava_lang_Object__Z rfl rfl rfl rfl (by decide) (fun v D' h => ?_)
             obtain ⟨rfl, rfl⟩ := h
             show W _ _ _ _ _ _ _ _ _ _ _ _ 304 _ [(vi 0)]
             refine W.ifN (pc := 304) at_304 (n_ne (by decide)) ?_
             refine W.iconst (pc := 307) (1) at_307 (by decide) ?_
             refine W.goto (pc := 308) 312 at_308 (by decide) ?_
             exact W.ireturn (pc := 312) at_312 rfl (Or.inr (Or.inl rfl)) (nw_bool (by decide)) (by decide) rfl
           ·
            have ih480 := f_ne h480
            refine W.aload (pc := 276) 23 at_276 rfl rfl ?_
            refine W.aconstNull (pc := 278) at_278 ?_
            refine W.callV (pc := 279) (as := [.null]) 0 [] at_279 (w111 hw) (w112 hw) (w114 hw) (w114 hw) (w113 hw) (w41 hw) (w115 hw) (Hp.exa m1) (c68_equals hw hs) (by decide) pd_Ljava_lang_Object__Z rfl rfl rfl rfl (by decide) (fun v D' h => ?_)
            obtain ⟨rfl, rfl⟩ := h
            show W _ _ _ _ _ _ _ _ _ _ _ _ 282 _ [(vi 0)]
            refine W.ifN (pc := 282) at_282 (n_ne (by decide)) ?_
            refine W.iconst (pc := 285) (1) at_285 (by decide) ?_
            refine W.goto (pc := 286) 290 at_286 (by decide) ?_
            exact W.ireturn (pc := 290) at_290 rfl (Or.inr (Or.inl rfl)) (nw_bool (by decide)) (by decide) rfl
       ·
        have ih328 := f_eq h328
        show W _ _ _ _ _ _ _ _ _ _ _ _ 201 _ [(vr a152)]
        refine W.astore (pc := 201) (ls' := #[iv z0, iv z1, iv z2, iv z3, iv z4, iv z5, iv g2, iv g5, iv g7, iv g8, iv g9, iv g10, iv g12, iv g13, iv g14, iv g17, iv g18, iv g19, rv a23, rv a152, uu, uu, uu, uu, uu, uu, uu]) at_201 rfl rfl ?_
        refine W.iload (pc := 203) at_203 rfl ?_
        refine W.iload (pc := 205) at_205 rfl ?_
        refine W.iload (pc := 207) at_207 rfl ?_
        refine W.callS (pc := 209) (as := [(vi g12), (vi g13), (vi g14)]) 0 [] at_209 (w6 hw) (w7 hw) (w3 hw) (w8 hw) (c3_make hw hs (hx1 := hg12) (hx2 := hg13) (hx3 := hg14)) (by decide) pd_CCZ_Ljava_lang_String_ rfl rfl rfl rfl (by decide) (fun v D' h => ?_)
        rcases h with ⟨a219, a220, h511, rfl, rfl⟩ | ⟨a221, a222, h512, rfl, rfl⟩
        ·
         have ih511 := t_eq h511
         show W _ _ _ _ _ _ _ _ _ _ _ _ 212 _ [(vr a219)]
         refine W.astore (pc := 212) (ls' := #[iv z0, iv z1, iv z2, iv z3, iv z4, iv z5, iv g2, iv g5, iv g7, iv g8, iv g9, iv g10, iv g12, iv g13, iv g14, iv g17, iv g18, iv g19, rv a23, rv a152, rv a219, uu, uu, uu, uu, uu, uu]) at_212 rfl rfl ?_
         refine W.iload (pc := 214) at_214 rfl ?_
         refine W.iload (pc := 216) at_216 rfl ?_
         refine W.iload (pc := 218) at_218 rfl ?_
         refine W.callS (pc := 220) (as := [(vi g17), (vi g18), (vi g19)]) 0 [] at_220 (w6 hw) (w7 hw) (w3 hw) (w8 hw) (c14_make hw hs (hx1 := hg17) (hx2 := hg18) (hx3 := hg19)) (by decide) pd_CCZ_Ljava_lang_String_ rfl rfl rfl rfl (by decide) (fun v D' h => ?_)
         rcases h with ⟨a223, a224, h513, rfl, rfl⟩ | ⟨a225, a226, h514, rfl, rfl⟩
         ·
          have ih513 := t_eq h513
          show W _ _ _ _ _ _ _ _ _ _ _ _ 223 _ [(vr a223)]
          refine W.astore (pc := 223) (ls' := #[iv z0, iv z1, iv z2, iv z3, iv z4, iv z5, iv g2, iv g5, iv g7, iv g8, iv g9, iv g10, iv g12, iv g13, iv g14, iv g17, iv g18, iv g19, rv a23, rv a152, rv a219, rv a223, uu, uu, uu, uu, uu]) at_223 rfl rfl ?_
          refine W.iload (pc := 225) at_225 rfl ?_
          refine W.iload (pc := 227) at_227 rfl ?_
          refine W.iload (pc := 229) at_229 rfl ?_
          refine W.callS (pc := 231) (as := [(vi g7), (vi g8), (vi g2)]) 0 [] at_231 (w6 hw) (w7 hw) (w3 hw) (w8 hw) (c3_make hw hs (hx1 := hg7) (hx2 := hg8) (hx3 := hg2)) (by decide) pd_CCZ_Ljava_lang_String_ rfl rfl rfl rfl (by decide) (fun v D' h => ?_)
          rcases h with ⟨a227, a228, h515, rfl, rfl⟩ | ⟨a229, a230, h516, rfl, rfl⟩
          ·
           exact absurd h515 (n_eq (by have := q0; omega))
          ·
           have ih516 := f_eq h516
           show W _ _ _ _ _ _ _ _ _ _ _ _ 234 _ [(vr a229)]
           refine W.astore (pc := 234) (ls' := #[iv z0, iv z1, iv z2, iv z3, iv z4, iv z5, iv g2, iv g5, iv g7, iv g8, iv g9, iv g10, iv g12, iv g13, iv g14, iv g17, iv g18, iv g19, rv a23, rv a152, rv a219, rv a223, rv a229, uu, uu, uu, uu]) at_234 rfl rfl ?_
           refine W.new (pc := 236) at_236 (w39 hw) (w40 hw) (w41 hw) (laJobKey hw) (by decide) (by decide) (fun a231 => ?_)
           show W _ _ _ _ _ _ _ _ _ _ _ _ 239 _ [(vr a231)]
           refine W.dup (pc := 239) at_239 rfl ?_
           refine W.aload (pc := 240) 18 at_240 rfl rfl ?_
           refine W.aload (pc := 242) 19 at_242 rfl rfl ?_
           refine W.callI (pc := 244) (as := [(vr a23), (vr a152)]) 1 [(vr a231)] at_244 rfl (w42 hw) (w43 hw) (w41 hw) (w44 hw) (c103_init hw hs (hx1 := hg7) (hx2 := hg8) (hx3 := hg9) (hx4 := hg10) (mog1Z := m12) (mp2 := m9) (mp4 := m8) (mog2Z := m11) (mog3Z := m10) (mog4Z := m15) (mp3 := m7) (mp5 := m6) (mog5Z := m14) (mog6Z := m13)) (by decide) pd_Ljava_lang_String_Ljava_lang_String__V rfl rfl rfl rfl (by decide) (fun v D' h => ?_)
           obtain ⟨rfl, rfl⟩ := h
           show W _ _ _ _ _ _ _ _ _ _ _ _ 247 _ [(vr a231)]
           refine W.astore (pc := 247) (ls' := #[iv z0, iv z1, iv z2, iv z3, iv z4, iv z5, iv g2, iv g5, iv g7, iv g8, iv g9, iv g10, iv g12, iv g13, iv g14, iv g17, iv g18, iv g19, rv a23, rv a152, rv a219, rv a223, rv a229, rv a231, uu, uu, uu]) at_247 rfl rfl ?_
           refine W.new (pc := 249) at_249 (w39 hw) (w40 hw) (w41 hw) (laJobKey hw) (by decide) (by decide) (fun a232 => ?_)
           show W _ _ _ _ _ _ _ _ _ _ _ _ 252 _ [(vr a232)]
           refine W.dup (pc := 252) at_252 rfl ?_
           refine W.aload (pc := 253) 20 at_253 rfl rfl ?_
           refine W.aload (pc := 255) 21 at_255 rfl rfl ?_
           refine W.callI (pc := 257) (as := [(vr a219), (vr a223)]) 1 [(vr a232)] at_257 rfl (w42 hw) (w43 hw) (w41 hw) (w44 hw) (c25_init hw hs (hx1 := hg12) (hx2 := hg17) (mog1Z := m13) (mp2 := m6) (mp4 := m5) (mog2Z := m12) (mog3Z := m11) (mog4Z := m16) (mp3 := m4) (mp5 := m3) (mog5Z := m15) (mog6Z := m14)) (by decide) pd_Ljava_lang_String_Ljava_lang_String__V rfl rfl rfl rfl (by decide) (fun v D' h => ?_)
           obtain ⟨rfl, rfl⟩ := h
           show W _ _ _ _ _ _ _ _ _ _ _ _ 260 _ [(vr a232)]
           refine W.astore (pc := 260) (ls' := #[iv z0, iv z1, iv z2, iv z3, iv z4, iv z5, iv g2, iv g5, iv g7, iv g8, iv g9, iv g10, iv g12, iv g13, iv g14, iv g17, iv g18, iv g19, rv a23, rv a152, rv a219, rv a223, rv a229, rv a231, rv a232, uu, uu]) at_260 rfl rfl ?_
           refine W.iload (pc := 262) at_262 rfl ?_
           refine W.iconst (pc := 264) (2) at_264 (by decide) ?_
           refine W.iushr (pc := 265) at_265 ?_
           refine W.iconst (pc := 266) (3) at_266 (by decide) ?_
           refine W.iand (pc := 267) at_267 ?_
           refine W.istore (pc := 268) (ls' := #[iv z0, iv z1, iv z2, iv z3, iv z4, iv z5, iv g2, iv g5, iv g7, iv g8, iv g9, iv g10, iv g12, iv g13, iv g14, iv g17, iv g18, iv g19, rv a23, rv a152, rv a219, rv a223, rv a229, rv a231, rv a232, iv ((XT.ushr z5 (2 : Int32)) &&& (3 : Int32)), uu]) at_268 rfl ?_
           refine W.iload (pc := 270) at_270 rfl ?_
           refine W.iconst (pc := 272) (1) at_272 (by decide) ?_
           refine W.icmp (pc := 273) 291 at_273 (by decide) (fun h517 => ?_) (fun h517 => ?_)
           ·
            have ih517 := t_ne h517
            refine W.iload (pc := 291) at_291 rfl ?_
            refine W.iconst (pc := 293) (2) at_293 (by decide) ?_
            refine W.icmp (pc := 294) 313 at_294 (by decide) (fun h518 => ?_) (fun h518 => ?_)
            ·
             have ih518 := t_ne h518
             refine W.iload (pc := 313) at_313 rfl ?_
             refine W.iconst (pc := 315) (3) at_315 (by decide) ?_
             refine W.icmp (pc := 316) 327 at_316 (by decide) (fun h519 => ?_) (fun h519 => ?_)
             ·
              have ih519 := t_ne h519
              refine W.iload (pc := 327) at_327 rfl ?_
              refine W.iload (pc := 329) at_329 rfl ?_
              refine W.iload (pc := 331) at_331 rfl ?_
              refine W.iload (pc := 333) at_333 rfl ?_
              refine W.iload (pc := 335) at_335 rfl ?_
              refine W.iload (pc := 337) at_337 rfl ?_
              refine W.callS (pc := 339) (as := [(vi g7), (vi g8), (vi g2), (vi g12), (vi g13), (vi g14)]) 0 [] at_339 (w108 hw) (w109 hw) (w3 hw) (w110 hw) (c59_same hw hs (hx1 := hg7) (hx2 := hg8) (hx3 := hg2) (hx4 := hg12) (hx5 := hg13) (hx6 := hg14)) (by decide) pd_CCZCCZ_Z rfl rfl rfl rfl (by decide) (fun v D' h => ?_)
              rcases h with ⟨h520, h521, h522, rfl, rfl⟩ | ⟨h523, h524, h525, h526, rfl, rfl⟩ | ⟨h527, h528, h529, h530, rfl, rfl⟩ | ⟨h531, h532, rfl, rfl⟩ | ⟨h533, rfl, rfl⟩
              ·
               exact absurd h520 (n_eq (by have := q0; have := rng32 z5; have := q2; have := aushr_2 z5; have := q3; have := am_3 (XT.ushr z5 (2 : Int32)); have := q1; omega))
              ·
               exact absurd h523 (n_eq (by have := q0; have := rng32 z5; have := q2; have := aushr_2 z5; have := q3; have := am_3 (XT.ushr z5 (2 : Int32)); have := q1; omega))
              ·
               exact absurd h527 (n_eq (by have := q0; have := rng32 z5; have := q2; have := aushr_2 z5; have := q3; have := am_3 (XT.ushr z5 (2 : Int32)); have := q1; omega))
              ·
               exact absurd h531 (n_eq (by have := q0; have := rng32 z5; have := q2; have := aushr_2 z5; have := q3; have := am_3 (XT.ushr z5 (2 : Int32)); have := q1; omega))
              ·
               have ih533 := f_eq h533
               show W _ _ _ _ _ _ _ _ _ _ _ _ 342 _ [(vi 0)]
               refine W.ifY (pc := 342) 367 at_342 (y_eq (by decide)) (by decide) ?_
               refine W.iconst (pc := 367) (0) at_367 (by decide) ?_
               refine W.istore (pc := 368) (ls' := #[iv z0, iv z1, iv z2, iv z3, iv z4, iv z5, iv g2, iv g5, iv g7, iv g8, iv g9, iv g10, iv g12, iv g13, iv g14, iv g17, iv g18, iv g19, rv a23, rv a152, rv a219, rv a223, rv a229, rv a231, rv a232, iv ((XT.ushr z5 (2 : Int32)) &&& (3 : Int32)), iv 0]) at_368 rfl ?_
               refine W.aload (pc := 370) 23 at_370 rfl rfl ?_
               refine W.aload (pc := 372) 24 at_372 rfl rfl ?_
               refine W.know (fun _ _ H => H.ne (i := 1) (j := 0) (by decide) rfl rfl (Or.inl rfl)) (fun ne233 => ?_)
               refine W.know (fun _ _ H => H.ne (i := 11) (j := 7) (by decide) rfl rfl (Or.inl rfl)) (fun ne234 => ?_)
               refine W.callV (pc := 374) (as := [(vr a232)]) 0 [] at_374 (w111 hw) (w112 hw) (w114 hw) (w114 hw) (w113 hw) (w41 hw) (w115 hw) (Hp.exa m1) (c100_equals hw hs (hx1 := hg7) (hx2 := hg8) (hx4 := hg12) (mp2 := m0) (mp1 := m1) (mp3 := m11) (mp5 := m7) (mp7 := m10) (mp9 := m6) (ne_p1_p2 := ne233) (ne_p3_p5 := ne234)) (by decide) pd_Ljava_lang_Object__Z rfl rfl rfl rfl (by decide) (fun v D' h => ?_)
               obtain ⟨rfl, rfl⟩ := h
               show W _ _ _ _ _ _ _ _ _ _ _ _ 377 _ [(vi 0)]
               refine W.iload (pc := 377) at_377 rfl ?_
               refine W.icmpN (pc := 379) at_379 (n_ne (by decide)) ?_
               refine W.aload (pc := 382) 24 at_382 rfl rfl ?_
               refine W.aload (pc := 384) 23 at_384 rfl rfl ?_
               refine W.callV (pc := 386) (as := [(vr a231)]) 0 [] at_386 (w111 hw) (w112 hw) (w114 hw) (w114 hw) (w113 hw) (w41 hw) (w115 hw) (Hp.exa m0) (c97_equals hw hs (hx1 := hg12) (hx3 := hg7) (hx4 := hg8) (mp2 := m1) (mp1 := m0) (mp3 := m7) (mp5 := m11) (mp7 := m6) (mp9 := m10) (ne_p1_p2 := (Ne.symm ne233)) (ne_p3_p5 := (Ne.symm ne234))) (by decide) pd_Ljava_lang_Object__Z rfl rfl rfl rfl (by decide) (fun v D' h => ?_)
               obtain ⟨rfl, rfl⟩ := h
               show W _ _ _ _ _ _ _ _ _ _ _ _ 389 _ [(vi 0)]
               refine W.iload (pc := 389) at_389 rfl ?_
               refine W.icmpN (pc := 391) at_391 (n_ne (by decide)) ?_
               refine W.iconst (pc := 394) (1) at_394 (by decide) ?_
               refine W.goto (pc := 395) 399 at_395 (by decide) ?_
               exact W.ireturn (pc := 399) at_399 rfl (Or.inr (Or.inl rfl)) (nw_bool (by decide)) (by decide) rfl
             ·
              have ih519 := f_ne h519
              refine W.aload (pc := 319) 23 at_319 rfl rfl ?_
              refine W.aload (pc := 321) 23 at_321 rfl rfl ?_
              refine W.callV (pc := 323) (as := [(vr a231)]) 0 [] at_323 (w111 hw) (w112 hw) (w114 hw) (w114 hw) (w113 hw) (w41 hw) (w115 hw) (Hp.exa m1) (c66_equals hw hs) (by decide) pd_Ljava_lang_Object__Z rfl rfl rfl rfl (by decide) (fun v D' h => ?_)
              obtain ⟨rfl, rfl⟩ := h
              show W _ _ _ _ _ _ _ _ _ _ _ _ 326 _ [(vi 1)]
              exact W.ireturn (pc := 326) at_326 rfl (Or.inr (Or.inl rfl)) (nw_bool (by decide)) (by decide) rfl
            ·
             have ih518 := f_ne h518
             refine W.aload (pc := 297) 23 at_297 rfl rfl ?_
             refine W.aload (pc := 299) 22 at_299 rfl rfl ?_
             refine W.know (fun _ _ H => H.ne (i := 1) (j := 3) (by decide) rfl rfl (Or.inl rfl)) (fun ne235 => ?_)
             refine W.callV (pc := 301) (as := [(vr a229)]) 0 [] at_301 (w111 hw) (w112 hw) (w114 hw) (w114 hw) (w113 hw) (w41 hw) (w115 hw) (Hp.exa m1) (c67_equals hw hs (mp2 := m3) (ne_p1_p2 := ne235)) (by decide) pd_Ljava_lang_Object__Z rfl rfl rfl rfl (by decide) (fun v D' h => ?_)
             obtain ⟨rfl, rfl⟩ := h
             show W _ _ _ _ _ _ _ _ _ _ _ _ 304 _ [(vi 0)]
             refine W.ifN (pc := 304) at_304 (n_ne (by decide)) ?_
             refine W.iconst (pc := 307) (1) at_307 (by decide) ?_
             refine W.goto (pc := 308) 312 at_308 (by decide) ?_
             exact W.ireturn (pc := 312) at_312 rfl (Or.inr (Or.inl rfl)) (nw_bool (by decide)) (by decide) rfl
           ·
            have ih517 := f_ne h517
            refine W.aload (pc := 276) 23 at_276 rfl rfl ?_
            refine W.aconstNull (pc := 278) at_278 ?_
            refine W.callV (pc := 279) (as := [.null]) 0 [] at_279 (w111 hw) (w112 hw) (w114 hw) (w114 hw) (w113 hw) (w41 hw) (w115 hw) (Hp.exa m1) (c68_equals hw hs) (by decide) pd_Ljava_lang_Object__Z rfl rfl rfl rfl (by decide) (fun v D' h => ?_)
            obtain ⟨rfl, rfl⟩ := h
            show W _ _ _ _ _ _ _ _ _ _ _ _ 282 _ [(vi 0)]
            refine W.ifN (pc := 282) at_282 (n_ne (by decide)) ?_
            refine W.iconst (pc := 285) (1) at_285 (by decide) ?_
            refine W.goto (pc := 286) 290 at_286 (by decide) ?_
            exact W.ireturn (pc := 290) at_290 rfl (Or.inr (Or.inl rfl)) (nw_bool (by decide)) (by decide) rfl
         ·
          have ih514 := f_eq h514
          show W _ _ _ _ _ _ _ _ _ _ _ _ 223 _ [(vr a225)]
          refine W.astore (pc := 223) (ls' := #[iv z0, iv z1, iv z2, iv z3, iv z4, iv z5, iv g2, iv g5, iv g7, iv g8, iv g9, iv g10, iv g12, iv g13, iv g14, iv g17, iv g18, iv g19, rv a23, rv a152, rv a219, rv a225, uu, uu, uu, uu, uu]) at_223 rfl rfl ?_
          refine W.iload (pc := 225) at_225 rfl ?_
          refine W.iload (pc := 227) at_227 rfl ?_
          refine W.iload (pc := 229) at_229 rfl ?_
          refine W.callS (pc := 231) (as := [(vi g7), (vi g8), (vi g2)]) 0 [] at_231 (w6 hw) (w7 hw) (w3 hw) (w8 hw) (c3_make hw hs (hx1 := hg7) (hx2 := hg8) (hx3 := hg2)) (by decide) pd_CCZ_Ljava_lang_String_ rfl rfl rfl rfl (by decide) (fun v D' h => ?_)
          rcases h with ⟨a236, a237, h534, rfl, rfl⟩ | ⟨a238, a239, h535, rfl, rfl⟩
          ·
           exact absurd h534 (n_eq (by have := q0; omega))
          ·
           have ih535 := f_eq h535
           show W _ _ _ _ _ _ _ _ _ _ _ _ 234 _ [(vr a238)]
           refine W.astore (pc := 234) (ls' := #[iv z0, iv z1, iv z2, iv z3, iv z4, iv z5, iv g2, iv g5, iv g7, iv g8, iv g9, iv g10, iv g12, iv g13, iv g14, iv g17, iv g18, iv g19, rv a23, rv a152, rv a219, rv a225, rv a238, uu, uu, uu, uu]) at_234 rfl rfl ?_
           refine W.new (pc := 236) at_236 (w39 hw) (w40 hw) (w41 hw) (laJobKey hw) (by decide) (by decide) (fun a240 => ?_)
           show W _ _ _ _ _ _ _ _ _ _ _ _ 239 _ [(vr a240)]
           refine W.dup (pc := 239) at_239 rfl ?_
           refine W.aload (pc := 240) 18 at_240 rfl rfl ?_
           refine W.aload (pc := 242) 19 at_242 rfl rfl ?_
           refine W.callI (pc := 244) (as := [(vr a23), (vr a152)]) 1 [(vr a240)] at_244 rfl (w42 hw) (w43 hw) (w41 hw) (w44 hw) (c103_init hw hs (hx1 := hg7) (hx2 := hg8) (hx3 := hg9) (hx4 := hg10) (mog1Z := m12) (mp2 := m9) (mp4 := m8) (mog2Z := m11) (mog3Z := m10) (mog4Z := m15) (mp3 := m7) (mp5 := m6) (mog5Z := m14) (mog6Z := m13)) (by decide) pd_Ljava_lang_String_Ljava_lang_String__V rfl rfl rfl rfl (by decide) (fun v D' h => ?_)
           obtain ⟨rfl, rfl⟩ := h
           show W _ _ _ _ _ _ _ _ _ _ _ _ 247 _ [(vr a240)]
           refine W.astore (pc := 247) (ls' := #[iv z0, iv z1, iv z2, iv z3, iv z4, iv z5, iv g2, iv g5, iv g7, iv g8, iv g9, iv g10, iv g12, iv g13, iv g14, iv g17, iv g18, iv g19, rv a23, rv a152, rv a219, rv a225, rv a238, rv a240, uu, uu, uu]) at_247 rfl rfl ?_
           refine W.new (pc := 249) at_249 (w39 hw) (w40 hw) (w41 hw) (laJobKey hw) (by decide) (by decide) (fun a241 => ?_)
           show W _ _ _ _ _ _ _ _ _ _ _ _ 252 _ [(vr a241)]
           refine W.dup (pc := 252) at_252 rfl ?_
           refine W.aload (pc := 253) 20 at_253 rfl rfl ?_
           refine W.aload (pc := 255) 21 at_255 rfl rfl ?_
           refine W.callI (pc := 257) (as := [(vr a219), (vr a225)]) 1 [(vr a241)] at_257 rfl (w42 hw) (w43 hw) (w41 hw) (w44 hw) (c69_init hw hs (hx1 := hg12) (hx2 := hg17) (hx3 := hg18) (mog1Z := m13) (mp2 := m6) (mp4 := m5) (mog2Z := m12) (mog3Z := m11) (mog4Z := m16) (mp3 := m4) (mp5 := m3) (mog5Z := m15) (mog6Z := m14)) (by decide) pd_Ljava_lang_String_Ljava_lang_String__V rfl rfl rfl rfl (by decide) (fun v D' h => ?_)
           obtain ⟨rfl, rfl⟩ := h
           show W _ _ _ _ _ _ _ _ _ _ _ _ 260 _ [(vr a241)]
           refine W.astore (pc := 260) (ls' := #[iv z0, iv z1, iv z2, iv z3, iv z4, iv z5, iv g2, iv g5, iv g7, iv g8, iv g9, iv g10, iv g12, iv g13, iv g14, iv g17, iv g18, iv g19, rv a23, rv a152, rv a219, rv a225, rv a238, rv a240, rv a241, uu, uu]) at_260 rfl rfl ?_
           refine W.iload (pc := 262) at_262 rfl ?_
           refine W.iconst (pc := 264) (2) at_264 (by decide) ?_
           refine W.iushr (pc := 265) at_265 ?_
           refine W.iconst (pc := 266) (3) at_266 (by decide) ?_
           refine W.iand (pc := 267) at_267 ?_
           refine W.istore (pc := 268) (ls' := #[iv z0, iv z1, iv z2, iv z3, iv z4, iv z5, iv g2, iv g5, iv g7, iv g8, iv g9, iv g10, iv g12, iv g13, iv g14, iv g17, iv g18, iv g19, rv a23, rv a152, rv a219, rv a225, rv a238, rv a240, rv a241, iv ((XT.ushr z5 (2 : Int32)) &&& (3 : Int32)), uu]) at_268 rfl ?_
           refine W.iload (pc := 270) at_270 rfl ?_
           refine W.iconst (pc := 272) (1) at_272 (by decide) ?_
           refine W.icmp (pc := 273) 291 at_273 (by decide) (fun h536 => ?_) (fun h536 => ?_)
           ·
            have ih536 := t_ne h536
            refine W.iload (pc := 291) at_291 rfl ?_
            refine W.iconst (pc := 293) (2) at_293 (by decide) ?_
            refine W.icmp (pc := 294) 313 at_294 (by decide) (fun h537 => ?_) (fun h537 => ?_)
            ·
             have ih537 := t_ne h537
             refine W.iload (pc := 313) at_313 rfl ?_
             refine W.iconst (pc := 315) (3) at_315 (by decide) ?_
             refine W.icmp (pc := 316) 327 at_316 (by decide) (fun h538 => ?_) (fun h538 => ?_)
             ·
              have ih538 := t_ne h538
              refine W.iload (pc := 327) at_327 rfl ?_
              refine W.iload (pc := 329) at_329 rfl ?_
              refine W.iload (pc := 331) at_331 rfl ?_
              refine W.iload (pc := 333) at_333 rfl ?_
              refine W.iload (pc := 335) at_335 rfl ?_
              refine W.iload (pc := 337) at_337 rfl ?_
              refine W.callS (pc := 339) (as := [(vi g7), (vi g8), (vi g2), (vi g12), (vi g13), (vi g14)]) 0 [] at_339 (w108 hw) (w109 hw) (w3 hw) (w110 hw) (c59_same hw hs (hx1 := hg7) (hx2 := hg8) (hx3 := hg2) (hx4 := hg12) (hx5 := hg13) (hx6 := hg14)) (by decide) pd_CCZCCZ_Z rfl rfl rfl rfl (by decide) (fun v D' h => ?_)
              rcases h with ⟨h539, h540, h541, rfl, rfl⟩ | ⟨h542, h543, h544, h545, rfl, rfl⟩ | ⟨h546, h547, h548, h549, rfl, rfl⟩ | ⟨h550, h551, rfl, rfl⟩ | ⟨h552, rfl, rfl⟩
              ·
               exact absurd h539 (n_eq (by have := q0; have := rng32 z5; have := q2; have := aushr_2 z5; have := q3; have := am_3 (XT.ushr z5 (2 : Int32)); have := q1; omega))
              ·
               exact absurd h542 (n_eq (by have := q0; have := rng32 z5; have := q2; have := aushr_2 z5; have := q3; have := am_3 (XT.ushr z5 (2 : Int32)); have := q1; omega))
              ·
               exact absurd h546 (n_eq (by have := q0; have := rng32 z5; have := q2; have := aushr_2 z5; have := q3; have := am_3 (XT.ushr z5 (2 : Int32)); have := q1; omega))
              ·
               exact absurd h550 (n_eq (by have := q0; have := rng32 z5; have := q2; have := aushr_2 z5; have := q3; have := am_3 (XT.ushr z5 (2 : Int32)); have := q1; omega))
              ·
               have ih552 := f_eq h552
               show W _ _ _ _ _ _ _ _ _ _ _ _ 342 _ [(vi 0)]
               refine W.ifY (pc := 342) 367 at_342 (y_eq (by decide)) (by decide) ?_
               refine W.iconst (pc := 367) (0) at_367 (by decide) ?_
               refine W.istore (pc := 368) (ls' := #[iv z0, iv z1, iv z2, iv z3, iv z4, iv z5, iv g2, iv g5, iv g7, iv g8, iv g9, iv g10, iv g12, iv g13, iv g14, iv g17, iv g18, iv g19, rv a23, rv a152, rv a219, rv a225, rv a238, rv a240, rv a241, iv ((XT.ushr z5 (2 : Int32)) &&& (3 : Int32)), iv 0]) at_368 rfl ?_
               refine W.aload (pc := 370) 23 at_370 rfl rfl ?_
               refine W.aload (pc := 372) 24 at_372 rfl rfl ?_
               refine W.know (fun _ _ H => H.ne (i := 1) (j := 0) (by decide) rfl rfl (Or.inl rfl)) (fun ne242 => ?_)
               refine W.know (fun _ _ H => H.ne (i := 11) (j := 7) (by decide) rfl rfl (Or.inl rfl)) (fun ne243 => ?_)
               refine W.callV (pc := 374) (as := [(vr a241)]) 0 [] at_374 (w111 hw) (w112 hw) (w114 hw) (w114 hw) (w113 hw) (w41 hw) (w115 hw) (Hp.exa m1) (c100_equals hw hs (hx1 := hg7) (hx2 := hg8) (hx4 := hg12) (mp2 := m0) (mp1 := m1) (mp3 := m11) (mp5 := m7) (mp7 := m10) (mp9 := m6) (ne_p1_p2 := ne242) (ne_p3_p5 := ne243)) (by decide) pd_Ljava_lang_Object__Z rfl rfl rfl rfl (by decide) (fun v D' h => ?_)
               obtain ⟨rfl, rfl⟩ := h
               show W _ _ _ _ _ _ _ _ _ _ _ _ 377 _ [(vi 0)]
               refine W.iload (pc := 377) at_377 rfl ?_
               refine W.icmpN (pc := 379) at_379 (n_ne (by decide)) ?_
               refine W.aload (pc := 382) 24 at_382 rfl rfl ?_
               refine W.aload (pc := 384) 23 at_384 rfl rfl ?_
               refine W.callV (pc := 386) (as := [(vr a240)]) 0 [] at_386 (w111 hw) (w112 hw) (w114 hw) (w114 hw) (w113 hw) (w41 hw) (w115 hw) (Hp.exa m0) (c97_equals hw hs (hx1 := hg12) (hx3 := hg7) (hx4 := hg8) (mp2 := m1) (mp1 := m0) (mp3 := m7) (mp5 := m11) (mp7 := m6) (mp9 := m10) (ne_p1_p2 := (Ne.symm ne242)) (ne_p3_p5 := (Ne.symm ne243))) (by decide) pd_Ljava_lang_Object__Z rfl rfl rfl rfl (by decide) (fun v D' h => ?_)
               obtain ⟨rfl, rfl⟩ := h
               show W _ _ _ _ _ _ _ _ _ _ _ _ 389 _ [(vi 0)]
               refine W.iload (pc := 389) at_389 rfl ?_
               refine W.icmpN (pc := 391) at_391 (n_ne (by decide)) ?_
               refine W.iconst (pc := 394) (1) at_394 (by decide) ?_
               refine W.goto (pc := 395) 399 at_395 (by decide) ?_
               exact W.ireturn (pc := 399) at_399 rfl (Or.inr (Or.inl rfl)) (nw_bool (by decide)) (by decide) rfl
             ·
              have ih538 := f_ne h538
              refine W.aload (pc := 319) 23 at_319 rfl rfl ?_
              refine W.aload (pc := 321) 23 at_321 rfl rfl ?_
              refine W.callV (pc := 323) (as := [(vr a240)]) 0 [] at_323 (w111 hw) (w112 hw) (w114 hw) (w114 hw) (w113 hw) (w41 hw) (w115 hw) (Hp.exa m1) (c66_equals hw hs) (by decide) pd_Ljava_lang_Object__Z rfl rfl rfl rfl (by decide) (fun v D' h => ?_)
              obtain ⟨rfl, rfl⟩ := h
              show W _ _ _ _ _ _ _ _ _ _ _ _ 326 _ [(vi 1)]
              exact W.ireturn (pc := 326) at_326 rfl (Or.inr (Or.inl rfl)) (nw_bool (by decide)) (by decide) rfl
            ·
             have ih537 := f_ne h537
             refine W.aload (pc := 297) 23 at_297 rfl rfl ?_
             refine W.aload (pc := 299) 22 at_299 rfl rfl ?_
             refine W.know (fun _ _ H => H.ne (i := 1) (j := 3) (by decide) rfl rfl (Or.inl rfl)) (fun ne244 => ?_)
             refine W.callV (pc := 301) (as := [(vr a238)]) 0 [] at_301 (w111 hw) (w112 hw) (w114 hw) (w114 hw) (w113 hw) (w41 hw) (w115 hw) (Hp.exa m1) (c67_equals hw hs (mp2 := m3) (ne_p1_p2 := ne244)) (by decide) pd_Ljava_lang_Object__Z rfl rfl rfl rfl (by decide) (fun v D' h => ?_)
             obtain ⟨rfl, rfl⟩ := h
             show W _ _ _ _ _ _ _ _ _ _ _ _ 304 _ [(vi 0)]
             refine W.ifN (pc := 304) at_304 (n_ne (by decide)) ?_
             refine W.iconst (pc := 307) (1) at_307 (by decide) ?_
             refine W.goto (pc := 308) 312 at_308 (by decide) ?_
             exact W.ireturn (pc := 312) at_312 rfl (Or.inr (Or.inl rfl)) (nw_bool (by decide)) (by decide) rfl
           ·
            have ih536 := f_ne h536
            refine W.aload (pc := 276) 23 at_276 rfl rfl ?_
            refine W.aconstNull (pc := 278) at_278 ?_
            refine W.callV (pc := 279) (as := [.null]) 0 [] at_279 (w111 hw) (w112 hw) (w114 hw) (w114 hw) (w113 hw) (w41 hw) (w115 hw) (Hp.exa m1) (c68_equals hw hs) (by decide) pd_Ljava_lang_Object__Z rfl rfl rfl rfl (by decide) (fun v D' h => ?_)
            obtain ⟨rfl, rfl⟩ := h
            show W _ _ _ _ _ _ _ _ _ _ _ _ 282 _ [(vi 0)]
            refine W.ifN (pc := 282) at_282 (n_ne (by decide)) ?_
            refine W.iconst (pc := 285) (1) at_285 (by decide) ?_
            refine W.goto (pc := 286) 290 at_286 (by decide) ?_
            exact W.ireturn (pc := 290) at_290 rfl (Or.inr (Or.inl rfl)) (nw_bool (by decide)) (by decide) rfl
        ·
         have ih512 := f_eq h512
         show W _ _ _ _ _ _ _ _ _ _ _ _ 212 _ [(vr a221)]
         refine W.astore (pc := 212) (ls' := #[iv z0, iv z1, iv z2, iv z3, iv z4, iv z5, iv g2, iv g5, iv g7, iv g8, iv g9, iv g10, iv g12, iv g13, iv g14, iv g17, iv g18, iv g19, rv a23, rv a152, rv a221, uu, uu, uu, uu, uu, uu]) at_212 rfl rfl ?_
         refine W.iload (pc := 214) at_214 rfl ?_
         refine W.iload (pc := 216) at_216 rfl ?_
         refine W.iload (pc := 218) at_218 rfl ?_
         refine W.callS (pc := 220) (as := [(vi g17), (vi g18), (vi g19)]) 0 [] at_220 (w6 hw) (w7 hw) (w3 hw) (w8 hw) (c14_make hw hs (hx1 := hg17) (hx2 := hg18) (hx3 := hg19)) (by decide) pd_CCZ_Ljava_lang_String_ rfl rfl rfl rfl (by decide) (fun v D' h => ?_)
         rcases h with ⟨a245, a246, h553, rfl, rfl⟩ | ⟨a247, a248, h554, rfl, rfl⟩
         ·
          have ih553 := t_eq h553
          show W _ _ _ _ _ _ _ _ _ _ _ _ 223 _ [(vr a245)]
          refine W.astore (pc := 223) (ls' := #[iv z0, iv z1, iv z2, iv z3, iv z4, iv z5, iv g2, iv g5, iv g7, iv g8, iv g9, iv g10, iv g12, iv g13, iv g14, iv g17, iv g18, iv g19, rv a23, rv a152, rv a221, rv a245, uu, uu, uu, uu, uu]) at_223 rfl rfl ?_
          refine W.iload (pc := 225) at_225 rfl ?_
          refine W.iload (pc := 227) at_227 rfl ?_
          refine W.iload (pc := 229) at_229 rfl ?_
          refine W.callS (pc := 231) (as := [(vi g7), (vi g8), (vi g2)]) 0 [] at_231 (w6 hw) (w7 hw) (w3 hw) (w8 hw) (c3_make hw hs (hx1 := hg7) (hx2 := hg8) (hx3 := hg2)) (by decide) pd_CCZ_Ljava_lang_String_ rfl rfl rfl rfl (by decide) (fun v D' h => ?_)
          rcases h with ⟨a249, a250, h555, rfl, rfl⟩ | ⟨a251, a252, h556, rfl, rfl⟩
          ·
           exact absurd h555 (n_eq (by have := q0; omega))
          ·
           have ih556 := f_eq h556
           show W _ _ _ _ _ _ _ _ _ _ _ _ 234 _ [(vr a251)]
           refine W.astore (pc := 234) (ls' := #[iv z0, iv z1, iv z2, iv z3, iv z4, iv z5, iv g2, iv g5, iv g7, iv g8, iv g9, iv g10, iv g12, iv g13, iv g14, iv g17, iv g18, iv g19, rv a23, rv a152, rv a221, rv a245, rv a251, uu, uu, uu, uu]) at_234 rfl rfl ?_
           refine W.new (pc := 236) at_236 (w39 hw) (w40 hw) (w41 hw) (laJobKey hw) (by decide) (by decide) (fun a253 => ?_)
           show W _ _ _ _ _ _ _ _ _ _ _ _ 239 _ [(vr a253)]
           refine W.dup (pc := 239) at_239 rfl ?_
           refine W.aload (pc := 240) 18 at_240 rfl rfl ?_
           refine W.aload (pc := 242) 19 at_242 rfl rfl ?_
           refine W.callI (pc := 244) (as := [(vr a23), (vr a152)]) 1 [(vr a253)] at_244 rfl (w42 hw) (w43 hw) (w41 hw) (w44 hw) (c103_init hw hs (hx1 := hg7) (hx2 := hg8) (hx3 := hg9) (hx4 := hg10) (mog1Z := m12) (mp2 := m9) (mp4 := m8) (mog2Z := m11) (mog3Z := m10) (mog4Z := m15) (mp3 := m7) (mp5 := m6) (mog5Z := m14) (mog6Z := m13)) (by decide) pd_Ljava_lang_String_Ljava_lang_String__V rfl rfl rfl rfl (by decide) (fun v D' h => ?_)
           obtain ⟨rfl, rfl⟩ := h
           show W _ _ _ _ _ _ _ _ _ _ _ _ 247 _ [(vr a253)]
           refine W.astore (pc := 247) (ls' := #[iv z0, iv z1, iv z2, iv z3, iv z4, iv z5, iv g2, iv g5, iv g7, iv g8, iv g9, iv g10, iv g12, iv g13, iv g14, iv g17, iv g18, iv g19, rv a23, rv a152, rv a221, rv a245, rv a251, rv a253, uu, uu, uu]) at_247 rfl rfl ?_
           refine W.new (pc := 249) at_249 (w39 hw) (w40 hw) (w41 hw) (laJobKey hw) (by decide) (by decide) (fun a254 => ?_)
           show W _ _ _ _ _ _ _ _ _ _ _ _ 252 _ [(vr a254)]
           refine W.dup (pc := 252) at_252 rfl ?_
           refine W.aload (pc := 253) 20 at_253 rfl rfl ?_
           refine W.aload (pc := 255) 21 at_255 rfl rfl ?_
           refine W.callI (pc := 257) (as := [(vr a221), (vr a245)]) 1 [(vr a254)] at_257 rfl (w42 hw) (w43 hw) (w41 hw) (w44 hw) (c88_init hw hs (hx1 := hg12) (hx2 := hg13) (hx3 := hg17) (mog1Z := m13) (mp2 := m6) (mp4 := m5) (mog2Z := m12) (mog3Z := m11) (mog4Z := m16) (mp3 := m4) (mp5 := m3) (mog5Z := m15) (mog6Z := m14)) (by decide) pd_Ljava_lang_String_Ljava_lang_String__V rfl rfl rfl rfl (by decide) (fun v D' h => ?_)
           obtain ⟨rfl, rfl⟩ := h
           show W _ _ _ _ _ _ _ _ _ _ _ _ 260 _ [(vr a254)]
           refine W.astore (pc := 260) (ls' := #[iv z0, iv z1, iv z2, iv z3, iv z4, iv z5, iv g2, iv g5, iv g7, iv g8, iv g9, iv g10, iv g12, iv g13, iv g14, iv g17, iv g18, iv g19, rv a23, rv a152, rv a221, rv a245, rv a251, rv a253, rv a254, uu, uu]) at_260 rfl rfl ?_
           refine W.iload (pc := 262) at_262 rfl ?_
           refine W.iconst (pc := 264) (2) at_264 (by decide) ?_
           refine W.iushr (pc := 265) at_265 ?_
           refine W.iconst (pc := 266) (3) at_266 (by decide) ?_
           refine W.iand (pc := 267) at_267 ?_
           refine W.istore (pc := 268) (ls' := #[iv z0, iv z1, iv z2, iv z3, iv z4, iv z5, iv g2, iv g5, iv g7, iv g8, iv g9, iv g10, iv g12, iv g13, iv g14, iv g17, iv g18, iv g19, rv a23, rv a152, rv a221, rv a245, rv a251, rv a253, rv a254, iv ((XT.ushr z5 (2 : Int32)) &&& (3 : Int32)), uu]) at_268 rfl ?_
           refine W.iload (pc := 270) at_270 rfl ?_
           refine W.iconst (pc := 272) (1) at_272 (by decide) ?_
           refine W.icmp (pc := 273) 291 at_273 (by decide) (fun h557 => ?_) (fun h557 => ?_)
           ·
            have ih557 := t_ne h557
            refine W.iload (pc := 291) at_291 rfl ?_
            refine W.iconst (pc := 293) (2) at_293 (by decide) ?_
            refine W.icmp (pc := 294) 313 at_294 (by decide) (fun h558 => ?_) (fun h558 => ?_)
            ·
             have ih558 := t_ne h558
             refine W.iload (pc := 313) at_313 rfl ?_
             refine W.iconst (pc := 315) (3) at_315 (by decide) ?_
             refine W.icmp (pc := 316) 327 at_316 (by decide) (fun h559 => ?_) (fun h559 => ?_)
             ·
              have ih559 := t_ne h559
              refine W.iload (pc := 327) at_327 rfl ?_
              refine W.iload (pc := 329) at_329 rfl ?_
              refine W.iload (pc := 331) at_331 rfl ?_
              refine W.iload (pc := 333) at_333 rfl ?_
              refine W.iload (pc := 335) at_335 rfl ?_
              refine W.iload (pc := 337) at_337 rfl ?_
              refine W.callS (pc := 339) (as := [(vi g7), (vi g8), (vi g2), (vi g12), (vi g13), (vi g14)]) 0 [] at_339 (w108 hw) (w109 hw) (w3 hw) (w110 hw) (c59_same hw hs (hx1 := hg7) (hx2 := hg8) (hx3 := hg2) (hx4 := hg12) (hx5 := hg13) (hx6 := hg14)) (by decide) pd_CCZCCZ_Z rfl rfl rfl rfl (by decide) (fun v D' h => ?_)
              rcases h with ⟨h560, h561, h562, rfl, rfl⟩ | ⟨h563, h564, h565, h566, rfl, rfl⟩ | ⟨h567, h568, h569, h570, rfl, rfl⟩ | ⟨h571, h572, rfl, rfl⟩ | ⟨h573, rfl, rfl⟩
              ·
               have ih560 := t_eq h560
               have ih561 := t_eq h561
               exact absurd h562 (n_eq (by have := q0; have := rng32 z5; have := q2; have := aushr_2 z5; have := q3; have := am_3 (XT.ushr z5 (2 : Int32)); have := q1; omega))
              ·
               have ih563 := t_eq h563
               have ih564 := t_eq h564
               have ih565 := f_eq h565
               have ih566 := t_ne h566
               show W _ _ _ _ _ _ _ _ _ _ _ _ 342 _ [(vi 0)]
               refine W.ifY (pc := 342) 367 at_342 (y_eq (by decide)) (by decide) ?_
               refine W.iconst (pc := 367) (0) at_367 (by decide) ?_
               refine W.istore (pc := 368) (ls' := #[iv z0, iv z1, iv z2, iv z3, iv z4, iv z5, iv g2, iv g5, iv g7, iv g8, iv g9, iv g10, iv g12, iv g13, iv g14, iv g17, iv g18, iv g19, rv a23, rv a152, rv a221, rv a245, rv a251, rv a253, rv a254, iv ((XT.ushr z5 (2 : Int32)) &&& (3 : Int32)), iv 0]) at_368 rfl ?_
               refine W.aload (pc := 370) 23 at_370 rfl rfl ?_
               refine W.aload (pc := 372) 24 at_372 rfl rfl ?_
               refine W.know (fun _ _ H => H.ne (i := 1) (j := 0) (by decide) rfl rfl (Or.inl rfl)) (fun ne255 => ?_)
               refine W.know (fun _ _ H => H.ne (i := 11) (j := 7) (by decide) rfl rfl (Or.inl rfl)) (fun ne256 => ?_)
               refine W.know (fun _ _ H => H.ne (i := 9) (j := 5) (by decide) rfl rfl (Or.inl rfl)) (fun ne257 => ?_)
               refine W.callV (pc := 374) (as := [(vr a254)]) 0 [] at_374 (w111 hw) (w112 hw) (w114 hw) (w114 hw) (w113 hw) (w41 hw) (w115 hw) (Hp.exa m1) (c111_equals hw hs (hx1 := hg7) (hx2 := hg8) (hx3 := hg9) (hx4 := hg10) (hx5 := hg12) (hx6 := hg13) (hx7 := hg17) (mp2 := m0) (mp1 := m1) (mp3 := m11) (mp5 := m7) (mp7 := m10) (mp9 := m6) (mp4 := m9) (mp6 := m5) (mp8 := m8) (mp10 := m4) (ne_p1_p2 := ne255) (ne_p3_p5 := ne256) (ne_p4_p6 := ne257)) (by decide) pd_Ljava_lang_Object__Z rfl rfl rfl rfl (by decide) (fun v D' h => ?_)
               obtain ⟨rfl, rfl⟩ := h
               show W _ _ _ _ _ _ _ _ _ _ _ _ 377 _ [(vi 0)]
               refine W.iload (pc := 377) at_377 rfl ?_
               refine W.icmpN (pc := 379) at_379 (n_ne (by decide)) ?_
               refine W.aload (pc := 382) 24 at_382 rfl rfl ?_
               refine W.aload (pc := 384) 23 at_384 rfl rfl ?_
               refine W.callV (pc := 386) (as := [(vr a253)]) 0 [] at_386 (w111 hw) (w112 hw) (w114 hw) (w114 hw) (w113 hw) (w41 hw) (w115 hw) (Hp.exa m0) (c110_equals hw hs (hx1 := hg12) (hx2 := hg13) (hx3 := hg17) (hx4 := hg7) (hx5 := hg8) (hx6 := hg9) (hx7 := hg10) (mp2 := m1) (mp1 := m0) (mp3 := m7) (mp5 := m11) (mp7 := m6) (mp9 := m10) (mp4 := m5) (mp6 := m9) (mp8 := m4) (mp10 := m8) (ne_p1_p2 := (Ne.symm ne255)) (ne_p3_p5 := (Ne.symm ne256)) (ne_p4_p6 := (Ne.symm ne257))) (by decide) pd_Ljava_lang_Object__Z rfl rfl rfl rfl (by decide) (fun v D' h => ?_)
               obtain ⟨rfl, rfl⟩ := h
               show W _ _ _ _ _ _ _ _ _ _ _ _ 389 _ [(vi 0)]
               refine W.iload (pc := 389) at_389 rfl ?_
               refine W.icmpN (pc := 391) at_391 (n_ne (by decide)) ?_
               refine W.iconst (pc := 394) (1) at_394 (by decide) ?_
               refine W.goto (pc := 395) 399 at_395 (by decide) ?_
               exact W.ireturn (pc := 399) at_399 rfl (Or.inr (Or.inl rfl)) (nw_bool (by decide)) (by decide) rfl
              ·
               have ih567 := t_eq h567
               have ih568 := t_eq h568
               have ih569 := f_eq h569
               have ih570 := f_ne h570
               show W _ _ _ _ _ _ _ _ _ _ _ _ 342 _ [(vi 1)]
               refine W.ifN (pc := 342) at_342 (n_eq (by decide)) ?_
               refine W.iload (pc := 345) at_345 rfl ?_
               refine W.iload (pc := 347) at_347 rfl ?_
               refine W.iload (pc := 349) at_349 rfl ?_
               refine W.iload (pc := 351) at_351 rfl ?_
               refine W.iload (pc := 353) at_353 rfl ?_
               refine W.iload (pc := 355) at_355 rfl ?_
               refine W.callS (pc := 357) (as := [(vi g9), (vi g10), (vi g5), (vi g17), (vi g18), (vi g19)]) 0 [] at_357 (w108 hw) (w109 hw) (w3 hw) (w110 hw) (c60_same hw hs (hx1 := hg9) (hx2 := hg10) (hx3 := hg5) (hx4 := hg17) (hx5 := hg18) (hx6 := hg19)) (by decide) pd_CCZCCZ_Z rfl rfl rfl rfl (by decide) (fun v D' h => ?_)
               rcases h with ⟨h574, h575, h576, rfl, rfl⟩ | ⟨h577, h578, h579, h580, rfl, rfl⟩ | ⟨h581, h582, h583, h584, rfl, rfl⟩ | ⟨h585, h586, rfl, rfl⟩ | ⟨h587, rfl, rfl⟩
               ·
                exact absurd h574 (n_eq (by have := q0; have := rng32 z5; have := q2; have := aushr_2 z5; have := q3; have := am_3 (XT.ushr z5 (2 : Int32)); have := q1; omega))
               ·
                exact absurd h577 (n_eq (by have := q0; have := rng32 z5; have := q2; have := aushr_2 z5; have := q3; have := am_3 (XT.ushr z5 (2 : Int32)); have := q1; omega))
               ·
                exact absurd h581 (n_eq (by have := q0; have := rng32 z5; have := q2; have := aushr_2 z5; have := q3; have := am_3 (XT.ushr z5 (2 : Int32)); have := q1; omega))
               ·
                exact absurd h585 (n_eq (by have := q0; have := rng32 z5; have := q2; have := aushr_2 z5; have := q3; have := am_3 (XT.ushr z5 (2 : Int32)); have := q1; omega))
               ·
                have ih587 := f_eq h587
                show W _ _ _ _ _ _ _ _ _ _ _ _ 360 _ [(vi 0)]
                refine W.ifY (pc := 360) 367 at_360 (y_eq (by decide)) (by decide) ?_
                refine W.iconst (pc := 367) (0) at_367 (by decide) ?_
                refine W.istore (pc := 368) (ls' := #[iv z0, iv z1, iv z2, iv z3, iv z4, iv z5, iv g2, iv g5, iv g7, iv g8, iv g9, iv g10, iv g12, iv g13, iv g14, iv g17, iv g18, iv g19, rv a23, rv a152, rv a221, rv a245, rv a251, rv a253, rv a254, iv ((XT.ushr z5 (2 : Int32)) &&& (3 : Int32)), iv 0]) at_368 rfl ?_
                refine W.aload (pc := 370) 23 at_370 rfl rfl ?_
                refine W.aload (pc := 372) 24 at_372 rfl rfl ?_
                refine W.know (fun _ _ H => H.ne (i := 1) (j := 0) (by decide) rfl rfl (Or.inl rfl)) (fun ne258 => ?_)
                refine W.know (fun _ _ H => H.ne (i := 11) (j := 7) (by decide) rfl rfl (Or.inl rfl)) (fun ne259 => ?_)
                refine W.know (fun _ _ H => H.ne (i := 9) (j := 5) (by decide) rfl rfl (Or.inl rfl)) (fun ne260 => ?_)
                refine W.callV (pc := 374) (as := [(vr a254)]) 0 [] at_374 (w111 hw) (w112 hw) (w114 hw) (w114 hw) (w113 hw) (w41 hw) (w115 hw) (Hp.exa m1) (c111_equals hw hs (hx1 := hg7) (hx2 := hg8) (hx3 := hg9) (hx4 := hg10) (hx5 := hg12) (hx6 := hg13) (hx7 := hg17) (mp2 := m0) (mp1 := m1) (mp3 := m11) (mp5 := m7) (mp7 := m10) (mp9 := m6) (mp4 := m9) (mp6 := m5) (mp8 := m8) (mp10 := m4) (ne_p1_p2 := ne258) (ne_p3_p5 := ne259) (ne_p4_p6 := ne260)) (by decide) pd_Ljava_lang_Object__Z rfl rfl rfl rfl (by decide) (fun v D' h => ?_)
                obtain ⟨rfl, rfl⟩ := h
                show W _ _ _ _ _ _ _ _ _ _ _ _ 377 _ [(vi 0)]
                refine W.iload (pc := 377) at_377 rfl ?_
                refine W.icmpN (pc := 379) at_379 (n_ne (by decide)) ?_
                refine W.aload (pc := 382) 24 at_382 rfl rfl ?_
                refine W.aload (pc := 384) 23 at_384 rfl rfl ?_
                refine W.callV (pc := 386) (as := [(vr a253)]) 0 [] at_386 (w111 hw) (w112 hw) (w114 hw) (w114 hw) (w113 hw) (w41 hw) (w115 hw) (Hp.exa m0) (c110_equals hw hs (hx1 := hg12) (hx2 := hg13) (hx3 := hg17) (hx4 := hg7) (hx5 := hg8) (hx6 := hg9) (hx7 := hg10) (mp2 := m1) (mp1 := m0) (mp3 := m7) (mp5 := m11) (mp7 := m6) (mp9 := m10) (mp4 := m5) (mp6 := m9) (mp8 := m4) (mp10 := m8) (ne_p1_p2 := (Ne.symm ne258)) (ne_p3_p5 := (Ne.symm ne259)) (ne_p4_p6 := (Ne.symm ne260))) (by decide) pd_Ljava_lang_Object__Z rfl rfl rfl rfl (by decide) (fun v D' h => ?_)
                obtain ⟨rfl, rfl⟩ := h
                show W _ _ _ _ _ _ _ _ _ _ _ _ 389 _ [(vi 0)]
                refine W.iload (pc := 389) at_389 rfl ?_
                refine W.icmpN (pc := 391) at_391 (n_ne (by decide)) ?_
                refine W.iconst (pc := 394) (1) at_394 (by decide) ?_
                refine W.goto (pc := 395) 399 at_395 (by decide) ?_
                exact W.ireturn (pc := 399) at_399 rfl (Or.inr (Or.inl rfl)) (nw_bool (by decide)) (by decide) rfl
              ·
               have ih571 := t_eq h571
               have ih572 := f_eq h572
               show W _ _ _ _ _ _ _ _ _ _ _ _ 342 _ [(vi 0)]
               refine W.ifY (pc := 342) 367 at_342 (y_eq (by decide)) (by decide) ?_
               refine W.iconst (pc := 367) (0) at_367 (by decide) ?_
               refine W.istore (pc := 368) (ls' := #[iv z0, iv z1, iv z2, iv z3, iv z4, iv z5, iv g2, iv g5, iv g7, iv g8, iv g9, iv g10, iv g12, iv g13, iv g14, iv g17, iv g18, iv g19, rv a23, rv a152, rv a221, rv a245, rv a251, rv a253, rv a254, iv ((XT.ushr z5 (2 : Int32)) &&& (3 : Int32)), iv 0]) at_368 rfl ?_
               refine W.aload (pc := 370) 23 at_370 rfl rfl ?_
               refine W.aload (pc := 372) 24 at_372 rfl rfl ?_
               refine W.know (fun _ _ H => H.ne (i := 1) (j := 0) (by decide) rfl rfl (Or.inl rfl)) (fun ne261 => ?_)
               refine W.know (fun _ _ H => H.ne (i := 11) (j := 7) (by decide) rfl rfl (Or.inl rfl)) (fun ne262 => ?_)
               refine W.know (fun _ _ H => H.ne (i := 9) (j := 5) (by decide) rfl rfl (Or.inl rfl)) (fun ne263 => ?_)
               refine W.callV (pc := 374) (as := [(vr a254)]) 0 [] at_374 (w111 hw) (w112 hw) (w114 hw) (w114 hw) (w113 hw) (w41 hw) (w115 hw) (Hp.exa m1) (c111_equals hw hs (hx1 := hg7) (hx2 := hg8) (hx3 := hg9) (hx4 := hg10) (hx5 := hg12) (hx6 := hg13) (hx7 := hg17) (mp2 := m0) (mp1 := m1) (mp3 := m11) (mp5 := m7) (mp7 := m10) (mp9 := m6) (mp4 := m9) (mp6 := m5) (mp8 := m8) (mp10 := m4) (ne_p1_p2 := ne261) (ne_p3_p5 := ne262) (ne_p4_p6 := ne263)) (by decide) pd_Ljava_lang_Object__Z rfl rfl rfl rfl (by decide) (fun v D' h => ?_)
               obtain ⟨rfl, rfl⟩ := h
               show W _ _ _ _ _ _ _ _ _ _ _ _ 377 _ [(vi 0)]
               refine W.iload (pc := 377) at_377 rfl ?_
               refine W.icmpN (pc := 379) at_379 (n_ne (by decide)) ?_
               refine W.aload (pc := 382) 24 at_382 rfl rfl ?_
               refine W.aload (pc := 384) 23 at_384 rfl rfl ?_
               refine W.callV (pc := 386) (as := [(vr a253)]) 0 [] at_386 (w111 hw) (w112 hw) (w114 hw) (w114 hw) (w113 hw) (w41 hw) (w115 hw) (Hp.exa m0) (c110_equals hw hs (hx1 := hg12) (hx2 := hg13) (hx3 := hg17) (hx4 := hg7) (hx5 := hg8) (hx6 := hg9) (hx7 := hg10) (mp2 := m1) (mp1 := m0) (mp3 := m7) (mp5 := m11) (mp7 := m6) (mp9 := m10) (mp4 := m5) (mp6 := m9) (mp8 := m4) (mp10 := m8) (ne_p1_p2 := (Ne.symm ne261)) (ne_p3_p5 := (Ne.symm ne262)) (ne_p4_p6 := (Ne.symm ne263))) (by decide) pd_Ljava_lang_Object__Z rfl rfl rfl rfl (by decide) (fun v D' h => ?_)
               obtain ⟨rfl, rfl⟩ := h
               show W _ _ _ _ _ _ _ _ _ _ _ _ 389 _ [(vi 0)]
               refine W.iload (pc := 389) at_389 rfl ?_
               refine W.icmpN (pc := 391) at_391 (n_ne (by decide)) ?_
               refine W.iconst (pc := 394) (1) at_394 (by decide) ?_
               refine W.goto (pc := 395) 399 at_395 (by decide) ?_
               exact W.ireturn (pc := 399) at_399 rfl (Or.inr (Or.inl rfl)) (nw_bool (by decide)) (by decide) rfl
              ·
               exact absurd h573 (Classical.not_not.mpr (y_eq (by have := q0; have := rng32 z5; have := q2; have := aushr_2 z5; have := q3; have := am_3 (XT.ushr z5 (2 : Int32)); have := q1; omega)))
             ·
              have ih559 := f_ne h559
              refine W.aload (pc := 319) 23 at_319 rfl rfl ?_
              refine W.aload (pc := 321) 23 at_321 rfl rfl ?_
              refine W.callV (pc := 323) (as := [(vr a253)]) 0 [] at_323 (w111 hw) (w112 hw) (w114 hw) (w114 hw) (w113 hw) (w41 hw) (w115 hw) (Hp.exa m1) (c66_equals hw hs) (by decide) pd_Ljava_lang_Object__Z rfl rfl rfl rfl (by decide) (fun v D' h => ?_)
              obtain ⟨rfl, rfl⟩ := h
              show W _ _ _ _ _ _ _ _ _ _ _ _ 326 _ [(vi 1)]
              exact W.ireturn (pc := 326) at_326 rfl (Or.inr (Or.inl rfl)) (nw_bool (by decide)) (by decide) rfl
            ·
             have ih558 := f_ne h558
             refine W.aload (pc := 297) 23 at_297 rfl rfl ?_
             refine W.aload (pc := 299) 22 at_299 rfl rfl ?_
             refine W.know (fun _ _ H => H.ne (i := 1) (j := 3) (by decide) rfl rfl (Or.inl rfl)) (fun ne264 => ?_)
             refine W.callV (pc := 301) (as := [(vr a251)]) 0 [] at_301 (w111 hw) (w112 hw) (w114 hw) (w114 hw) (w113 hw) (w41 hw) (w115 hw) (Hp.exa m1) (c67_equals hw hs (mp2 := m3) (ne_p1_p2 := ne264)) (by decide) pd_Ljava_lang_Object__Z rfl rfl rfl rfl (by decide) (fun v D' h => ?_)
             obtain ⟨rfl, rfl⟩ := h
             show W _ _ _ _ _ _ _ _ _ _ _ _ 304 _ [(vi 0)]
             refine W.ifN (pc := 304) at_304 (n_ne (by decide)) ?_
             refine W.iconst (pc := 307) (1) at_307 (by decide) ?_
             refine W.goto (pc := 308) 312 at_308 (by decide) ?_
             exact W.ireturn (pc := 312) at_312 rfl (Or.inr (Or.inl rfl)) (nw_bool (by decide)) (by decide) rfl
           ·
            have ih557 := f_ne h557
            refine W.aload (pc := 276) 23 at_276 rfl rfl ?_
            refine W.aconstNull (pc := 278) at_278 ?_
            refine W.callV (pc := 279) (as := [.null]) 0 [] at_279 (w111 hw) (w112 hw) (w114 hw) (w114 hw) (w113 hw) (w41 hw) (w115 hw) (Hp.exa m1) (c68_equals hw hs) (by decide) pd_Ljava_lang_Object__Z rfl rfl rfl rfl (by decide) (fun v D' h => ?_)
            obtain ⟨rfl, rfl⟩ := h
            show W _ _ _ _ _ _ _ _ _ _ _ _ 282 _ [(vi 0)]
            refine W.ifN (pc := 282) at_282 (n_ne (by decide)) ?_
            refine W.iconst (pc := 285) (1) at_285 (by decide) ?_
            refine W.goto (pc := 286) 290 at_286 (by decide) ?_
            exact W.ireturn (pc := 290) at_290 rfl (Or.inr (Or.inl rfl)) (nw_bool (by decide)) (by decide) rfl
         ·
          have ih554 := f_eq h554
          show W _ _ _ _ _ _ _ _ _ _ _ _ 223 _ [(vr a247)]
          refine W.astore (pc := 223) (ls' := #[iv z0, iv z1, iv z2, iv z3, iv z4, iv z5, iv g2, iv g5, iv g7, iv g8, iv g9, iv g10, iv g12, iv g13, iv g14, iv g17, iv g18, iv g19, rv a23, rv a152, rv a221, rv a247, uu, uu, uu, uu, uu]) at_223 rfl rfl ?_
          refine W.iload (pc := 225) at_225 rfl ?_
          refine W.iload (pc := 227) at_227 rfl ?_
          refine W.iload (pc := 229) at_229 rfl ?_
          refine W.callS (pc := 231) (as := [(vi g7), (vi g8), (vi g2)]) 0 [] at_231 (w6 hw) (w7 hw) (w3 hw) (w8 hw) (c3_make hw hs (hx1 := hg7) (hx2 := hg8) (hx3 := hg2)) (by decide) pd_CCZ_Ljava_lang_String_ rfl rfl rfl rfl (by decide) (fun v D' h => ?_)
          rcases h with ⟨a265, a266, h588, rfl, rfl⟩ | ⟨a267, a268, h589, rfl, rfl⟩
          ·
           exact absurd h588 (n_eq (by have := q0; omega))
          ·
           have ih589 := f_eq h589
           show W _ _ _ _ _ _ _ _ _ _ _ _ 234 _ [(vr a267)]
           refine W.astore (pc := 234) (ls' := #[iv z0, iv z1, iv z2, iv z3, iv z4, iv z5, iv g2, iv g5, iv g7, iv g8, iv g9, iv g10, iv g12, iv g13, iv g14, iv g17, iv g18, iv g19, rv a23, rv a152, rv a221, rv a247, rv a267, uu, uu, uu, uu]) at_234 rfl rfl ?_
           refine W.new (pc := 236) at_236 (w39 hw) (w40 hw) (w41 hw) (laJobKey hw) (by decide) (by decide) (fun a269 => ?_)
           show W _ _ _ _ _ _ _ _ _ _ _ _ 239 _ [(vr a269)]
           refine W.dup (pc := 239) at_239 rfl ?_
           refine W.aload (pc := 240) 18 at_240 rfl rfl ?_
           refine W.aload (pc := 242) 19 at_242 rfl rfl ?_
           refine W.callI (pc := 244) (as := [(vr a23), (vr a152)]) 1 [(vr a269)] at_244 rfl (w42 hw) (w43 hw) (w41 hw) (w44 hw) (c103_init hw hs (hx1 := hg7) (hx2 := hg8) (hx3 := hg9) (hx4 := hg10) (mog1Z := m12) (mp2 := m9) (mp4 := m8) (mog2Z := m11) (mog3Z := m10) (mog4Z := m15) (mp3 := m7) (mp5 := m6) (mog5Z := m14) (mog6Z := m13)) (by decide) pd_Ljava_lang_String_Ljava_lang_String__V rfl rfl rfl rfl (by decide) (fun v D' h => ?_)
           obtain ⟨rfl, rfl⟩ := h
           show W _ _ _ _ _ _ _ _ _ _ _ _ 247 _ [(vr a269)]
           refine W.astore (pc := 247) (ls' := #[iv z0, iv z1, iv z2, iv z3, iv z4, iv z5, iv g2, iv g5, iv g7, iv g8, iv g9, iv g10, iv g12, iv g13, iv g14, iv g17, iv g18, iv g19, rv a23, rv a152, rv a221, rv a247, rv a267, rv a269, uu, uu, uu]) at_247 rfl rfl ?_
           refine W.new (pc := 249) at_249 (w39 hw) (w40 hw) (w41 hw) (laJobKey hw) (by decide) (by decide) (fun a270 => ?_)
           show W _ _ _ _ _ _ _ _ _ _ _ _ 252 _ [(vr a270)]
           refine W.dup (pc := 252) at_252 rfl ?_
           refine W.aload (pc := 253) 20 at_253 rfl rfl ?_
           refine W.aload (pc := 255) 21 at_255 rfl rfl ?_
           refine W.callI (pc := 257) (as := [(vr a221), (vr a247)]) 1 [(vr a270)] at_257 rfl (w42 hw) (w43 hw) (w41 hw) (w44 hw) (c103_init hw hs (hx1 := hg12) (hx2 := hg13) (hx3 := hg17) (hx4 := hg18) (mog1Z := m13) (mp2 := m6) (mp4 := m5) (mog2Z := m12) (mog3Z := m11) (mog4Z := m16) (mp3 := m4) (mp5 := m3) (mog5Z := m15) (mog6Z := m14)) (by decide) pd_Ljava_lang_String_Ljava_lang_String__V rfl rfl rfl rfl (by decide) (fun v D' h => ?_)
           obtain ⟨rfl, rfl⟩ := h
           show W _ _ _ _ _ _ _ _ _ _ _ _ 260 _ [(vr a270)]
           refine W.astore (pc := 260) (ls' := #[iv z0, iv z1, iv z2, iv z3, iv z4, iv z5, iv g2, iv g5, iv g7, iv g8, iv g9, iv g10, iv g12, iv g13, iv g14, iv g17, iv g18, iv g19, rv a23, rv a152, rv a221, rv a247, rv a267, rv a269, rv a270, uu, uu]) at_260 rfl rfl ?_
           refine W.iload (pc := 262) at_262 rfl ?_
           refine W.iconst (pc := 264) (2) at_264 (by decide) ?_
           refine W.iushr (pc := 265) at_265 ?_
           refine W.iconst (pc := 266) (3) at_266 (by decide) ?_
           refine W.iand (pc := 267) at_267 ?_
           refine W.istore (pc := 268) (ls' := #[iv z0, iv z1, iv z2, iv z3, iv z4, iv z5, iv g2, iv g5, iv g7, iv g8, iv g9, iv g10, iv g12, iv g13, iv g14, iv g17, iv g18, iv g19, rv a23, rv a152, rv a221, rv a247, rv a267, rv a269, rv a270, iv ((XT.ushr z5 (2 : Int32)) &&& (3 : Int32)), uu]) at_268 rfl ?_
           refine W.iload (pc := 270) at_270 rfl ?_
           refine W.iconst (pc := 272) (1) at_272 (by decide) ?_
           refine W.icmp (pc := 273) 291 at_273 (by decide) (fun h590 => ?_) (fun h590 => ?_)
           ·
            have ih590 := t_ne h590
            refine W.iload (pc := 291) at_291 rfl ?_
            refine W.iconst (pc := 293) (2) at_293 (by decide) ?_
            refine W.icmp (pc := 294) 313 at_294 (by decide) (fun h591 => ?_) (fun h591 => ?_)
            ·
             have ih591 := t_ne h591
             refine W.iload (pc := 313) at_313 rfl ?_
             refine W.iconst (pc := 315) (3) at_315 (by decide) ?_
             refine W.icmp (pc := 316) 327 at_316 (by decide) (fun h592 => ?_) (fun h592 => ?_)
             ·
              have ih592 := t_ne h592
              refine W.iload (pc := 327) at_327 rfl ?_
              refine W.iload (pc := 329) at_329 rfl ?_
              refine W.iload (pc := 331) at_331 rfl ?_
              refine W.iload (pc := 333) at_333 rfl ?_
              refine W.iload (pc := 335) at_335 rfl ?_
              refine W.iload (pc := 337) at_337 rfl ?_
              refine W.callS (pc := 339) (as := [(vi g7), (vi g8), (vi g2), (vi g12), (vi g13), (vi g14)]) 0 [] at_339 (w108 hw) (w109 hw) (w3 hw) (w110 hw) (c59_same hw hs (hx1 := hg7) (hx2 := hg8) (hx3 := hg2) (hx4 := hg12) (hx5 := hg13) (hx6 := hg14)) (by decide) pd_CCZCCZ_Z rfl rfl rfl rfl (by decide) (fun v D' h => ?_)
              rcases h with ⟨h593, h594, h595, rfl, rfl⟩ | ⟨h596, h597, h598, h599, rfl, rfl⟩ | ⟨h600, h601, h602, h603, rfl, rfl⟩ | ⟨h604, h605, rfl, rfl⟩ | ⟨h606, rfl, rfl⟩
              ·
               have ih593 := t_eq h593
               have ih594 := t_eq h594
               exact absurd h595 (n_eq (by have := q0; have := rng32 z5; have := q2; have := aushr_2 z5; have := q3; have := am_3 (XT.ushr z5 (2 : Int32)); have := q1; omega))
              ·
               have ih596 := t_eq h596
               have ih597 := t_eq h597
               have ih598 := f_eq h598
               have ih599 := t_ne h599
               show W _ _ _ _ _ _ _ _ _ _ _ _ 342 _ [(vi 0)]
               refine W.ifY (pc := 342) 367 at_342 (y_eq (by decide)) (by decide) ?_
               refine W.iconst (pc := 367) (0) at_367 (by decide) ?_
               refine W.istore (pc := 368) (ls' := #[iv z0, iv z1, iv z2, iv z3, iv z4, iv z5, iv g2, iv g5, iv g7, iv g8, iv g9, iv g10, iv g12, iv g13, iv g14, iv g17, iv g18, iv g19, rv a23, rv a152, rv a221, rv a247, rv a267, rv a269, rv a270, iv ((XT.ushr z5 (2 : Int32)) &&& (3 : Int32)), iv 0]) at_368 rfl ?_
               refine W.aload (pc := 370) 23 at_370 rfl rfl ?_
               refine W.aload (pc := 372) 24 at_372 rfl rfl ?_
               refine W.know (fun _ _ H => H.ne (i := 1) (j := 0) (by decide) rfl rfl (Or.inl rfl)) (fun ne271 => ?_)
               refine W.know (fun _ _ H => H.ne (i := 11) (j := 7) (by decide) rfl rfl (Or.inl rfl)) (fun ne272 => ?_)
               refine W.know (fun _ _ H => H.ne (i := 9) (j := 5) (by decide) rfl rfl (Or.inl rfl)) (fun ne273 => ?_)
               refine W.callV (pc := 374) (as := [(vr a270)]) 0 [] at_374 (w111 hw) (w112 hw) (w114 hw) (w114 hw) (w113 hw) (w41 hw) (w115 hw) (Hp.exa m1) (c112_equals hw hs (hx1 := hg7) (hx2 := hg8) (hx3 := hg9) (hx4 := hg10) (hx5 := hg12) (hx6 := hg13) (hx7 := hg17) (hx8 := hg18) (mp2 := m0) (mp1 := m1) (mp3 := m11) (mp5 := m7) (mp7 := m10) (mp9 := m6) (mp4 := m9) (mp6 := m5) (mp8 := m8) (mp10 := m4) (ne_p1_p2 := ne271) (ne_p3_p5 := ne272) (ne_p4_p6 := ne273)) (by decide) pd_Ljava_lang_Object__Z rfl rfl rfl rfl (by decide) (fun v D' h => ?_)
               rcases h with ⟨h607, h608, h609, h610, rfl, rfl⟩ | ⟨h611, h612, h613, h614, rfl, rfl⟩ | ⟨h615, h616, h617, rfl, rfl⟩ | ⟨h618, h619, rfl, rfl⟩ | ⟨h620, rfl, rfl⟩
               ·
                have ih607 := t_eq h607
                exact absurd h608 (n_eq (by have := q0; have := rng32 z5; have := q2; have := aushr_2 z5; have := q3; have := am_3 (XT.ushr z5 (2 : Int32)); have := q1; omega))
               ·
                have ih611 := t_eq h611
                exact absurd h612 (n_eq (by have := q0; have := rng32 z5; have := q2; have := aushr_2 z5; have := q3; have := am_3 (XT.ushr z5 (2 : Int32)); have := q1; omega))
               ·
                have ih615 := t_eq h615
                exact absurd h616 (n_eq (by have := q0; have := rng32 z5; have := q2; have := aushr_2 z5; have := q3; have := am_3 (XT.ushr z5 (2 : Int32)); have := q1; omega))
               ·
                have ih618 := t_eq h618
                have ih619 := f_eq h619
                show W _ _ _ _ _ _ _ _ _ _ _ _ 377 _ [(vi 0)]
                refine W.iload (pc := 377) at_377 rfl ?_
                refine W.icmpN (pc := 379) at_379 (n_ne (by decide)) ?_
                refine W.aload (pc := 382) 24 at_382 rfl rfl ?_
                refine W.aload (pc := 384) 23 at_384 rfl rfl ?_
                refine W.callV (pc := 386) (as := [(vr a269)]) 0 [] at_386 (w111 hw) (w112 hw) (w114 hw) (w114 hw) (w113 hw) (w41 hw) (w115 hw) (Hp.exa m0) (c112_equals hw hs (hx1 := hg12) (hx2 := hg13) (hx3 := hg17) (hx4 := hg18) (hx5 := hg7) (hx6 := hg8) (hx7 := hg9) (hx8 := hg10) (mp2 := m1) (mp1 := m0) (mp3 := m7) (mp5 := m11) (mp7 := m6) (mp9 := m10) (mp4 := m5) (mp6 := m9) (mp8 := m4) (mp10 := m8) (ne_p1_p2 := (Ne.symm ne271)) (ne_p3_p5 := (Ne.symm ne272)) (ne_p4_p6 := (Ne.symm ne273))) (by decide) pd_Ljava_lang_Object__Z rfl rfl rfl rfl (by decide) (fun v D' h => ?_)
                rcases h with ⟨h621, h622, h623, h624, rfl, rfl⟩ | ⟨h625, h626, h627, h628, rfl, rfl⟩ | ⟨h629, h630, h631, rfl, rfl⟩ | ⟨h632, h633, rfl, rfl⟩ | ⟨h634, rfl, rfl⟩
                ·
                 have ih621 := t_eq h621
                 exact absurd h622 (n_eq (by have := q0; have := rng32 z5; have := q2; have := aushr_2 z5; have := q3; have := am_3 (XT.ushr z5 (2 : Int32)); have := q1; omega))
                ·
                 have ih625 := t_eq h625
                 exact absurd h626 (n_eq (by have := q0; have := rng32 z5; have := q2; have := aushr_2 z5; have := q3; have := am_3 (XT.ushr z5 (2 : Int32)); have := q1; omega))
                ·
                 have ih629 := t_eq h629
                 exact absurd h630 (n_eq (by have := q0; have := rng32 z5; have := q2; have := aushr_2 z5; have := q3; have := am_3 (XT.ushr z5 (2 : Int32)); have := q1; omega))
                ·
                 have ih632 := t_eq h632
                 have ih633 := f_eq h633
                 show W _ _ _ _ _ _ _ _ _ _ _ _ 389 _ [(vi 0)]
                 refine W.iload (pc := 389) at_389 rfl ?_
                 refine W.icmpN (pc := 391) at_391 (n_ne (by decide)) ?_
                 refine W.iconst (pc := 394) (1) at_394 (by decide) ?_
                 refine W.goto (pc := 395) 399 at_395 (by decide) ?_
                 exact W.ireturn (pc := 399) at_399 rfl (Or.inr (Or.inl rfl)) (nw_bool (by decide)) (by decide) rfl
                ·
                 exact absurd h634 (Classical.not_not.mpr (y_eq (by have := q0; have := rng32 z5; have := q2; have := aushr_2 z5; have := q3; have := am_3 (XT.ushr z5 (2 : Int32)); have := q1; omega)))
               ·
                exact absurd h620 (Classical.not_not.mpr (y_eq (by have := q0; have := rng32 z5; have := q2; have := aushr_2 z5; have := q3; have := am_3 (XT.ushr z5 (2 : Int32)); have := q1; omega)))
              ·
               have ih600 := t_eq h600
               have ih601 := t_eq h601
               have ih602 := f_eq h602
               have ih603 := f_ne h603
               show W _ _ _ _ _ _ _ _ _ _ _ _ 342 _ [(vi 1)]
               refine W.ifN (pc := 342) at_342 (n_eq (by decide)) ?_
               refine W.iload (pc := 345) at_345 rfl ?_
               refine W.iload (pc := 347) at_347 rfl ?_
               refine W.iload (pc := 349) at_349 rfl ?_
               refine W.iload (pc := 351) at_351 rfl ?_
               refine W.iload (pc := 353) at_353 rfl ?_
               refine W.iload (pc := 355) at_355 rfl ?_
               refine W.callS (pc := 357) (as := [(vi g9), (vi g10), (vi g5), (vi g17), (vi g18), (vi g19)]) 0 [] at_357 (w108 hw) (w109 hw) (w3 hw) (w110 hw) (c60_same hw hs (hx1 := hg9) (hx2 := hg10) (hx3 := hg5) (hx4 := hg17) (hx5 := hg18) (hx6 := hg19)) (by decide) pd_CCZCCZ_Z rfl rfl rfl rfl (by decide) (fun v D' h => ?_)
               rcases h with ⟨h635, h636, h637, rfl, rfl⟩ | ⟨h638, h639, h640, h641, rfl, rfl⟩ | ⟨h642, h643, h644, h645, rfl, rfl⟩ | ⟨h646, h647, rfl, rfl⟩ | ⟨h648, rfl, rfl⟩
               ·
                have ih635 := t_eq h635
                have ih636 := t_eq h636
                exact absurd h637 (n_eq (by have := q0; have := rng32 z5; have := q2; have := aushr_2 z5; have := q3; have := am_3 (XT.ushr z5 (2 : Int32)); have := q1; omega))
               ·
                have ih638 := t_eq h638
                have ih639 := t_eq h639
                have ih640 := f_eq h640
                have ih641 := t_ne h641
                show W _ _ _ _ _ _ _ _ _ _ _ _ 360 _ [(vi 0)]
                refine W.ifY (pc := 360) 367 at_360 (y_eq (by decide)) (by decide) ?_
                refine W.iconst (pc := 367) (0) at_367 (by decide) ?_
                refine W.istore (pc := 368) (ls' := #[iv z0, iv z1, iv z2, iv z3, iv z4, iv z5, iv g2, iv g5, iv g7, iv g8, iv g9, iv g10, iv g12, iv g13, iv g14, iv g17, iv g18, iv g19, rv a23, rv a152, rv a221, rv a247, rv a267, rv a269, rv a270, iv ((XT.ushr z5 (2 : Int32)) &&& (3 : Int32)), iv 0]) at_368 rfl ?_
                refine W.aload (pc := 370) 23 at_370 rfl rfl ?_
                refine W.aload (pc := 372) 24 at_372 rfl rfl ?_
                refine W.know (fun _ _ H => H.ne (i := 1) (j := 0) (by decide) rfl rfl (Or.inl rfl)) (fun ne274 => ?_)
                refine W.know (fun _ _ H => H.ne (i := 11) (j := 7) (by decide) rfl rfl (Or.inl rfl)) (fun ne275 => ?_)
                refine W.know (fun _ _ H => H.ne (i := 9) (j := 5) (by decide) rfl rfl (Or.inl rfl)) (fun ne276 => ?_)
                refine W.callV (pc := 374) (as := [(vr a270)]) 0 [] at_374 (w111 hw) (w112 hw) (w114 hw) (w114 hw) (w113 hw) (w41 hw) (w115 hw) (Hp.exa m1) (c112_equals hw hs (hx1 := hg7) (hx2 := hg8) (hx3 := hg9) (hx4 := hg10) (hx5 := hg12) (hx6 := hg13) (hx7 := hg17) (hx8 := hg18) (mp2 := m0) (mp1 := m1) (mp3 := m11) (mp5 := m7) (mp7 := m10) (mp9 := m6) (mp4 := m9) (mp6 := m5) (mp8 := m8) (mp10 := m4) (ne_p1_p2 := ne274) (ne_p3_p5 := ne275) (ne_p4_p6 := ne276)) (by decide) pd_Ljava_lang_Object__Z rfl rfl rfl rfl (by decide) (fun v D' h => ?_)
                rcases h with ⟨h649, h650, h651, h652, rfl, rfl⟩ | ⟨h653, h654, h655, h656, rfl, rfl⟩ | ⟨h657, h658, h659, rfl, rfl⟩ | ⟨h660, h661, rfl, rfl⟩ | ⟨h662, rfl, rfl⟩
                ·
                 have ih649 := t_eq h649
                 have ih650 := t_eq h650
                 have ih651 := t_eq h651
                 exact absurd h652 (n_eq (by have := q0; have := rng32 z5; have := q2; have := aushr_2 z5; have := q3; have := am_3 (XT.ushr z5 (2 : Int32)); have := q1; omega))
                ·
                 have ih653 := t_eq h653
                 have ih654 := t_eq h654
                 have ih655 := t_eq h655
                 have ih656 := f_eq h656
                 show W _ _ _ _ _ _ _ _ _ _ _ _ 377 _ [(vi 0)]
                 refine W.iload (pc := 377) at_377 rfl ?_
                 refine W.icmpN (pc := 379) at_379 (n_ne (by decide)) ?_
                 refine W.aload (pc := 382) 24 at_382 rfl rfl ?_
                 refine W.aload (pc := 384) 23 at_384 rfl rfl ?_
                 refine W.callV (pc := 386) (as := [(vr a269)]) 0 [] at_386 (w111 hw) (w112 hw) (w114 hw) (w114 hw) (w113 hw) (w41 hw) (w115 hw) (Hp.exa m0) (c112_equals hw hs (hx1 := hg12) (hx2 := hg13) (hx3 := hg17) (hx4 := hg18) (hx5 := hg7) (hx6 := hg8) (hx7 := hg9) (hx8 := hg10) (mp2 := m1) (mp1 := m0) (mp3 := m7) (mp5 := m11) (mp7 := m6) (mp9 := m10) (mp4 := m5) (mp6 := m9) (mp8 := m4) (mp10 := m8) (ne_p1_p2 := (Ne.symm ne274)) (ne_p3_p5 := (Ne.symm ne275)) (ne_p4_p6 := (Ne.symm ne276))) (by decide) pd_Ljava_lang_Object__Z rfl rfl rfl rfl (by decide) (fun v D' h => ?_)
                 rcases h with ⟨h663, h664, h665, h666, rfl, rfl⟩ | ⟨h667, h668, h669, h670, rfl, rfl⟩ | ⟨h671, h672, h673, rfl, rfl⟩ | ⟨h674, h675, rfl, rfl⟩ | ⟨h676, rfl, rfl⟩
                 ·
                  have ih663 := t_eq h663
                  have ih664 := t_eq h664
                  have ih665 := t_eq h665
                  exact absurd h666 (n_eq (by have := q0; have := rng32 z5; have := q2; have := aushr_2 z5; have := q3; have := am_3 (XT.ushr z5 (2 : Int32)); have := q1; omega))
                 ·
                  have ih667 := t_eq h667
                  have ih668 := t_eq h668
                  have ih669 := t_eq h669
                  have ih670 := f_eq h670
                  show W _ _ _ _ _ _ _ _ _ _ _ _ 389 _ [(vi 0)]
                  refine W.iload (pc := 389) at_389 rfl ?_
                  refine W.icmpN (pc := 391) at_391 (n_ne (by decide)) ?_
                  refine W.iconst (pc := 394) (1) at_394 (by decide) ?_
                  refine W.goto (pc := 395) 399 at_395 (by decide) ?_
                  exact W.ireturn (pc := 399) at_399 rfl (Or.inr (Or.inl rfl)) (nw_bool (by decide)) (by decide) rfl
                 ·
                  have ih671 := t_eq h671
                  have ih672 := t_eq h672
                  exact absurd h673 (Classical.not_not.mpr (y_eq (by have := q0; have := rng32 z5; have := q2; have := aushr_2 z5; have := q3; have := am_3 (XT.ushr z5 (2 : Int32)); have := q1; omega)))
                 ·
                  have ih674 := t_eq h674
                  exact absurd h675 (Classical.not_not.mpr (y_eq (by have := q0; have := rng32 z5; have := q2; have := aushr_2 z5; have := q3; have := am_3 (XT.ushr z5 (2 : Int32)); have := q1; omega)))
                 ·
                  exact absurd h676 (Classical.not_not.mpr (y_eq (by have := q0; have := rng32 z5; have := q2; have := aushr_2 z5; have := q3; have := am_3 (XT.ushr z5 (2 : Int32)); have := q1; omega)))
                ·
                 have ih657 := t_eq h657
                 have ih658 := t_eq h658
                 exact absurd h659 (Classical.not_not.mpr (y_eq (by have := q0; have := rng32 z5; have := q2; have := aushr_2 z5; have := q3; have := am_3 (XT.ushr z5 (2 : Int32)); have := q1; omega)))
                ·
                 have ih660 := t_eq h660
                 exact absurd h661 (Classical.not_not.mpr (y_eq (by have := q0; have := rng32 z5; have := q2; have := aushr_2 z5; have := q3; have := am_3 (XT.ushr z5 (2 : Int32)); have := q1; omega)))
                ·
                 exact absurd h662 (Classical.not_not.mpr (y_eq (by have := q0; have := rng32 z5; have := q2; have := aushr_2 z5; have := q3; have := am_3 (XT.ushr z5 (2 : Int32)); have := q1; omega)))
               ·
                have ih642 := t_eq h642
                have ih643 := t_eq h643
                have ih644 := f_eq h644
                have ih645 := f_ne h645
                show W _ _ _ _ _ _ _ _ _ _ _ _ 360 _ [(vi 1)]
                refine W.ifN (pc := 360) at_360 (n_eq (by decide)) ?_
                refine W.iconst (pc := 363) (1) at_363 (by decide) ?_
                refine W.goto (pc := 364) 368 at_364 (by decide) ?_
                refine W.istore (pc := 368) (ls' := #[iv z0, iv z1, iv z2, iv z3, iv z4, iv z5, iv g2, iv g5, iv g7, iv g8, iv g9, iv g10, iv g12, iv g13, iv g14, iv g17, iv g18, iv g19, rv a23, rv a152, rv a221, rv a247, rv a267, rv a269, rv a270, iv ((XT.ushr z5 (2 : Int32)) &&& (3 : Int32)), iv 1]) at_368 rfl ?_
                refine W.aload (pc := 370) 23 at_370 rfl rfl ?_
                refine W.aload (pc := 372) 24 at_372 rfl rfl ?_
                refine W.know (fun _ _ H => H.ne (i := 1) (j := 0) (by decide) rfl rfl (Or.inl rfl)) (fun ne277 => ?_)
                refine W.know (fun _ _ H => H.ne (i := 11) (j := 7) (by decide) rfl rfl (Or.inl rfl)) (fun ne278 => ?_)
                refine W.know (fun _ _ H => H.ne (i := 9) (j := 5) (by decide) rfl rfl (Or.inl rfl)) (fun ne279 => ?_)
                refine W.callV (pc := 374) (as := [(vr a270)]) 0 [] at_374 (w111 hw) (w112 hw) (w114 hw) (w114 hw) (w113 hw) (w41 hw) (w115 hw) (Hp.exa m1) (c112_equals hw hs (hx1 := hg7) (hx2 := hg8) (hx3 := hg9) (hx4 := hg10) (hx5 := hg12) (hx6 := hg13) (hx7 := hg17) (hx8 := hg18) (mp2 := m0) (mp1 := m1) (mp3 := m11) (mp5 := m7) (mp7 := m10) (mp9 := m6) (mp4 := m9) (mp6 := m5) (mp8 := m8) (mp10 := m4) (ne_p1_p2 := ne277) (ne_p3_p5 := ne278) (ne_p4_p6 := ne279)) (by decide) pd_Ljava_lang_Object__Z rfl rfl rfl rfl (by decide) (fun v D' h => ?_)
                rcases h with ⟨h677, h678, h679, h680, rfl, rfl⟩ | ⟨h681, h682, h683, h684, rfl, rfl⟩ | ⟨h685, h686, h687, rfl, rfl⟩ | ⟨h688, h689, rfl, rfl⟩ | ⟨h690, rfl, rfl⟩
                ·
                 have ih677 := t_eq h677
                 have ih678 := t_eq h678
                 have ih679 := t_eq h679
                 have ih680 := t_eq h680
                 show W _ _ _ _ _ _ _ _ _ _ _ _ 377 _ [(vi 1)]
                 refine W.iload (pc := 377) at_377 rfl ?_
                 refine W.icmpN (pc := 379) at_379 (n_ne (by decide)) ?_
                 refine W.aload (pc := 382) 24 at_382 rfl rfl ?_
                 refine W.aload (pc := 384) 23 at_384 rfl rfl ?_
                 refine W.callV (pc := 386) (as := [(vr a269)]) 0 [] at_386 (w111 hw) (w112 hw) (w114 hw) (w114 hw) (w113 hw) (w41 hw) (w115 hw) (Hp.exa m0) (c112_equals hw hs (hx1 := hg12) (hx2 := hg13) (hx3 := hg17) (hx4 := hg18) (hx5 := hg7) (hx6 := hg8) (hx7 := hg9) (hx8 := hg10) (mp2 := m1) (mp1 := m0) (mp3 := m7) (mp5 := m11) (mp7 := m6) (mp9 := m10) (mp4 := m5) (mp6 := m9) (mp8 := m4) (mp10 := m8) (ne_p1_p2 := (Ne.symm ne277)) (ne_p3_p5 := (Ne.symm ne278)) (ne_p4_p6 := (Ne.symm ne279))) (by decide) pd_Ljava_lang_Object__Z rfl rfl rfl rfl (by decide) (fun v D' h => ?_)
                 rcases h with ⟨h691, h692, h693, h694, rfl, rfl⟩ | ⟨h695, h696, h697, h698, rfl, rfl⟩ | ⟨h699, h700, h701, rfl, rfl⟩ | ⟨h702, h703, rfl, rfl⟩ | ⟨h704, rfl, rfl⟩
                 ·
                  have ih691 := t_eq h691
                  have ih692 := t_eq h692
                  have ih693 := t_eq h693
                  have ih694 := t_eq h694
                  show W _ _ _ _ _ _ _ _ _ _ _ _ 389 _ [(vi 1)]
                  refine W.iload (pc := 389) at_389 rfl ?_
                  refine W.icmpN (pc := 391) at_391 (n_ne (by decide)) ?_
                  refine W.iconst (pc := 394) (1) at_394 (by decide) ?_
                  refine W.goto (pc := 395) 399 at_395 (by decide) ?_
                  exact W.ireturn (pc := 399) at_399 rfl (Or.inr (Or.inl rfl)) (nw_bool (by decide)) (by decide) rfl
                 ·
                  have ih695 := t_eq h695
                  have ih696 := t_eq h696
                  have ih697 := t_eq h697
                  exact absurd h698 (Classical.not_not.mpr (y_eq (by have := q0; have := rng32 z5; have := q2; have := aushr_2 z5; have := q3; have := am_3 (XT.ushr z5 (2 : Int32)); have := q1; omega)))
                 ·
                  have ih699 := t_eq h699
                  have ih700 := t_eq h700
                  exact absurd h701 (Classical.not_not.mpr (y_eq (by have := q0; have := rng32 z5; have := q2; have := aushr_2 z5; have := q3; have := am_3 (XT.ushr z5 (2 : Int32)); have := q1; omega)))
                 ·
                  have ih702 := t_eq h702
                  exact absurd h703 (Classical.not_not.mpr (y_eq (by have := q0; have := rng32 z5; have := q2; have := aushr_2 z5; have := q3; have := am_3 (XT.ushr z5 (2 : Int32)); have := q1; omega)))
                 ·
                  exact absurd h704 (Classical.not_not.mpr (y_eq (by have := q0; have := rng32 z5; have := q2; have := aushr_2 z5; have := q3; have := am_3 (XT.ushr z5 (2 : Int32)); have := q1; omega)))
                ·
                 have ih681 := t_eq h681
                 have ih682 := t_eq h682
                 have ih683 := t_eq h683
                 exact absurd h684 (Classical.not_not.mpr (y_eq (by have := q0; have := rng32 z5; have := q2; have := aushr_2 z5; have := q3; have := am_3 (XT.ushr z5 (2 : Int32)); have := q1; omega)))
                ·
                 have ih685 := t_eq h685
                 have ih686 := t_eq h686
                 exact absurd h687 (Classical.not_not.mpr (y_eq (by have := q0; have := rng32 z5; have := q2; have := aushr_2 z5; have := q3; have := am_3 (XT.ushr z5 (2 : Int32)); have := q1; omega)))
                ·
                 have ih688 := t_eq h688
                 exact absurd h689 (Classical.not_not.mpr (y_eq (by have := q0; have := rng32 z5; have := q2; have := aushr_2 z5; have := q3; have := am_3 (XT.ushr z5 (2 : Int32)); have := q1; omega)))
                ·
                 exact absurd h690 (Classical.not_not.mpr (y_eq (by have := q0; have := rng32 z5; have := q2; have := aushr_2 z5; have := q3; have := am_3 (XT.ushr z5 (2 : Int32)); have := q1; omega)))
               ·
                have ih646 := t_eq h646
                have ih647 := f_eq h647
                show W _ _ _ _ _ _ _ _ _ _ _ _ 360 _ [(vi 0)]
                refine W.ifY (pc := 360) 367 at_360 (y_eq (by decide)) (by decide) ?_
                refine W.iconst (pc := 367) (0) at_367 (by decide) ?_
                refine W.istore (pc := 368) (ls' := #[iv z0, iv z1, iv z2, iv z3, iv z4, iv z5, iv g2, iv g5, iv g7, iv g8, iv g9, iv g10, iv g12, iv g13, iv g14, iv g17, iv g18, iv g19, rv a23, rv a152, rv a221, rv a247, rv a267, rv a269, rv a270, iv ((XT.ushr z5 (2 : Int32)) &&& (3 : Int32)), iv 0]) at_368 rfl ?_
                refine W.aload (pc := 370) 23 at_370 rfl rfl ?_
                refine W.aload (pc := 372) 24 at_372 rfl rfl ?_
                refine W.know (fun _ _ H => H.ne (i := 1) (j := 0) (by decide) rfl rfl (Or.inl rfl)) (fun ne280 => ?_)
                refine W.know (fun _ _ H => H.ne (i := 11) (j := 7) (by decide) rfl rfl (Or.inl rfl)) (fun ne281 => ?_)
                refine W.know (fun _ _ H => H.ne (i := 9) (j := 5) (by decide) rfl rfl (Or.inl rfl)) (fun ne282 => ?_)
                refine W.callV (pc := 374) (as := [(vr a270)]) 0 [] at_374 (w111 hw) (w112 hw) (w114 hw) (w114 hw) (w113 hw) (w41 hw) (w115 hw) (Hp.exa m1) (c112_equals hw hs (hx1 := hg7) (hx2 := hg8) (hx3 := hg9) (hx4 := hg10) (hx5 := hg12) (hx6 := hg13) (hx7 := hg17) (hx8 := hg18) (mp2 := m0) (mp1 := m1) (mp3 := m11) (mp5 := m7) (mp7 := m10) (mp9 := m6) (mp4 := m9) (mp6 := m5) (mp8 := m8) (mp10 := m4) (ne_p1_p2 := ne280) (ne_p3_p5 := ne281) (ne_p4_p6 := ne282)) (by decide) pd_Ljava_lang_Object__Z rfl rfl rfl rfl (by decide) (fun v D' h => ?_)
                rcases h with ⟨h705, h706, h707, h708, rfl, rfl⟩ | ⟨h709, h710, h711, h712, rfl, rfl⟩ | ⟨h713, h714, h715, rfl, rfl⟩ | ⟨h716, h717, rfl, rfl⟩ | ⟨h718, rfl, rfl⟩
                ·
                 have ih705 := t_eq h705
                 have ih706 := t_eq h706
                 exact absurd h707 (n_eq (by have := q0; have := rng32 z5; have := q2; have := aushr_2 z5; have := q3; have := am_3 (XT.ushr z5 (2 : Int32)); have := q1; omega))
                ·
                 have ih709 := t_eq h709
                 have ih710 := t_eq h710
                 exact absurd h711 (n_eq (by have := q0; have := rng32 z5; have := q2; have := aushr_2 z5; have := q3; have := am_3 (XT.ushr z5 (2 : Int32)); have := q1; omega))
                ·
                 have ih713 := t_eq h713
                 have ih714 := t_eq h714
                 have ih715 := f_eq h715
                 show W _ _ _ _ _ _ _ _ _ _ _ _ 377 _ [(vi 0)]
                 refine W.iload (pc := 377) at_377 rfl ?_
                 refine W.icmpN (pc := 379) at_379 (n_ne (by decide)) ?_
                 refine W.aload (pc := 382) 24 at_382 rfl rfl ?_
                 refine W.aload (pc := 384) 23 at_384 rfl rfl ?_
                 refine W.callV (pc := 386) (as := [(vr a269)]) 0 [] at_386 (w111 hw) (w112 hw) (w114 hw) (w114 hw) (w113 hw) (w41 hw) (w115 hw) (Hp.exa m0) (c112_equals hw hs (hx1 := hg12) (hx2 := hg13) (hx3 := hg17) (hx4 := hg18) (hx5 := hg7) (hx6 := hg8) (hx7 := hg9) (hx8 := hg10) (mp2 := m1) (mp1 := m0) (mp3 := m7) (mp5 := m11) (mp7 := m6) (mp9 := m10) (mp4 := m5) (mp6 := m9) (mp8 := m4) (mp10 := m8) (ne_p1_p2 := (Ne.symm ne280)) (ne_p3_p5 := (Ne.symm ne281)) (ne_p4_p6 := (Ne.symm ne282))) (by decide) pd_Ljava_lang_Object__Z rfl rfl rfl rfl (by decide) (fun v D' h => ?_)
                 rcases h with ⟨h719, h720, h721, h722, rfl, rfl⟩ | ⟨h723, h724, h725, h726, rfl, rfl⟩ | ⟨h727, h728, h729, rfl, rfl⟩ | ⟨h730, h731, rfl, rfl⟩ | ⟨h732, rfl, rfl⟩
                 ·
                  have ih719 := t_eq h719
                  have ih720 := t_eq h720
                  exact absurd h721 (n_eq (by have := q0; have := rng32 z5; have := q2; have := aushr_2 z5; have := q3; have := am_3 (XT.ushr z5 (2 : Int32)); have := q1; omega))
                 ·
                  have ih723 := t_eq h723
                  have ih724 := t_eq h724
                  exact absurd h725 (n_eq (by have := q0; have := rng32 z5; have := q2; have := aushr_2 z5; have := q3; have := am_3 (XT.ushr z5 (2 : Int32)); have := q1; omega))
                 ·
                  have ih727 := t_eq h727
                  have ih728 := t_eq h728
                  have ih729 := f_eq h729
                  show W _ _ _ _ _ _ _ _ _ _ _ _ 389 _ [(vi 0)]
                  refine W.iload (pc := 389) at_389 rfl ?_
                  refine W.icmpN (pc := 391) at_391 (n_ne (by decide)) ?_
                  refine W.iconst (pc := 394) (1) at_394 (by decide) ?_
                  refine W.goto (pc := 395) 399 at_395 (by decide) ?_
                  exact W.ireturn (pc := 399) at_399 rfl (Or.inr (Or.inl rfl)) (nw_bool (by decide)) (by decide) rfl
                 ·
                  have ih730 := t_eq h730
                  exact absurd h731 (Classical.not_not.mpr (y_eq (by have := q0; have := rng32 z5; have := q2; have := aushr_2 z5; have := q3; have := am_3 (XT.ushr z5 (2 : Int32)); have := q1; omega)))
                 ·
                  exact absurd h732 (Classical.not_not.mpr (y_eq (by have := q0; have := rng32 z5; have := q2; have := aushr_2 z5; have := q3; have := am_3 (XT.ushr z5 (2 : Int32)); have := q1; omega)))
                ·
                 have ih716 := t_eq h716
                 exact absurd h717 (Classical.not_not.mpr (y_eq (by have := q0; have := rng32 z5; have := q2; have := aushr_2 z5; have := q3; have := am_3 (XT.ushr z5 (2 : Int32)); have := q1; omega)))
                ·
                 exact absurd h718 (Classical.not_not.mpr (y_eq (by have := q0; have := rng32 z5; have := q2; have := aushr_2 z5; have := q3; have := am_3 (XT.ushr z5 (2 : Int32)); have := q1; omega)))
               ·
                exact absurd h648 (Classical.not_not.mpr (y_eq (by have := q0; have := rng32 z5; have := q2; have := aushr_2 z5; have := q3; have := am_3 (XT.ushr z5 (2 : Int32)); have := q1; omega)))
              ·
               have ih604 := t_eq h604
               have ih605 := f_eq h605
               show W _ _ _ _ _ _ _ _ _ _ _ _ 342 _ [(vi 0)]
               refine W.ifY (pc := 342) 367 at_342 (y_eq (by decide)) (by decide) ?_
               refine W.iconst (pc := 367) (0) at_367 (by decide) ?_
               refine W.istore (pc := 368) (ls' := #[iv z0, iv z1, iv z2, iv z3, iv z4, iv z5, iv g2, iv g5, iv g7, iv g8, iv g9, iv g10, iv g12, iv g13, iv g14, iv g17, iv g18, iv g19, rv a23, rv a152, rv a221, rv a247, rv a267, rv a269, rv a270, iv ((XT.ushr z5 (2 : Int32)) &&& (3 : Int32)), iv 0]) at_368 rfl ?_
               refine W.aload (pc := 370) 23 at_370 rfl rfl ?_
               refine W.aload (pc := 372) 24 at_372 rfl rfl ?_
               refine W.know (fun _ _ H => H.ne (i := 1) (j := 0) (by decide) rfl rfl (Or.inl rfl)) (fun ne283 => ?_)
               refine W.know (fun _ _ H => H.ne (i := 11) (j := 7) (by decide) rfl rfl (Or.inl rfl)) (fun ne284 => ?_)
               refine W.know (fun _ _ H => H.ne (i := 9) (j := 5) (by decide) rfl rfl (Or.inl rfl)) (fun ne285 => ?_)
               refine W.callV (pc := 374) (as := [(vr a270)]) 0 [] at_374 (w111 hw) (w112 hw) (w114 hw) (w114 hw) (w113 hw) (w41 hw) (w115 hw) (Hp.exa m1) (c112_equals hw hs (hx1 := hg7) (hx2 := hg8) (hx3 := hg9) (hx4 := hg10) (hx5 := hg12) (hx6 := hg13) (hx7 := hg17) (hx8 := hg18) (mp2 := m0) (mp1 := m1) (mp3 := m11) (mp5 := m7) (mp7 := m10) (mp9 := m6) (mp4 := m9) (mp6 := m5) (mp8 := m8) (mp10 := m4) (ne_p1_p2 := ne283) (ne_p3_p5 := ne284) (ne_p4_p6 := ne285)) (by decide) pd_Ljava_lang_Object__Z rfl rfl rfl rfl (by decide) (fun v D' h => ?_)
               rcases h with ⟨h733, h734, h735, h736, rfl, rfl⟩ | ⟨h737, h738, h739, h740, rfl, rfl⟩ | ⟨h741, h742, h743, rfl, rfl⟩ | ⟨h744, h745, rfl, rfl⟩ | ⟨h746, rfl, rfl⟩
               ·
                exact absurd h733 (n_eq (by have := q0; have := rng32 z5; have := q2; have := aushr_2 z5; have := q3; have := am_3 (XT.ushr z5 (2 : Int32)); have := q1; omega))
               ·
                exact absurd h737 (n_eq (by have := q0; have := rng32 z5; have := q2; have := aushr_2 z5; have := q3; have := am_3 (XT.ushr z5 (2 : Int32)); have := q1; omega))
               ·
                exact absurd h741 (n_eq (by have := q0; have := rng32 z5; have := q2; have := aushr_2 z5; have := q3; have := am_3 (XT.ushr z5 (2 : Int32)); have := q1; omega))
               ·
                exact absurd h744 (n_eq (by have := q0; have := rng32 z5; have := q2; have := aushr_2 z5; have := q3; have := am_3 (XT.ushr z5 (2 : Int32)); have := q1; omega))
               ·
                have ih746 := f_eq h746
                show W _ _ _ _ _ _ _ _ _ _ _ _ 377 _ [(vi 0)]
                refine W.iload (pc := 377) at_377 rfl ?_
                refine W.icmpN (pc := 379) at_379 (n_ne (by decide)) ?_
                refine W.aload (pc := 382) 24 at_382 rfl rfl ?_
                refine W.aload (pc := 384) 23 at_384 rfl rfl ?_
                refine W.callV (pc := 386) (as := [(vr a269)]) 0 [] at_386 (w111 hw) (w112 hw) (w114 hw) (w114 hw) (w113 hw) (w41 hw) (w115 hw) (Hp.exa m0) (c112_equals hw hs (hx1 := hg12) (hx2 := hg13) (hx3 := hg17) (hx4 := hg18) (hx5 := hg7) (hx6 := hg8) (hx7 := hg9) (hx8 := hg10) (mp2 := m1) (mp1 := m0) (mp3 := m7) (mp5 := m11) (mp7 := m6) (mp9 := m10) (mp4 := m5) (mp6 := m9) (mp8 := m4) (mp10 := m8) (ne_p1_p2 := (Ne.symm ne283)) (ne_p3_p5 := (Ne.symm ne284)) (ne_p4_p6 := (Ne.symm ne285))) (by decide) pd_Ljava_lang_Object__Z rfl rfl rfl rfl (by decide) (fun v D' h => ?_)
                rcases h with ⟨h747, h748, h749, h750, rfl, rfl⟩ | ⟨h751, h752, h753, h754, rfl, rfl⟩ | ⟨h755, h756, h757, rfl, rfl⟩ | ⟨h758, h759, rfl, rfl⟩ | ⟨h760, rfl, rfl⟩
                ·
                 exact absurd h747 (n_eq (by have := q0; have := rng32 z5; have := q2; have := aushr_2 z5; have := q3; have := am_3 (XT.ushr z5 (2 : Int32)); have := q1; omega))
                ·
                 exact absurd h751 (n_eq (by have := q0; have := rng32 z5; have := q2; have := aushr_2 z5; have := q3; have := am_3 (XT.ushr z5 (2 : Int32)); have := q1; omega))
                ·
                 exact absurd h755 (n_eq (by have := q0; have := rng32 z5; have := q2; have := aushr_2 z5; have := q3; have := am_3 (XT.ushr z5 (2 : Int32)); have := q1; omega))
                ·
                 exact absurd h758 (n_eq (by have := q0; have := rng32 z5; have := q2; have := aushr_2 z5; have := q3; have := am_3 (XT.ushr z5 (2 : Int32)); have := q1; omega))
                ·
                 have ih760 := f_eq h760
                 show W _ _ _ _ _ _ _ _ _ _ _ _ 389 _ [(vi 0)]
                 refine W.iload (pc := 389) at_389 rfl ?_
                 refine W.icmpN (pc := 391) at_391 (n_ne (by decide)) ?_
                 refine W.iconst (pc := 394) (1) at_394 (by decide) ?_
                 refine W.goto (pc := 395) 399 at_395 (by decide) ?_
                 exact W.ireturn (pc := 399) at_399 rfl (Or.inr (Or.inl rfl)) (nw_bool (by decide)) (by decide) rfl
              ·
               exact absurd h606 (Classical.not_not.mpr (y_eq (by have := q0; have := rng32 z5; have := q2; have := aushr_2 z5; have := q3; have := am_3 (XT.ushr z5 (2 : Int32)); have := q1; omega)))
             ·
              have ih592 := f_ne h592
              refine W.aload (pc := 319) 23 at_319 rfl rfl ?_
              refine W.aload (pc := 321) 23 at_321 rfl rfl ?_
              refine W.callV (pc := 323) (as := [(vr a269)]) 0 [] at_323 (w111 hw) (w112 hw) (w114 hw) (w114 hw) (w113 hw) (w41 hw) (w115 hw) (Hp.exa m1) (c66_equals hw hs) (by decide) pd_Ljava_lang_Object__Z rfl rfl rfl rfl (by decide) (fun v D' h => ?_)
              obtain ⟨rfl, rfl⟩ := h
              show W _ _ _ _ _ _ _ _ _ _ _ _ 326 _ [(vi 1)]
              exact W.ireturn (pc := 326) at_326 rfl (Or.inr (Or.inl rfl)) (nw_bool (by decide)) (by decide) rfl
            ·
             have ih591 := f_ne h591
             refine W.aload (pc := 297) 23 at_297 rfl rfl ?_
             refine W.aload (pc := 299) 22 at_299 rfl rfl ?_
             refine W.know (fun _ _ H => H.ne (i := 1) (j := 3) (by decide) rfl rfl (Or.inl rfl)) (fun ne286 => ?_)
             refine W.callV (pc := 301) (as := [(vr a267)]) 0 [] at_301 (w111 hw) (w112 hw) (w114 hw) (w114 hw) (w113 hw) (w41 hw) (w115 hw) (Hp.exa m1) (c67_equals hw hs (mp2 := m3) (ne_p1_p2 := ne286)) (by decide) pd_Ljava_lang_Object__Z rfl rfl rfl rfl (by decide) (fun v D' h => ?_)
             obtain ⟨rfl, rfl⟩ := h
             show W _ _ _ _ _ _ _ _ _ _ _ _ 304 _ [(vi 0)]
             refine W.ifN (pc := 304) at_304 (n_ne (by decide)) ?_
             refine W.iconst (pc := 307) (1) at_307 (by decide) ?_
             refine W.goto (pc := 308) 312 at_308 (by decide) ?_
             exact W.ireturn (pc := 312) at_312 rfl (Or.inr (Or.inl rfl)) (nw_bool (by decide)) (by decide) rfl
           ·
            have ih590 := f_ne h590
            refine W.aload (pc := 276) 23 at_276 rfl rfl ?_
            refine W.aconstNull (pc := 278) at_278 ?_
            refine W.callV (pc := 279) (as := [.null]) 0 [] at_279 (w111 hw) (w112 hw) (w114 hw) (w114 hw) (w113 hw) (w41 hw) (w115 hw) (Hp.exa m1) (c68_equals hw hs) (by decide) pd_Ljava_lang_Object__Z rfl rfl rfl rfl (by decide) (fun v D' h => ?_)
            obtain ⟨rfl, rfl⟩ := h
            show W _ _ _ _ _ _ _ _ _ _ _ _ 282 _ [(vi 0)]
            refine W.ifN (pc := 282) at_282 (n_ne (by decide)) ?_
            refine W.iconst (pc := 285) (1) at_285 (by decide) ?_
            refine W.goto (pc := 286) 290 at_286 (by decide) ?_
            exact W.ireturn (pc := 290) at_290 rfl (Or.inr (Or.inl rfl)) (nw_bool (by decide)) (by decide) rfl
     refine W.iload (pc := 124) at_124 rfl ?_
     refine W.iconst (pc := 126) (2) at_126 (by decide) ?_
     refine W.iand (pc := 127) at_127 ?_
     refine W.if (pc := 128) 146 at_128 (by decide) (fun h761 => ?_) (fun h761 => ?_)
     ·
      have ih761 := t_eq h761
      refine W.iloadN (pc := 146) at_146 rfl ?_
      refine W.ldcI (pc := 147) at_147 (w0 hw) ?_
      refine W.iand (pc := 149) at_149 ?_
      refine W.iconst (pc := 150) (1) at_150 (by decide) ?_
      refine W.callS (pc := 151) (as := [(vi (z3 &&& (65535 : Int32))), (vi 1)]) 0 [] at_151 (w1 hw) (w2 hw) (w3 hw) (w4 hw) (c2_pickm hw hs (hx1 := (by have := rng32 z3; have := q65535; have := am_65535 z3; have := rng32 z5; have := q2; have := c_and z5 (2 : Int32); have := rng32 (z5 &&& (2 : Int32)); have := q0; omega))) (by decide) pd_IZ_C rfl rfl rfl rfl (by decide) (fun v D' h => ?_)
      obtain ⟨g287, hg287, rfl, rfl⟩ := h
      show W _ _ _ _ _ _ _ _ _ _ _ _ 154 _ [(vi g287)]
      refine W.istore (pc := 154) (ls' := #[iv z0, iv z1, iv z2, iv z3, iv z4, iv z5, iv g2, iv g5, iv g7, iv g8, iv g9, iv g10, iv g12, iv g13, iv g14, iv g287, uu, uu, uu, uu, uu, uu, uu, uu, uu, uu, uu]) at_154 rfl ?_
      refine W.iloadN (pc := 156) at_156 rfl ?_
      refine W.bipush (pc := 157) (16) at_157 (by decide) ?_
      refine W.iushr (pc := 159) at_159 ?_
      refine W.iconst (pc := 160) (1) at_160 (by decide) ?_
      refine W.callS (pc := 161) (as := [(vi (XT.ushr z3 (16 : Int32))), (vi 1)]) 0 [] at_161 (w1 hw) (w2 hw) (w3 hw) (w4 hw) (c2_pickm hw hs (hx1 := (by have := rng32 z3; have := q16; have := aushr_16 z3; have := rng32 z5; have := q2; have := c_and z5 (2 : Int32); have := rng32 (z5 &&& (2 : Int32)); have := q0; omega))) (by decide) pd_IZ_C rfl rfl rfl rfl (by decide) (fun v D' h => ?_)
      obtain ⟨g288, hg288, rfl, rfl⟩ := h
      show W _ _ _ _ _ _ _ _ _ _ _ _ 164 _ [(vi g288)]
      refine W.istore (pc := 164) (ls' := #[iv z0, iv z1, iv z2, iv z3, iv z4, iv z5, iv g2, iv g5, iv g7, iv g8, iv g9, iv g10, iv g12, iv g13, iv g14, iv g287, iv g288, uu, uu, uu, uu, uu, uu, uu, uu, uu, uu]) at_164 rfl ?_
      have K291 : ∀ (g290 : Int32), 0 ≤ g290.toInt ∧ g290.toInt ≤ 1 → W Z EL room_1 "com/example/cunctator/cunctator/JobKeyEqualsPinLaw" "law" code maxLocals ret (fun v _ => v = some (.int 1)) (((og3 Z), false, ar "" .byte [(vi 46), (vi 95), (vi 45)]) :: ((og2 Z), false, oString (vr (og3 Z)) (vi 0)) :: ((og1 Z), false, oJobKey_NameRule (vi 64) (vr (og2 Z))) :: ((og6 Z), false, ar "" .byte [(vi 46), (vi 95), (vi 58), (vi 45)]) :: ((og5 Z), false, oString (vr (og6 Z)) (vi 0)) :: ((og4 Z), false, oJobKey_NameRule (vi 128) (vr (og5 Z))) :: []) 0 0 181 #[iv z0, iv z1, iv z2, iv z3, iv z4, iv z5, iv g2, iv g5, iv g7, iv g8, iv g9, iv g10, iv g12, iv g13, iv g14, iv g287, iv g288, iv g290, uu, uu, uu, uu, uu, uu, uu, uu, uu] [] := by
       intro g290 hg290
       exact W.mono (by decide) (by decide) (K20 g287 g288 g290 hg287 hg288 hg290)
      refine W.iload (pc := 166) at_166 rfl ?_
      refine W.bipush (pc := 168) (8) at_168 (by decide) ?_
      refine W.iand (pc := 170) at_170 ?_
      refine W.if (pc := 171) 178 at_171 (by decide) (fun h762 => ?_) (fun h762 => ?_)
      ·
       have ih762 := t_eq h762
       refine W.iconst (pc := 178) (0) at_178 (by decide) ?_
       refine W.istore (pc := 179) (ls' := #[iv z0, iv z1, iv z2, iv z3, iv z4, iv z5, iv g2, iv g5, iv g7, iv g8, iv g9, iv g10, iv g12, iv g13, iv g14, iv g287, iv g288, iv 0, uu, uu, uu, uu, uu, uu, uu, uu, uu]) at_179 rfl ?_
       exact W.mono (by decide) (by decide) (K291 (0 : Int32) (by decide))
      ·
       have ih762 := f_eq h762
       refine W.iconst (pc := 174) (1) at_174 (by decide) ?_
       refine W.goto (pc := 175) 179 at_175 (by decide) ?_
       refine W.istore (pc := 179) (ls' := #[iv z0, iv z1, iv z2, iv z3, iv z4, iv z5, iv g2, iv g5, iv g7, iv g8, iv g9, iv g10, iv g12, iv g13, iv g14, iv g287, iv g288, iv 1, uu, uu, uu, uu, uu, uu, uu, uu, uu]) at_179 rfl ?_
       exact W.mono (by decide) (by decide) (K291 (1 : Int32) (by decide))
     ·
      have ih761 := f_eq h761
      refine W.iload (pc := 131) at_131 rfl ?_
      refine W.istore (pc := 133) (ls' := #[iv z0, iv z1, iv z2, iv z3, iv z4, iv z5, iv g2, iv g5, iv g7, iv g8, iv g9, iv g10, iv g12, iv g13, iv g14, iv g9, uu, uu, uu, uu, uu, uu, uu, uu, uu, uu, uu]) at_133 rfl ?_
      refine W.iload (pc := 135) at_135 rfl ?_
      refine W.istore (pc := 137) (ls' := #[iv z0, iv z1, iv z2, iv z3, iv z4, iv z5, iv g2, iv g5, iv g7, iv g8, iv g9, iv g10, iv g12, iv g13, iv g14, iv g9, iv g10, uu, uu, uu, uu, uu, uu, uu, uu, uu, uu]) at_137 rfl ?_
      refine W.iload (pc := 139) at_139 rfl ?_
      refine W.istore (pc := 141) (ls' := #[iv z0, iv z1, iv z2, iv z3, iv z4, iv z5, iv g2, iv g5, iv g7, iv g8, iv g9, iv g10, iv g12, iv g13, iv g14, iv g9, iv g10, iv g5, uu, uu, uu, uu, uu, uu, uu, uu, uu]) at_141 rfl ?_
      refine W.goto (pc := 143) 181 at_143 (by decide) ?_
      exact W.mono (by decide) (by decide) (K20 g9 g10 g5 hg9 hg10 hg5)
    refine W.iload (pc := 68) at_68 rfl ?_
    refine W.iconst (pc := 70) (1) at_70 (by decide) ?_
    refine W.iand (pc := 71) at_71 ?_
    refine W.if (pc := 72) 90 at_72 (by decide) (fun h763 => ?_) (fun h763 => ?_)
    ·
     have ih763 := t_eq h763
     refine W.iloadN (pc := 90) at_90 rfl ?_
     refine W.ldcI (pc := 91) at_91 (w0 hw) ?_
     refine W.iand (pc := 93) at_93 ?_
     refine W.iconst (pc := 94) (0) at_94 (by decide) ?_
     refine W.callS (pc := 95) (as := [(vi (z2 &&& (65535 : Int32))), (vi 0)]) 0 [] at_95 (w1 hw) (w2 hw) (w3 hw) (w4 hw) (c1_pickm hw hs (hx1 := (by have := rng32 z2; have := q65535; have := am_65535 z2; have := rng32 z5; have := q1; have := am_1 z5; have := q0; omega))) (by decide) pd_IZ_C rfl rfl rfl rfl (by decide) (fun v D' h => ?_)
     obtain ⟨g292, hg292, rfl, rfl⟩ := h
     show W _ _ _ _ _ _ _ _ _ _ _ _ 98 _ [(vi g292)]
     refine W.istore (pc := 98) (ls' := #[iv z0, iv z1, iv z2, iv z3, iv z4, iv z5, iv g2, iv g5, iv g7, iv g8, iv g9, iv g10, iv g292, uu, uu, uu, uu, uu, uu, uu, uu, uu, uu, uu, uu, uu, uu]) at_98 rfl ?_
     refine W.iloadN (pc := 100) at_100 rfl ?_
     refine W.bipush (pc := 101) (16) at_101 (by decide) ?_
     refine W.iushr (pc := 103) at_103 ?_
     refine W.iconst (pc := 104) (0) at_104 (by decide) ?_
     refine W.callS (pc := 105) (as := [(vi (XT.ushr z2 (16 : Int32))), (vi 0)]) 0 [] at_105 (w1 hw) (w2 hw) (w3 hw) (w4 hw) (c1_pickm hw hs (hx1 := (by have := rng32 z2; have := q16; have := aushr_16 z2; have := rng32 z5; have := q1; have := am_1 z5; have := q0; omega))) (by decide) pd_IZ_C rfl rfl rfl rfl (by decide) (fun v D' h => ?_)
     obtain ⟨g293, hg293, rfl, rfl⟩ := h
     show W _ _ _ _ _ _ _ _ _ _ _ _ 108 _ [(vi g293)]
     refine W.istore (pc := 108) (ls' := #[iv z0, iv z1, iv z2, iv z3, iv z4, iv z5, iv g2, iv g5, iv g7, iv g8, iv g9, iv g10, iv g292, iv g293, uu, uu, uu, uu, uu, uu, uu, uu, uu, uu, uu, uu, uu]) at_108 rfl ?_
     have K296 : ∀ (g295 : Int32), 0 ≤ g295.toInt ∧ g295.toInt ≤ 1 → W Z EL room_1 "com/example/cunctator/cunctator/JobKeyEqualsPinLaw" "law" code maxLocals ret (fun v _ => v = some (.int 1)) (((og3 Z), false, ar "" .byte [(vi 46), (vi 95), (vi 45)]) :: ((og2 Z), false, oString (vr (og3 Z)) (vi 0)) :: ((og1 Z), false, oJobKey_NameRule (vi 64) (vr (og2 Z))) :: ((og6 Z), false, ar "" .byte [(vi 46), (vi 95), (vi 58), (vi 45)]) :: ((og5 Z), false, oString (vr (og6 Z)) (vi 0)) :: ((og4 Z), false, oJobKey_NameRule (vi 128) (vr (og5 Z))) :: []) 0 0 124 #[iv z0, iv z1, iv z2, iv z3, iv z4, iv z5, iv g2, iv g5, iv g7, iv g8, iv g9, iv g10, iv g292, iv g293, iv g295, uu, uu, uu, uu, uu, uu, uu, uu, uu, uu, uu, uu] [] := by
      intro g295 hg295
      exact W.mono (by decide) (by decide) (K15 g292 g293 g295 hg292 hg293 hg295)
     refine W.iload (pc := 110) at_110 rfl ?_
     refine W.iconst (pc := 112) (4) at_112 (by decide) ?_
     refine W.iand (pc := 113) at_113 ?_
     refine W.if (pc := 114) 121 at_114 (by decide) (fun h764 => ?_) (fun h764 => ?_)
     ·
      have ih764 := t_eq h764
      refine W.iconst (pc := 121) (0) at_121 (by decide) ?_
      refine W.istore (pc := 122) (ls' := #[iv z0, iv z1, iv z2, iv z3, iv z4, iv z5, iv g2, iv g5, iv g7, iv g8, iv g9, iv g10, iv g292, iv g293, iv 0, uu, uu, uu, uu, uu, uu, uu, uu, uu, uu, uu, uu]) at_122 rfl ?_
      exact W.mono (by decide) (by decide) (K296 (0 : Int32) (by decide))
     ·
      have ih764 := f_eq h764
      refine W.iconst (pc := 117) (1) at_117 (by decide) ?_
      refine W.goto (pc := 118) 122 at_118 (by decide) ?_
      refine W.istore (pc := 122) (ls' := #[iv z0, iv z1, iv z2, iv z3, iv z4, iv z5, iv g2, iv g5, iv g7, iv g8, iv g9, iv g10, iv g292, iv g293, iv 1, uu, uu, uu, uu, uu, uu, uu, uu, uu, uu, uu, uu]) at_122 rfl ?_
      exact W.mono (by decide) (by decide) (K296 (1 : Int32) (by decide))
    ·
     have ih763 := f_eq h763
     refine W.iload (pc := 75) at_75 rfl ?_
     refine W.istore (pc := 77) (ls' := #[iv z0, iv z1, iv z2, iv z3, iv z4, iv z5, iv g2, iv g5, iv g7, iv g8, iv g9, iv g10, iv g7, uu, uu, uu, uu, uu, uu, uu, uu, uu, uu, uu, uu, uu, uu]) at_77 rfl ?_
     refine W.iload (pc := 79) at_79 rfl ?_
     refine W.istore (pc := 81) (ls' := #[iv z0, iv z1, iv z2, iv z3, iv z4, iv z5, iv g2, iv g5, iv g7, iv g8, iv g9, iv g10, iv g7, iv g8, uu, uu, uu, uu, uu, uu, uu, uu, uu, uu, uu, uu, uu]) at_81 rfl ?_
     refine W.iload (pc := 83) at_83 rfl ?_
     refine W.istore (pc := 85) (ls' := #[iv z0, iv z1, iv z2, iv z3, iv z4, iv z5, iv g2, iv g5, iv g7, iv g8, iv g9, iv g10, iv g7, iv g8, iv g2, uu, uu, uu, uu, uu, uu, uu, uu, uu, uu, uu, uu]) at_85 rfl ?_
     refine W.goto (pc := 87) 124 at_87 (by decide) ?_
     exact W.mono (by decide) (by decide) (K15 g7 g8 g2 hg7 hg8 hg2)
   refine W.iload (pc := 14) at_14 rfl ?_
   refine W.iconst (pc := 16) (2) at_16 (by decide) ?_
   refine W.iand (pc := 17) at_17 ?_
   refine W.if (pc := 18) 25 at_18 (by decide) (fun h765 => ?_) (fun h765 => ?_)
   ·
    have ih765 := t_eq h765
    refine W.iconst (pc := 25) (0) at_25 (by decide) ?_
    refine W.istore (pc := 26) (ls' := #[iv z0, iv z1, iv z2, iv z3, iv z4, iv z5, iv g2, iv 0, uu, uu, uu, uu, uu, uu, uu, uu, uu, uu, uu, uu, uu, uu, uu, uu, uu, uu, uu]) at_26 rfl ?_
    exact W.mono (by decide) (by decide) (K6 (0 : Int32) (by decide))
   ·
    have ih765 := f_eq h765
    refine W.iconst (pc := 21) (1) at_21 (by decide) ?_
    refine W.goto (pc := 22) 26 at_22 (by decide) ?_
    refine W.istore (pc := 26) (ls' := #[iv z0, iv z1, iv z2, iv z3, iv z4, iv z5, iv g2, iv 1, uu, uu, uu, uu, uu, uu, uu, uu, uu, uu, uu, uu, uu, uu, uu, uu, uu, uu, uu]) at_26 rfl ?_
    exact W.mono (by decide) (by decide) (K6 (1 : Int32) (by decide))
  refine W.iload (pc := 0) at_0 rfl ?_
  refine W.iconst (pc := 2) (1) at_2 (by decide) ?_
  refine W.iand (pc := 3) at_3 ?_
  refine W.if (pc := 4) 11 at_4 (by decide) (fun h766 => ?_) (fun h766 => ?_)
  ·
   have ih766 := t_eq h766
   refine W.iconst (pc := 11) (0) at_11 (by decide) ?_
   refine W.istore (pc := 12) (ls' := #[iv z0, iv z1, iv z2, iv z3, iv z4, iv z5, iv 0, uu, uu, uu, uu, uu, uu, uu, uu, uu, uu, uu, uu, uu, uu, uu, uu, uu, uu, uu, uu]) at_12 rfl ?_
   exact W.mono (by decide) (by decide) (K3 (0 : Int32) (by decide))
  ·
   have ih766 := f_eq h766
   refine W.iconst (pc := 7) (1) at_7 (by decide) ?_
   refine W.goto (pc := 8) 12 at_8 (by decide) ?_
   refine W.istore (pc := 12) (ls' := #[iv z0, iv z1, iv z2, iv z3, iv z4, iv z5, iv 1, uu, uu, uu, uu, uu, uu, uu, uu, uu, uu, uu, uu, uu, uu, uu, uu, uu, uu, uu, uu]) at_12 rfl ?_
   exact W.mono (by decide) (by decide) (K3 (1 : Int32) (by decide))
theorem w50 {Z a0} (hw : HW a0 Z) : ((Jvm.Cond.laysStatic "com/example/cunctator/cunctator/JobKey" "TOPIC_RULE" "Lcom/example/cunctator/cunctator/JobKey$NameRule;") : Jvm.Cond).before a0 Z = true := hw _ (List.mem_of_getElem? (i := 50) rfl)
theorem w105 {Z a0} (hw : HW a0 Z) : ((Jvm.Cond.laysStatic "com/example/cunctator/cunctator/JobKey" "ID_RULE" "Lcom/example/cunctator/cunctator/JobKey$NameRule;") : Jvm.Cond).before a0 Z = true := hw _ (List.mem_of_getElem? (i := 105) rfl)
set_option maxRecDepth 65536 in
set_option maxHeartbeats 4000000 in
theorem comes_1 {Post : Tables → Env → Array Value → State → Outcome → State → Prop} (hpost : ∀ tb e args s v u, (limb_1_1.after args s (.returned v) u = true ∧ limb_1_2.after args s (.returned v) u = true ∧ True) → Jvm.D.Framed s (.returned v) u (Jvm.fieldLocs frame_1_writes args s ++ Jvm.arrayLocs frame_1_arrays args s ++ Jvm.staticLocs frame_1_statics s) 48 192 → Post tb e args s (.returned v) u) :
    ArmFor flags0 classFile x code maxLocals ret World_1 tables_1 room_1 Calls_1 rest_1 Pre_1 Post := by
  intro l hfl _ _ p e ha hc hk s m args below hf hA hF happ hP
  obtain ⟨hcalls, hrest, hpre⟩ := hP
  obtain ⟨-, -, -, hnamed, -, -, -, hat⟩ := (Spec.applies_iff hf).mp happ
  obtain ⟨hg, hn⟩ := and_e (Cond.before_iff.mp (show (Jvm.Cond.and given_1 narrow_1).before args s = true from hpre))
  obtain ⟨hcount, g0⟩ := and_e hg
  obtain ⟨w0, w1, w2, w3, w4, w5, rfl⟩ : ∃ w0 w1 w2 w3 w4 w5 : Value, args = #[w0, w1, w2, w3, w4, w5] := by
    have hs : args.size = 6 := by simpa [Cond.value, given_1] using hcount
    obtain ⟨L⟩ := args
    match L, hs with
    | [w0, w1, w2, w3, w4, w5], _ => exact ⟨w0, w1, w2, w3, w4, w5, rfl⟩
  have hw := fun d (hd : d ∈ tables_1) => atoms_spec (ws := Jvm.Cond.code x code maxLocals ret :: tables_1) hat d (List.mem_cons_of_mem _ hd)
  have hsets := (atoms_of jdkStatics_1 (show (jdkStatics_1.foldr Jvm.Cond.and restOwn_1).before _ s = true from by rw [← rest_1_c_eq]; exact hrest)).1
  obtain ⟨k0, g1⟩ := and_e g0
  obtain ⟨k1, g2⟩ := and_e g1
  obtain ⟨k2, g3⟩ := and_e g2
  obtain ⟨k3, g4⟩ := and_e g3
  obtain ⟨k4, g5⟩ := and_e g4
  have k5 := g5
  obtain ⟨z0, y0⟩ := is_v k0
  obtain rfl : w0 = (.int z0) := Option.some.inj y0
  obtain ⟨z1, y1⟩ := is_v k1
  obtain rfl : w1 = (.int z1) := Option.some.inj y1
  obtain ⟨z2, y2⟩ := is_v k2
  obtain rfl : w2 = (.int z2) := Option.some.inj y2
  obtain ⟨z3, y3⟩ := is_v k3
  obtain rfl : w3 = (.int z3) := Option.some.inj y3
  obtain ⟨z4, y4⟩ := is_v k4
  obtain rfl : w4 = (.int z4) := Option.some.inj y4
  obtain ⟨z5, y5⟩ := is_v k5
  obtain rfl : w5 = (.int z5) := Option.some.inj y5
  obtain ⟨n0, hn⟩ := and_e hn
  obtain ⟨n1, hn⟩ := and_e hn
  obtain ⟨n2, hn⟩ := and_e hn
  obtain ⟨n3, hn⟩ := and_e hn
  obtain ⟨n4, hn⟩ := and_e hn
  obtain ⟨n5, hn⟩ := and_e hn
  obtain ⟨n6, hn⟩ := and_e hn
  obtain ⟨n7, hn⟩ := and_e hn
  obtain ⟨n8, hn⟩ := and_e hn
  obtain ⟨n9, hn⟩ := and_e hn
  obtain ⟨n10, hn⟩ := and_e hn
  obtain ⟨n11, hn⟩ := and_e hn
  obtain ⟨n12, hn⟩ := and_e hn
  obtain ⟨n13, hn⟩ := and_e hn
  obtain ⟨n14, hn⟩ := and_e hn
  obtain ⟨n15, hn⟩ := and_e hn
  obtain ⟨n16, hn⟩ := and_e hn
  obtain ⟨n17, hn⟩ := and_e hn
  have n18 := hn
  have hSF : SF s := ⟨sf_int (hsets _ (List.mem_of_getElem? (i := 0) rfl)) (hsets _ (List.mem_of_getElem? (i := 1) rfl)), sf_nz (hsets _ (List.mem_of_getElem? (i := 1) rfl)) (hsets _ (List.mem_of_getElem? (i := 2) rfl)), sf_isref (hsets _ (List.mem_of_getElem? (i := 8) rfl)), sf_ref (hsets _ (List.mem_of_getElem? (i := 7) rfl)) (hsets _ (List.mem_of_getElem? (i := 8) rfl)), t_sta (Or.inr ⟨(w41 hw), (w50 hw)⟩) (exa_v n0), t_sta (Or.inr ⟨(w41 hw), (w105 hw)⟩) (exa_v n2), trivial⟩
  have hE : EW s #[] EL.2 := EW.nil
  have hCH : CHv s EL.2 s.vm s.heap := CHv.nil
  have hHp := Hp.readOld (Hp.readOld (Hp.readOld (Hp.readOld (Hp.readOld (Hp.readOld (Hp.start hCH) (a := (og4 s)) (de := oJobKey_NameRule (vi 128) (vr (og5 s))) (⟨t_exa rfl n2, allF (t_fldI rfl n3) (allF (t_fldR rfl (exa_v n4)) (fun f hf => nomatch hf))⟩)) (a := (og5 s)) (de := oString (vr (og6 s)) (vi 0)) (⟨t_exa rfl n4, allF (t_fldR rfl (arr_v n6)) (allF (t_fldI rfl n5) (fun f hf => nomatch hf))⟩)) (a := (og6 s)) (de := ar "" .byte [(vi 46), (vi 95), (vi 58), (vi 45)]) (t_arr (t := (Jvm.Term.field (Jvm.Term.field (Jvm.Term.static "com/example/cunctator/cunctator/JobKey" "ID_RULE" "Lcom/example/cunctator/cunctator/JobKey$NameRule;") "com/example/cunctator/cunctator/JobKey$NameRule" "symbols" "Ljava/lang/String;") "java/lang/String" "value" "[B")) rfl n6 n7 (by unfold Idx; decide) ⟨eq_int_val n8, ⟨eq_int_val n9, ⟨eq_int_val n10, ⟨eq_int_val n11, trivial⟩⟩⟩⟩ (by decide))) (a := (og1 s)) (de := oJobKey_NameRule (vi 64) (vr (og2 s))) (⟨t_exa rfl n0, allF (t_fldI rfl n1) (allF (t_fldR rfl (exa_v n12)) (fun f hf => nomatch hf))⟩)) (a := (og2 s)) (de := oString (vr (og3 s)) (vi 0)) (⟨t_exa rfl n12, allF (t_fldR rfl (arr_v n14)) (allF (t_fldI rfl n13) (fun f hf => nomatch hf))⟩)) (a := (og3 s)) (de := ar "" .byte [(vi 46), (vi 95), (vi 45)]) (t_arr (t := (Jvm.Term.field (Jvm.Term.field (Jvm.Term.static "com/example/cunctator/cunctator/JobKey" "TOPIC_RULE" "Lcom/example/cunctator/cunctator/JobKey$NameRule;") "com/example/cunctator/cunctator/JobKey$NameRule" "symbols" "Ljava/lang/String;") "java/lang/String" "value" "[B")) rfl n14 n15 (by unfold Idx; decide) ⟨eq_int_val n16, ⟨eq_int_val n17, ⟨eq_int_val n18, trivial⟩⟩⟩ (by decide))
  obtain ⟨nn, o, q1, q2, q3, v, L, rfl, N, ⟨D', -, rfl⟩, hq, hWH⟩ := lawW (Z := s) hw hSF z0 z1 z2 z3 z4 z5 ⟨⟨_, hE⟩, by decide⟩ l tables_1 p e ha hc hk s m _ below hf ((Spec.applies_iff_loose hf).mp happ).1 ⟨rfl, State.Warmed39.refl s, hHp⟩ trivial
  exact ⟨nn, _, q1, q2, q3, hpost _ _ _ _ _ _ ⟨Cond.after_iff.mpr rfl, Cond.after_iff.mpr (eq_i res_at (Term.int_eval (1)) rfl), trivial⟩ (framed_of hq N (by decide) (by decide) (hWH rfl))⟩
theorem main_1_1 : Claimed_1_1 := comes_1 fun _ _ _ _ _ _ h hF => ⟨h.1, hF⟩
theorem main_1_2 : Claimed_1_2 := comes_1 fun _ _ _ _ _ _ h hF => ⟨h.2.1, hF⟩
end Jvm.Pilot.@@N@@
namespace Jvm.Pilot.@@N@@
open Jvm Jvm.ClassFile Sem Op Lib Jvm.Free Jvm.Stand Jvm.Pilot.@@N@@.Jvm.D
/-! MADE BY PROGRAM (witnessworld.py) out of the Statement's table words and the real class files: 22 classes; the members and pool entries that the words name. The judged class is class 1, her method 4. -/
namespace start1
open Jvm.ClassFile
def u (s : String) : CpInfo := .utf8 (stringToUtf16 s)
/-- a pool by its gaps: so many unusable entries, then the entry; so many at the end -/
def gap : Nat → List CpInfo → List CpInfo
  | 0, r => r
  | n + 1, r => .unusable :: gap n r
def poolList (es : List (Nat × CpInfo)) (last : Nat) : List CpInfo := es.foldr (fun e r => gap e.1 (e.2 :: r)) (gap last [])
def pool (es : List (Nat × CpInfo)) (last : Nat) : Array CpInfo := ⟨poolList es last⟩
def fileOf (pool : Array CpInfo) (this : Nat) (attrs : Array Attribute := #[]) (ms : Array MethodInfo := #[]) (fl : Nat := 33) (sup : Nat := 0) (ifs : Array Nat := #[]) (fds : Array FieldInfo := #[]) : ClassFile where
  minorVersion := 0
  majorVersion := 65
  constantPool := pool
  accessFlags := fl
  thisClass := this
  superClass := sup
  interfaces := ifs
  fields := fds
  methods := ms
  attributes := attrs
def plain (name : String) (sup : Option ClassId) : Class where
  name := name
  kind := .ordinary
  loader := none
  accessFlags := 33
  super := sup
  interfaces := #[]
  cf := none
  fields := #[]
  methods := #[]
  instanceTypes := #[]
  staticTypes := #[]
  resolved := #[]
  callSites := []
  init := .initialized
  statics := none
  mirror := none

def pool0 : Array CpInfo := pool [(5, u "<init>"), (0, u "()V"), (1, .class_ 10), (1, u "java/lang/Object")] 113

def k0c0 : Code := { maxStack := 0, maxLocals := 1, code := object_method_1_code, exceptionTable := #[], attributes := #[] }
def k0m0 : Method := { name := "<init>", desc := "()V", sig := { parameters := [], returnType := none }, accessFlags := 1, code := some k0c0 }
/-- java/lang/Object -/
def k0 : Class := { plain "java/lang/Object" none with
  accessFlags := 33
  interfaces := #[]
  cf := some (fileOf pool0 8 #[] #[{ accessFlags := 1, nameIndex := 5, descriptorIndex := 6, attributes := #[] }] 33 0 #[] #[])
  fields := #[]
  methods := #[k0m0]
  instanceTypes := #[]
  staticTypes := #[]
  resolved := Array.replicate 124 none
  statics := none }

def pool1 : Array CpInfo := pool [(2, .class_ 4), (1, u "java/lang/Object"), (0, u "<init>"), (0, u "()V"), (0, .integer 2147483647), (0, .class_ 9), (0, u "java/lang/String"), (0, .methodref 8 11), (0, .nameAndType 5 12), (0, u "([C)V"), (0, .integer 65535), (0, .methodref 15 16), (0, .class_ 17), (0, .nameAndType 18 19), (0, u "com/example/cunctator/cunctator/JobKeyEqualsPinLaw"), (0, u "pick"), (0, u "(IZ)C"), (0, .methodref 15 21), (0, .nameAndType 22 23), (0, u "make"), (0, u "(CCZ)Ljava/lang/String;"), (0, .class_ 25), (0, u "com/example/cunctator/cunctator/JobKey"), (0, .methodref 24 27), (0, .nameAndType 5 28), (0, u "(Ljava/lang/String;Ljava/lang/String;)V"), (0, .methodref 24 30), (0, .nameAndType 31 32), (0, u "equals"), (0, u "(Ljava/lang/Object;)Z"), (0, .methodref 15 34), (0, .nameAndType 35 36), (0, u "same"), (0, u "(CCZCCZ)Z"), (3, u "law"), (0, u "(IIIIII)Z")] 2

def k1m0 : Method := { name := "<init>", desc := "()V", sig := { parameters := [], returnType := none }, accessFlags := 1, code := none }
def k1c1 : Code := { maxStack := 3, maxLocals := 4, code := method_2_code, exceptionTable := #[], attributes := #[] }
def k1m1 : Method := { name := "pick", desc := "(IZ)C", sig := { parameters := [.int, .boolean], returnType := some .char }, accessFlags := 10, code := some k1c1 }
def k1c2 : Code := { maxStack := 6, maxLocals := 3, code := method_3_code, exceptionTable := #[], attributes := #[] }
def k1m2 : Method := { name := "make", desc := "(CCZ)Ljava/lang/String;", sig := { parameters := [.char, .char, .boolean], returnType := some (.object "java/lang/String") }, accessFlags := 10, code := some k1c2 }
def k1c3 : Code := { maxStack := 2, maxLocals := 6, code := method_4_code, exceptionTable := #[], attributes := #[] }
def k1m3 : Method := { name := "same", desc := "(CCZCCZ)Z", sig := { parameters := [.char, .char, .boolean, .char, .char, .boolean], returnType := some .boolean }, accessFlags := 10, code := some k1c3 }
def k1c4 : Code := { maxStack := 6, maxLocals := 27, code := code, exceptionTable := #[], attributes := #[] }
def k1m4 : Method := { name := "law", desc := "(IIIIII)Z", sig := { parameters := [.int, .int, .int, .int, .int, .int], returnType := some .boolean }, accessFlags := 9, code := some k1c4 }
/-- com/example/cunctator/cunctator/JobKeyEqualsPinLaw -/
def k1 : Class := { plain "com/example/cunctator/cunctator/JobKeyEqualsPinLaw" (some 0) with
  accessFlags := 49
  interfaces := #[]
  cf := some (fileOf pool1 15 #[] #[{ accessFlags := 1, nameIndex := 5, descriptorIndex := 6, attributes := #[] }, { accessFlags := 10, nameIndex := 18, descriptorIndex := 19, attributes := #[] }, { accessFlags := 10, nameIndex := 22, descriptorIndex := 23, attributes := #[] }, { accessFlags := 10, nameIndex := 35, descriptorIndex := 36, attributes := #[] }, { accessFlags := 9, nameIndex := 40, descriptorIndex := 41, attributes := #[] }] 49 2 #[] #[])
  fields := #[]
  methods := #[k1m0, k1m1, k1m2, k1m3, k1m4]
  instanceTypes := #[]
  staticTypes := #[]
  resolved := Array.replicate 44 none
  statics := none }

def pool2 : Array CpInfo := pool [(1, .class_ 2), (0, u "java/io/Serializable"), (0, .class_ 4), (0, u "java/lang/Object")] 2

/-- java/io/Serializable -/
def k2 : Class := { plain "java/io/Serializable" (some 0) with
  accessFlags := 1537
  interfaces := #[]
  cf := some (fileOf pool2 1 #[] #[] 1537 3 #[] #[])
  fields := #[]
  methods := #[]
  instanceTypes := #[]
  staticTypes := #[]
  resolved := Array.replicate 7 none
  statics := none }

def pool3 : Array CpInfo := pool [(1, .class_ 2), (0, u "java/lang/Comparable"), (0, .class_ 4), (0, u "java/lang/Object")] 7

/-- java/lang/Comparable -/
def k3 : Class := { plain "java/lang/Comparable" (some 0) with
  accessFlags := 1537
  interfaces := #[]
  cf := some (fileOf pool3 1 #[] #[] 1537 3 #[] #[])
  fields := #[]
  methods := #[]
  instanceTypes := #[]
  staticTypes := #[]
  resolved := Array.replicate 12 none
  statics := none }

def pool4 : Array CpInfo := pool [(2, .class_ 4), (1, u "java/lang/CharSequence"), (42, .class_ 48), (0, u "java/lang/CharSequence$1CodePointIterator"), (10, .class_ 60), (0, u "java/lang/CharSequence$1CharIterator"), (5, .class_ 67), (0, u "java/lang/Object")] 63

/-- java/lang/CharSequence -/
def k4 : Class := { plain "java/lang/CharSequence" (some 0) with
  accessFlags := 1537
  interfaces := #[]
  cf := some (fileOf pool4 2 #[.nestMembers #[47, 59]] #[] 1537 66 #[] #[])
  fields := #[]
  methods := #[]
  instanceTypes := #[]
  staticTypes := #[]
  resolved := Array.replicate 131 none
  statics := none }

def pool5 : Array CpInfo := pool [(1, .class_ 2), (0, u "java/lang/constant/Constable"), (0, .class_ 4), (0, u "java/lang/Object")] 6

/-- java/lang/constant/Constable -/
def k5 : Class := { plain "java/lang/constant/Constable" (some 0) with
  accessFlags := 1537
  interfaces := #[]
  cf := some (fileOf pool5 1 #[] #[] 1537 3 #[] #[])
  fields := #[]
  methods := #[]
  instanceTypes := #[]
  staticTypes := #[]
  resolved := Array.replicate 11 none
  statics := none }

def pool6 : Array CpInfo := pool [(1, .class_ 2), (0, u "java/lang/constant/ConstantDesc"), (0, .class_ 4), (0, u "java/lang/Object")] 32

/-- java/lang/constant/ConstantDesc -/
def k6 : Class := { plain "java/lang/constant/ConstantDesc" (some 0) with
  accessFlags := 1537
  interfaces := #[]
  cf := some (fileOf pool6 1 #[] #[] 1537 3 #[] #[])
  fields := #[]
  methods := #[]
  instanceTypes := #[]
  staticTypes := #[]
  resolved := Array.replicate 37 none
  statics := none }

def pool7 : Array CpInfo := pool [(1, .methodref 2 3), (0, .class_ 4), (0, .nameAndType 5 6), (0, u "java/lang/Object"), (0, u "<init>"), (0, u "()V"), (2, .fieldref 10 11), (0, .class_ 12), (0, .nameAndType 13 14), (0, u "java/lang/String"), (0, u "value"), (0, u "[B"), (0, .fieldref 10 16), (0, .nameAndType 17 18), (0, u "coder"), (0, u "B"), (2, u "hash"), (0, u "I"), (2, u "hashIsZero"), (0, u "Z"), (0, .methodref 10 28), (0, .nameAndType 5 29), (0, u "([CIILjava/lang/Void;)V"), (8, .fieldref 10 39), (0, .nameAndType 40 26), (0, u "COMPACT_STRINGS"), (1, .class_ 44), (1, u "java/lang/StringUTF16"), (0, u "compress"), (1, .methodref 42 48), (0, .nameAndType 49 50), (0, u "coderFromArrayLen"), (0, u "([BI)B"), (56, .class_ 109), (1, u "java/lang/StringLatin1"), (32, u "()Z"), (34, .methodref 42 178), (0, .nameAndType 45 179), (0, u "([CII)[B"), (154, u "()I"), (0, .methodref 10 336), (0, .nameAndType 17 337), (0, u "()B"), (25, u "([BI)C"), (27, u "(II)V"), (35, u "(I)C"), (64, .methodref 10 493), (0, .nameAndType 494 142), (0, u "isLatin1"), (0, .methodref 107 496), (0, .nameAndType 497 363), (0, u "charAt"), (3, u "checkIndex"), (3, .methodref 10 506), (0, .nameAndType 507 334), (0, u "length"), (33, .methodref 107 542), (0, .nameAndType 543 544), (0, u "equals"), (0, u "([B[B)Z"), (28, u "(Ljava/lang/Object;)Z"), (1, .class_ 576), (0, u "java/lang/CharSequence"), (22, u "CASE_INSENSITIVE_ORDER"), (0, u "Ljava/util/Comparator;"), (32, .methodref 10 634), (0, .nameAndType 635 636), (0, u "indexOf"), (0, u "(II)I"), (0, .methodref 107 638), (0, .nameAndType 635 639), (0, u "([BIII)I"), (52, u "isEmpty"), (72, u "(I)I"), (244, u "([C)V"), (42, .fieldref 1054 1055), (0, .class_ 1056), (0, .nameAndType 1057 1058), (0, u "jdk/internal/util/Preconditions"), (0, u "SIOOBE_FORMATTER"), (0, u "Ljava/util/function/BiFunction;"), (0, .methodref 1054 1060), (0, .nameAndType 501 1061), (0, u "(IILjava/util/function/BiFunction;)I"), (39, u "serialPersistentFields"), (0, u "[Ljava/io/ObjectStreamField;"), (0, .class_ 1104), (0, u "java/lang/String$CaseInsensitiveComparator"), (1, .class_ 1107), (0, u "java/io/Serializable"), (0, .class_ 1109), (0, u "java/lang/Comparable"), (0, .class_ 1111), (0, u "java/lang/constant/Constable"), (0, .class_ 1113), (0, u "java/lang/constant/ConstantDesc"), (2, u "serialVersionUID"), (0, u "J"), (3, u "REPL"), (0, u "C"), (2, u "LATIN1"), (1, u "UTF16")] 323

def k7m0 : Method := { name := "<init>", desc := "()V", sig := { parameters := [], returnType := none }, accessFlags := 1, code := none }
def k7c1 : Code := { maxStack := 5, maxLocals := 2, code := jdk_42_method_3_code, exceptionTable := #[], attributes := #[] }
def k7m1 : Method := { name := "<init>", desc := "([C)V", sig := { parameters := [(.array .char)], returnType := none }, accessFlags := 1, code := some k7c1 }
def k7c2 : Code := { maxStack := 2, maxLocals := 1, code := jdk_42_method_54_code, exceptionTable := #[], attributes := #[] }
def k7m2 : Method := { name := "length", desc := "()I", sig := { parameters := [], returnType := some .int }, accessFlags := 1, code := some k7c2 }
def k7c3 : Code := { maxStack := 1, maxLocals := 1, code := jdk_42_method_55_code, exceptionTable := #[], attributes := #[] }
def k7m3 : Method := { name := "isEmpty", desc := "()Z", sig := { parameters := [], returnType := some .boolean }, accessFlags := 1, code := some k7c3 }
def k7c4 : Code := { maxStack := 2, maxLocals := 2, code := jdk_42_method_56_code, exceptionTable := #[], attributes := #[] }
def k7m4 : Method := { name := "charAt", desc := "(I)C", sig := { parameters := [.int], returnType := some .char }, accessFlags := 1, code := some k7c4 }
def k7c5 : Code := { maxStack := 2, maxLocals := 3, code := jdk_42_method_66_code, exceptionTable := #[], attributes := #[] }
def k7m5 : Method := { name := "equals", desc := "(Ljava/lang/Object;)Z", sig := { parameters := [(.object "java/lang/Object")], returnType := some .boolean }, accessFlags := 1, code := some k7c5 }
def k7c6 : Code := { maxStack := 3, maxLocals := 2, code := jdk_42_method_79_code, exceptionTable := #[], attributes := #[] }
def k7m6 : Method := { name := "indexOf", desc := "(I)I", sig := { parameters := [.int], returnType := some .int }, accessFlags := 1, code := some k7c6 }
def k7c7 : Code := { maxStack := 4, maxLocals := 3, code := jdk_42_method_80_code, exceptionTable := #[], attributes := #[] }
def k7m7 : Method := { name := "indexOf", desc := "(II)I", sig := { parameters := [.int, .int], returnType := some .int }, accessFlags := 1, code := some k7c7 }
def k7c8 : Code := { maxStack := 4, maxLocals := 6, code := jdk_42_method_149_code, exceptionTable := #[], attributes := #[] }
def k7m8 : Method := { name := "<init>", desc := "([CIILjava/lang/Void;)V", sig := { parameters := [(.array .char), .int, .int, (.object "java/lang/Void")], returnType := none }, accessFlags := 2, code := some k7c8 }
def k7c9 : Code := { maxStack := 1, maxLocals := 1, code := jdk_42_method_152_code, exceptionTable := #[], attributes := #[] }
def k7m9 : Method := { name := "coder", desc := "()B", sig := { parameters := [], returnType := some .byte }, accessFlags := 0, code := some k7c9 }
def k7c10 : Code := { maxStack := 1, maxLocals := 1, code := jdk_42_method_154_code, exceptionTable := #[], attributes := #[] }
def k7m10 : Method := { name := "isLatin1", desc := "()Z", sig := { parameters := [], returnType := some .boolean }, accessFlags := 0, code := some k7c10 }
def k7c11 : Code := { maxStack := 3, maxLocals := 2, code := jdk_42_method_155_code, exceptionTable := #[], attributes := #[] }
def k7m11 : Method := { name := "checkIndex", desc := "(II)V", sig := { parameters := [.int, .int], returnType := none }, accessFlags := 8, code := some k7c11 }
/-- java/lang/String -/
def k7 : Class := { plain "java/lang/String" (some 0) with
  accessFlags := 49
  interfaces := #[2, 3, 4, 5, 6]
  cf := some (fileOf pool7 10 #[.nestMembers #[1103]] #[{ accessFlags := 1, nameIndex := 5, descriptorIndex := 6, attributes := #[] }, { accessFlags := 1, nameIndex := 5, descriptorIndex := 1010, attributes := #[] }, { accessFlags := 1, nameIndex := 507, descriptorIndex := 334, attributes := #[] }, { accessFlags := 1, nameIndex := 692, descriptorIndex := 142, attributes := #[] }, { accessFlags := 1, nameIndex := 497, descriptorIndex := 427, attributes := #[] }, { accessFlags := 1, nameIndex := 543, descriptorIndex := 573, attributes := #[] }, { accessFlags := 1, nameIndex := 635, descriptorIndex := 765, attributes := #[] }, { accessFlags := 1, nameIndex := 635, descriptorIndex := 636, attributes := #[] }, { accessFlags := 2, nameIndex := 5, descriptorIndex := 29, attributes := #[] }, { accessFlags := 0, nameIndex := 17, descriptorIndex := 337, attributes := #[] }, { accessFlags := 0, nameIndex := 494, descriptorIndex := 142, attributes := #[] }, { accessFlags := 8, nameIndex := 501, descriptorIndex := 391, attributes := #[] }] 49 2 #[1106, 1108, 575, 1110, 1112] #[{ accessFlags := 18, nameIndex := 13, descriptorIndex := 14, attributes := #[] }, { accessFlags := 18, nameIndex := 17, descriptorIndex := 18, attributes := #[] }, { accessFlags := 2, nameIndex := 21, descriptorIndex := 22, attributes := #[] }, { accessFlags := 2, nameIndex := 25, descriptorIndex := 26, attributes := #[] }, { accessFlags := 26, nameIndex := 1116, descriptorIndex := 1117, attributes := #[] }, { accessFlags := 24, nameIndex := 40, descriptorIndex := 26, attributes := #[] }, { accessFlags := 26, nameIndex := 1101, descriptorIndex := 1102, attributes := #[] }, { accessFlags := 26, nameIndex := 1121, descriptorIndex := 1122, attributes := #[] }, { accessFlags := 25, nameIndex := 599, descriptorIndex := 600, attributes := #[] }, { accessFlags := 24, nameIndex := 1125, descriptorIndex := 18, attributes := #[] }, { accessFlags := 24, nameIndex := 1127, descriptorIndex := 18, attributes := #[] }])
  fields := #[{ name := "value", type := (.array .byte), accessFlags := 18, slot := 0, constantValue := 0 }, { name := "coder", type := .byte, accessFlags := 18, slot := 1, constantValue := 0 }, { name := "hash", type := .int, accessFlags := 2, slot := 2, constantValue := 0 }, { name := "hashIsZero", type := .boolean, accessFlags := 2, slot := 3, constantValue := 0 }, { name := "serialVersionUID", type := .long, accessFlags := 26, slot := 0, constantValue := 0 }, { name := "COMPACT_STRINGS", type := .boolean, accessFlags := 24, slot := 1, constantValue := 0 }, { name := "serialPersistentFields", type := (.array (.object "java/io/ObjectStreamField")), accessFlags := 26, slot := 2, constantValue := 0 }, { name := "REPL", type := .char, accessFlags := 26, slot := 3, constantValue := 0 }, { name := "CASE_INSENSITIVE_ORDER", type := (.object "java/util/Comparator"), accessFlags := 25, slot := 4, constantValue := 0 }, { name := "LATIN1", type := .byte, accessFlags := 24, slot := 5, constantValue := 0 }, { name := "UTF16", type := .byte, accessFlags := 24, slot := 6, constantValue := 0 }]
  methods := #[k7m0, k7m1, k7m2, k7m3, k7m4, k7m5, k7m6, k7m7, k7m8, k7m9, k7m10, k7m11]
  instanceTypes := #[(.array .byte), .byte, .int, .boolean]
  staticTypes := #[.long, .boolean, (.array (.object "java/io/ObjectStreamField")), .char, (.object "java/util/Comparator"), .byte, .byte]
  resolved := Array.replicate 1451 none
  statics := some 0 }

def pool8 : Array CpInfo := pool [(6, .class_ 8), (1, u "java/lang/Object"), (0, u "<init>"), (0, u "()V"), (1, .class_ 14), (1, u "java/lang/StringUTF16"), (31, u "$assertionsDisabled"), (0, u "Z"), (13, u "HI_BYTE_SHIFT"), (0, u "I"), (2, u "LO_BYTE_SHIFT"), (49, .methodref 12 116), (0, .nameAndType 117 118), (0, u "compress"), (0, u "([CI[BII)I"), (3, u "([CII)[B"), (138, u "coderFromArrayLen"), (0, u "([BI)B"), (106, .class_ 371), (1, u "java/lang/StringUTF16$LinesSpliterator"), (58, u "MAX_LENGTH"), (196, .class_ 628), (0, u "java/lang/StringUTF16$CodePointsSpliterator"), (0, .class_ 630), (0, u "java/lang/StringUTF16$CharsSpliterator")] 4

def k8m0 : Method := { name := "<init>", desc := "()V", sig := { parameters := [], returnType := none }, accessFlags := 0, code := none }
def k8c1 : Code := { maxStack := 2, maxLocals := 2, code := jdk_52_method_15_code, exceptionTable := #[], attributes := #[] }
def k8m1 : Method := { name := "coderFromArrayLen", desc := "([BI)B", sig := { parameters := [(.array .byte), .int], returnType := some .byte }, accessFlags := 8, code := some k8c1 }
def k8c2 : Code := { maxStack := 5, maxLocals := 6, code := jdk_52_method_16_code, exceptionTable := #[], attributes := #[] }
def k8m2 : Method := { name := "compress", desc := "([CII)[B", sig := { parameters := [(.array .char), .int, .int], returnType := some (.array .byte) }, accessFlags := 9, code := some k8c2 }
def k8c3 : Code := { maxStack := 3, maxLocals := 7, code := jdk_52_method_21_code, exceptionTable := #[], attributes := #[] }
def k8m3 : Method := { name := "compress", desc := "([CI[BII)I", sig := { parameters := [(.array .char), .int, (.array .byte), .int, .int], returnType := some .int }, accessFlags := 9, code := some k8c3 }
/-- java/lang/StringUTF16 -/
def k8 : Class := { plain "java/lang/StringUTF16" (some 0) with
  accessFlags := 48
  interfaces := #[]
  cf := some (fileOf pool8 12 #[.nestMembers #[627, 629, 369]] #[{ accessFlags := 0, nameIndex := 9, descriptorIndex := 10, attributes := #[] }, { accessFlags := 8, nameIndex := 261, descriptorIndex := 262, attributes := #[] }, { accessFlags := 9, nameIndex := 117, descriptorIndex := 122, attributes := #[] }, { accessFlags := 9, nameIndex := 117, descriptorIndex := 118, attributes := #[] }] 48 6 #[] #[{ accessFlags := 26, nameIndex := 61, descriptorIndex := 62, attributes := #[] }, { accessFlags := 26, nameIndex := 65, descriptorIndex := 62, attributes := #[] }, { accessFlags := 24, nameIndex := 430, descriptorIndex := 62, attributes := #[] }, { accessFlags := 4120, nameIndex := 46, descriptorIndex := 47, attributes := #[] }])
  fields := #[{ name := "HI_BYTE_SHIFT", type := .int, accessFlags := 26, slot := 0, constantValue := 0 }, { name := "LO_BYTE_SHIFT", type := .int, accessFlags := 26, slot := 1, constantValue := 0 }, { name := "MAX_LENGTH", type := .int, accessFlags := 24, slot := 2, constantValue := 0 }, { name := "$assertionsDisabled", type := .boolean, accessFlags := 4120, slot := 3, constantValue := 0 }]
  methods := #[k8m0, k8m1, k8m2, k8m3]
  instanceTypes := #[]
  staticTypes := #[.int, .int, .int, .boolean]
  resolved := Array.replicate 635 none
  statics := none }

def pool9 : Array CpInfo := pool [(1, .methodref 2 3), (0, .class_ 4), (0, .nameAndType 5 6), (0, u "java/lang/Object"), (0, u "<init>"), (0, u "()V"), (0, .methodref 8 9), (0, .class_ 10), (0, .nameAndType 11 12), (0, u "com/example/cunctator/cunctator/JobKey"), (0, u "checkTopic"), (0, u "(Ljava/lang/String;)Ljava/lang/String;"), (0, .fieldref 8 14), (0, .nameAndType 15 16), (0, u "topic"), (0, u "Ljava/lang/String;"), (0, .methodref 8 18), (0, .nameAndType 19 12), (0, u "checkId"), (0, .fieldref 8 21), (0, .nameAndType 22 16), (0, u "id"), (0, .fieldref 8 24), (0, .nameAndType 25 26), (0, u "TOPIC_RULE"), (0, u "Lcom/example/cunctator/cunctator/JobKey$NameRule;"), (0, .methodref 28 29), (0, .class_ 30), (0, .nameAndType 31 12), (0, u "com/example/cunctator/cunctator/JobKey$NameRule"), (0, u "check"), (0, .fieldref 8 33), (0, .nameAndType 34 26), (0, u "ID_RULE"), (0, .methodref 36 37), (0, .class_ 38), (0, .nameAndType 39 40), (0, u "java/lang/String"), (0, u "equals"), (0, u "(Ljava/lang/Object;)Z"), (17, u "MAX_TOPIC_LENGTH"), (0, u "I"), (2, u "MAX_ID_LENGTH"), (1, u "(Ljava/lang/String;Ljava/lang/String;)V"), (5, u "isAsciiLetterOrDigit"), (0, u "(C)Z")] 20

def k9c0 : Code := { maxStack := 2, maxLocals := 3, code := prog_8_method_1_code, exceptionTable := #[], attributes := #[] }
def k9m0 : Method := { name := "<init>", desc := "(Ljava/lang/String;Ljava/lang/String;)V", sig := { parameters := [(.object "java/lang/String"), (.object "java/lang/String")], returnType := none }, accessFlags := 1, code := some k9c0 }
def k9c1 : Code := { maxStack := 2, maxLocals := 1, code := prog_8_method_2_code, exceptionTable := #[], attributes := #[] }
def k9m1 : Method := { name := "checkTopic", desc := "(Ljava/lang/String;)Ljava/lang/String;", sig := { parameters := [(.object "java/lang/String")], returnType := some (.object "java/lang/String") }, accessFlags := 9, code := some k9c1 }
def k9c2 : Code := { maxStack := 2, maxLocals := 1, code := prog_8_method_3_code, exceptionTable := #[], attributes := #[] }
def k9m2 : Method := { name := "checkId", desc := "(Ljava/lang/String;)Ljava/lang/String;", sig := { parameters := [(.object "java/lang/String")], returnType := some (.object "java/lang/String") }, accessFlags := 9, code := some k9c2 }
def k9c3 : Code := { maxStack := 2, maxLocals := 3, code := prog_8_method_6_code, exceptionTable := #[], attributes := #[] }
def k9m3 : Method := { name := "equals", desc := "(Ljava/lang/Object;)Z", sig := { parameters := [(.object "java/lang/Object")], returnType := some .boolean }, accessFlags := 1, code := some k9c3 }
def k9c4 : Code := { maxStack := 2, maxLocals := 1, code := prog_8_method_9_code, exceptionTable := #[], attributes := #[] }
def k9m4 : Method := { name := "isAsciiLetterOrDigit", desc := "(C)Z", sig := { parameters := [.char], returnType := some .boolean }, accessFlags := 10, code := some k9c4 }
/-- com/example/cunctator/cunctator/JobKey -/
def k9 : Class := { plain "com/example/cunctator/cunctator/JobKey" (some 0) with
  accessFlags := 49
  interfaces := #[]
  cf := some (fileOf pool9 8 #[.nestMembers #[28]] #[{ accessFlags := 1, nameIndex := 5, descriptorIndex := 64, attributes := #[] }, { accessFlags := 9, nameIndex := 11, descriptorIndex := 12, attributes := #[] }, { accessFlags := 9, nameIndex := 19, descriptorIndex := 12, attributes := #[] }, { accessFlags := 1, nameIndex := 39, descriptorIndex := 40, attributes := #[] }, { accessFlags := 10, nameIndex := 70, descriptorIndex := 71, attributes := #[] }] 49 2 #[] #[{ accessFlags := 25, nameIndex := 58, descriptorIndex := 59, attributes := #[] }, { accessFlags := 25, nameIndex := 62, descriptorIndex := 59, attributes := #[] }, { accessFlags := 26, nameIndex := 25, descriptorIndex := 26, attributes := #[] }, { accessFlags := 26, nameIndex := 34, descriptorIndex := 26, attributes := #[] }, { accessFlags := 18, nameIndex := 15, descriptorIndex := 16, attributes := #[] }, { accessFlags := 18, nameIndex := 22, descriptorIndex := 16, attributes := #[] }])
  fields := #[{ name := "MAX_TOPIC_LENGTH", type := .int, accessFlags := 25, slot := 0, constantValue := 0 }, { name := "MAX_ID_LENGTH", type := .int, accessFlags := 25, slot := 1, constantValue := 0 }, { name := "TOPIC_RULE", type := (.object "com/example/cunctator/cunctator/JobKey$NameRule"), accessFlags := 26, slot := 2, constantValue := 0 }, { name := "ID_RULE", type := (.object "com/example/cunctator/cunctator/JobKey$NameRule"), accessFlags := 26, slot := 3, constantValue := 0 }, { name := "topic", type := (.object "java/lang/String"), accessFlags := 18, slot := 0, constantValue := 0 }, { name := "id", type := (.object "java/lang/String"), accessFlags := 18, slot := 1, constantValue := 0 }]
  methods := #[k9m0, k9m1, k9m2, k9m3, k9m4]
  instanceTypes := #[(.object "java/lang/String"), (.object "java/lang/String")]
  staticTypes := #[.int, .int, (.object "com/example/cunctator/cunctator/JobKey$NameRule"), (.object "com/example/cunctator/cunctator/JobKey$NameRule")]
  resolved := Array.replicate 92 none
  statics := some 1 }

def pool10 : Array CpInfo := pool [(2, .class_ 4), (1, u "java/lang/Object"), (2, .fieldref 8 9), (0, .class_ 10), (0, .nameAndType 11 12), (0, u "com/example/cunctator/cunctator/JobKey$NameRule"), (0, u "maxLength"), (0, u "I"), (0, .fieldref 8 14), (0, .nameAndType 15 16), (0, u "symbols"), (0, u "Ljava/lang/String;"), (5, .class_ 24), (1, u "java/lang/String"), (12, u "description"), (6, .methodref 22 45), (0, .nameAndType 46 47), (0, u "isEmpty"), (0, u "()Z"), (2, .methodref 22 51), (0, .nameAndType 52 53), (0, u "length"), (0, u "()I"), (0, .methodref 22 55), (0, .nameAndType 56 57), (0, u "charAt"), (0, u "(I)C"), (0, .methodref 59 60), (0, .class_ 61), (0, .nameAndType 62 63), (0, u "com/example/cunctator/cunctator/JobKey"), (0, u "isAsciiLetterOrDigit"), (0, u "(C)Z"), (0, .methodref 22 65), (0, .nameAndType 66 67), (0, u "indexOf"), (0, u "(I)I"), (29, u "check"), (0, u "(Ljava/lang/String;)Ljava/lang/String;")] 24

def k10c0 : Code := { maxStack := 7, maxLocals := 4, code := prog_9_method_2_code, exceptionTable := #[], attributes := #[] }
def k10m0 : Method := { name := "check", desc := "(Ljava/lang/String;)Ljava/lang/String;", sig := { parameters := [(.object "java/lang/String")], returnType := some (.object "java/lang/String") }, accessFlags := 0, code := some k10c0 }
/-- com/example/cunctator/cunctator/JobKey$NameRule -/
def k10 : Class := { plain "com/example/cunctator/cunctator/JobKey$NameRule" (some 0) with
  accessFlags := 48
  interfaces := #[]
  cf := some (fileOf pool10 8 #[.nestHost 59] #[{ accessFlags := 0, nameIndex := 97, descriptorIndex := 98, attributes := #[] }] 48 2 #[] #[{ accessFlags := 18, nameIndex := 11, descriptorIndex := 12, attributes := #[] }, { accessFlags := 18, nameIndex := 15, descriptorIndex := 16, attributes := #[] }, { accessFlags := 18, nameIndex := 37, descriptorIndex := 16, attributes := #[] }])
  fields := #[{ name := "maxLength", type := .int, accessFlags := 18, slot := 0, constantValue := 0 }, { name := "symbols", type := (.object "java/lang/String"), accessFlags := 18, slot := 1, constantValue := 0 }, { name := "description", type := (.object "java/lang/String"), accessFlags := 18, slot := 2, constantValue := 0 }]
  methods := #[k10m0]
  instanceTypes := #[.int, (.object "java/lang/String"), (.object "java/lang/String")]
  staticTypes := #[]
  resolved := Array.replicate 123 none
  statics := none }

def pool11 : Array CpInfo := pool [(1, .class_ 2), (0, u "java/lang/String"), (1, .class_ 6), (1, u "java/lang/Object"), (0, u "<init>"), (0, u "()V"), (0, .methodref 1 10), (0, .nameAndType 11 12), (0, u "checkIndex"), (0, u "(II)V"), (1, .class_ 16), (1, u "java/lang/StringLatin1"), (21, .methodref 39 40), (0, .class_ 41), (0, .nameAndType 42 43), (0, u "java/lang/Math"), (0, u "min"), (0, u "(II)I"), (9, u "([BI)C"), (34, .methodref 14 89), (0, .nameAndType 90 91), (0, u "canEncode"), (0, u "(I)Z"), (0, .methodref 39 93), (0, .nameAndType 94 43), (0, u "max"), (0, .methodref 14 96), (0, .nameAndType 97 98), (0, u "indexOfChar"), (0, u "([BIII)I"), (2, u "indexOf"), (19, u "$assertionsDisabled"), (0, u "Z"), (98, .class_ 223), (1, u "java/lang/StringLatin1$LinesSpliterator"), (28, u "charAt"), (28, u "equals"), (0, u "([B[B)Z"), (107, .class_ 391), (0, u "java/lang/StringLatin1$CharsSpliterator")] 3

def k11m0 : Method := { name := "<init>", desc := "()V", sig := { parameters := [], returnType := none }, accessFlags := 0, code := none }
def k11c1 : Code := { maxStack := 2, maxLocals := 2, code := jdk_43_method_2_code, exceptionTable := #[], attributes := #[] }
def k11m1 : Method := { name := "charAt", desc := "([BI)C", sig := { parameters := [(.array .byte), .int], returnType := some .char }, accessFlags := 9, code := some k11c1 }
def k11c2 : Code := { maxStack := 2, maxLocals := 1, code := jdk_43_method_4_code, exceptionTable := #[], attributes := #[] }
def k11m2 : Method := { name := "canEncode", desc := "(I)Z", sig := { parameters := [.int], returnType := some .boolean }, accessFlags := 9, code := some k11c2 }
def k11c3 : Code := { maxStack := 3, maxLocals := 3, code := jdk_43_method_13_code, exceptionTable := #[], attributes := #[] }
def k11m3 : Method := { name := "equals", desc := "([B[B)Z", sig := { parameters := [(.array .byte), (.array .byte)], returnType := some .boolean }, accessFlags := 9, code := some k11c3 }
def k11c4 : Code := { maxStack := 4, maxLocals := 4, code := jdk_43_method_22_code, exceptionTable := #[], attributes := #[] }
def k11m4 : Method := { name := "indexOf", desc := "([BIII)I", sig := { parameters := [(.array .byte), .int, .int, .int], returnType := some .int }, accessFlags := 9, code := some k11c4 }
def k11c5 : Code := { maxStack := 2, maxLocals := 6, code := jdk_43_method_23_code, exceptionTable := #[], attributes := #[] }
def k11m5 : Method := { name := "indexOfChar", desc := "([BIII)I", sig := { parameters := [(.array .byte), .int, .int, .int], returnType := some .int }, accessFlags := 10, code := some k11c5 }
/-- java/lang/StringLatin1 -/
def k11 : Class := { plain "java/lang/StringLatin1" (some 0) with
  accessFlags := 48
  interfaces := #[]
  cf := some (fileOf pool11 14 #[.nestMembers #[390, 221]] #[{ accessFlags := 0, nameIndex := 7, descriptorIndex := 8, attributes := #[] }, { accessFlags := 9, nameIndex := 252, descriptorIndex := 53, attributes := #[] }, { accessFlags := 9, nameIndex := 90, descriptorIndex := 91, attributes := #[] }, { accessFlags := 9, nameIndex := 281, descriptorIndex := 282, attributes := #[] }, { accessFlags := 9, nameIndex := 101, descriptorIndex := 98, attributes := #[] }, { accessFlags := 10, nameIndex := 97, descriptorIndex := 98, attributes := #[] }] 48 4 #[] #[{ accessFlags := 4120, nameIndex := 121, descriptorIndex := 122, attributes := #[] }])
  fields := #[{ name := "$assertionsDisabled", type := .boolean, accessFlags := 4120, slot := 0, constantValue := 0 }]
  methods := #[k11m0, k11m1, k11m2, k11m3, k11m4, k11m5]
  instanceTypes := #[]
  staticTypes := #[.boolean]
  resolved := Array.replicate 395 none
  statics := none }

def pool12 : Array CpInfo := pool [(2, .class_ 4), (1, u "java/lang/Object"), (0, u "<init>"), (0, u "()V"), (17, .class_ 26), (1, u "jdk/internal/util/Preconditions"), (6, u "checkIndex"), (21, .class_ 56), (0, u "jdk/internal/util/Preconditions$4"), (57, .class_ 115), (0, u "jdk/internal/util/Preconditions$1"), (7, u "SIOOBE_FORMATTER"), (0, u "Ljava/util/function/BiFunction;"), (0, .class_ 126), (0, u "jdk/internal/util/Preconditions$2"), (3, u "AIOOBE_FORMATTER"), (0, .class_ 132), (0, u "jdk/internal/util/Preconditions$3"), (3, u "IOOBE_FORMATTER"), (41, u "(IILjava/util/function/BiFunction;)I")] 15

def k12m0 : Method := { name := "<init>", desc := "()V", sig := { parameters := [], returnType := none }, accessFlags := 1, code := none }
def k12c1 : Code := { maxStack := 3, maxLocals := 3, code := jdk_41_method_11_code, exceptionTable := #[], attributes := #[] }
def k12m1 : Method := { name := "checkIndex", desc := "(IILjava/util/function/BiFunction;)I", sig := { parameters := [.int, .int, (.object "java/util/function/BiFunction")], returnType := some .int }, accessFlags := 9, code := some k12c1 }
/-- jdk/internal/util/Preconditions -/
def k12 : Class := { plain "jdk/internal/util/Preconditions" (some 0) with
  accessFlags := 33
  interfaces := #[]
  cf := some (fileOf pool12 24 #[.nestMembers #[55, 131, 125, 114]] #[{ accessFlags := 1, nameIndex := 5, descriptorIndex := 6, attributes := #[] }, { accessFlags := 9, nameIndex := 33, descriptorIndex := 178, attributes := #[] }] 33 2 #[] #[{ accessFlags := 25, nameIndex := 123, descriptorIndex := 124, attributes := #[] }, { accessFlags := 25, nameIndex := 130, descriptorIndex := 124, attributes := #[] }, { accessFlags := 25, nameIndex := 136, descriptorIndex := 124, attributes := #[] }])
  fields := #[{ name := "SIOOBE_FORMATTER", type := (.object "java/util/function/BiFunction"), accessFlags := 25, slot := 0, constantValue := 0 }, { name := "AIOOBE_FORMATTER", type := (.object "java/util/function/BiFunction"), accessFlags := 25, slot := 1, constantValue := 0 }, { name := "IOOBE_FORMATTER", type := (.object "java/util/function/BiFunction"), accessFlags := 25, slot := 2, constantValue := 0 }]
  methods := #[k12m0, k12m1]
  instanceTypes := #[]
  staticTypes := #[(.object "java/util/function/BiFunction"), (.object "java/util/function/BiFunction"), (.object "java/util/function/BiFunction")]
  resolved := Array.replicate 194 none
  statics := some 2 }

def pool13 : Array CpInfo := pool [(1, .class_ 2), (0, u "java/lang/Math"), (1, .class_ 6), (1, u "java/lang/Object"), (0, u "<init>"), (0, u "()V"), (89, .class_ 100), (1, u "java/lang/Math$RandomNumberGeneratorHolder"), (71, u "negativeZeroFloatBits"), (0, u "J"), (2, u "negativeZeroDoubleBits"), (21, u "max"), (2, u "min"), (43, u "$assertionsDisabled"), (0, u "Z"), (88, u "(II)I"), (2, u "twoToTheDoubleScaleDown"), (0, u "D"), (4, u "twoToTheDoubleScaleUp"), (9, u "E"), (3, u "PI"), (2, u "TAU"), (2, u "DEGREES_TO_RADIANS"), (0, u "RADIANS_TO_DEGREES")] 94

def k13m0 : Method := { name := "<init>", desc := "()V", sig := { parameters := [], returnType := none }, accessFlags := 2, code := none }
def k13c1 : Code := { maxStack := 2, maxLocals := 2, code := jdk_29_method_65_code, exceptionTable := #[], attributes := #[] }
def k13m1 : Method := { name := "max", desc := "(II)I", sig := { parameters := [.int, .int], returnType := some .int }, accessFlags := 9, code := some k13c1 }
def k13c2 : Code := { maxStack := 2, maxLocals := 2, code := jdk_29_method_69_code, exceptionTable := #[], attributes := #[] }
def k13m2 : Method := { name := "min", desc := "(II)I", sig := { parameters := [.int, .int], returnType := some .int }, accessFlags := 9, code := some k13c2 }
/-- java/lang/Math -/
def k13 : Class := { plain "java/lang/Math" (some 0) with
  accessFlags := 49
  interfaces := #[]
  cf := some (fileOf pool13 1 #[.nestMembers #[98]] #[{ accessFlags := 2, nameIndex := 7, descriptorIndex := 8, attributes := #[] }, { accessFlags := 9, nameIndex := 198, descriptorIndex := 335, attributes := #[] }, { accessFlags := 9, nameIndex := 201, descriptorIndex := 335, attributes := #[] }] 49 4 #[] #[{ accessFlags := 25, nameIndex := 354, descriptorIndex := 339, attributes := #[] }, { accessFlags := 25, nameIndex := 358, descriptorIndex := 339, attributes := #[] }, { accessFlags := 25, nameIndex := 361, descriptorIndex := 339, attributes := #[] }, { accessFlags := 26, nameIndex := 364, descriptorIndex := 339, attributes := #[] }, { accessFlags := 26, nameIndex := 365, descriptorIndex := 339, attributes := #[] }, { accessFlags := 26, nameIndex := 172, descriptorIndex := 173, attributes := #[] }, { accessFlags := 26, nameIndex := 176, descriptorIndex := 173, attributes := #[] }, { accessFlags := 8, nameIndex := 344, descriptorIndex := 339, attributes := #[] }, { accessFlags := 8, nameIndex := 338, descriptorIndex := 339, attributes := #[] }, { accessFlags := 4120, nameIndex := 245, descriptorIndex := 246, attributes := #[] }])
  fields := #[{ name := "E", type := .double, accessFlags := 25, slot := 0, constantValue := 0 }, { name := "PI", type := .double, accessFlags := 25, slot := 1, constantValue := 0 }, { name := "TAU", type := .double, accessFlags := 25, slot := 2, constantValue := 0 }, { name := "DEGREES_TO_RADIANS", type := .double, accessFlags := 26, slot := 3, constantValue := 0 }, { name := "RADIANS_TO_DEGREES", type := .double, accessFlags := 26, slot := 4, constantValue := 0 }, { name := "negativeZeroFloatBits", type := .long, accessFlags := 26, slot := 5, constantValue := 0 }, { name := "negativeZeroDoubleBits", type := .long, accessFlags := 26, slot := 6, constantValue := 0 }, { name := "twoToTheDoubleScaleUp", type := .double, accessFlags := 8, slot := 7, constantValue := 0 }, { name := "twoToTheDoubleScaleDown", type := .double, accessFlags := 8, slot := 8, constantValue := 0 }, { name := "$assertionsDisabled", type := .boolean, accessFlags := 4120, slot := 9, constantValue := 0 }]
  methods := #[k13m0, k13m1, k13m2]
  instanceTypes := #[]
  staticTypes := #[.double, .double, .double, .double, .double, .long, .long, .double, .double, .boolean]
  resolved := Array.replicate 460 none
  statics := none }

def pool14 : Array CpInfo := pool [(9, u "<init>"), (6, .class_ 18), (1, u "java/lang/Object"), (0, u "()V"), (1, .class_ 23), (1, u "jdk/internal/util/ArraysSupport"), (0, u "LOG2_ARRAY_LONG_INDEX_SCALE"), (0, u "I"), (2, u "U"), (0, u "Ljdk/internal/misc/Unsafe;"), (8, u "BIG_ENDIAN"), (0, u "Z"), (8, u "LOG2_BYTE_BIT_SIZE"), (4, u "LOG2_ARRAY_INT_INDEX_SCALE"), (54, u "JLA"), (0, u "Ljdk/internal/access/JavaLangAccess;"), (11, u "LOG2_ARRAY_BOOLEAN_INDEX_SCALE"), (9, u "LOG2_ARRAY_BYTE_INDEX_SCALE"), (5, u "LOG2_ARRAY_CHAR_INDEX_SCALE"), (5, u "LOG2_ARRAY_SHORT_INDEX_SCALE"), (18, u "LOG2_ARRAY_FLOAT_INDEX_SCALE"), (24, u "LOG2_ARRAY_DOUBLE_INDEX_SCALE"), (89, u "T_BOOLEAN"), (2, u "T_CHAR"), (1, u "T_FLOAT"), (1, u "T_DOUBLE"), (1, u "T_BYTE"), (1, u "T_SHORT"), (1, u "T_INT"), (1, u "T_LONG"), (1, u "SOFT_MAX_ARRAY_LENGTH")] 83

def k14m0 : Method := { name := "<init>", desc := "()V", sig := { parameters := [], returnType := none }, accessFlags := 2, code := none }
/-- jdk/internal/util/ArraysSupport -/
def k14 : Class := { plain "jdk/internal/util/ArraysSupport" (some 0) with
  accessFlags := 33
  interfaces := #[]
  cf := some (fileOf pool14 21 #[] #[{ accessFlags := 2, nameIndex := 9, descriptorIndex := 19, attributes := #[] }] 33 16 #[] #[{ accessFlags := 24, nameIndex := 28, descriptorIndex := 29, attributes := #[] }, { accessFlags := 26, nameIndex := 38, descriptorIndex := 39, attributes := #[] }, { accessFlags := 25, nameIndex := 121, descriptorIndex := 25, attributes := #[] }, { accessFlags := 25, nameIndex := 131, descriptorIndex := 25, attributes := #[] }, { accessFlags := 25, nameIndex := 137, descriptorIndex := 25, attributes := #[] }, { accessFlags := 25, nameIndex := 143, descriptorIndex := 25, attributes := #[] }, { accessFlags := 25, nameIndex := 53, descriptorIndex := 25, attributes := #[] }, { accessFlags := 25, nameIndex := 24, descriptorIndex := 25, attributes := #[] }, { accessFlags := 25, nameIndex := 162, descriptorIndex := 25, attributes := #[] }, { accessFlags := 25, nameIndex := 187, descriptorIndex := 25, attributes := #[] }, { accessFlags := 26, nameIndex := 48, descriptorIndex := 25, attributes := #[] }, { accessFlags := 25, nameIndex := 277, descriptorIndex := 25, attributes := #[] }, { accessFlags := 25, nameIndex := 280, descriptorIndex := 25, attributes := #[] }, { accessFlags := 25, nameIndex := 282, descriptorIndex := 25, attributes := #[] }, { accessFlags := 25, nameIndex := 284, descriptorIndex := 25, attributes := #[] }, { accessFlags := 25, nameIndex := 286, descriptorIndex := 25, attributes := #[] }, { accessFlags := 25, nameIndex := 288, descriptorIndex := 25, attributes := #[] }, { accessFlags := 25, nameIndex := 290, descriptorIndex := 25, attributes := #[] }, { accessFlags := 25, nameIndex := 292, descriptorIndex := 25, attributes := #[] }, { accessFlags := 26, nameIndex := 108, descriptorIndex := 109, attributes := #[] }, { accessFlags := 25, nameIndex := 294, descriptorIndex := 25, attributes := #[] }])
  fields := #[{ name := "U", type := (.object "jdk/internal/misc/Unsafe"), accessFlags := 24, slot := 0, constantValue := 0 }, { name := "BIG_ENDIAN", type := .boolean, accessFlags := 26, slot := 1, constantValue := 0 }, { name := "LOG2_ARRAY_BOOLEAN_INDEX_SCALE", type := .int, accessFlags := 25, slot := 2, constantValue := 0 }, { name := "LOG2_ARRAY_BYTE_INDEX_SCALE", type := .int, accessFlags := 25, slot := 3, constantValue := 0 }, { name := "LOG2_ARRAY_CHAR_INDEX_SCALE", type := .int, accessFlags := 25, slot := 4, constantValue := 0 }, { name := "LOG2_ARRAY_SHORT_INDEX_SCALE", type := .int, accessFlags := 25, slot := 5, constantValue := 0 }, { name := "LOG2_ARRAY_INT_INDEX_SCALE", type := .int, accessFlags := 25, slot := 6, constantValue := 0 }, { name := "LOG2_ARRAY_LONG_INDEX_SCALE", type := .int, accessFlags := 25, slot := 7, constantValue := 0 }, { name := "LOG2_ARRAY_FLOAT_INDEX_SCALE", type := .int, accessFlags := 25, slot := 8, constantValue := 0 }, { name := "LOG2_ARRAY_DOUBLE_INDEX_SCALE", type := .int, accessFlags := 25, slot := 9, constantValue := 0 }, { name := "LOG2_BYTE_BIT_SIZE", type := .int, accessFlags := 26, slot := 10, constantValue := 0 }, { name := "T_BOOLEAN", type := .int, accessFlags := 25, slot := 11, constantValue := 0 }, { name := "T_CHAR", type := .int, accessFlags := 25, slot := 12, constantValue := 0 }, { name := "T_FLOAT", type := .int, accessFlags := 25, slot := 13, constantValue := 0 }, { name := "T_DOUBLE", type := .int, accessFlags := 25, slot := 14, constantValue := 0 }, { name := "T_BYTE", type := .int, accessFlags := 25, slot := 15, constantValue := 0 }, { name := "T_SHORT", type := .int, accessFlags := 25, slot := 16, constantValue := 0 }, { name := "T_INT", type := .int, accessFlags := 25, slot := 17, constantValue := 0 }, { name := "T_LONG", type := .int, accessFlags := 25, slot := 18, constantValue := 0 }, { name := "JLA", type := (.object "jdk/internal/access/JavaLangAccess"), accessFlags := 26, slot := 19, constantValue := 0 }, { name := "SOFT_MAX_ARRAY_LENGTH", type := .int, accessFlags := 25, slot := 20, constantValue := 0 }]
  methods := #[k14m0]
  instanceTypes := #[]
  staticTypes := #[(.object "jdk/internal/misc/Unsafe"), .boolean, .int, .int, .int, .int, .int, .int, .int, .int, .int, .int, .int, .int, .int, .int, .int, .int, .int, (.object "jdk/internal/access/JavaLangAccess"), .int]
  resolved := Array.replicate 378 none
  statics := none }

def pool15 : Array CpInfo := pool [(1, u "java/lang/Cloneable"), (0, .class_ 1), (0, u "java/lang/Object"), (0, .class_ 3)] 3

/-- java/lang/Cloneable -/
def k15 : Class := { plain "java/lang/Cloneable" (some 0) with
  accessFlags := 1537
  interfaces := #[]
  cf := some (fileOf pool15 2 #[] #[] 1537 4 #[] #[])
  fields := #[]
  methods := #[]
  instanceTypes := #[]
  staticTypes := #[]
  resolved := Array.replicate 8 none
  statics := none }

/-- the primitive byte -/
def k16 : Class := { plain "byte" none with kind := .primitive 'B', accessFlags := 0x411 }
/-- [B -/
def k17 : Class := { plain "[B" (some 0) with kind := .array 16 .byte, interfaces := #[15, 2], accessFlags := 1041 }

/-- the primitive char -/
def k18 : Class := { plain "char" none with kind := .primitive 'C', accessFlags := 0x411 }
/-- [C -/
def k19 : Class := { plain "[C" (some 0) with kind := .array 18 .char, interfaces := #[15, 2], accessFlags := 1041 }

/-- the primitive int -/
def k20 : Class := { plain "int" none with kind := .primitive 'I', accessFlags := 0x411 }
/-- [I -/
def k21 : Class := { plain "[I" (some 0) with kind := .array 20 .int, interfaces := #[15, 2], accessFlags := 1041 }

def heap : Heap := #[{ cls := 7, slots := #[.long 0, .int 1, .null, .int 0, .null, .int 0, .int 0], vm := .statics 7 },
  { cls := 9, slots := #[.int 0, .int 0, .ref 5, .ref 8], vm := .statics 9 },
  { cls := 12, slots := #[.null, .null, .null], vm := .statics 12 },
  { cls := 17, slots := #[.int 46, .int 95, .int 45], vm := .none },
  { cls := 7, slots := #[.ref 3, .int 0, .int 0, .int 0], vm := .none },
  { cls := 10, slots := #[.int 64, .ref 4, .null], vm := .none },
  { cls := 17, slots := #[.int 46, .int 95, .int 58, .int 45], vm := .none },
  { cls := 7, slots := #[.ref 6, .int 0, .int 0, .int 0], vm := .none },
  { cls := 10, slots := #[.int 128, .ref 7, .null], vm := .none }]
def classes : Array Class := #[k0, k1, k2, k3, k4, k5, k6, k7, k8, k9, k10, k11, k12, k13, k14, k15, k16, k17, k18, k19, k20, k21]
def interned : List (Array UInt16 × Addr) := []
def slotsUsed : Nat := 35
def theMethod : MethodId := ⟨1, 4⟩
def args0 : Array Value := #[.int 1, .int 2, .int 3, .int 4, .int 5, .int 6]
def aboutOver (below : List Frame) : State where
  vm := { classes := classes, interned := interned.toArray }
  heap := heap
  slotsUsed := slotsUsed
  threads := #[{ frames := .invoking theMethod args0 :: below }]
def below0 : List Frame := [.native { method := ⟨0, 0⟩, args := #[] }]
def about1 : State := aboutOver below0
def p0 : Program := .bare "" "" ""
def e0 : Env := launch0.env 0 0 0
theorem w_frames : about1.frames = Frame.invoking theMethod args0 :: below0 := rfl
set_option maxRecDepth 65536 in
theorem w_args : argsFit about1.vm theMethod args0 = true := by decide +kernel
set_option maxRecDepth 65536 in
theorem w_heap : heapFits about1 = true := by decide +kernel
set_option maxRecDepth 65536 in
theorem w_runnable : about1.curStatus? = some .runnable := by decide +kernel
set_option maxRecDepth 65536 in
theorem w_alone : about1.alone = true := by decide +kernel
set_option maxRecDepth 65536 in
theorem w_named : about1.methodNamed? x = some theMethod := by decide +kernel
set_option maxRecDepth 65536 in
theorem w_hears : about1.hears theMethod below0 = true := by decide +kernel
set_option maxRecDepth 65536 in
theorem w_ripe : about1.ripe theMethod args0 below0 = true := by decide +kernel
theorem w_running : about1.status = .running := rfl
set_option maxRecDepth 65536 in
theorem w_room : about1.hasRoom e0.platform room_1 = true :=
  launch0.hasRoom_least _ room_1 (by decide +kernel) (by decide +kernel) (by decide +kernel) (by decide +kernel) (by decide +kernel) (by decide +kernel)
theorem allAtoms_all (ts : List Jvm.Cond) (a : Array Jvm.Value) (st : Jvm.State) : (allAtoms ts).before a st = ts.all (fun c => c.before a st) := by
  induction ts with
  | nil => rfl
  | cons c t ih =>
    show (Jvm.Cond.and c (allAtoms t)).before a st = _
    rw [Jvm.Cond.before_and, ih, List.all_cons]
def words1 : List Jvm.Cond := Jvm.Cond.code x code maxLocals ret :: tables_1
/-- a 'code' word, met by the world's own term for the bytes: nothing is compared byte by byte -/
theorem code_word {y : MethodName} {bytes : ByteArray} {mx : Nat} {rt : Option FieldType} {a : Array Value} {s : State} {m : MethodId} {meth : Method} {c : Code} (h1 : s.methodNamed? y = some m) (h2 : s.vm.method? m = some meth) (h3 : meth.code = some c) (h4 : c.code = bytes)
    (h5 : (c.maxLocals == mx && c.exceptionTable.isEmpty && decide (c.maxStack ≤ mostOperands) && decide (meth.sig.returnType = rt) && !meth.locks && decide (parseMethodDescriptor y.desc = some meth.sig)) = true) : (Jvm.Cond.code y bytes mx rt).before a s = true := by
  simp only [Bool.and_eq_true, beq_iff_eq, Bool.not_eq_true', decide_eq_true_eq] at h5
  obtain ⟨⟨⟨⟨⟨g1, g2⟩, g3⟩, g4⟩, g5⟩, g6⟩ := h5
  simp [Cond.before, Cond.holds, Cond.value, h1, h2, h3, h4, g1, g2, g3, g4, g5, g6]
def isCode : Jvm.Cond → Bool
  | .code _ _ _ _ => true
  | _ => false
theorem all_split {L : List Jvm.Cond} {P : Jvm.Cond → Bool} (h1 : L.all (fun c => isCode c || P c) = true) (h2 : ∀ c ∈ L.filter isCode, P c = true) : L.all P = true := by
  refine List.all_eq_true.mpr fun c hc => ?_
  have h := List.all_eq_true.mp h1 c hc
  rcases Bool.eq_false_or_eq_true (isCode c) with hi | hi
  · exact h2 c (List.mem_filter.mpr ⟨hc, hi⟩)
  · simpa [hi] using h
set_option maxRecDepth 65536 in
theorem w_c0 : (Jvm.Cond.code x code maxLocals ret).before args0 about1 = true := code_word (m := ⟨1, 4⟩) (meth := k1m4) (c := k1c4) (by decide +kernel) rfl rfl rfl (by decide +kernel)
set_option maxRecDepth 65536 in
theorem w_c1 : (Jvm.Cond.code ({ cls := "com/example/cunctator/cunctator/JobKeyEqualsPinLaw", name := "pick", desc := "(IZ)C" } : Jvm.MethodName) method_2_code (4 : Nat) (Option.some Jvm.ClassFile.FieldType.char)).before args0 about1 = true := code_word (m := ⟨1, 1⟩) (meth := k1m1) (c := k1c1) (by decide +kernel) rfl rfl rfl (by decide +kernel)
set_option maxRecDepth 65536 in
theorem w_c2 : (Jvm.Cond.code ({ cls := "com/example/cunctator/cunctator/JobKeyEqualsPinLaw", name := "make", desc := "(CCZ)Ljava/lang/String;" } : Jvm.MethodName) method_3_code (3 : Nat) (Option.some (Jvm.ClassFile.FieldType.object "java/lang/String"))).before args0 about1 = true := code_word (m := ⟨1, 2⟩) (meth := k1m2) (c := k1c2) (by decide +kernel) rfl rfl rfl (by decide +kernel)
set_option maxRecDepth 65536 in
theorem w_c3 : (Jvm.Cond.code ({ cls := "java/lang/String", name := "<init>", desc := "([C)V" } : Jvm.MethodName) jdk_42_method_3_code (2 : Nat) (Option.none : Option Jvm.ClassFile.FieldType)).before args0 about1 = true := code_word (m := ⟨7, 1⟩) (meth := k7m1) (c := k7c1) (by decide +kernel) rfl rfl rfl (by decide +kernel)
set_option maxRecDepth 65536 in
theorem w_c4 : (Jvm.Cond.code ({ cls := "java/lang/String", name := "<init>", desc := "([CIILjava/lang/Void;)V" } : Jvm.MethodName) jdk_42_method_149_code (6 : Nat) (Option.none : Option Jvm.ClassFile.FieldType)).before args0 about1 = true := code_word (m := ⟨7, 8⟩) (meth := k7m8) (c := k7c8) (by decide +kernel) rfl rfl rfl (by decide +kernel)
set_option maxRecDepth 65536 in
theorem w_c5 : (Jvm.Cond.code ({ cls := "java/lang/Object", name := "<init>", desc := "()V" } : Jvm.MethodName) object_method_1_code (1 : Nat) (Option.none : Option Jvm.ClassFile.FieldType)).before args0 about1 = true := code_word (m := ⟨0, 0⟩) (meth := k0m0) (c := k0c0) (by decide +kernel) rfl rfl rfl (by decide +kernel)
set_option maxRecDepth 65536 in
theorem w_c6 : (Jvm.Cond.code ({ cls := "java/lang/StringUTF16", name := "compress", desc := "([CII)[B" } : Jvm.MethodName) jdk_52_method_16_code (6 : Nat) (Option.some (Jvm.ClassFile.FieldType.array Jvm.ClassFile.FieldType.byte))).before args0 about1 = true := code_word (m := ⟨8, 2⟩) (meth := k8m2) (c := k8c2) (by decide +kernel) rfl rfl rfl (by decide +kernel)
set_option maxRecDepth 65536 in
theorem w_c7 : (Jvm.Cond.code ({ cls := "java/lang/StringUTF16", name := "compress", desc := "([CI[BII)I" } : Jvm.MethodName) jdk_52_method_21_code (7 : Nat) (Option.some Jvm.ClassFile.FieldType.int)).before args0 about1 = true := code_word (m := ⟨8, 3⟩) (meth := k8m3) (c := k8c3) (by decide +kernel) rfl rfl rfl (by decide +kernel)
set_option maxRecDepth 65536 in
theorem w_c8 : (Jvm.Cond.code ({ cls := "java/lang/StringUTF16", name := "coderFromArrayLen", desc := "([BI)B" } : Jvm.MethodName) jdk_52_method_15_code (2 : Nat) (Option.some Jvm.ClassFile.FieldType.byte)).before args0 about1 = true := code_word (m := ⟨8, 1⟩) (meth := k8m1) (c := k8c1) (by decide +kernel) rfl rfl rfl (by decide +kernel)
set_option maxRecDepth 65536 in
theorem w_c9 : (Jvm.Cond.code ({ cls := "com/example/cunctator/cunctator/JobKey", name := "<init>", desc := "(Ljava/lang/String;Ljava/lang/String;)V" } : Jvm.MethodName) prog_8_method_1_code (3 : Nat) (Option.none : Option Jvm.ClassFile.FieldType)).before args0 about1 = true := code_word (m := ⟨9, 0⟩) (meth := k9m0) (c := k9c0) (by decide +kernel) rfl rfl rfl (by decide +kernel)
set_option maxRecDepth 65536 in
theorem w_c10 : (Jvm.Cond.code ({ cls := "com/example/cunctator/cunctator/JobKey", name := "checkTopic", desc := "(Ljava/lang/String;)Ljava/lang/String;" } : Jvm.MethodName) prog_8_method_2_code (1 : Nat) (Option.some (Jvm.ClassFile.FieldType.object "java/lang/String"))).before args0 about1 = true := code_word (m := ⟨9, 1⟩) (meth := k9m1) (c := k9c1) (by decide +kernel) rfl rfl rfl (by decide +kernel)
set_option maxRecDepth 65536 in
theorem w_c11 : (Jvm.Cond.code ({ cls := "com/example/cunctator/cunctator/JobKey$NameRule", name := "check", desc := "(Ljava/lang/String;)Ljava/lang/String;" } : Jvm.MethodName) prog_9_method_2_code (4 : Nat) (Option.some (Jvm.ClassFile.FieldType.object "java/lang/String"))).before args0 about1 = true := code_word (m := ⟨10, 0⟩) (meth := k10m0) (c := k10c0) (by decide +kernel) rfl rfl rfl (by decide +kernel)
set_option maxRecDepth 65536 in
theorem w_c12 : (Jvm.Cond.code ({ cls := "java/lang/String", name := "isEmpty", desc := "()Z" } : Jvm.MethodName) jdk_42_method_55_code (1 : Nat) (Option.some Jvm.ClassFile.FieldType.boolean)).before args0 about1 = true := code_word (m := ⟨7, 3⟩) (meth := k7m3) (c := k7c3) (by decide +kernel) rfl rfl rfl (by decide +kernel)
set_option maxRecDepth 65536 in
theorem w_c13 : (Jvm.Cond.code ({ cls := "java/lang/String", name := "length", desc := "()I" } : Jvm.MethodName) jdk_42_method_54_code (1 : Nat) (Option.some Jvm.ClassFile.FieldType.int)).before args0 about1 = true := code_word (m := ⟨7, 2⟩) (meth := k7m2) (c := k7c2) (by decide +kernel) rfl rfl rfl (by decide +kernel)
set_option maxRecDepth 65536 in
theorem w_c14 : (Jvm.Cond.code ({ cls := "java/lang/String", name := "coder", desc := "()B" } : Jvm.MethodName) jdk_42_method_152_code (1 : Nat) (Option.some Jvm.ClassFile.FieldType.byte)).before args0 about1 = true := code_word (m := ⟨7, 9⟩) (meth := k7m9) (c := k7c9) (by decide +kernel) rfl rfl rfl (by decide +kernel)
set_option maxRecDepth 65536 in
theorem w_c15 : (Jvm.Cond.code ({ cls := "java/lang/String", name := "charAt", desc := "(I)C" } : Jvm.MethodName) jdk_42_method_56_code (2 : Nat) (Option.some Jvm.ClassFile.FieldType.char)).before args0 about1 = true := code_word (m := ⟨7, 4⟩) (meth := k7m4) (c := k7c4) (by decide +kernel) rfl rfl rfl (by decide +kernel)
set_option maxRecDepth 65536 in
theorem w_c16 : (Jvm.Cond.code ({ cls := "java/lang/String", name := "isLatin1", desc := "()Z" } : Jvm.MethodName) jdk_42_method_154_code (1 : Nat) (Option.some Jvm.ClassFile.FieldType.boolean)).before args0 about1 = true := code_word (m := ⟨7, 10⟩) (meth := k7m10) (c := k7c10) (by decide +kernel) rfl rfl rfl (by decide +kernel)
set_option maxRecDepth 65536 in
theorem w_c17 : (Jvm.Cond.code ({ cls := "java/lang/StringLatin1", name := "charAt", desc := "([BI)C" } : Jvm.MethodName) jdk_43_method_2_code (2 : Nat) (Option.some Jvm.ClassFile.FieldType.char)).before args0 about1 = true := code_word (m := ⟨11, 1⟩) (meth := k11m1) (c := k11c1) (by decide +kernel) rfl rfl rfl (by decide +kernel)
set_option maxRecDepth 65536 in
theorem w_c18 : (Jvm.Cond.code ({ cls := "java/lang/String", name := "checkIndex", desc := "(II)V" } : Jvm.MethodName) jdk_42_method_155_code (2 : Nat) (Option.none : Option Jvm.ClassFile.FieldType)).before args0 about1 = true := code_word (m := ⟨7, 11⟩) (meth := k7m11) (c := k7c11) (by decide +kernel) rfl rfl rfl (by decide +kernel)
set_option maxRecDepth 65536 in
theorem w_c19 : (Jvm.Cond.code ({ cls := "jdk/internal/util/Preconditions", name := "checkIndex", desc := "(IILjava/util/function/BiFunction;)I" } : Jvm.MethodName) jdk_41_method_11_code (3 : Nat) (Option.some Jvm.ClassFile.FieldType.int)).before args0 about1 = true := code_word (m := ⟨12, 1⟩) (meth := k12m1) (c := k12c1) (by decide +kernel) rfl rfl rfl (by decide +kernel)
set_option maxRecDepth 65536 in
theorem w_c20 : (Jvm.Cond.code ({ cls := "com/example/cunctator/cunctator/JobKey", name := "isAsciiLetterOrDigit", desc := "(C)Z" } : Jvm.MethodName) prog_8_method_9_code (1 : Nat) (Option.some Jvm.ClassFile.FieldType.boolean)).before args0 about1 = true := code_word (m := ⟨9, 4⟩) (meth := k9m4) (c := k9c4) (by decide +kernel) rfl rfl rfl (by decide +kernel)
set_option maxRecDepth 65536 in
theorem w_c21 : (Jvm.Cond.code ({ cls := "com/example/cunctator/cunctator/JobKey", name := "checkId", desc := "(Ljava/lang/String;)Ljava/lang/String;" } : Jvm.MethodName) prog_8_method_3_code (1 : Nat) (Option.some (Jvm.ClassFile.FieldType.object "java/lang/String"))).before args0 about1 = true := code_word (m := ⟨9, 2⟩) (meth := k9m2) (c := k9c2) (by decide +kernel) rfl rfl rfl (by decide +kernel)
set_option maxRecDepth 65536 in
theorem w_c22 : (Jvm.Cond.code ({ cls := "com/example/cunctator/cunctator/JobKeyEqualsPinLaw", name := "same", desc := "(CCZCCZ)Z" } : Jvm.MethodName) method_4_code (6 : Nat) (Option.some Jvm.ClassFile.FieldType.boolean)).before args0 about1 = true := code_word (m := ⟨1, 3⟩) (meth := k1m3) (c := k1c3) (by decide +kernel) rfl rfl rfl (by decide +kernel)
set_option maxRecDepth 65536 in
theorem w_c23 : (Jvm.Cond.code ({ cls := "com/example/cunctator/cunctator/JobKey", name := "equals", desc := "(Ljava/lang/Object;)Z" } : Jvm.MethodName) prog_8_method_6_code (3 : Nat) (Option.some Jvm.ClassFile.FieldType.boolean)).before args0 about1 = true := code_word (m := ⟨9, 3⟩) (meth := k9m3) (c := k9c3) (by decide +kernel) rfl rfl rfl (by decide +kernel)
set_option maxRecDepth 65536 in
theorem w_c24 : (Jvm.Cond.code ({ cls := "java/lang/String", name := "equals", desc := "(Ljava/lang/Object;)Z" } : Jvm.MethodName) jdk_42_method_66_code (3 : Nat) (Option.some Jvm.ClassFile.FieldType.boolean)).before args0 about1 = true := code_word (m := ⟨7, 5⟩) (meth := k7m5) (c := k7c5) (by decide +kernel) rfl rfl rfl (by decide +kernel)
set_option maxRecDepth 65536 in
theorem w_c25 : (Jvm.Cond.code ({ cls := "java/lang/StringLatin1", name := "equals", desc := "([B[B)Z" } : Jvm.MethodName) jdk_43_method_13_code (3 : Nat) (Option.some Jvm.ClassFile.FieldType.boolean)).before args0 about1 = true := code_word (m := ⟨11, 3⟩) (meth := k11m3) (c := k11c3) (by decide +kernel) rfl rfl rfl (by decide +kernel)
set_option maxRecDepth 65536 in
theorem w_c26 : (Jvm.Cond.code ({ cls := "java/lang/String", name := "indexOf", desc := "(I)I" } : Jvm.MethodName) jdk_42_method_79_code (2 : Nat) (Option.some Jvm.ClassFile.FieldType.int)).before args0 about1 = true := code_word (m := ⟨7, 6⟩) (meth := k7m6) (c := k7c6) (by decide +kernel) rfl rfl rfl (by decide +kernel)
set_option maxRecDepth 65536 in
theorem w_c27 : (Jvm.Cond.code ({ cls := "java/lang/String", name := "indexOf", desc := "(II)I" } : Jvm.MethodName) jdk_42_method_80_code (3 : Nat) (Option.some Jvm.ClassFile.FieldType.int)).before args0 about1 = true := code_word (m := ⟨7, 7⟩) (meth := k7m7) (c := k7c7) (by decide +kernel) rfl rfl rfl (by decide +kernel)
set_option maxRecDepth 65536 in
theorem w_c28 : (Jvm.Cond.code ({ cls := "java/lang/StringLatin1", name := "indexOf", desc := "([BIII)I" } : Jvm.MethodName) jdk_43_method_22_code (4 : Nat) (Option.some Jvm.ClassFile.FieldType.int)).before args0 about1 = true := code_word (m := ⟨11, 4⟩) (meth := k11m4) (c := k11c4) (by decide +kernel) rfl rfl rfl (by decide +kernel)
set_option maxRecDepth 65536 in
theorem w_c29 : (Jvm.Cond.code ({ cls := "java/lang/StringLatin1", name := "canEncode", desc := "(I)Z" } : Jvm.MethodName) jdk_43_method_4_code (1 : Nat) (Option.some Jvm.ClassFile.FieldType.boolean)).before args0 about1 = true := code_word (m := ⟨11, 2⟩) (meth := k11m2) (c := k11c2) (by decide +kernel) rfl rfl rfl (by decide +kernel)
set_option maxRecDepth 65536 in
theorem w_c30 : (Jvm.Cond.code ({ cls := "java/lang/Math", name := "max", desc := "(II)I" } : Jvm.MethodName) jdk_29_method_65_code (2 : Nat) (Option.some Jvm.ClassFile.FieldType.int)).before args0 about1 = true := code_word (m := ⟨13, 1⟩) (meth := k13m1) (c := k13c1) (by decide +kernel) rfl rfl rfl (by decide +kernel)
set_option maxRecDepth 65536 in
theorem w_c31 : (Jvm.Cond.code ({ cls := "java/lang/Math", name := "min", desc := "(II)I" } : Jvm.MethodName) jdk_29_method_69_code (2 : Nat) (Option.some Jvm.ClassFile.FieldType.int)).before args0 about1 = true := code_word (m := ⟨13, 2⟩) (meth := k13m2) (c := k13c2) (by decide +kernel) rfl rfl rfl (by decide +kernel)
set_option maxRecDepth 65536 in
theorem w_c32 : (Jvm.Cond.code ({ cls := "java/lang/StringLatin1", name := "indexOfChar", desc := "([BIII)I" } : Jvm.MethodName) jdk_43_method_23_code (6 : Nat) (Option.some Jvm.ClassFile.FieldType.int)).before args0 about1 = true := code_word (m := ⟨11, 5⟩) (meth := k11m5) (c := k11c5) (by decide +kernel) rfl rfl rfl (by decide +kernel)
def codes1 : List Jvm.Cond := [Jvm.Cond.code x code maxLocals ret, Jvm.Cond.code ({ cls := "com/example/cunctator/cunctator/JobKeyEqualsPinLaw", name := "pick", desc := "(IZ)C" } : Jvm.MethodName) method_2_code (4 : Nat) (Option.some Jvm.ClassFile.FieldType.char), Jvm.Cond.code ({ cls := "com/example/cunctator/cunctator/JobKeyEqualsPinLaw", name := "make", desc := "(CCZ)Ljava/lang/String;" } : Jvm.MethodName) method_3_code (3 : Nat) (Option.some (Jvm.ClassFile.FieldType.object "java/lang/String")), Jvm.Cond.code ({ cls := "java/lang/String", name := "<init>", desc := "([C)V" } : Jvm.MethodName) jdk_42_method_3_code (2 : Nat) (Option.none : Option Jvm.ClassFile.FieldType), Jvm.Cond.code ({ cls := "java/lang/String", name := "<init>", desc := "([CIILjava/lang/Void;)V" } : Jvm.MethodName) jdk_42_method_149_code (6 : Nat) (Option.none : Option Jvm.ClassFile.FieldType), Jvm.Cond.code ({ cls := "java/lang/Object", name := "<init>", desc := "()V" } : Jvm.MethodName) object_method_1_code (1 : Nat) (Option.none : Option Jvm.ClassFile.FieldType), Jvm.Cond.code ({ cls := "java/lang/StringUTF16", name := "compress", desc := "([CII)[B" } : Jvm.MethodName) jdk_52_method_16_code (6 : Nat) (Option.some (Jvm.ClassFile.FieldType.array Jvm.ClassFile.FieldType.byte)), Jvm.Cond.code ({ cls := "java/lang/StringUTF16", name := "compress", desc := "([CI[BII)I" } : Jvm.MethodName) jdk_52_method_21_code (7 : Nat) (Option.some Jvm.ClassFile.FieldType.int), Jvm.Cond.code ({ cls := "java/lang/StringUTF16", name := "coderFromArrayLen", desc := "([BI)B" } : Jvm.MethodName) jdk_52_method_15_code (2 : Nat) (Option.some Jvm.ClassFile.FieldType.byte), Jvm.Cond.code ({ cls := "com/example/cunctator/cunctator/JobKey", name := "<init>", desc := "(Ljava/lang/String;Ljava/lang/String;)V" } : Jvm.MethodName) prog_8_method_1_code (3 : Nat) (Option.none : Option Jvm.ClassFile.FieldType), Jvm.Cond.code ({ cls := "com/example/cunctator/cunctator/JobKey", name := "checkTopic", desc := "(Ljava/lang/String;)Ljava/lang/String;" } : Jvm.MethodName) prog_8_method_2_code (1 : Nat) (Option.some (Jvm.ClassFile.FieldType.object "java/lang/String")), Jvm.Cond.code ({ cls := "com/example/cunctator/cunctator/JobKey$NameRule", name := "check", desc := "(Ljava/lang/String;)Ljava/lang/String;" } : Jvm.MethodName) prog_9_method_2_code (4 : Nat) (Option.some (Jvm.ClassFile.FieldType.object "java/lang/String")), Jvm.Cond.code ({ cls := "java/lang/String", name := "isEmpty", desc := "()Z" } : Jvm.MethodName) jdk_42_method_55_code (1 : Nat) (Option.some Jvm.ClassFile.FieldType.boolean), Jvm.Cond.code ({ cls := "java/lang/String", name := "length", desc := "()I" } : Jvm.MethodName) jdk_42_method_54_code (1 : Nat) (Option.some Jvm.ClassFile.FieldType.int), Jvm.Cond.code ({ cls := "java/lang/String", name := "coder", desc := "()B" } : Jvm.MethodName) jdk_42_method_152_code (1 : Nat) (Option.some Jvm.ClassFile.FieldType.byte), Jvm.Cond.code ({ cls := "java/lang/String", name := "charAt", desc := "(I)C" } : Jvm.MethodName) jdk_42_method_56_code (2 : Nat) (Option.some Jvm.ClassFile.FieldType.char), Jvm.Cond.code ({ cls := "java/lang/String", name := "isLatin1", desc := "()Z" } : Jvm.MethodName) jdk_42_method_154_code (1 : Nat) (Option.some Jvm.ClassFile.FieldType.boolean), Jvm.Cond.code ({ cls := "java/lang/StringLatin1", name := "charAt", desc := "([BI)C" } : Jvm.MethodName) jdk_43_method_2_code (2 : Nat) (Option.some Jvm.ClassFile.FieldType.char), Jvm.Cond.code ({ cls := "java/lang/String", name := "checkIndex", desc := "(II)V" } : Jvm.MethodName) jdk_42_method_155_code (2 : Nat) (Option.none : Option Jvm.ClassFile.FieldType), Jvm.Cond.code ({ cls := "jdk/internal/util/Preconditions", name := "checkIndex", desc := "(IILjava/util/function/BiFunction;)I" } : Jvm.MethodName) jdk_41_method_11_code (3 : Nat) (Option.some Jvm.ClassFile.FieldType.int), Jvm.Cond.code ({ cls := "com/example/cunctator/cunctator/JobKey", name := "isAsciiLetterOrDigit", desc := "(C)Z" } : Jvm.MethodName) prog_8_method_9_code (1 : Nat) (Option.some Jvm.ClassFile.FieldType.boolean), Jvm.Cond.code ({ cls := "com/example/cunctator/cunctator/JobKey", name := "checkId", desc := "(Ljava/lang/String;)Ljava/lang/String;" } : Jvm.MethodName) prog_8_method_3_code (1 : Nat) (Option.some (Jvm.ClassFile.FieldType.object "java/lang/String")), Jvm.Cond.code ({ cls := "com/example/cunctator/cunctator/JobKeyEqualsPinLaw", name := "same", desc := "(CCZCCZ)Z" } : Jvm.MethodName) method_4_code (6 : Nat) (Option.some Jvm.ClassFile.FieldType.boolean), Jvm.Cond.code ({ cls := "com/example/cunctator/cunctator/JobKey", name := "equals", desc := "(Ljava/lang/Object;)Z" } : Jvm.MethodName) prog_8_method_6_code (3 : Nat) (Option.some Jvm.ClassFile.FieldType.boolean), Jvm.Cond.code ({ cls := "java/lang/String", name := "equals", desc := "(Ljava/lang/Object;)Z" } : Jvm.MethodName) jdk_42_method_66_code (3 : Nat) (Option.some Jvm.ClassFile.FieldType.boolean), Jvm.Cond.code ({ cls := "java/lang/StringLatin1", name := "equals", desc := "([B[B)Z" } : Jvm.MethodName) jdk_43_method_13_code (3 : Nat) (Option.some Jvm.ClassFile.FieldType.boolean), Jvm.Cond.code ({ cls := "java/lang/String", name := "indexOf", desc := "(I)I" } : Jvm.MethodName) jdk_42_method_79_code (2 : Nat) (Option.some Jvm.ClassFile.FieldType.int), Jvm.Cond.code ({ cls := "java/lang/String", name := "indexOf", desc := "(II)I" } : Jvm.MethodName) jdk_42_method_80_code (3 : Nat) (Option.some Jvm.ClassFile.FieldType.int), Jvm.Cond.code ({ cls := "java/lang/StringLatin1", name := "indexOf", desc := "([BIII)I" } : Jvm.MethodName) jdk_43_method_22_code (4 : Nat) (Option.some Jvm.ClassFile.FieldType.int), Jvm.Cond.code ({ cls := "java/lang/StringLatin1", name := "canEncode", desc := "(I)Z" } : Jvm.MethodName) jdk_43_method_4_code (1 : Nat) (Option.some Jvm.ClassFile.FieldType.boolean), Jvm.Cond.code ({ cls := "java/lang/Math", name := "max", desc := "(II)I" } : Jvm.MethodName) jdk_29_method_65_code (2 : Nat) (Option.some Jvm.ClassFile.FieldType.int), Jvm.Cond.code ({ cls := "java/lang/Math", name := "min", desc := "(II)I" } : Jvm.MethodName) jdk_29_method_69_code (2 : Nat) (Option.some Jvm.ClassFile.FieldType.int), Jvm.Cond.code ({ cls := "java/lang/StringLatin1", name := "indexOfChar", desc := "([BIII)I" } : Jvm.MethodName) jdk_43_method_23_code (6 : Nat) (Option.some Jvm.ClassFile.FieldType.int)]
set_option maxRecDepth 65536 in
theorem codes_eq : words1.filter isCode = codes1 := rfl
theorem w_codes : ∀ c ∈ words1.filter isCode, c.before args0 about1 = true := by
  rw [codes_eq]
  intro c hc
  simp only [codes1, List.mem_cons, List.not_mem_nil, or_false] at hc
  rcases hc with rfl | rfl | rfl | rfl | rfl | rfl | rfl | rfl | rfl | rfl | rfl | rfl | rfl | rfl | rfl | rfl | rfl | rfl | rfl | rfl | rfl | rfl | rfl | rfl | rfl | rfl | rfl | rfl | rfl | rfl | rfl | rfl | rfl
  · exact w_c0
  · exact w_c1
  · exact w_c2
  · exact w_c3
  · exact w_c4
  · exact w_c5
  · exact w_c6
  · exact w_c7
  · exact w_c8
  · exact w_c9
  · exact w_c10
  · exact w_c11
  · exact w_c12
  · exact w_c13
  · exact w_c14
  · exact w_c15
  · exact w_c16
  · exact w_c17
  · exact w_c18
  · exact w_c19
  · exact w_c20
  · exact w_c21
  · exact w_c22
  · exact w_c23
  · exact w_c24
  · exact w_c25
  · exact w_c26
  · exact w_c27
  · exact w_c28
  · exact w_c29
  · exact w_c30
  · exact w_c31
  · exact w_c32
set_option maxRecDepth 65536 in
theorem w_t1 : (words1.take 24).all (fun c => isCode c || c.before args0 about1) = true := by decide +kernel
set_option maxRecDepth 65536 in
theorem w_t2 : ((words1.drop 24).take 24).all (fun c => isCode c || c.before args0 about1) = true := by decide +kernel
set_option maxRecDepth 65536 in
theorem w_t3 : (((words1.drop 24).drop 24).take 24).all (fun c => isCode c || c.before args0 about1) = true := by decide +kernel
set_option maxRecDepth 65536 in
theorem w_t4 : ((((words1.drop 24).drop 24).drop 24).take 24).all (fun c => isCode c || c.before args0 about1) = true := by decide +kernel
set_option maxRecDepth 65536 in
theorem w_t5 : (((((words1.drop 24).drop 24).drop 24).drop 24).take 24).all (fun c => isCode c || c.before args0 about1) = true := by decide +kernel
set_option maxRecDepth 65536 in
theorem w_t6 : ((((((words1.drop 24).drop 24).drop 24).drop 24).drop 24).take 24).all (fun c => isCode c || c.before args0 about1) = true := by decide +kernel
set_option maxRecDepth 65536 in
theorem w_t7 : ((((((words1.drop 24).drop 24).drop 24).drop 24).drop 24).drop 24).all (fun c => isCode c || c.before args0 about1) = true := by decide +kernel
theorem w_tables : (allAtoms (Jvm.Cond.code x code maxLocals ret :: tables_1)).before args0 about1 = true := by
  rw [allAtoms_all]
  show words1.all (fun c => c.before args0 about1) = true
  refine all_split ?_ w_codes
  rw [← List.take_append_drop 24 words1, List.all_append, w_t1, ← List.take_append_drop 24 (words1.drop 24), List.all_append, w_t2, ← List.take_append_drop 24 ((words1.drop 24).drop 24), List.all_append, w_t3, ← List.take_append_drop 24 (((words1.drop 24).drop 24).drop 24), List.all_append, w_t4, ← List.take_append_drop 24 ((((words1.drop 24).drop 24).drop 24).drop 24), List.all_append, w_t5, ← List.take_append_drop 24 (((((words1.drop 24).drop 24).drop 24).drop 24).drop 24), List.all_append, w_t6, w_t7]
  rfl
set_option maxRecDepth 65536 in
theorem w_rest : rest_1_c.before args0 about1 = true := by decide +kernel
set_option maxRecDepth 65536 in
theorem w_case : (Jvm.Cond.and given_1 narrow_1).before args0 about1 = true := by decide +kernel
theorem w_applies : (headSpec (Jvm.Cond.code x code maxLocals ret :: tables_1) room_1).applies x e0.platform about1 = true :=
  (Spec.applies_iff w_frames).mpr ⟨w_running, w_runnable, w_alone, w_named, w_hears, w_ripe, w_room, w_tables⟩
theorem atStart : AtStart classFile x code maxLocals ret World_1 tables_1 room_1 Calls_1 rest_1 Pre_1 launch0 p0 e0 about1 theMethod args0 below0 :=
  ⟨lists_1, trivial, launch0.admits_env _ _ _, launch0.least_env, fairChoices_fair.cas, fairChoices_fair.clock, w_frames, w_args, w_heap, w_applies, trivial, w_rest, w_case⟩
end start1
theorem witness_1 : WitnessClaimed_1 := ⟨start1.p0, start1.e0, start1.about1, start1.theMethod, start1.args0, start1.below0, start1.atStart⟩
end Jvm.Pilot.@@N@@
