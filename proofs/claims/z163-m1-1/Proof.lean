import JvmDerived
import JvmDerived.Pilot.@@N@@Statement
import JvmDerived.Pilot.@@N@@Code
set_option linter.unusedVariables false
set_option linter.unusedSimpArgs false
namespace Jvm.OwnWp
open Sem ClassFile Op Lib Jvm.Free Jvm.Stand Jvm.LawKit Jvm.RoadKit
set_option maxHeartbeats 1000000
/-! the walk of a body as a weakest precondition: own text over the library's laws -/
def EnvOk (p : Program) (s : State) (m : MethodId) (meth : Method) (c : Code) (Z : State) (own nam : String) (bytes : ByteArray) (maxL : Nat) (ret : Option FieldType) (n0 : Nat) (h0 : Heap) (ws : List Addr) : Prop :=
  p.tables.exec = Jvm.exec ∧ c.code = bytes ∧ c.maxLocals = maxL ∧ Z.Warmed39 s.vm ∧ s.vm.findClass own = some m.cls ∧ meth.name = nam ∧ meth.sig.returnType = ret ∧ meth.locks = false ∧ s.heap = h0 ∧ Old Z n0 h0 ∧ ∀ a ∈ ws, n0 ≤ a
/-- what may be written: the named objects and what is new -/
def Pmt (h0 : Heap) (ws : List Addr) (L : List Loc) : Prop := ∀ y ∈ L, y.base ∈ ws ∨ h0.size ≤ y.base
theorem Pmt.nil (h0 : Heap) (ws : List Addr) : Pmt h0 ws [] := fun _ q => nomatch q
theorem Pmt.app {h0 : Heap} {ws : List Addr} {L L' : List Loc} (N : Pmt h0 ws L) (N' : Pmt h0 ws L') : Pmt h0 ws (L ++ L') := fun y q => (List.mem_append.mp q).elim (N y) (N' y)
theorem Pmt.snoc {h0 : Heap} {ws : List Addr} {L : List Loc} {a : Addr} {sl : Nat} (N : Pmt h0 ws L) (q : a ∈ ws ∨ h0.size ≤ a) : Pmt h0 ws (L ++ [⟨a, sl⟩]) := N.app fun y hy => by cases List.mem_singleton.mp hy; exact q
theorem keep_of {s t : State} {h : Heap} {ws : List Addr} {L : List Loc} {k n : Nat} (q : s.sameButNew t L k n) (N : Pmt s.heap ws L) (e : t.heap = h) : Keep s.heap h ws := by
  subst e
  obtain ⟨-, q1, -, -, -, q2⟩ := q
  refine ⟨q1, fun x c hx hn => ?_, fun x c hx => ?_⟩
  · obtain ⟨c', r1, r2, r3, r4⟩ := q2 x c hx
    have e : c'.slots = c.slots := by
      apply Array.ext_getElem?
      intro i
      refine r4 i fun hm => ?_
      rcases N _ hm with u | u
      · exact hn u
      · exact absurd (Array.getElem?_eq_some_iff.mp hx).1 (Nat.not_lt.mpr u)
    rw [r1, r2, e]
  · obtain ⟨c', r1, r2, r3, r4⟩ := q2 x c hx
    exact ⟨c', r1, by rw [r2], by rw [r2], r3⟩
/-- the tables over which the walk stands: the start's own, or (wide) tables that have grown since by interned constants, of which I is known -/
def Base (wd : Bool) (I : Vm → Prop) (Z s : State) (vm0 : Vm) (h : Heap) : Prop :=
  match wd with
  | false => vm0 = s.vm
  | true => s.Since vm0 h.size ∧ Z.Warmed39 vm0 ∧ I vm0
def EndF (wd : Bool) (s : State) (o : Outcome) (t : State) (L : List Loc) (k n : Nat) : Prop :=
  match wd with
  | false => FrameEnd s o t L k n
  | true => ReturnedEndW s o t L k n
/-- what is known of the tables at the end -/
def EndI (wd : Bool) (J : Vm → Prop) (t : State) : Prop := wd = true → J t.vm
theorem EndF.same {wd : Bool} {s : State} {o : Outcome} {t : State} {L : List Loc} {k n : Nat} (h : EndF wd s o t L k n) : s.sameButNew { t with vm := s.vm } L k n := by
  cases wd
  · exact h.2.2
  · exact h.2.2.2
def Wp (wd : Bool) (p : Program) (l : Launch) (e : Env) (R : Room) (s : State) (m : MethodId) (args : Array Value) (below : List Frame) (meth : Method) (c : Code) (Z : State) (own nam : String) (bytes : ByteArray) (maxL : Nat) (ret : Option FieldType) (n0 : Nat) (h0 : Heap) (ws : List Addr) (Q : Option Value → Heap → Prop) (I : Vm → Prop) (h : Heap) (k n pc : Nat) (Ls : List Slot) (st : List Value) : Prop :=
  EnvOk p s m meth c Z own nam bytes maxL ret n0 h0 ws → ∀ (T : State) (L : List Loc) (vm0 : Vm), Base wd I Z s vm0 h → Stand p l e R (s.setVm vm0) m args below meth c T L k n → Pmt h0 ws L → T.heap = h →
    ∃ s₂ o, Steps p.tables e below (T.setTop (mkF m pc Ls.toArray st)) s₂ ∧ s₂.status = .running ∧ Ended s₂ below o ∧ ∃ v L', o = .returned v ∧ (Q v s₂.heap ∧ Pmt h0 ws L') ∧ EndF wd s o s₂ L' R.cells R.slots
/-- a method's contract, at one heap and with these arguments -/
def Con (l : Launch) (Z : State) (n0 : Nat) (y : MethodName) (bytes : ByteArray) (maxL : Nat) (ret : Option FieldType) (rm : Room) (as : List Value) (h0 : Heap) (ws : List Addr) (Q : Option Value → Heap → Prop) : Prop :=
  Old Z n0 h0 → (∀ a ∈ ws, n0 ≤ a) → ∀ wds, MetFree l y (head1 (Cond.code y bytes maxL ret :: wds) rm) (fun a U => a = as.toArray ∧ Z.Warmed39 U.vm ∧ U.heap = h0) (fun _ _ _ _ _ => True) (fun _ U o U' => ∃ v L, o = .returned v ∧ (Q v U'.heap ∧ Pmt h0 ws L ∧ Keep h0 U'.heap ws) ∧ FrameEnd U o U' L rm.cells rm.slots)
theorem Con.of {l : Launch} {Z : State} {n0 : Nat} {y : MethodName} {bytes : ByteArray} {maxL : Nat} {ret : Option FieldType} {rm : Room} {as : List Value} {h0 : Heap} {ws : List Addr} {Q : Option Value → Heap → Prop} {Ls : List Slot}
    (hpl : plainFor y = true) (hent : ∀ m, entryFrame m as.toArray maxL = mkF m 0 Ls.toArray [])
    (g : ∀ p e s m below meth c, Wp false p l e rm s m as.toArray below meth c Z y.cls y.name bytes maxL ret n0 h0 ws Q (fun _ => True) h0 0 0 0 Ls []) : Con l Z n0 y bytes maxL ret rm as h0 ws Q := by
  intro hO hws wds
  refine MetFree.of_bodySF hpl hisR ?_
  intro p e s m args below meth c s₁ Bd hml0 hP hK
  obtain ⟨rfl, hZ, hh⟩ := hP
  have X0 : Stand p l e rm s m as.toArray below meth c s₁ [] 0 0 := Stand.of_body Bd
  have e0 : s₁.heap = h0 := by rw [← hh, Bd.state]; rfl
  rw [hent]
  obtain ⟨s2, o, r1, r2, r3, v, L, r4, ⟨r5, r6⟩, r7⟩ := g p e s m below meth c ⟨Bd.exec, Bd.bytes, hml0, hZ, findClass_of_methodNamed Bd.named, (name_of_methodNamed Bd.named Bd.method).1, Bd.returns, Bd.notSynchronized, hh, hO, hws⟩ s₁ [] s.vm rfl X0 (Pmt.nil _ _) e0
  exact ⟨s2, o, r1, r2, r3, v, L, r4, ⟨r5, r6, by rw [← hh]; exact keep_of r7.2.2 (by rw [hh]; exact r6) rfl⟩, r7⟩
theorem Con.post {l : Launch} {Z : State} {n0 : Nat} {y : MethodName} {bytes : ByteArray} {maxL : Nat} {ret : Option FieldType} {rm : Room} {as : List Value} {h0 : Heap} {ws : List Addr} {Q Q' : Option Value → Heap → Prop}
    (c : Con l Z n0 y bytes maxL ret rm as h0 ws Q) (f : ∀ v h, Q v h → Q' v h) : Con l Z n0 y bytes maxL ret rm as h0 ws Q' := fun hO hws wds p e ha hc hk s m args below hf happ hP hK => by
  obtain ⟨a1, a2, a3, a4, a5, v, L, a6, ⟨a7, a8⟩, a9⟩ := c hO hws wds p e ha hc hk s m args below hf happ hP hK
  exact ⟨a1, a2, a3, a4, a5, v, L, a6, ⟨f _ _ a7, a8⟩, a9⟩
/-- the contract of a method that may intern constants -/
def ConW (l : Launch) (Z : State) (n0 : Nat) (y : MethodName) (bytes : ByteArray) (maxL : Nat) (ret : Option FieldType) (rm : Room) (as : List Value) (h0 : Heap) (ws : List Addr) (I : Vm → Prop) (Q : Option Value → Heap → Prop) : Prop :=
  Old Z n0 h0 → (∀ a ∈ ws, n0 ≤ a) → ∀ wds, MetFree l y (head1 (Cond.code y bytes maxL ret :: wds) rm) (fun a U => a = as.toArray ∧ Z.Warmed39 U.vm ∧ U.heap = h0 ∧ I U.vm) (fun _ _ _ _ _ => True) (fun _ U o U' => ∃ v L, o = .returned v ∧ (Q v U'.heap ∧ Pmt h0 ws L ∧ Keep h0 U'.heap ws) ∧ ReturnedEndW U o U' L rm.cells rm.slots)
theorem ConW.of {l : Launch} {Z : State} {n0 : Nat} {y : MethodName} {bytes : ByteArray} {maxL : Nat} {ret : Option FieldType} {rm : Room} {as : List Value} {h0 : Heap} {ws : List Addr} {I : Vm → Prop} {Q : Option Value → Heap → Prop} {Ls : List Slot}
    (hpl : plainFor y = true) (hent : ∀ m, entryFrame m as.toArray maxL = mkF m 0 Ls.toArray [])
    (g : ∀ p e s m below meth c, Wp true p l e rm s m as.toArray below meth c Z y.cls y.name bytes maxL ret n0 h0 ws Q I h0 0 0 0 Ls []) : ConW l Z n0 y bytes maxL ret rm as h0 ws I Q := by
  intro hO hws wds
  refine MetFree.of_bodySF hpl hisR ?_
  intro p e s m args below meth c s₁ Bd hml0 hP hK
  obtain ⟨rfl, hZ, hh, hI⟩ := hP
  have X0 : Stand p l e rm s m as.toArray below meth c s₁ [] 0 0 := Stand.of_body Bd
  have e0 : s₁.heap = h0 := by rw [← hh, Bd.state]; rfl
  rw [hent]
  obtain ⟨s2, o, r1, r2, r3, v, L, r4, ⟨r5, r6⟩, r7⟩ := g p e s m below meth c ⟨Bd.exec, Bd.bytes, hml0, hZ, findClass_of_methodNamed Bd.named, (name_of_methodNamed Bd.named Bd.method).1, Bd.returns, Bd.notSynchronized, hh, hO, hws⟩ s₁ [] s.vm ⟨(State.WarmedH.refl s).since _, hZ, hI⟩ X0 (Pmt.nil _ _) e0
  exact ⟨s2, o, r1, r2, r3, v, L, r4, ⟨r5, r6, by rw [← hh]; exact keep_of r7.2.2.2 (by rw [hh]; exact r6) rfl⟩, r7⟩
/-- what a call pushes -/
def psh : Option Value → List Value → List Value
  | none, r => r
  | some v, r => v :: r
theorem psh_eq (v : Option Value) (r : List Value) : v.toList ++ r = psh v r := by cases v <;> rfl
def oneB : Slot → Bool
  | .unset => true
  | .second => false
  | .val v => v.category == 1
def oneAt (Ls : List Slot) (j : Nat) : Bool := (Ls[j]?.map oneB).getD false
theorem oneAt_spec {Ls : List Slot} {j : Nat} (h : oneAt Ls j = true) : ∃ o, Ls.toArray[j]? = some o ∧ (o = .unset ∨ ∃ w, o = .val w ∧ w.category = 1) := by
  unfold oneAt at h
  cases q : Ls[j]? with
  | none => simp [q] at h
  | some o =>
    refine ⟨o, by simpa using q, ?_⟩
    cases o <;> simp [q, oneB] at h ⊢
    exact h
/-- two words, for a long -/
def twoAt (Ls : List Slot) (j : Nat) : Bool := (match Ls[j]? with | some .second => false | some _ => true | none => false) && (match Ls[j + 1]? with | some .second => true | some .unset => true | some (.val w) => w.category == 1 | none => false)
theorem two_store {Ls : List Slot} {j : Nat} {x : Int64} (h : twoAt Ls j = true) : storeLocals Ls.toArray j (.long x) = some ((Ls.set j (.val (.long x))).set (j + 1) .second).toArray := by
  unfold twoAt at h
  cases q : Ls[j]? with
  | none => simp [q] at h
  | some o =>
    cases r : Ls[j + 1]? with
    | none => simp [r] at h
    | some o' =>
      obtain ⟨b1, -⟩ := List.getElem?_eq_some_iff.mp q
      obtain ⟨b2, -⟩ := List.getElem?_eq_some_iff.mp r
      cases o with
      | second => simp [q] at h
      | unset => cases o' <;> simp_all [storeLocals, storeSelf, setAt, Value.category]
      | val w =>
        cases o' <;> by_cases hw : w.category = 2 <;> simp_all [storeLocals, storeSelf, setAt, Value.category]
        all_goals rw [List.set_comm _ _ (show j + 1 ≠ j by omega), List.set_set]
theorem one_store {Ls : List Slot} {j : Nat} {v : Value} (h : oneAt Ls j = true) (hv : v.category = 1) : storeLocals Ls.toArray j v = some (Ls.set j (.val v)).toArray := by
  obtain ⟨o, q1, q2⟩ := oneAt_spec h
  rw [XS.store1 q1 q2 hv]; simp
section Walk
variable {wd : Bool} {I : Vm → Prop} {vm0 : Vm} {p : Program} {l : Launch} {e : Env} {R : Room} {s : State} {m : MethodId} {args : Array Value} {below : List Frame} {meth : Method} {c : Code} {Z : State} {own nam : String} {bytes : ByteArray} {maxL : Nat} {ret : Option FieldType} {n0 : Nat} {h0 : Heap} {ws : List Addr} {Q : Option Value → Heap → Prop} {h : Heap} {k n pc : Nat} {Ls : List Slot} {st rest : List Value} {a0 : Array Value}
theorem bZ (E : EnvOk p s m meth c Z own nam bytes maxL ret n0 h0 ws) (B : Base wd I Z s vm0 h) : Z.Warmed39 (s.setVm vm0).vm := by
  cases wd
  · cases B; exact E.2.2.2.1
  · exact B.2.1
theorem bO (E : EnvOk p s m meth c Z own nam bytes maxL ret n0 h0 ws) (B : Base wd I Z s vm0 h) : (s.setVm vm0).vm.findClass own = some m.cls := by
  cases wd
  · cases B; exact E.2.2.2.2.1
  · show vm0.findClass own = _
    rw [B.1.1.alike.findClass]; exact E.2.2.2.2.1
theorem bG {h' : Heap} (B : Base wd I Z s vm0 h) (q : h.size ≤ h'.size) : Base wd I Z s vm0 h' := by
  cases wd
  · exact B
  · exact ⟨⟨B.1.1, B.1.2.mono q⟩, B.2⟩
theorem szOf (E : EnvOk p s m meth c Z own nam bytes maxL ret n0 h0 ws) {T : State} {L : List Loc} (X : Stand p l e R (s.setVm vm0) m args below meth c T L k n) (eT : T.heap = h) : h0.size ≤ h.size := by
  have q : s.heap.size ≤ T.heap.size := X.same.2.1
  rw [E.2.2.2.2.2.2.2.2.1] at q
  rw [← eT]; exact q
theorem keepOf (E : EnvOk p s m meth c Z own nam bytes maxL ret n0 h0 ws) {T : State} {L : List Loc} (X : Stand p l e R (s.setVm vm0) m args below meth c T L k n) (N : Pmt h0 ws L) (eT : T.heap = h) : Keep h0 h ws := by
  have q := E.2.2.2.2.2.2.2.2.1
  rw [← q]; exact keep_of (s := s.setVm vm0) X.same (by show Pmt s.heap ws L; rw [q]; exact N) eT
theorem endOf (E : EnvOk p s m meth c Z own nam bytes maxL ret n0 h0 ws) (B : Base wd I Z s vm0 h) {U : State} {L : List Loc} {o : Outcome} (hr : ∃ v, o = .returned v) (hW : (s.setVm vm0).WarmedH U.vm) (hs : (s.setVm vm0).sameButNew ({ U with vm := (s.setVm vm0).vm } : State) L k n) (hU : U.heap = h) (hk : k ≤ R.cells) (hn : n ≤ R.slots) : EndF wd s o U L R.cells R.slots := by
  cases wd
  · cases B; exact ⟨hr, hW, hs.mono hk hn⟩
  · obtain ⟨r1, r2, r3⟩ := B.1.ended hW (by rw [hU]; exact Nat.le_refl _) hs
    exact ⟨hr, r1, r2, r3.mono hk hn⟩
theorem n0Of (E : EnvOk p s m meth c Z own nam bytes maxL ret n0 h0 ws) {x : Addr} (q : x ∈ ws ∨ h0.size ≤ x) : n0 ≤ x := by
  obtain ⟨o1, o2⟩ := E.2.2.2.2.2.2.2.2.2.1
  rcases q with q | q
  · exact E.2.2.2.2.2.2.2.2.2.2 x q
  · have := o2.1; omega
theorem oldOf (E : EnvOk p s m meth c Z own nam bytes maxL ret n0 h0 ws) {T : State} {L : List Loc} (X : Stand p l e R (s.setVm vm0) m args below meth c T L k n) (N : Pmt h0 ws L) (eT : T.heap = h) : Old Z n0 h :=
  E.2.2.2.2.2.2.2.2.2.1.keep (keepOf E X N eT) E.2.2.2.2.2.2.2.2.2.2
theorem pmtOf (E : EnvOk p s m meth c Z own nam bytes maxL ret n0 h0 ws) {T : State} {L L' : List Loc} {ws' : List Addr} (X : Stand p l e R (s.setVm vm0) m args below meth c T L k n) (eT : T.heap = h) (hws : ∀ x ∈ ws', x ∈ ws ∨ h0.size ≤ x) (N' : Pmt h ws' L') : Pmt h0 ws L' := fun y hy => by
  rcases N' y hy with q | q
  · exact hws _ q
  · exact Or.inr (Nat.le_trans (szOf E X eT) q)
/-- what is kept since the body's start -/
theorem kept (g : Keep h0 h ws → Old Z n0 h → Wp wd p l e R s m args below meth c Z own nam bytes maxL ret n0 h0 ws Q I h k n pc Ls st) : Wp wd p l e R s m args below meth c Z own nam bytes maxL ret n0 h0 ws Q I h k n pc Ls st := fun E T L vm0 B X N eT => g (keepOf E X N eT) (oldOf E X N eT) E T L vm0 B X N eT
theorem step {pc' : Nat} {Ls' : List Slot} {st' : List Value} (g : Wp wd p l e R s m args below meth c Z own nam bytes maxL ret n0 h0 ws Q I h k n pc' Ls' st')
    (f : EnvOk p s m meth c Z own nam bytes maxL ret n0 h0 ws → ∀ (T : State) (L : List Loc) (t : State) (vm0 : Vm), Base wd I Z s vm0 h → Stand p l e R (s.setVm vm0) m args below meth c T L k n → T.heap = h → Steps p.tables e below (T.setTop (mkF m pc' Ls'.toArray st')) t → Steps p.tables e below (T.setTop (mkF m pc Ls.toArray st)) t) : Wp wd p l e R s m args below meth c Z own nam bytes maxL ret n0 h0 ws Q I h k n pc Ls st := fun E T L vm0 B X N eT => by
  obtain ⟨s2, o, hs, r⟩ := g E T L vm0 B X N eT
  exact ⟨s2, o, f E T L s2 vm0 B X eT hs, r⟩
/-- a law that hands back a new state -/
theorem lawS {pc' : Nat} {Ls' : List Slot} {st' : List Value}
    (f : EnvOk p s m meth c Z own nam bytes maxL ret n0 h0 ws → ∀ (T : State) (L : List Loc) (vm0 : Vm), Base wd I Z s vm0 h → Stand p l e R (s.setVm vm0) m args below meth c T L k n → Pmt h0 ws L → T.heap = h → ∃ (T' : State) (L' : List Loc) (h' : Heap) (k' n' : Nat), Stand p l e R (s.setVm vm0) m args below meth c T' L' k' n' ∧ Pmt h0 ws L' ∧ T'.heap = h' ∧ h.size ≤ h'.size ∧ (∀ t, Steps p.tables e below (T'.setTop (mkF m pc' Ls'.toArray st')) t → Steps p.tables e below (T.setTop (mkF m pc Ls.toArray st)) t) ∧ Wp wd p l e R s m args below meth c Z own nam bytes maxL ret n0 h0 ws Q I h' k' n' pc' Ls' st') : Wp wd p l e R s m args below meth c Z own nam bytes maxL ret n0 h0 ws Q I h k n pc Ls st := fun E T L vm0 B X N eT => by
  obtain ⟨T', L', h', k', n', X', N', e', gr, st', g⟩ := f E T L vm0 B X N eT
  obtain ⟨s2, o, hs, r⟩ := g E T' L' vm0 (bG B gr) X' N' e'
  exact ⟨s2, o, st' _ hs, r⟩
theorem more {k' n' : Nat} (hk : k ≤ k') (hn : n ≤ n') (g : Wp wd p l e R s m args below meth c Z own nam bytes maxL ret n0 h0 ws Q I h k' n' pc Ls st) : Wp wd p l e R s m args below meth c Z own nam bytes maxL ret n0 h0 ws Q I h k n pc Ls st := fun E T L vm0 B X N eT =>
  g E T L vm0 B (X.mono hk hn) N eT
theorem conv {Q' : Option Value → Heap → Prop} (g : Wp wd p l e R s m args below meth c Z own nam bytes maxL ret n0 h0 ws Q' I h k n pc Ls st) (f : ∀ v h, Q' v h → Q v h) : Wp wd p l e R s m args below meth c Z own nam bytes maxL ret n0 h0 ws Q I h k n pc Ls st := fun E T L vm0 B X N eT => by
  obtain ⟨s2, o, h1, h2, h3, v, L', h4, ⟨h5, h6⟩, h7⟩ := g E T L vm0 B X N eT
  exact ⟨s2, o, h1, h2, h3, v, L', h4, ⟨f _ _ h5, h6⟩, h7⟩
theorem wk {J : Vm → Prop} (hJ : ∀ vm, I vm → J vm) (g : Wp wd p l e R s m args below meth c Z own nam bytes maxL ret n0 h0 ws Q J h k n pc Ls st) : Wp wd p l e R s m args below meth c Z own nam bytes maxL ret n0 h0 ws Q I h k n pc Ls st := fun E T L vm0 B X N eT =>
  g E T L vm0 (by cases wd; exact B; exact ⟨B.1, B.2.1, hJ _ B.2.2⟩) X N eT

theorem iadd {q1 : Nat} {x y : Int32} (hd : decode bytes pc = .ok (.iadd, 1)) (hq1 : pc + 1 = q1) (g : Wp wd p l e R s m args below meth c Z own nam bytes maxL ret n0 h0 ws Q I h k n q1 Ls (.int (x + y) :: rest)) : Wp wd p l e R s m args below meth c Z own nam bytes maxL ret n0 h0 ws Q I h k n pc Ls (.int y :: .int x :: rest) := by
  subst hq1
  exact  step g fun E T L t vm0 B X _ hr => XS.iadd X.here E.1 rfl (hb E.2.1 hd) rfl hr

theorem isub {q1 : Nat} {x y : Int32} (hd : decode bytes pc = .ok (.isub, 1)) (hq1 : pc + 1 = q1) (g : Wp wd p l e R s m args below meth c Z own nam bytes maxL ret n0 h0 ws Q I h k n q1 Ls (.int (x - y) :: rest)) : Wp wd p l e R s m args below meth c Z own nam bytes maxL ret n0 h0 ws Q I h k n pc Ls (.int y :: .int x :: rest) := by
  subst hq1
  exact  step g fun E T L t vm0 B X _ hr => XS.isub X.here E.1 rfl (hb E.2.1 hd) rfl hr

theorem imul {q1 : Nat} {x y : Int32} (hd : decode bytes pc = .ok (.imul, 1)) (hq1 : pc + 1 = q1) (g : Wp wd p l e R s m args below meth c Z own nam bytes maxL ret n0 h0 ws Q I h k n q1 Ls (.int (x * y) :: rest)) : Wp wd p l e R s m args below meth c Z own nam bytes maxL ret n0 h0 ws Q I h k n pc Ls (.int y :: .int x :: rest) := by
  subst hq1
  exact  step g fun E T L t vm0 B X _ hr => XS.imul X.here E.1 rfl (hb E.2.1 hd) rfl hr

theorem iand {q1 : Nat} {x y : Int32} (hd : decode bytes pc = .ok (.iand, 1)) (hq1 : pc + 1 = q1) (g : Wp wd p l e R s m args below meth c Z own nam bytes maxL ret n0 h0 ws Q I h k n q1 Ls (.int (x &&& y) :: rest)) : Wp wd p l e R s m args below meth c Z own nam bytes maxL ret n0 h0 ws Q I h k n pc Ls (.int y :: .int x :: rest) := by
  subst hq1
  exact  step g fun E T L t vm0 B X _ hr => XS.iand X.here E.1 rfl (hb E.2.1 hd) rfl hr

theorem ior {q1 : Nat} {x y : Int32} (hd : decode bytes pc = .ok (.ior, 1)) (hq1 : pc + 1 = q1) (g : Wp wd p l e R s m args below meth c Z own nam bytes maxL ret n0 h0 ws Q I h k n q1 Ls (.int (x ||| y) :: rest)) : Wp wd p l e R s m args below meth c Z own nam bytes maxL ret n0 h0 ws Q I h k n pc Ls (.int y :: .int x :: rest) := by
  subst hq1
  exact  step g fun E T L t vm0 B X _ hr => XS.ior X.here E.1 rfl (hb E.2.1 hd) rfl hr

theorem ixor {q1 : Nat} {x y : Int32} (hd : decode bytes pc = .ok (.ixor, 1)) (hq1 : pc + 1 = q1) (g : Wp wd p l e R s m args below meth c Z own nam bytes maxL ret n0 h0 ws Q I h k n q1 Ls (.int (x ^^^ y) :: rest)) : Wp wd p l e R s m args below meth c Z own nam bytes maxL ret n0 h0 ws Q I h k n pc Ls (.int y :: .int x :: rest) := by
  subst hq1
  exact  step g fun E T L t vm0 B X _ hr => XS.ixor X.here E.1 rfl (hb E.2.1 hd) rfl hr

theorem ladd {q1 : Nat} {x y : Int64} (hd : decode bytes pc = .ok (.ladd, 1)) (hq1 : pc + 1 = q1) (g : Wp wd p l e R s m args below meth c Z own nam bytes maxL ret n0 h0 ws Q I h k n q1 Ls (.long (x + y) :: rest)) : Wp wd p l e R s m args below meth c Z own nam bytes maxL ret n0 h0 ws Q I h k n pc Ls (.long y :: .long x :: rest) := by
  subst hq1
  exact  step g fun E T L t vm0 B X _ hr => XS.ladd X.here E.1 rfl (hb E.2.1 hd) rfl hr

theorem lsub {q1 : Nat} {x y : Int64} (hd : decode bytes pc = .ok (.lsub, 1)) (hq1 : pc + 1 = q1) (g : Wp wd p l e R s m args below meth c Z own nam bytes maxL ret n0 h0 ws Q I h k n q1 Ls (.long (x - y) :: rest)) : Wp wd p l e R s m args below meth c Z own nam bytes maxL ret n0 h0 ws Q I h k n pc Ls (.long y :: .long x :: rest) := by
  subst hq1
  exact  step g fun E T L t vm0 B X _ hr => XS.lsub X.here E.1 rfl (hb E.2.1 hd) rfl hr

theorem lmul {q1 : Nat} {x y : Int64} (hd : decode bytes pc = .ok (.lmul, 1)) (hq1 : pc + 1 = q1) (g : Wp wd p l e R s m args below meth c Z own nam bytes maxL ret n0 h0 ws Q I h k n q1 Ls (.long (x * y) :: rest)) : Wp wd p l e R s m args below meth c Z own nam bytes maxL ret n0 h0 ws Q I h k n pc Ls (.long y :: .long x :: rest) := by
  subst hq1
  exact  step g fun E T L t vm0 B X _ hr => XS.lmul X.here E.1 rfl (hb E.2.1 hd) rfl hr

theorem land {q1 : Nat} {x y : Int64} (hd : decode bytes pc = .ok (.land, 1)) (hq1 : pc + 1 = q1) (g : Wp wd p l e R s m args below meth c Z own nam bytes maxL ret n0 h0 ws Q I h k n q1 Ls (.long (x &&& y) :: rest)) : Wp wd p l e R s m args below meth c Z own nam bytes maxL ret n0 h0 ws Q I h k n pc Ls (.long y :: .long x :: rest) := by
  subst hq1
  exact  step g fun E T L t vm0 B X _ hr => XS.land X.here E.1 rfl (hb E.2.1 hd) rfl hr

theorem lor {q1 : Nat} {x y : Int64} (hd : decode bytes pc = .ok (.lor, 1)) (hq1 : pc + 1 = q1) (g : Wp wd p l e R s m args below meth c Z own nam bytes maxL ret n0 h0 ws Q I h k n q1 Ls (.long (x ||| y) :: rest)) : Wp wd p l e R s m args below meth c Z own nam bytes maxL ret n0 h0 ws Q I h k n pc Ls (.long y :: .long x :: rest) := by
  subst hq1
  exact  step g fun E T L t vm0 B X _ hr => XS.lor X.here E.1 rfl (hb E.2.1 hd) rfl hr

theorem lxor {q1 : Nat} {x y : Int64} (hd : decode bytes pc = .ok (.lxor, 1)) (hq1 : pc + 1 = q1) (g : Wp wd p l e R s m args below meth c Z own nam bytes maxL ret n0 h0 ws Q I h k n q1 Ls (.long (x ^^^ y) :: rest)) : Wp wd p l e R s m args below meth c Z own nam bytes maxL ret n0 h0 ws Q I h k n pc Ls (.long y :: .long x :: rest) := by
  subst hq1
  exact  step g fun E T L t vm0 B X _ hr => XS.lxor X.here E.1 rfl (hb E.2.1 hd) rfl hr

theorem ishl {q1 : Nat} {x y : Int32} (hd : decode bytes pc = .ok (.ishl, 1)) (hq1 : pc + 1 = q1) (g : Wp wd p l e R s m args below meth c Z own nam bytes maxL ret n0 h0 ws Q I h k n q1 Ls (.int (x <<< (y &&& 31)) :: rest)) : Wp wd p l e R s m args below meth c Z own nam bytes maxL ret n0 h0 ws Q I h k n pc Ls (.int y :: .int x :: rest) := by
  subst hq1
  exact  step g fun E T L t vm0 B X _ hr => XS.ishl X.here E.1 rfl (hb E.2.1 hd) rfl hr

theorem ishr {q1 : Nat} {x y : Int32} (hd : decode bytes pc = .ok (.ishr, 1)) (hq1 : pc + 1 = q1) (g : Wp wd p l e R s m args below meth c Z own nam bytes maxL ret n0 h0 ws Q I h k n q1 Ls (.int (x >>> (y &&& 31)) :: rest)) : Wp wd p l e R s m args below meth c Z own nam bytes maxL ret n0 h0 ws Q I h k n pc Ls (.int y :: .int x :: rest) := by
  subst hq1
  exact  step g fun E T L t vm0 B X _ hr => XS.ishr X.here E.1 rfl (hb E.2.1 hd) rfl hr

theorem iushr {q1 : Nat} {x y : Int32} (hd : decode bytes pc = .ok (.iushr, 1)) (hq1 : pc + 1 = q1) (g : Wp wd p l e R s m args below meth c Z own nam bytes maxL ret n0 h0 ws Q I h k n q1 Ls (.int ((x.toUInt32 >>> (y &&& 31).toUInt32).toInt32) :: rest)) : Wp wd p l e R s m args below meth c Z own nam bytes maxL ret n0 h0 ws Q I h k n pc Ls (.int y :: .int x :: rest) := by
  subst hq1
  exact  step g fun E T L t vm0 B X _ hr => XS.iushr X.here E.1 rfl (hb E.2.1 hd) rfl hr

theorem lshl {q1 : Nat} {x : Int64} {y : Int32} (hd : decode bytes pc = .ok (.lshl, 1)) (hq1 : pc + 1 = q1) (g : Wp wd p l e R s m args below meth c Z own nam bytes maxL ret n0 h0 ws Q I h k n q1 Ls (.long (x <<< (y &&& 0x3f).toInt64) :: rest)) : Wp wd p l e R s m args below meth c Z own nam bytes maxL ret n0 h0 ws Q I h k n pc Ls (.int y :: .long x :: rest) := by
  subst hq1
  exact  step g fun E T L t vm0 B X _ hr => XS.lshl X.here E.1 rfl (hb E.2.1 hd) rfl hr

theorem lshr {q1 : Nat} {x : Int64} {y : Int32} (hd : decode bytes pc = .ok (.lshr, 1)) (hq1 : pc + 1 = q1) (g : Wp wd p l e R s m args below meth c Z own nam bytes maxL ret n0 h0 ws Q I h k n q1 Ls (.long (x >>> (y &&& 0x3f).toInt64) :: rest)) : Wp wd p l e R s m args below meth c Z own nam bytes maxL ret n0 h0 ws Q I h k n pc Ls (.int y :: .long x :: rest) := by
  subst hq1
  exact  step g fun E T L t vm0 B X _ hr => XS.lshr X.here E.1 rfl (hb E.2.1 hd) rfl hr

theorem lushr {q1 : Nat} {x : Int64} {y : Int32} (hd : decode bytes pc = .ok (.lushr, 1)) (hq1 : pc + 1 = q1) (g : Wp wd p l e R s m args below meth c Z own nam bytes maxL ret n0 h0 ws Q I h k n q1 Ls (.long ((x.toUInt64 >>> (y &&& 0x3f).toInt64.toUInt64).toInt64) :: rest)) : Wp wd p l e R s m args below meth c Z own nam bytes maxL ret n0 h0 ws Q I h k n pc Ls (.int y :: .long x :: rest) := by
  subst hq1
  exact  step g fun E T L t vm0 B X _ hr => XS.lushr X.here E.1 rfl (hb E.2.1 hd) rfl hr

theorem lcmp {q1 : Nat} {x y : Int64} (hd : decode bytes pc = .ok (.lcmp, 1)) (hq1 : pc + 1 = q1) (g : Wp wd p l e R s m args below meth c Z own nam bytes maxL ret n0 h0 ws Q I h k n q1 Ls (.int (lcmpW x y) :: rest)) : Wp wd p l e R s m args below meth c Z own nam bytes maxL ret n0 h0 ws Q I h k n pc Ls (.long y :: .long x :: rest) := by
  subst hq1
  exact  step g fun E T L t vm0 B X _ hr => XS.lcmp X.here E.1 rfl (hb E.2.1 hd) rfl hr

theorem idiv {q1 : Nat} {x y : Int32} (hd : decode bytes pc = .ok (.idiv, 1)) (hq1 : pc + 1 = q1) (hy : y ≠ 0) (g : Wp wd p l e R s m args below meth c Z own nam bytes maxL ret n0 h0 ws Q I h k n q1 Ls (.int (x / y) :: rest)) : Wp wd p l e R s m args below meth c Z own nam bytes maxL ret n0 h0 ws Q I h k n pc Ls (.int y :: .int x :: rest) := by
  subst hq1
  exact  step g fun E T L t vm0 B X _ hr => XS.idiv X.here E.1 rfl (hb E.2.1 hd) rfl hy hr

theorem ldiv {q1 : Nat} {x y : Int64} (hd : decode bytes pc = .ok (.ldiv, 1)) (hq1 : pc + 1 = q1) (hy : y ≠ 0) (g : Wp wd p l e R s m args below meth c Z own nam bytes maxL ret n0 h0 ws Q I h k n q1 Ls (.long (x / y) :: rest)) : Wp wd p l e R s m args below meth c Z own nam bytes maxL ret n0 h0 ws Q I h k n pc Ls (.long y :: .long x :: rest) := by
  subst hq1
  exact  step g fun E T L t vm0 B X _ hr => XS.ldiv X.here E.1 rfl (hb E.2.1 hd) rfl hy hr

theorem irem {q1 : Nat} {x y : Int32} (hd : decode bytes pc = .ok (.irem, 1)) (hq1 : pc + 1 = q1) (hy : y ≠ 0) (g : Wp wd p l e R s m args below meth c Z own nam bytes maxL ret n0 h0 ws Q I h k n q1 Ls (.int (x % y) :: rest)) : Wp wd p l e R s m args below meth c Z own nam bytes maxL ret n0 h0 ws Q I h k n pc Ls (.int y :: .int x :: rest) := by
  subst hq1
  exact  step g fun E T L t vm0 B X _ hr => iremM X E.1 rfl (hb E.2.1 hd) rfl hy hr

theorem ineg {q1 : Nat} {x : Int32} (hd : decode bytes pc = .ok (.ineg, 1)) (hq1 : pc + 1 = q1) (g : Wp wd p l e R s m args below meth c Z own nam bytes maxL ret n0 h0 ws Q I h k n q1 Ls (.int (-x) :: rest)) : Wp wd p l e R s m args below meth c Z own nam bytes maxL ret n0 h0 ws Q I h k n pc Ls (.int x :: rest) := by
  subst hq1
  exact  step g fun E T L t vm0 B X _ hr => XS.ineg X.here E.1 rfl (hb E.2.1 hd) rfl hr

theorem lneg {q1 : Nat} {x : Int64} (hd : decode bytes pc = .ok (.lneg, 1)) (hq1 : pc + 1 = q1) (g : Wp wd p l e R s m args below meth c Z own nam bytes maxL ret n0 h0 ws Q I h k n q1 Ls (.long (-x) :: rest)) : Wp wd p l e R s m args below meth c Z own nam bytes maxL ret n0 h0 ws Q I h k n pc Ls (.long x :: rest) := by
  subst hq1
  exact  step g fun E T L t vm0 B X _ hr => XS.lneg X.here E.1 rfl (hb E.2.1 hd) rfl hr

theorem i2l {q1 : Nat} {x : Int32} (hd : decode bytes pc = .ok (.i2l, 1)) (hq1 : pc + 1 = q1) (g : Wp wd p l e R s m args below meth c Z own nam bytes maxL ret n0 h0 ws Q I h k n q1 Ls (.long (x.toInt64) :: rest)) : Wp wd p l e R s m args below meth c Z own nam bytes maxL ret n0 h0 ws Q I h k n pc Ls (.int x :: rest) := by
  subst hq1
  exact  step g fun E T L t vm0 B X _ hr => XS.i2l X.here E.1 rfl (hb E.2.1 hd) rfl hr

theorem l2i {q1 : Nat} {x : Int64} (hd : decode bytes pc = .ok (.l2i, 1)) (hq1 : pc + 1 = q1) (g : Wp wd p l e R s m args below meth c Z own nam bytes maxL ret n0 h0 ws Q I h k n q1 Ls (.int (x.toInt32) :: rest)) : Wp wd p l e R s m args below meth c Z own nam bytes maxL ret n0 h0 ws Q I h k n pc Ls (.long x :: rest) := by
  subst hq1
  exact  step g fun E T L t vm0 B X _ hr => XS.l2i X.here E.1 rfl (hb E.2.1 hd) rfl hr

theorem i2b {q1 : Nat} {x : Int32} (hd : decode bytes pc = .ok (.i2b, 1)) (hq1 : pc + 1 = q1) (g : Wp wd p l e R s m args below meth c Z own nam bytes maxL ret n0 h0 ws Q I h k n q1 Ls (.int (x.toInt8.toInt32) :: rest)) : Wp wd p l e R s m args below meth c Z own nam bytes maxL ret n0 h0 ws Q I h k n pc Ls (.int x :: rest) := by
  subst hq1
  exact  step g fun E T L t vm0 B X _ hr => XS.i2b X.here E.1 rfl (hb E.2.1 hd) rfl hr

theorem i2s {q1 : Nat} {x : Int32} (hd : decode bytes pc = .ok (.i2s, 1)) (hq1 : pc + 1 = q1) (g : Wp wd p l e R s m args below meth c Z own nam bytes maxL ret n0 h0 ws Q I h k n q1 Ls (.int (x.toInt16.toInt32) :: rest)) : Wp wd p l e R s m args below meth c Z own nam bytes maxL ret n0 h0 ws Q I h k n pc Ls (.int x :: rest) := by
  subst hq1
  exact  step g fun E T L t vm0 B X _ hr => XS.i2s X.here E.1 rfl (hb E.2.1 hd) rfl hr

theorem i2c {q1 : Nat} {x : Int32} (hd : decode bytes pc = .ok (.i2c, 1)) (hq1 : pc + 1 = q1) (g : Wp wd p l e R s m args below meth c Z own nam bytes maxL ret n0 h0 ws Q I h k n q1 Ls (.int (x.toUInt32.toUInt16.toUInt32.toInt32) :: rest)) : Wp wd p l e R s m args below meth c Z own nam bytes maxL ret n0 h0 ws Q I h k n pc Ls (.int x :: rest) := by
  subst hq1
  exact  step g fun E T L t vm0 B X _ hr => XS.i2c X.here E.1 rfl (hb E.2.1 hd) rfl hr

theorem iconst {q1 : Nat} {i : Int} {v : Int32} (hd : decode bytes pc = .ok (.iconst i, 1)) (hq1 : pc + 1 = q1) (hv : Int32.ofInt i = v) (g : Wp wd p l e R s m args below meth c Z own nam bytes maxL ret n0 h0 ws Q I h k n q1 Ls (.int v :: st)) : Wp wd p l e R s m args below meth c Z own nam bytes maxL ret n0 h0 ws Q I h k n pc Ls st := by
  subst hq1
  exact  step g fun E T L t vm0 B X _ hr => XT.iconstV X.here E.1 rfl v (hb E.2.1 hd) hv hr

theorem bipush {q1 : Nat} {i : Int} {v : Int32} (hd : decode bytes pc = .ok (.bipush i, 2)) (hq1 : pc + 2 = q1) (hv : (Int8.ofInt i).toInt32 = v) (g : Wp wd p l e R s m args below meth c Z own nam bytes maxL ret n0 h0 ws Q I h k n q1 Ls (.int v :: st)) : Wp wd p l e R s m args below meth c Z own nam bytes maxL ret n0 h0 ws Q I h k n pc Ls st := by
  subst hq1
  exact  step g fun E T L t vm0 B X _ hr => XT.bipushV X.here E.1 rfl v (hb E.2.1 hd) hv hr

theorem sipush {q1 : Nat} {i : Int} {v : Int32} (hd : decode bytes pc = .ok (.sipush i, 3)) (hq1 : pc + 3 = q1) (hv : (Int16.ofInt i).toInt32 = v) (g : Wp wd p l e R s m args below meth c Z own nam bytes maxL ret n0 h0 ws Q I h k n q1 Ls (.int v :: st)) : Wp wd p l e R s m args below meth c Z own nam bytes maxL ret n0 h0 ws Q I h k n pc Ls st := by
  subst hq1
  exact  step g fun E T L t vm0 B X _ hr => XT.sipushV X.here E.1 rfl v (hb E.2.1 hd) hv hr

theorem lconst {q1 : Nat} {i : Fin 2} {v : Int64} (hd : decode bytes pc = .ok (.lconst i, 1)) (hq1 : pc + 1 = q1) (hv : Int64.ofNat i = v) (g : Wp wd p l e R s m args below meth c Z own nam bytes maxL ret n0 h0 ws Q I h k n q1 Ls (.long v :: st)) : Wp wd p l e R s m args below meth c Z own nam bytes maxL ret n0 h0 ws Q I h k n pc Ls st := by
  subst hq1
  exact  step g fun E T L t vm0 B X _ hr => XT.lconstV X.here E.1 rfl v (hb E.2.1 hd) hv hr

theorem aconst_null {q1 : Nat} (hd : decode bytes pc = .ok (.aconst_null, 1)) (hq1 : pc + 1 = q1) (g : Wp wd p l e R s m args below meth c Z own nam bytes maxL ret n0 h0 ws Q I h k n q1 Ls (.null :: st)) : Wp wd p l e R s m args below meth c Z own nam bytes maxL ret n0 h0 ws Q I h k n pc Ls st := by
  subst hq1
  exact  step g fun E T L t vm0 B X _ hr => XS.aconstNull X.here E.1 rfl (hb E.2.1 hd) hr

theorem ldcI {q1 : Nat} {i : Nat} {v : Int32} (hd : decode bytes pc = .ok (.ldc i, 2)) (hq1 : pc + 2 = q1) (w : (Cond.constant own i v).before a0 Z = true) (g : Wp wd p l e R s m args below meth c Z own nam bytes maxL ret n0 h0 ws Q I h k n q1 Ls (.int v :: st)) : Wp wd p l e R s m args below meth c Z own nam bytes maxL ret n0 h0 ws Q I h k n pc Ls st := by
  subst hq1
  exact  step g fun E T L t vm0 B X _ hr => X.ldcInt E.1 (bO E B) (mvT (bZ E B) w) (g := mkF m pc Ls.toArray st) rfl (hb E.2.1 hd) _ hr

theorem ldcwI {q1 : Nat} {i : Nat} {v : Int32} (hd : decode bytes pc = .ok (.ldc_w i, 3)) (hq1 : pc + 3 = q1) (w : (Cond.constant own i v).before a0 Z = true) (g : Wp wd p l e R s m args below meth c Z own nam bytes maxL ret n0 h0 ws Q I h k n q1 Ls (.int v :: st)) : Wp wd p l e R s m args below meth c Z own nam bytes maxL ret n0 h0 ws Q I h k n pc Ls st := by
  subst hq1
  exact  step g fun E T L t vm0 B X _ hr => X.ldcwInt E.1 (bO E B) (mvT (bZ E B) w) (g := mkF m pc Ls.toArray st) rfl (hb E.2.1 hd) _ hr

theorem ldc2J {q1 : Nat} {i : Nat} {v : Int64} (hd : decode bytes pc = .ok (.ldc2_w i, 3)) (hq1 : pc + 3 = q1) (w : (Cond.constantLong own i v).before a0 Z = true) (g : Wp wd p l e R s m args below meth c Z own nam bytes maxL ret n0 h0 ws Q I h k n q1 Ls (.long v :: st)) : Wp wd p l e R s m args below meth c Z own nam bytes maxL ret n0 h0 ws Q I h k n pc Ls st := by
  subst hq1
  exact  step g fun E T L t vm0 B X _ hr => X.ldc2Long E.1 (bO E B) (mvT (bZ E B) w) (g := mkF m pc Ls.toArray st) rfl (hb E.2.1 hd) _ hr

theorem iload {q1 : Nat} {j : Nat} {v : Int32} (hd : decode bytes pc = .ok (.iload j, 2)) (hq1 : pc + 2 = q1) (hl : Ls[j]? = some (.val (.int v))) (g : Wp wd p l e R s m args below meth c Z own nam bytes maxL ret n0 h0 ws Q I h k n q1 Ls ((.int v) :: st)) : Wp wd p l e R s m args below meth c Z own nam bytes maxL ret n0 h0 ws Q I h k n pc Ls st := by
  subst hq1
  exact  step g fun E T L t vm0 B X _ hr => XS.iload X.here E.1 rfl (hb E.2.1 hd) (by simpa using hl) hr

theorem iload_n {q1 : Nat} {j : Fin 4} {v : Int32} (hd : decode bytes pc = .ok (.iload_n j, 1)) (hq1 : pc + 1 = q1) (hl : Ls[j.val]? = some (.val (.int v))) (g : Wp wd p l e R s m args below meth c Z own nam bytes maxL ret n0 h0 ws Q I h k n q1 Ls ((.int v) :: st)) : Wp wd p l e R s m args below meth c Z own nam bytes maxL ret n0 h0 ws Q I h k n pc Ls st := by
  subst hq1
  exact  step g fun E T L t vm0 B X _ hr => XS.iloadN X.here E.1 rfl (hb E.2.1 hd) (by simpa using hl) hr

theorem lload {q1 : Nat} {j : Nat} {v : Int64} (hd : decode bytes pc = .ok (.lload j, 2)) (hq1 : pc + 2 = q1) (hl : Ls[j]? = some (.val (.long v))) (g : Wp wd p l e R s m args below meth c Z own nam bytes maxL ret n0 h0 ws Q I h k n q1 Ls ((.long v) :: st)) : Wp wd p l e R s m args below meth c Z own nam bytes maxL ret n0 h0 ws Q I h k n pc Ls st := by
  subst hq1
  exact  step g fun E T L t vm0 B X _ hr => XS.lload X.here E.1 rfl (hb E.2.1 hd) (by simpa using hl) hr

theorem lload_n {q1 : Nat} {j : Fin 4} {v : Int64} (hd : decode bytes pc = .ok (.lload_n j, 1)) (hq1 : pc + 1 = q1) (hl : Ls[j.val]? = some (.val (.long v))) (g : Wp wd p l e R s m args below meth c Z own nam bytes maxL ret n0 h0 ws Q I h k n q1 Ls ((.long v) :: st)) : Wp wd p l e R s m args below meth c Z own nam bytes maxL ret n0 h0 ws Q I h k n pc Ls st := by
  subst hq1
  exact  step g fun E T L t vm0 B X _ hr => XS.lloadN X.here E.1 rfl (hb E.2.1 hd) (by simpa using hl) hr

theorem aload {q1 : Nat} {j : Nat} {v : Value} (hd : decode bytes pc = .ok (.aload j, 2)) (hq1 : pc + 2 = q1) (hl : Ls[j]? = some (.val (v))) (hv : v.isRef = true) (g : Wp wd p l e R s m args below meth c Z own nam bytes maxL ret n0 h0 ws Q I h k n q1 Ls ((v) :: st)) : Wp wd p l e R s m args below meth c Z own nam bytes maxL ret n0 h0 ws Q I h k n pc Ls st := by
  subst hq1
  exact  step g fun E T L t vm0 B X _ hr => XS.aload X.here E.1 rfl (hb E.2.1 hd) (by simpa using hl) hv hr

theorem aload_n {q1 : Nat} {j : Fin 4} {v : Value} (hd : decode bytes pc = .ok (.aload_n j, 1)) (hq1 : pc + 1 = q1) (hl : Ls[j.val]? = some (.val (v))) (hv : v.isRef = true) (g : Wp wd p l e R s m args below meth c Z own nam bytes maxL ret n0 h0 ws Q I h k n q1 Ls ((v) :: st)) : Wp wd p l e R s m args below meth c Z own nam bytes maxL ret n0 h0 ws Q I h k n pc Ls st := by
  subst hq1
  exact  step g fun E T L t vm0 B X _ hr => XS.aloadN X.here E.1 rfl (hb E.2.1 hd) (by simpa using hl) hv hr

theorem istore {q1 : Nat} {j : Nat} {x : Int32} (hd : decode bytes pc = .ok (.istore j, 2)) (hq1 : pc + 2 = q1) (ho : oneAt Ls j = true) (g : Wp wd p l e R s m args below meth c Z own nam bytes maxL ret n0 h0 ws Q I h k n q1 (Ls.set j (.val (.int x))) rest) : Wp wd p l e R s m args below meth c Z own nam bytes maxL ret n0 h0 ws Q I h k n pc Ls (.int x :: rest) := by
  subst hq1
  exact  step g fun E T L t vm0 B X _ hr => XS.istore X.here E.1 rfl (hb E.2.1 hd) rfl (one_store ho rfl) hr

theorem istore_n {q1 : Nat} {j : Fin 4} {jj : Nat} {x : Int32} (hd : decode bytes pc = .ok (.istore_n j, 1)) (hq1 : pc + 1 = q1) (hj : j.val = jj) (ho : oneAt Ls jj = true) (g : Wp wd p l e R s m args below meth c Z own nam bytes maxL ret n0 h0 ws Q I h k n q1 (Ls.set jj (.val (.int x))) rest) : Wp wd p l e R s m args below meth c Z own nam bytes maxL ret n0 h0 ws Q I h k n pc Ls (.int x :: rest) := by
  subst hq1
  exact  step g fun E T L t vm0 B X _ hr => XS.istoreN X.here E.1 rfl (hb E.2.1 hd) rfl (by subst hj; exact one_store ho rfl) hr

theorem astore {q1 : Nat} {j : Nat} {x : Value} (hd : decode bytes pc = .ok (.astore j, 2)) (hq1 : pc + 2 = q1) (ho : oneAt Ls j = true) (hv : x.isRef = true) (g : Wp wd p l e R s m args below meth c Z own nam bytes maxL ret n0 h0 ws Q I h k n q1 (Ls.set j (.val x)) rest) : Wp wd p l e R s m args below meth c Z own nam bytes maxL ret n0 h0 ws Q I h k n pc Ls (x :: rest) := by
  subst hq1
  exact  step g fun E T L t vm0 B X _ hr => XS.astore X.here E.1 rfl (hb E.2.1 hd) rfl hv (one_store ho (XT.cat1 hv)) hr

theorem astore_n {q1 : Nat} {j : Fin 4} {jj : Nat} {x : Value} (hd : decode bytes pc = .ok (.astore_n j, 1)) (hq1 : pc + 1 = q1) (hj : j.val = jj) (ho : oneAt Ls jj = true) (hv : x.isRef = true) (g : Wp wd p l e R s m args below meth c Z own nam bytes maxL ret n0 h0 ws Q I h k n q1 (Ls.set jj (.val x)) rest) : Wp wd p l e R s m args below meth c Z own nam bytes maxL ret n0 h0 ws Q I h k n pc Ls (x :: rest) := by
  subst hq1
  exact  step g fun E T L t vm0 B X _ hr => XS.astoreN X.here E.1 rfl (hb E.2.1 hd) rfl hv (by subst hj; exact one_store ho (XT.cat1 hv)) hr

theorem lstore {q1 : Nat} {j jk : Nat} {x : Int64} (hd : decode bytes pc = .ok (.lstore j, 2)) (hq1 : pc + 2 = q1) (hjk : j + 1 = jk) (ho : twoAt Ls j = true) (g : Wp wd p l e R s m args below meth c Z own nam bytes maxL ret n0 h0 ws Q I h k n q1 ((Ls.set j (.val (.long x))).set jk .second) rest) : Wp wd p l e R s m args below meth c Z own nam bytes maxL ret n0 h0 ws Q I h k n pc Ls (.long x :: rest) := by
  subst hq1
  exact  step g fun E T L t vm0 B X _ hr => XS.lstore X.here E.1 rfl (hb E.2.1 hd) rfl (by subst hjk; exact two_store ho) hr

theorem lstore_n {q1 : Nat} {j : Fin 4} {jj jk : Nat} {x : Int64} (hd : decode bytes pc = .ok (.lstore_n j, 1)) (hq1 : pc + 1 = q1) (hj : j.val = jj) (hjk : jj + 1 = jk) (ho : twoAt Ls jj = true) (g : Wp wd p l e R s m args below meth c Z own nam bytes maxL ret n0 h0 ws Q I h k n q1 ((Ls.set jj (.val (.long x))).set jk .second) rest) : Wp wd p l e R s m args below meth c Z own nam bytes maxL ret n0 h0 ws Q I h k n pc Ls (.long x :: rest) := by
  subst hq1
  exact  step g fun E T L t vm0 B X _ hr => XS.lstoreN X.here E.1 rfl (hb E.2.1 hd) rfl (by subst hj; subst hjk; exact two_store ho) hr

theorem iinc {q1 : Nat} {j : Nat} {i : Int} {x v : Int32} (hd : decode bytes pc = .ok (.iinc j i, 3)) (hq1 : pc + 3 = q1) (hv : Int32.ofInt i = v) (hl : Ls[j]? = some (.val (.int x))) (g : Wp wd p l e R s m args below meth c Z own nam bytes maxL ret n0 h0 ws Q I h k n q1 (Ls.set j (.val (.int (x + v)))) st) : Wp wd p l e R s m args below meth c Z own nam bytes maxL ret n0 h0 ws Q I h k n pc Ls st := by
  subst hq1
  exact  step g fun E T L t vm0 B X _ hr => XT.iincV X.here E.1 rfl v (hb E.2.1 hd) hv (by simpa using hl) (one_store (by simp [oneAt, hl, oneB, Value.category]) rfl) hr

theorem dup {q1 : Nat} {x : Value} (hd : decode bytes pc = .ok (.dup, 1)) (hq1 : pc + 1 = q1) (hc : x.category = 1) (g : Wp wd p l e R s m args below meth c Z own nam bytes maxL ret n0 h0 ws Q I h k n q1 Ls (x :: x :: rest)) : Wp wd p l e R s m args below meth c Z own nam bytes maxL ret n0 h0 ws Q I h k n pc Ls (x :: rest) := by
  subst hq1
  exact  step g fun E T L t vm0 B X _ hr => XS.dup X.here E.1 rfl (hb E.2.1 hd) rfl hc hr

theorem pop {q1 : Nat} {x : Value} (hd : decode bytes pc = .ok (.pop, 1)) (hq1 : pc + 1 = q1) (hc : x.category = 1) (g : Wp wd p l e R s m args below meth c Z own nam bytes maxL ret n0 h0 ws Q I h k n q1 Ls rest) : Wp wd p l e R s m args below meth c Z own nam bytes maxL ret n0 h0 ws Q I h k n pc Ls (x :: rest) := by
  subst hq1
  exact  step g fun E T L t vm0 B X _ hr => XS.pop X.here E.1 rfl (hb E.2.1 hd) rfl hc hr

theorem dup_x1 {q1 : Nat} {x y : Value} (hd : decode bytes pc = .ok (.dup_x1, 1)) (hq1 : pc + 1 = q1) (hc : x.category = 1) (hc' : y.category = 1) (g : Wp wd p l e R s m args below meth c Z own nam bytes maxL ret n0 h0 ws Q I h k n q1 Ls (x :: y :: x :: rest)) : Wp wd p l e R s m args below meth c Z own nam bytes maxL ret n0 h0 ws Q I h k n pc Ls (x :: y :: rest) := by
  subst hq1
  exact  step g fun E T L t vm0 B X _ hr => XS.dupX1 X.here E.1 rfl (hb E.2.1 hd) rfl hc hc' hr

theorem dup2 {q1 : Nat} {x y : Value} (hd : decode bytes pc = .ok (.dup2, 1)) (hq1 : pc + 1 = q1) (hc : x.category = 1) (hc' : y.category = 1) (g : Wp wd p l e R s m args below meth c Z own nam bytes maxL ret n0 h0 ws Q I h k n q1 Ls (x :: y :: x :: y :: rest)) : Wp wd p l e R s m args below meth c Z own nam bytes maxL ret n0 h0 ws Q I h k n pc Ls (x :: y :: rest) := by
  subst hq1
  exact  step g fun E T L t vm0 B X _ hr => XT.dup2 X.here E.1 rfl (hb E.2.1 hd) rfl hc hc' hr

theorem dup2L {q1 : Nat} {x : Int64} (hd : decode bytes pc = .ok (.dup2, 1)) (hq1 : pc + 1 = q1) (g : Wp wd p l e R s m args below meth c Z own nam bytes maxL ret n0 h0 ws Q I h k n q1 Ls (.long x :: .long x :: rest)) : Wp wd p l e R s m args below meth c Z own nam bytes maxL ret n0 h0 ws Q I h k n pc Ls (.long x :: rest) := by
  subst hq1
  exact  step g fun E T L t vm0 B X _ hr => XT.dup2L X.here E.1 rfl (hb E.2.1 hd) rfl hr

theorem goto {o : Int} {q : Nat} (hd : decode bytes pc = .ok (.goto o, 3)) (hq : (0 ≤ (pc : Int) + o) ∧ ((pc : Int) + o).toNat = q) (g : Wp wd p l e R s m args below meth c Z own nam bytes maxL ret n0 h0 ws Q I h k n q Ls st) : Wp wd p l e R s m args below meth c Z own nam bytes maxL ret n0 h0 ws Q I h k n pc Ls st :=
  step g fun E T L t vm0 B X _ hr => XS.goto X.here E.1 rfl rfl (hb E.2.1 hd) hq.1 hq.2 hr

theorem if_eq {q1 : Nat} {o : Int} {q : Nat} {x : Int32} (hd : decode bytes pc = .ok (.ifCond .eq o, 3)) (hq1 : pc + 3 = q1) (hq : (0 ≤ (pc : Int) + o) ∧ ((pc : Int) + o).toNat = q) (gt : x = 0 → Wp wd p l e R s m args below meth c Z own nam bytes maxL ret n0 h0 ws Q I h k n q Ls rest) (gf : ¬ x = 0 → Wp wd p l e R s m args below meth c Z own nam bytes maxL ret n0 h0 ws Q I h k n q1 Ls rest) : Wp wd p l e R s m args below meth c Z own nam bytes maxL ret n0 h0 ws Q I h k n pc Ls (.int x :: rest) := by
  subst hq1
  by_cases hc : x = 0
  · exact step (gt hc) fun E T L t vm0 B X _ hr => XS.ifYes X.here E.1 rfl rfl (hb E.2.1 hd) rfl ((if0 _ _).trans (teq hc).1) hq.1 hq.2 hr
  · exact step (gf hc) fun E T L t vm0 B X _ hr => XS.ifNo X.here E.1 rfl (hb E.2.1 hd) rfl ((if0 _ _).trans (feq hc).1) hr

theorem icmp_eq {q1 : Nat} {o : Int} {q : Nat} {x y : Int32} (hd : decode bytes pc = .ok (.if_icmp .eq o, 3)) (hq1 : pc + 3 = q1) (hq : (0 ≤ (pc : Int) + o) ∧ ((pc : Int) + o).toNat = q) (gt : x = y → Wp wd p l e R s m args below meth c Z own nam bytes maxL ret n0 h0 ws Q I h k n q Ls rest) (gf : ¬ x = y → Wp wd p l e R s m args below meth c Z own nam bytes maxL ret n0 h0 ws Q I h k n q1 Ls rest) : Wp wd p l e R s m args below meth c Z own nam bytes maxL ret n0 h0 ws Q I h k n pc Ls (.int y :: .int x :: rest) := by
  subst hq1
  by_cases hc : x = y
  · exact step (gt hc) fun E T L t vm0 B X _ hr => XS.icmpYes X.here E.1 rfl rfl (hb E.2.1 hd) rfl (teq hc).1 hq.1 hq.2 hr
  · exact step (gf hc) fun E T L t vm0 B X _ hr => XS.icmpNo X.here E.1 rfl (hb E.2.1 hd) rfl (feq hc).1 hr

theorem if_ne {q1 : Nat} {o : Int} {q : Nat} {x : Int32} (hd : decode bytes pc = .ok (.ifCond .ne o, 3)) (hq1 : pc + 3 = q1) (hq : (0 ≤ (pc : Int) + o) ∧ ((pc : Int) + o).toNat = q) (gt : ¬ x = 0 → Wp wd p l e R s m args below meth c Z own nam bytes maxL ret n0 h0 ws Q I h k n q Ls rest) (gf : x = 0 → Wp wd p l e R s m args below meth c Z own nam bytes maxL ret n0 h0 ws Q I h k n q1 Ls rest) : Wp wd p l e R s m args below meth c Z own nam bytes maxL ret n0 h0 ws Q I h k n pc Ls (.int x :: rest) := by
  subst hq1
  by_cases hc : x = 0
  · exact step (gf hc) fun E T L t vm0 B X _ hr => XS.ifNo X.here E.1 rfl (hb E.2.1 hd) rfl ((if0 _ _).trans (teq hc).2) hr
  · exact step (gt hc) fun E T L t vm0 B X _ hr => XS.ifYes X.here E.1 rfl rfl (hb E.2.1 hd) rfl ((if0 _ _).trans (feq hc).2) hq.1 hq.2 hr

theorem icmp_ne {q1 : Nat} {o : Int} {q : Nat} {x y : Int32} (hd : decode bytes pc = .ok (.if_icmp .ne o, 3)) (hq1 : pc + 3 = q1) (hq : (0 ≤ (pc : Int) + o) ∧ ((pc : Int) + o).toNat = q) (gt : ¬ x = y → Wp wd p l e R s m args below meth c Z own nam bytes maxL ret n0 h0 ws Q I h k n q Ls rest) (gf : x = y → Wp wd p l e R s m args below meth c Z own nam bytes maxL ret n0 h0 ws Q I h k n q1 Ls rest) : Wp wd p l e R s m args below meth c Z own nam bytes maxL ret n0 h0 ws Q I h k n pc Ls (.int y :: .int x :: rest) := by
  subst hq1
  by_cases hc : x = y
  · exact step (gf hc) fun E T L t vm0 B X _ hr => XS.icmpNo X.here E.1 rfl (hb E.2.1 hd) rfl (teq hc).2 hr
  · exact step (gt hc) fun E T L t vm0 B X _ hr => XS.icmpYes X.here E.1 rfl rfl (hb E.2.1 hd) rfl (feq hc).2 hq.1 hq.2 hr

theorem if_lt {q1 : Nat} {o : Int} {q : Nat} {x : Int32} (hd : decode bytes pc = .ok (.ifCond .lt o, 3)) (hq1 : pc + 3 = q1) (hq : (0 ≤ (pc : Int) + o) ∧ ((pc : Int) + o).toNat = q) (gt : x < 0 → Wp wd p l e R s m args below meth c Z own nam bytes maxL ret n0 h0 ws Q I h k n q Ls rest) (gf : ¬ x < 0 → Wp wd p l e R s m args below meth c Z own nam bytes maxL ret n0 h0 ws Q I h k n q1 Ls rest) : Wp wd p l e R s m args below meth c Z own nam bytes maxL ret n0 h0 ws Q I h k n pc Ls (.int x :: rest) := by
  subst hq1
  by_cases hc : x < 0
  · exact step (gt hc) fun E T L t vm0 B X _ hr => XS.ifYes X.here E.1 rfl rfl (hb E.2.1 hd) rfl ((if0 _ _).trans (tlt hc).1) hq.1 hq.2 hr
  · exact step (gf hc) fun E T L t vm0 B X _ hr => XS.ifNo X.here E.1 rfl (hb E.2.1 hd) rfl ((if0 _ _).trans (flt hc).1) hr

theorem icmp_lt {q1 : Nat} {o : Int} {q : Nat} {x y : Int32} (hd : decode bytes pc = .ok (.if_icmp .lt o, 3)) (hq1 : pc + 3 = q1) (hq : (0 ≤ (pc : Int) + o) ∧ ((pc : Int) + o).toNat = q) (gt : x < y → Wp wd p l e R s m args below meth c Z own nam bytes maxL ret n0 h0 ws Q I h k n q Ls rest) (gf : ¬ x < y → Wp wd p l e R s m args below meth c Z own nam bytes maxL ret n0 h0 ws Q I h k n q1 Ls rest) : Wp wd p l e R s m args below meth c Z own nam bytes maxL ret n0 h0 ws Q I h k n pc Ls (.int y :: .int x :: rest) := by
  subst hq1
  by_cases hc : x < y
  · exact step (gt hc) fun E T L t vm0 B X _ hr => XS.icmpYes X.here E.1 rfl rfl (hb E.2.1 hd) rfl (tlt hc).1 hq.1 hq.2 hr
  · exact step (gf hc) fun E T L t vm0 B X _ hr => XS.icmpNo X.here E.1 rfl (hb E.2.1 hd) rfl (flt hc).1 hr

theorem if_ge {q1 : Nat} {o : Int} {q : Nat} {x : Int32} (hd : decode bytes pc = .ok (.ifCond .ge o, 3)) (hq1 : pc + 3 = q1) (hq : (0 ≤ (pc : Int) + o) ∧ ((pc : Int) + o).toNat = q) (gt : ¬ x < 0 → Wp wd p l e R s m args below meth c Z own nam bytes maxL ret n0 h0 ws Q I h k n q Ls rest) (gf : x < 0 → Wp wd p l e R s m args below meth c Z own nam bytes maxL ret n0 h0 ws Q I h k n q1 Ls rest) : Wp wd p l e R s m args below meth c Z own nam bytes maxL ret n0 h0 ws Q I h k n pc Ls (.int x :: rest) := by
  subst hq1
  by_cases hc : x < 0
  · exact step (gf hc) fun E T L t vm0 B X _ hr => XS.ifNo X.here E.1 rfl (hb E.2.1 hd) rfl ((if0 _ _).trans (tlt hc).2.1) hr
  · exact step (gt hc) fun E T L t vm0 B X _ hr => XS.ifYes X.here E.1 rfl rfl (hb E.2.1 hd) rfl ((if0 _ _).trans (flt hc).2.1) hq.1 hq.2 hr

theorem icmp_ge {q1 : Nat} {o : Int} {q : Nat} {x y : Int32} (hd : decode bytes pc = .ok (.if_icmp .ge o, 3)) (hq1 : pc + 3 = q1) (hq : (0 ≤ (pc : Int) + o) ∧ ((pc : Int) + o).toNat = q) (gt : ¬ x < y → Wp wd p l e R s m args below meth c Z own nam bytes maxL ret n0 h0 ws Q I h k n q Ls rest) (gf : x < y → Wp wd p l e R s m args below meth c Z own nam bytes maxL ret n0 h0 ws Q I h k n q1 Ls rest) : Wp wd p l e R s m args below meth c Z own nam bytes maxL ret n0 h0 ws Q I h k n pc Ls (.int y :: .int x :: rest) := by
  subst hq1
  by_cases hc : x < y
  · exact step (gf hc) fun E T L t vm0 B X _ hr => XS.icmpNo X.here E.1 rfl (hb E.2.1 hd) rfl (tlt hc).2.1 hr
  · exact step (gt hc) fun E T L t vm0 B X _ hr => XS.icmpYes X.here E.1 rfl rfl (hb E.2.1 hd) rfl (flt hc).2.1 hq.1 hq.2 hr

theorem if_gt {q1 : Nat} {o : Int} {q : Nat} {x : Int32} (hd : decode bytes pc = .ok (.ifCond .gt o, 3)) (hq1 : pc + 3 = q1) (hq : (0 ≤ (pc : Int) + o) ∧ ((pc : Int) + o).toNat = q) (gt : 0 < x → Wp wd p l e R s m args below meth c Z own nam bytes maxL ret n0 h0 ws Q I h k n q Ls rest) (gf : ¬ 0 < x → Wp wd p l e R s m args below meth c Z own nam bytes maxL ret n0 h0 ws Q I h k n q1 Ls rest) : Wp wd p l e R s m args below meth c Z own nam bytes maxL ret n0 h0 ws Q I h k n pc Ls (.int x :: rest) := by
  subst hq1
  by_cases hc : 0 < x
  · exact step (gt hc) fun E T L t vm0 B X _ hr => XS.ifYes X.here E.1 rfl rfl (hb E.2.1 hd) rfl ((if0 _ _).trans (tlt hc).2.2.1) hq.1 hq.2 hr
  · exact step (gf hc) fun E T L t vm0 B X _ hr => XS.ifNo X.here E.1 rfl (hb E.2.1 hd) rfl ((if0 _ _).trans (flt hc).2.2.1) hr

theorem icmp_gt {q1 : Nat} {o : Int} {q : Nat} {x y : Int32} (hd : decode bytes pc = .ok (.if_icmp .gt o, 3)) (hq1 : pc + 3 = q1) (hq : (0 ≤ (pc : Int) + o) ∧ ((pc : Int) + o).toNat = q) (gt : y < x → Wp wd p l e R s m args below meth c Z own nam bytes maxL ret n0 h0 ws Q I h k n q Ls rest) (gf : ¬ y < x → Wp wd p l e R s m args below meth c Z own nam bytes maxL ret n0 h0 ws Q I h k n q1 Ls rest) : Wp wd p l e R s m args below meth c Z own nam bytes maxL ret n0 h0 ws Q I h k n pc Ls (.int y :: .int x :: rest) := by
  subst hq1
  by_cases hc : y < x
  · exact step (gt hc) fun E T L t vm0 B X _ hr => XS.icmpYes X.here E.1 rfl rfl (hb E.2.1 hd) rfl (tlt hc).2.2.1 hq.1 hq.2 hr
  · exact step (gf hc) fun E T L t vm0 B X _ hr => XS.icmpNo X.here E.1 rfl (hb E.2.1 hd) rfl (flt hc).2.2.1 hr

theorem if_le {q1 : Nat} {o : Int} {q : Nat} {x : Int32} (hd : decode bytes pc = .ok (.ifCond .le o, 3)) (hq1 : pc + 3 = q1) (hq : (0 ≤ (pc : Int) + o) ∧ ((pc : Int) + o).toNat = q) (gt : ¬ 0 < x → Wp wd p l e R s m args below meth c Z own nam bytes maxL ret n0 h0 ws Q I h k n q Ls rest) (gf : 0 < x → Wp wd p l e R s m args below meth c Z own nam bytes maxL ret n0 h0 ws Q I h k n q1 Ls rest) : Wp wd p l e R s m args below meth c Z own nam bytes maxL ret n0 h0 ws Q I h k n pc Ls (.int x :: rest) := by
  subst hq1
  by_cases hc : 0 < x
  · exact step (gf hc) fun E T L t vm0 B X _ hr => XS.ifNo X.here E.1 rfl (hb E.2.1 hd) rfl ((if0 _ _).trans (tlt hc).2.2.2) hr
  · exact step (gt hc) fun E T L t vm0 B X _ hr => XS.ifYes X.here E.1 rfl rfl (hb E.2.1 hd) rfl ((if0 _ _).trans (flt hc).2.2.2) hq.1 hq.2 hr

theorem icmp_le {q1 : Nat} {o : Int} {q : Nat} {x y : Int32} (hd : decode bytes pc = .ok (.if_icmp .le o, 3)) (hq1 : pc + 3 = q1) (hq : (0 ≤ (pc : Int) + o) ∧ ((pc : Int) + o).toNat = q) (gt : ¬ y < x → Wp wd p l e R s m args below meth c Z own nam bytes maxL ret n0 h0 ws Q I h k n q Ls rest) (gf : y < x → Wp wd p l e R s m args below meth c Z own nam bytes maxL ret n0 h0 ws Q I h k n q1 Ls rest) : Wp wd p l e R s m args below meth c Z own nam bytes maxL ret n0 h0 ws Q I h k n pc Ls (.int y :: .int x :: rest) := by
  subst hq1
  by_cases hc : y < x
  · exact step (gf hc) fun E T L t vm0 B X _ hr => XS.icmpNo X.here E.1 rfl (hb E.2.1 hd) rfl (tlt hc).2.2.2 hr
  · exact step (gt hc) fun E T L t vm0 B X _ hr => XS.icmpYes X.here E.1 rfl rfl (hb E.2.1 hd) rfl (flt hc).2.2.2 hq.1 hq.2 hr

theorem ifnull {q1 : Nat} {o : Int} {q : Nat} {v : Value} (hd : decode bytes pc = .ok (.ifnull o, 3)) (hq1 : pc + 3 = q1) (hq : (0 ≤ (pc : Int) + o) ∧ ((pc : Int) + o).toNat = q) (hv : v.isRef = true) (gt : v = .null → Wp wd p l e R s m args below meth c Z own nam bytes maxL ret n0 h0 ws Q I h k n q Ls rest) (gf : ¬ v = .null → Wp wd p l e R s m args below meth c Z own nam bytes maxL ret n0 h0 ws Q I h k n q1 Ls rest) : Wp wd p l e R s m args below meth c Z own nam bytes maxL ret n0 h0 ws Q I h k n pc Ls (v :: rest) := by
  subst hq1
  by_cases hn : v = .null
  · exact step (gt hn) fun E T L t vm0 B X _ hr => XT.nullYes X.here E.1 rfl rfl (hb E.2.1 hd) rfl hn hq.1 hq.2 hr
  · exact step (gf hn) fun E T L t vm0 B X _ hr => XT.nullNo X.here E.1 rfl (hb E.2.1 hd) rfl hv hn hr

theorem ifnonnull {q1 : Nat} {o : Int} {q : Nat} {v : Value} (hd : decode bytes pc = .ok (.ifnonnull o, 3)) (hq1 : pc + 3 = q1) (hq : (0 ≤ (pc : Int) + o) ∧ ((pc : Int) + o).toNat = q) (hv : v.isRef = true) (gt : ¬ v = .null → Wp wd p l e R s m args below meth c Z own nam bytes maxL ret n0 h0 ws Q I h k n q Ls rest) (gf : v = .null → Wp wd p l e R s m args below meth c Z own nam bytes maxL ret n0 h0 ws Q I h k n q1 Ls rest) : Wp wd p l e R s m args below meth c Z own nam bytes maxL ret n0 h0 ws Q I h k n pc Ls (v :: rest) := by
  subst hq1
  by_cases hn : v = .null
  · exact step (gf hn) fun E T L t vm0 B X _ hr => XT.nonnullNo X.here E.1 rfl (hb E.2.1 hd) rfl hn hr
  · exact step (gt hn) fun E T L t vm0 B X _ hr => XT.nonnullYes X.here E.1 rfl rfl (hb E.2.1 hd) rfl hv hn hq.1 hq.2 hr

theorem acmp_eq {q1 : Nat} {o : Int} {q : Nat} {x y : Value} (hd : decode bytes pc = .ok (.if_acmp .eq o, 3)) (hq1 : pc + 3 = q1) (hq : (0 ≤ (pc : Int) + o) ∧ ((pc : Int) + o).toNat = q) (hx : x.isRef = true) (hy : y.isRef = true) (gt : x = y → Wp wd p l e R s m args below meth c Z own nam bytes maxL ret n0 h0 ws Q I h k n q Ls rest) (gf : ¬ x = y → Wp wd p l e R s m args below meth c Z own nam bytes maxL ret n0 h0 ws Q I h k n q1 Ls rest) : Wp wd p l e R s m args below meth c Z own nam bytes maxL ret n0 h0 ws Q I h k n pc Ls (y :: x :: rest) := by
  subst hq1
  by_cases hn : x = y
  · exact step (gt hn) fun E T L t vm0 B X _ hr => XT.acmpYes X.here E.1 rfl rfl (hb E.2.1 hd) rfl hx hy (XT.aa_eq_t hn) hq.1 hq.2 hr
  · exact step (gf hn) fun E T L t vm0 B X _ hr => XT.acmpNo X.here E.1 rfl (hb E.2.1 hd) rfl hx hy (XT.aa_eq_f hn) hr

theorem acmp_ne {q1 : Nat} {o : Int} {q : Nat} {x y : Value} (hd : decode bytes pc = .ok (.if_acmp .ne o, 3)) (hq1 : pc + 3 = q1) (hq : (0 ≤ (pc : Int) + o) ∧ ((pc : Int) + o).toNat = q) (hx : x.isRef = true) (hy : y.isRef = true) (gt : ¬ x = y → Wp wd p l e R s m args below meth c Z own nam bytes maxL ret n0 h0 ws Q I h k n q Ls rest) (gf : x = y → Wp wd p l e R s m args below meth c Z own nam bytes maxL ret n0 h0 ws Q I h k n q1 Ls rest) : Wp wd p l e R s m args below meth c Z own nam bytes maxL ret n0 h0 ws Q I h k n pc Ls (y :: x :: rest) := by
  subst hq1
  by_cases hn : x = y
  · exact step (gf hn) fun E T L t vm0 B X _ hr => XT.acmpNo X.here E.1 rfl (hb E.2.1 hd) rfl hx hy (XT.aa_ne_f hn) hr
  · exact step (gt hn) fun E T L t vm0 B X _ hr => XT.acmpYes X.here E.1 rfl rfl (hb E.2.1 hd) rfl hx hy (XT.aa_ne_t hn) hq.1 hq.2 hr

theorem getfield {q1 : Nat} {i : Nat} {R0 O f d : String} {a : Addr} {v : Value} (hd : decode bytes pc = .ok (.getfield i, 3)) (hq1 : pc + 3 = q1) (w : (Cond.fieldLink own i R0 f d).before a0 Z = true) (via : Via Z R0 O f d) (F : Fld Z h a O f d v) (g : Wp wd p l e R s m args below meth c Z own nam bytes maxL ret n0 h0 ws Q I h k n q1 Ls (v :: rest)) : Wp wd p l e R s m args below meth c Z own nam bytes maxL ret n0 h0 ws Q I h k n pc Ls (.ref a :: rest) := by
  subst hq1
  exact  lawS fun E T L vm0 B X N eT => by
    obtain ⟨T', X', e', st'⟩ := getF X E.1 (bZ E B) (bO E B) (host := "") (Or.inl w) via eT F (g := mkF m pc Ls.toArray (.ref a :: rest)) rfl rfl (hb E.2.1 hd)
    exact ⟨T', L, h, k, n, X', N, e', Nat.le_refl _, st', g⟩

theorem putfield {q1 : Nat} {i kk : Nat} {R0 O f d C : String} {ty : FieldType} {a : Addr} {v old : Value} (hd : decode bytes pc = .ok (.putfield i, 3)) (hq1 : pc + 3 = q1) (w : (Cond.fieldLink own i R0 f d).before a0 Z = true) (via : Via Z R0 O f d) (F : Fld Z h a O f d old) (X0 : Exa Z h a C) (Lw : (Cond.lays C O f d).before a0 Z = true ∨ ((Cond.laysFinal C O f d).before a0 Z = true ∧ own = O ∧ nam = "<init>")) (wi : (Cond.instantiable C kk).before a0 Z = true) (hty : parseFieldDescriptor d = some ty) (hn : narrow ty v = v) (hf : fits ty v = true) (ha : a ∈ ws ∨ h0.size ≤ a)
    (g : ∀ h', Wr h h' a (Jvm.RoadKit.slotOf Z O f d) v → Wp wd p l e R s m args below meth c Z own nam bytes maxL ret n0 h0 ws Q I h' k n q1 Ls rest) : Wp wd p l e R s m args below meth c Z own nam bytes maxL ret n0 h0 ws Q I h k n pc Ls (v :: .ref a :: rest) := by
  subst hq1
  exact  lawS fun E T L vm0 B X N eT => by
    obtain ⟨T', h', X', e', W', st'⟩ := putF X E.1 (bZ E B) (bO E B) (host := "") (Or.inl w) via eT F X0 (Lw.imp id fun q => ⟨q.1, q.2.1, E.2.2.2.2.2.1.trans q.2.2⟩) wi hty hn hf (g := mkF m pc Ls.toArray (v :: .ref a :: rest)) rfl rfl (hb E.2.1 hd)
    exact ⟨T', _, h', k, n, X', Pmt.snoc N ha, e', Nat.le_of_eq W'.size.symm, st', g h' W'⟩

theorem putfieldN {q1 : Nat} {i kk : Nat} {R0 O f d C : String} {ty : FieldType} {a : Addr} {v v' old : Value} (hd : decode bytes pc = .ok (.putfield i, 3)) (hq1 : pc + 3 = q1) (w : (Cond.fieldLink own i R0 f d).before a0 Z = true) (via : Via Z R0 O f d) (F : Fld Z h a O f d old) (X0 : Exa Z h a C) (Lw : (Cond.lays C O f d).before a0 Z = true ∨ ((Cond.laysFinal C O f d).before a0 Z = true ∧ own = O ∧ nam = "<init>")) (wi : (Cond.instantiable C kk).before a0 Z = true) (hty : parseFieldDescriptor d = some ty) (hn : narrow ty v = v') (hf : fits ty v' = true) (ha : a ∈ ws ∨ h0.size ≤ a)
    (g : ∀ h', Wr h h' a (Jvm.RoadKit.slotOf Z O f d) v' → Wp wd p l e R s m args below meth c Z own nam bytes maxL ret n0 h0 ws Q I h' k n q1 Ls rest) : Wp wd p l e R s m args below meth c Z own nam bytes maxL ret n0 h0 ws Q I h k n pc Ls (v :: .ref a :: rest) := by
  subst hq1
  exact  lawS fun E T L vm0 B X N eT => by
    obtain ⟨T', h', X', e', W', st'⟩ := putFN X E.1 (bZ E B) (bO E B) w via eT F X0 (Lw.imp id fun q => ⟨q.1, q.2.1, E.2.2.2.2.2.1.trans q.2.2⟩) wi hty hn hf (g := mkF m pc Ls.toArray (v :: .ref a :: rest)) rfl rfl (hb E.2.1 hd)
    exact ⟨T', _, h', k, n, X', Pmt.snoc N ha, e', Nat.le_of_eq W'.size.symm, st', g h' W'⟩

theorem getstatic {q1 : Nat} {i : Nat} {R0 O f d : String} {v : Value} (hd : decode bytes pc = .ok (.getstatic i, 3)) (hq1 : pc + 3 = q1) (w : (Cond.fieldLink own i R0 f d).before a0 Z = true) (via : Via Z R0 O f d) (F : Sta Z h O f d v) (g : Wp wd p l e R s m args below meth c Z own nam bytes maxL ret n0 h0 ws Q I h k n q1 Ls (v :: st)) : Wp wd p l e R s m args below meth c Z own nam bytes maxL ret n0 h0 ws Q I h k n pc Ls st := by
  subst hq1
  exact  lawS fun E T L vm0 B X N eT => by
    obtain ⟨T', X', e', st'⟩ := getS (host := "") X E.1 (bZ E B) (bO E B) w via eT F (g := mkF m pc Ls.toArray st) rfl (hb E.2.1 hd)
    exact ⟨T', L, h, k, n, X', N, e', Nat.le_refl _, st', g⟩

theorem checkcast {q1 : Nat} {i : Nat} {K : String} {a : Addr} (hd : decode bytes pc = .ok (.checkcast i, 3)) (hq1 : pc + 3 = q1) (w : (Cond.classLink own i K).before a0 Z = true) (II : Ins Z h a K true) (g : Wp wd p l e R s m args below meth c Z own nam bytes maxL ret n0 h0 ws Q I h k n q1 Ls (.ref a :: rest)) : Wp wd p l e R s m args below meth c Z own nam bytes maxL ret n0 h0 ws Q I h k n pc Ls (.ref a :: rest) := by
  subst hq1
  exact  lawS fun E T L vm0 B X N eT => by
    obtain ⟨T', X', e', st'⟩ := castY X E.1 (bZ E B) (bO E B) w eT II (g := mkF m pc Ls.toArray (.ref a :: rest)) rfl rfl (hb E.2.1 hd)
    exact ⟨T', L, h, k, n, X', N, e', Nat.le_refl _, st', g⟩

theorem instanceofY {q1 : Nat} {i : Nat} {K : String} {a : Addr} (hd : decode bytes pc = .ok (.instanceof i, 3)) (hq1 : pc + 3 = q1) (w : (Cond.classLink own i K).before a0 Z = true) (II : Ins Z h a K true) (g : Wp wd p l e R s m args below meth c Z own nam bytes maxL ret n0 h0 ws Q I h k n q1 Ls (.int 1 :: rest)) : Wp wd p l e R s m args below meth c Z own nam bytes maxL ret n0 h0 ws Q I h k n pc Ls (.ref a :: rest) := by
  subst hq1
  exact  lawS fun E T L vm0 B X N eT => by
    obtain ⟨T', X', e', st'⟩ := instY X E.1 (bZ E B) (bO E B) w eT II (g := mkF m pc Ls.toArray (.ref a :: rest)) rfl rfl (hb E.2.1 hd)
    exact ⟨T', L, h, k, n, X', N, e', Nat.le_refl _, st', g⟩

theorem new {q1 : Nat} {i sz : Nat} {C : String} (hd : decode bytes pc = .ok (.new i, 3)) (hq1 : pc + 3 = q1) (w : (Cond.classLink own i C).before a0 Z = true) (wi : (Cond.instantiable C sz).before a0 Z = true) (wz : (Cond.initialized C).before a0 Z = true) (hk : k + 1 ≤ R.cells) (hn : n + sz ≤ R.slots)
    (g : h0.size ≤ h.size → ∀ h', Ext h h' → Exa Z h' h.size C → (∀ {O nm d : String} {ty : FieldType}, Laid Z a0 C O nm d → parseFieldDescriptor d = some ty → Fld Z h' h.size O nm d (defaultValue ty)) → Unt h' h.size → Wp wd p l e R s m args below meth c Z own nam bytes maxL ret n0 h0 ws Q I h' (k + 1) (n + sz) q1 Ls (.ref h.size :: st)) : Wp wd p l e R s m args below meth c Z own nam bytes maxL ret n0 h0 ws Q I h k n pc Ls st := by
  subst hq1
  exact  lawS fun E T L vm0 B X N eT => by
    obtain ⟨T', h', X', e', E', A', D', U', st'⟩ := newO X E.1 (bZ E B) (bO E B) w wi wz eT (g := mkF m pc Ls.toArray st) rfl (hb E.2.1 hd) hk hn
    exact ⟨T', L, h', _, _, X', N, e', E'.1, st', g (szOf E X eT) h' E' A' D' U'⟩

/-- an array: its kind, length and values -/
def Ary (Z : State) (h : Heap) (a : Addr) (ty : FieldType) (len : Nat) (f : Nat → Value) : Prop := ∃ cl : Cell, Arr Z h a cl ty ∧ cl.slots.size = len ∧ len < 2 ^ 31 ∧ ∀ i, i < len → cl.slots[i]? = some (f i)
theorem Ary.lt {h : Heap} {a : Addr} {ty : FieldType} {len : Nat} {f : Nat → Value} (A : Ary Z h a ty len f) : a < h.size := by obtain ⟨c, q, -⟩ := A; exact q.lt
theorem Ary.ext {h h' : Heap} {a : Addr} {ty : FieldType} {len : Nat} {f : Nat → Value} (A : Ary Z h a ty len f) (E : Ext h h') : Ary Z h' a ty len f := by obtain ⟨c, q, r⟩ := A; exact ⟨c, q.ext E, r⟩
theorem Ary.other {h h' : Heap} {a b : Addr} {ty : FieldType} {len sl : Nat} {f : Nat → Value} {v : Value} (A : Ary Z h a ty len f) (W : Wr h h' b sl v) (q : a ≠ b) : Ary Z h' a ty len f := by obtain ⟨c, q', r⟩ := A; exact ⟨c, q'.other W q, r⟩
theorem Ary.keep {h h' : Heap} {a : Addr} {ty : FieldType} {len : Nat} {f : Nat → Value} {ws : List Addr} (A : Ary Z h a ty len f) (K : Keep h h' ws) (q : a ∉ ws) : Ary Z h' a ty len f := by obtain ⟨c, q', r⟩ := A; exact ⟨c, ⟨K.2.1 a c q'.1 q, q'.2⟩, r⟩
theorem Ary.same {h h' : Heap} {a : Addr} {ty : FieldType} {len j : Nat} {f : Nat → Value} {v : Value} (A : Ary Z h a ty len f) (W : Wr h h' a j v) : Ary Z h' a ty len (fun i => if i = j then v else f i) := by
  obtain ⟨c, q, r1, r2, r3⟩ := A
  refine ⟨_, q.same W, by rw [sz_set]; exact r1, r2, fun i hi => ?_⟩
  by_cases e : i = j
  · subst e; simp [Cell.setSlot, r1, hi]
  · simp only [e, if_false]; rw [← r3 i hi]; exact Array.getElem?_setIfInBounds_ne (Ne.symm e)
theorem Ary.cong {h : Heap} {a : Addr} {ty : FieldType} {len : Nat} {f f' : Nat → Value} (A : Ary Z h a ty len f) (q : ∀ i, i < len → f i = f' i) : Ary Z h a ty len f' := by obtain ⟨c, q', r1, r2, r3⟩ := A; exact ⟨c, q', r1, r2, fun i hi => by rw [← q i hi]; exact r3 i hi⟩
theorem Ary.bound {h : Heap} {a : Addr} {ty : FieldType} {len : Nat} {f : Nat → Value} (A : Ary Z h a ty len f) : len < 2 ^ 31 := by obtain ⟨c, q, r1, r2, r3⟩ := A; exact r2
theorem idx_ok {j : Int32} {i len : Nat} (hj : j.toInt = (i : Int)) (hi : i < len) {cl : Cell} (r : cl.slots.size = len) : ¬ (j < 0 ∨ cl.slots.size ≤ j.toNatClampNeg) ∧ j.toNatClampNeg = i := by
  have e : j.toNatClampNeg = i := by simp [Int32.toNatClampNeg, hj]
  refine ⟨fun q => ?_, e⟩
  rcases q with q | q
  · rw [Int32.lt_iff_toInt_lt, hj] at q; simp at q; omega
  · omega
theorem len_int {len : Nat} {z : Int32} (hz : z.toInt = (len : Int)) (hl : len < 2 ^ 31) : len.toInt32 = z := Int32.toInt_inj.mp (by rw [len_toInt hl, hz])
theorem arraylength {q1 : Nat} {a : Addr} {ty : FieldType} {len : Nat} {f : Nat → Value} {z : Int32} (hd : decode bytes pc = .ok (.arraylength, 1)) (hq1 : pc + 1 = q1) (A : Ary Z h a ty len f) (hz : z.toInt = (len : Int)) (g : Wp wd p l e R s m args below meth c Z own nam bytes maxL ret n0 h0 ws Q I h k n q1 Ls (.int z :: rest)) : Wp wd p l e R s m args below meth c Z own nam bytes maxL ret n0 h0 ws Q I h k n pc Ls (.ref a :: rest) := by
  subst hq1
  exact  step g fun E T L t vm0 B X eT hr => by
    obtain ⟨cl, q, r1, r2, r3⟩ := A
    refine X.arraylength E.1 (by rw [eT]; exact q.1) (State.isArrayOf_alike (bZ E B).alike q.2.1) (g := mkF m pc Ls.toArray (.ref a :: rest)) rfl rfl (hb E.2.1 hd) _ ?_
    rw [r1, len_int hz r2]; exact hr
/-- a fresh array -/
theorem newarray {q1 : Nat} {aty : ArrayType} {N : Int32} {len cap : Nat} (hd : decode bytes pc = .ok (.newarray aty, 2)) (hq1 : pc + 2 = q1) (w : (Cond.arrayClass (newarray.typeOf aty)).before a0 Z = true) (hN : N.toInt = (len : Int)) (hcap : len ≤ cap) (hb0 : cap * 8 ≤ 536870912) (hk : k + 1 ≤ R.cells) (hn : n + cap ≤ R.slots)
    (g : h0.size ≤ h.size → ∀ h', Ext h h' → Ary Z h' h.size (newarray.typeOf aty) len (fun _ => defaultValue (newarray.typeOf aty)) → Wp wd p l e R s m args below meth c Z own nam bytes maxL ret n0 h0 ws Q I h' (k + 1) (n + cap) q1 Ls (.ref h.size :: rest)) : Wp wd p l e R s m args below meth c Z own nam bytes maxL ret n0 h0 ws Q I h k n pc Ls (.int N :: rest) := by
  subst hq1
  exact  lawS fun E T L vm0 B X NN eT => by
    have hneg : ¬ N < 0 := by rw [Int32.lt_iff_toInt_lt, hN]; simp
    have hcl : N.toNatClampNeg = len := by simp [Int32.toNatClampNeg, hN]
    obtain ⟨T', h', cA, X', e', E', A', st'⟩ := newP X E.1 (bZ E B) w eT (g := mkF m pc Ls.toArray (.int N :: rest)) rfl (hb E.2.1 hd) rfl hneg (cap := cap) (by omega) hb0 hk hn
    refine ⟨T', L, h', _, _, X', NN, e', E'.1, st', g (szOf E X eT) h' E' ⟨_, A', by rw [sz_new, hcl], by omega, fun i hi => ?_⟩⟩
    simp [newA, hcl, hi]
/-- a fresh array of references, with what may lie in it -/
def AryR (Z : State) (h : Heap) (a : Addr) (C : String) (len : Nat) (f : Nat → Value) : Prop := ∃ cl : Cell, Arr Z h a cl (.object C) ∧ Ovr Z cl.cls C ∧ cl.slots.size = len ∧ len < 2 ^ 31 ∧ ∀ i, i < len → cl.slots[i]? = some (f i)
theorem AryR.ary {h : Heap} {a : Addr} {C : String} {len : Nat} {f : Nat → Value} (A : AryR Z h a C len f) : Ary Z h a (.object C) len f := by obtain ⟨c, q, -, r⟩ := A; exact ⟨c, q, r⟩
theorem AryR.lt {h : Heap} {a : Addr} {C : String} {len : Nat} {f : Nat → Value} (A : AryR Z h a C len f) : a < h.size := A.ary.lt
theorem AryR.ext {h h' : Heap} {a : Addr} {C : String} {len : Nat} {f : Nat → Value} (A : AryR Z h a C len f) (E : Ext h h') : AryR Z h' a C len f := by obtain ⟨c, q, r⟩ := A; exact ⟨c, q.ext E, r⟩
theorem AryR.other {h h' : Heap} {a b : Addr} {C : String} {len sl : Nat} {f : Nat → Value} {v : Value} (A : AryR Z h a C len f) (W : Wr h h' b sl v) (q : a ≠ b) : AryR Z h' a C len f := by obtain ⟨c, q', r⟩ := A; exact ⟨c, q'.other W q, r⟩
theorem AryR.keep {h h' : Heap} {a : Addr} {C : String} {len : Nat} {f : Nat → Value} {ws : List Addr} (A : AryR Z h a C len f) (K : Keep h h' ws) (q : a ∉ ws) : AryR Z h' a C len f := by obtain ⟨c, q', r⟩ := A; exact ⟨c, ⟨K.2.1 a c q'.1 q, q'.2⟩, r⟩
theorem AryR.same {h h' : Heap} {a : Addr} {C : String} {len j : Nat} {f : Nat → Value} {v : Value} (A : AryR Z h a C len f) (W : Wr h h' a j v) : AryR Z h' a C len (fun i => if i = j then v else f i) := by
  obtain ⟨c, q, o, r1, r2, r3⟩ := A
  refine ⟨_, q.same W, o, by rw [sz_set]; exact r1, r2, fun i hi => ?_⟩
  by_cases e : i = j
  · subst e; simp [Cell.setSlot, r1, hi]
  · simp only [e, if_false]; rw [← r3 i hi]; exact Array.getElem?_setIfInBounds_ne (Ne.symm e)
theorem AryR.cong {h : Heap} {a : Addr} {C : String} {len : Nat} {f f' : Nat → Value} (A : AryR Z h a C len f) (q : ∀ i, i < len → f i = f' i) : AryR Z h a C len f' := by obtain ⟨c, q', o, r1, r2, r3⟩ := A; exact ⟨c, q', o, r1, r2, fun i hi => by rw [← q i hi]; exact r3 i hi⟩
theorem anewarray {q1 : Nat} {i : Nat} {C : String} {N : Int32} {len cap : Nat} (hd : decode bytes pc = .ok (.anewarray i, 3)) (hq1 : pc + 3 = q1) (w1 : (Cond.classLink own i C).before a0 Z = true) (w2 : (Cond.arrayOver (.object C)).before a0 Z = true) (hN : N.toInt = (len : Int)) (hcap : len ≤ cap) (hb0 : cap * 8 ≤ 536870912) (hk : k + 1 ≤ R.cells) (hn : n + cap ≤ R.slots)
    (g : h0.size ≤ h.size → ∀ h', Ext h h' → AryR Z h' h.size C len (fun _ => .null) → Wp wd p l e R s m args below meth c Z own nam bytes maxL ret n0 h0 ws Q I h' (k + 1) (n + cap) q1 Ls (.ref h.size :: rest)) : Wp wd p l e R s m args below meth c Z own nam bytes maxL ret n0 h0 ws Q I h k n pc Ls (.int N :: rest) := by
  subst hq1
  exact  lawS fun E T L vm0 B X NN eT => by
    have hneg : ¬ N < 0 := by rw [Int32.lt_iff_toInt_lt, hN]; simp
    have hcl : N.toNatClampNeg = len := by simp [Int32.toNatClampNeg, hN]
    obtain ⟨T', h', cA, X', e', E', A', O', st'⟩ := newR X E.1 (bZ E B) (bO E B) w1 w2 eT (g := mkF m pc Ls.toArray (.int N :: rest)) rfl (hb E.2.1 hd) rfl hneg (cap := cap) (by omega) hb0 hk hn
    refine ⟨T', L, h', _, _, X', NN, e', E'.1, st', g (szOf E X eT) h' E' ⟨_, A', O', by rw [sz_new, hcl], by omega, fun i hi => ?_⟩⟩
    simp [newA, hcl, hi, defaultValue]

theorem iaload {q1 : Nat} {a : Addr} {len i : Nat} {f : Nat → Value} {j : Int32} {v : Value} (hd : decode bytes pc = .ok (.iaload, 1)) (hq1 : pc + 1 = q1) (A : Ary Z h a .int len f) (hj : j.toInt = (i : Int)) (hi : i < len) (hv : f i = v) (g : Wp wd p l e R s m args below meth c Z own nam bytes maxL ret n0 h0 ws Q I h k n q1 Ls (v :: rest)) : Wp wd p l e R s m args below meth c Z own nam bytes maxL ret n0 h0 ws Q I h k n pc Ls (.int j :: .ref a :: rest) := by
  subst hq1
  exact  step g fun E T L t vm0 B X eT hr => by
    obtain ⟨cl, q, r1, r2, r3⟩ := A
    obtain ⟨b1, b2⟩ := idx_ok hj hi r1
    exact X.iaload E.1 (v := v) (by rw [eT]; exact q.1) (State.isArrayOf_alike (bZ E B).alike q.2.1) q.2.2 b1 (by rw [b2, r3 i hi, hv]) (g := mkF m pc Ls.toArray (.int j :: .ref a :: rest)) rfl rfl (hb E.2.1 hd) _ hr

theorem laload {q1 : Nat} {a : Addr} {len i : Nat} {f : Nat → Value} {j : Int32} {v : Value} (hd : decode bytes pc = .ok (.laload, 1)) (hq1 : pc + 1 = q1) (A : Ary Z h a .long len f) (hj : j.toInt = (i : Int)) (hi : i < len) (hv : f i = v) (g : Wp wd p l e R s m args below meth c Z own nam bytes maxL ret n0 h0 ws Q I h k n q1 Ls (v :: rest)) : Wp wd p l e R s m args below meth c Z own nam bytes maxL ret n0 h0 ws Q I h k n pc Ls (.int j :: .ref a :: rest) := by
  subst hq1
  exact  step g fun E T L t vm0 B X eT hr => by
    obtain ⟨cl, q, r1, r2, r3⟩ := A
    obtain ⟨b1, b2⟩ := idx_ok hj hi r1
    exact X.laload E.1 (v := v) (by rw [eT]; exact q.1) (State.isArrayOf_alike (bZ E B).alike q.2.1) q.2.2 b1 (by rw [b2, r3 i hi, hv]) (g := mkF m pc Ls.toArray (.int j :: .ref a :: rest)) rfl rfl (hb E.2.1 hd) _ hr

theorem caload {q1 : Nat} {a : Addr} {len i : Nat} {f : Nat → Value} {j : Int32} {v : Value} (hd : decode bytes pc = .ok (.caload, 1)) (hq1 : pc + 1 = q1) (A : Ary Z h a .char len f) (hj : j.toInt = (i : Int)) (hi : i < len) (hv : f i = v) (g : Wp wd p l e R s m args below meth c Z own nam bytes maxL ret n0 h0 ws Q I h k n q1 Ls (v :: rest)) : Wp wd p l e R s m args below meth c Z own nam bytes maxL ret n0 h0 ws Q I h k n pc Ls (.int j :: .ref a :: rest) := by
  subst hq1
  exact  step g fun E T L t vm0 B X eT hr => by
    obtain ⟨cl, q, r1, r2, r3⟩ := A
    obtain ⟨b1, b2⟩ := idx_ok hj hi r1
    exact X.caload E.1 (v := v) (by rw [eT]; exact q.1) (State.isArrayOf_alike (bZ E B).alike q.2.1) q.2.2 b1 (by rw [b2, r3 i hi, hv]) (g := mkF m pc Ls.toArray (.int j :: .ref a :: rest)) rfl rfl (hb E.2.1 hd) _ hr

theorem baload {q1 : Nat} {a : Addr} {len i : Nat} {f : Nat → Value} {j : Int32} {v : Value} (hd : decode bytes pc = .ok (.baload, 1)) (hq1 : pc + 1 = q1) (A : Ary Z h a .byte len f) (hj : j.toInt = (i : Int)) (hi : i < len) (hv : f i = v) (g : Wp wd p l e R s m args below meth c Z own nam bytes maxL ret n0 h0 ws Q I h k n q1 Ls (v :: rest)) : Wp wd p l e R s m args below meth c Z own nam bytes maxL ret n0 h0 ws Q I h k n pc Ls (.int j :: .ref a :: rest) := by
  subst hq1
  exact  step g fun E T L t vm0 B X eT hr => by
    obtain ⟨cl, q, r1, r2, r3⟩ := A
    obtain ⟨b1, b2⟩ := idx_ok hj hi r1
    exact X.baloadBytes E.1 (v := v) (by rw [eT]; exact q.1) (State.isArrayOf_alike (bZ E B).alike q.2.1) q.2.2 b1 (by rw [b2, r3 i hi, hv]) (g := mkF m pc Ls.toArray (.int j :: .ref a :: rest)) rfl rfl (hb E.2.1 hd) _ hr

theorem aaload {q1 : Nat} {a : Addr} {len i : Nat} {ty : FieldType} {f : Nat → Value} {j : Int32} {v : Value} (hd : decode bytes pc = .ok (.aaload, 1)) (hq1 : pc + 1 = q1) (A : Ary Z h a ty len f) (hty : ty.isReference = true) (hj : j.toInt = (i : Int)) (hi : i < len) (hv : f i = v) (g : Wp wd p l e R s m args below meth c Z own nam bytes maxL ret n0 h0 ws Q I h k n q1 Ls (v :: rest)) : Wp wd p l e R s m args below meth c Z own nam bytes maxL ret n0 h0 ws Q I h k n pc Ls (.int j :: .ref a :: rest) := by
  subst hq1
  exact  step g fun E T L t vm0 B X eT hr => by
    obtain ⟨cl, q, r1, r2, r3⟩ := A
    obtain ⟨b1, b2⟩ := idx_ok hj hi r1
    exact X.aaload E.1 (v := v) (by rw [eT]; exact q.1) (State.isArrayOf_alike (bZ E B).alike q.2.1) hty q.2.2 b1 (by rw [b2, r3 i hi, hv]) (g := mkF m pc Ls.toArray (.int j :: .ref a :: rest)) rfl rfl (hb E.2.1 hd) _ hr

theorem iastore {q1 : Nat} {a : Addr} {len i : Nat} {f : Nat → Value} {j : Int32} {x : Int32} (hd : decode bytes pc = .ok (.iastore, 1)) (hq1 : pc + 1 = q1) (A : Ary Z h a .int len f) (hj : j.toInt = (i : Int)) (hi : i < len) (ha : a ∈ ws ∨ h0.size ≤ a) (g : ∀ h', Wr h h' a i (.int x) → Wp wd p l e R s m args below meth c Z own nam bytes maxL ret n0 h0 ws Q I h' k n q1 Ls rest) : Wp wd p l e R s m args below meth c Z own nam bytes maxL ret n0 h0 ws Q I h k n pc Ls (.int x :: .int j :: .ref a :: rest) := by
  subst hq1
  exact  lawS fun E T L vm0 B X N eT => by
    obtain ⟨cl, q, r1, r2, r3⟩ := A
    obtain ⟨b1, b2⟩ := idx_ok hj hi r1
    obtain ⟨T', h', X', e', W', st'⟩ := stI X E.1 (bZ E B) eT q b1 (g := mkF m pc Ls.toArray (.int x :: .int j :: .ref a :: rest)) rfl rfl (hb E.2.1 hd)
    exact ⟨T', _, h', k, n, X', Pmt.snoc N ha, e', Nat.le_of_eq W'.size.symm, st', g h' (b2 ▸ W')⟩

theorem castore {q1 : Nat} {a : Addr} {len i : Nat} {f : Nat → Value} {j : Int32} {x : Int32} (hd : decode bytes pc = .ok (.castore, 1)) (hq1 : pc + 1 = q1) (A : Ary Z h a .char len f) (hj : j.toInt = (i : Int)) (hi : i < len) (ha : a ∈ ws ∨ h0.size ≤ a) (g : ∀ h', Wr h h' a i (.int (nar .char x)) → Wp wd p l e R s m args below meth c Z own nam bytes maxL ret n0 h0 ws Q I h' k n q1 Ls rest) : Wp wd p l e R s m args below meth c Z own nam bytes maxL ret n0 h0 ws Q I h k n pc Ls (.int x :: .int j :: .ref a :: rest) := by
  subst hq1
  exact  lawS fun E T L vm0 B X N eT => by
    obtain ⟨cl, q, r1, r2, r3⟩ := A
    obtain ⟨b1, b2⟩ := idx_ok hj hi r1
    obtain ⟨T', h', X', e', W', st'⟩ := stC X E.1 (bZ E B) eT q b1 (g := mkF m pc Ls.toArray (.int x :: .int j :: .ref a :: rest)) rfl rfl (hb E.2.1 hd)
    exact ⟨T', _, h', k, n, X', Pmt.snoc N ha, e', Nat.le_of_eq W'.size.symm, st', g h' (b2 ▸ W')⟩

theorem bastore {q1 : Nat} {a : Addr} {len i : Nat} {f : Nat → Value} {j : Int32} {x : Int32} (hd : decode bytes pc = .ok (.bastore, 1)) (hq1 : pc + 1 = q1) (A : Ary Z h a .byte len f) (hj : j.toInt = (i : Int)) (hi : i < len) (ha : a ∈ ws ∨ h0.size ≤ a) (g : ∀ h', Wr h h' a i (.int (nar .byte x)) → Wp wd p l e R s m args below meth c Z own nam bytes maxL ret n0 h0 ws Q I h' k n q1 Ls rest) : Wp wd p l e R s m args below meth c Z own nam bytes maxL ret n0 h0 ws Q I h k n pc Ls (.int x :: .int j :: .ref a :: rest) := by
  subst hq1
  exact  lawS fun E T L vm0 B X N eT => by
    obtain ⟨cl, q, r1, r2, r3⟩ := A
    obtain ⟨b1, b2⟩ := idx_ok hj hi r1
    obtain ⟨T', h', X', e', W', st'⟩ := stB X E.1 (bZ E B) eT q b1 (g := mkF m pc Ls.toArray (.int x :: .int j :: .ref a :: rest)) rfl rfl (hb E.2.1 hd)
    exact ⟨T', _, h', k, n, X', Pmt.snoc N ha, e', Nat.le_of_eq W'.size.symm, st', g h' (b2 ▸ W')⟩

theorem lastore {q1 : Nat} {a : Addr} {len i : Nat} {f : Nat → Value} {j : Int32} {x : Int64} (hd : decode bytes pc = .ok (.lastore, 1)) (hq1 : pc + 1 = q1) (A : Ary Z h a .long len f) (hj : j.toInt = (i : Int)) (hi : i < len) (ha : a ∈ ws ∨ h0.size ≤ a) (g : ∀ h', Wr h h' a i (.long x) → Wp wd p l e R s m args below meth c Z own nam bytes maxL ret n0 h0 ws Q I h' k n q1 Ls rest) : Wp wd p l e R s m args below meth c Z own nam bytes maxL ret n0 h0 ws Q I h k n pc Ls (.long x :: .int j :: .ref a :: rest) := by
  subst hq1
  exact  lawS fun E T L vm0 B X N eT => by
    obtain ⟨cl, q, r1, r2, r3⟩ := A
    obtain ⟨b1, b2⟩ := idx_ok hj hi r1
    obtain ⟨T', h', X', e', W', st'⟩ := stJ X E.1 (bZ E B) eT q b1 (g := mkF m pc Ls.toArray (.long x :: .int j :: .ref a :: rest)) rfl rfl (hb E.2.1 hd)
    exact ⟨T', _, h', k, n, X', Pmt.snoc N ha, e', Nat.le_of_eq W'.size.symm, st', g h' (b2 ▸ W')⟩

theorem aastore {q1 : Nat} {a : Addr} {C : String} {len i : Nat} {f : Nat → Value} {j : Int32} {v : Value} (hd : decode bytes pc = .ok (.aastore, 1)) (hq1 : pc + 1 = q1) (A : AryR Z h a C len f) (hj : j.toInt = (i : Int)) (hi : i < len) (ha : a ∈ ws ∨ h0.size ≤ a) (hS : v = .null ∨ ∃ y, v = .ref y ∧ Ins Z h y C true) (g : ∀ h', Wr h h' a i v → Wp wd p l e R s m args below meth c Z own nam bytes maxL ret n0 h0 ws Q I h' k n q1 Ls rest) : Wp wd p l e R s m args below meth c Z own nam bytes maxL ret n0 h0 ws Q I h k n pc Ls (v :: .int j :: .ref a :: rest) := by
  subst hq1
  exact  lawS fun E T L vm0 B X N eT => by
    obtain ⟨cl, q, o, r1, r2, r3⟩ := A
    obtain ⟨b1, b2⟩ := idx_ok hj hi r1
    have S : Sto Z h a v := by
      rcases hS with rfl | ⟨y, rfl, I⟩
      · exact Or.inl rfl
      · exact Sto.of q o I
    obtain ⟨T', h', X', e', W', st'⟩ := stR X E.1 (bZ E B) eT q b1 rfl S (g := mkF m pc Ls.toArray (v :: .int j :: .ref a :: rest)) rfl rfl (hb E.2.1 hd)
    exact ⟨T', _, h', k, n, X', Pmt.snoc N ha, e', Nat.le_of_eq W'.size.symm, st', g h' (b2 ▸ W')⟩

theorem initObj {q1 : Nat} {i : Nat} {a : Addr} (hd : decode bytes pc = .ok (.invokespecial i, 3)) (hq1 : pc + 3 = q1) (w1 : (Cond.methodLink own i Lib.objectInit).before a0 Z = true) (w2 : (Cond.instanceMethod Lib.objectInit).before a0 Z = true) (w3 : (Cond.code Lib.objectInit ⟨#[0xb1]⟩ 1 none).before a0 Z = true) (hL : Ls.length = maxL) (hr : (Nat.ble 1 R.frames && Nat.ble ((rest.map fun v => v.category).sum + 12) R.locals) = true) (g : Wp wd p l e R s m args below meth c Z own nam bytes maxL ret n0 h0 ws Q I h k n q1 Ls rest) : Wp wd p l e R s m args below meth c Z own nam bytes maxL ret n0 h0 ws Q I h k n pc Ls (.ref a :: rest) := by
  subst hq1
  exact  lawS fun E T L vm0 B X N eT => by
    have hr' := Bool.and_eq_true_iff.mp hr
    obtain ⟨T', X', e', st'⟩ := initO X E.1 (bZ E B) (bO E B) w1 w2 w3 eT (g := mkF m pc Ls.toArray (.ref a :: rest)) rfl (by rw [E.2.2.1, ← hL]; simp) rfl (hb E.2.1 hd) (Nat.le_of_ble_eq_true hr'.1) (W := (rest.map fun v => v.category).sum) (by show 2 * 0 + _ ≤ _; omega) (Nat.le_of_ble_eq_true hr'.2)
    exact ⟨T', L, h, k, n, X', N, e', Nat.le_refl _, st', g⟩

/-- the room that a call asks -/
def roomOk (R rm : Room) (maxL' : Nat) (rest : List Value) (k n : Nat) : Bool := Nat.ble (rm.frames + 1) R.frames && Nat.ble ((rest.map fun v => v.category).sum + (maxL' + 11) + rm.locals) R.locals && Nat.ble (k + rm.cells) R.cells && Nat.ble (n + rm.slots) R.slots
theorem roomOk_spec {R rm : Room} {maxL' k n : Nat} {rest : List Value} (h : roomOk R rm maxL' rest k n = true) : rm.frames + 1 ≤ R.frames ∧ (rest.map fun v => v.category).sum + (maxL' + 11) + rm.locals ≤ R.locals ∧ k + rm.cells ≤ R.cells ∧ n + rm.slots ≤ R.slots := by
  simp only [roomOk, Bool.and_eq_true] at h
  exact ⟨Nat.le_of_ble_eq_true h.1.1.1, Nat.le_of_ble_eq_true h.1.1.2, Nat.le_of_ble_eq_true h.1.2, Nat.le_of_ble_eq_true h.2⟩
theorem rev_eq (as r : List Value) : List.reverseAux as r = as.reverse ++ r := by simp [List.reverseAux_eq]
section Calls
variable {y : MethodName} {bytes' : ByteArray} {maxL' : Nat} {ret' : Option FieldType} {rm : Room} {as : List Value} {ws' : List Addr} {Q' : Option Value → Heap → Prop} {ps : List FieldType} {r' : Option FieldType} {i : Nat} {a : Addr}
theorem invokestatic {q1 : Nat} (hd : decode bytes pc = .ok (.invokestatic i, 3)) (hq1 : pc + 3 = q1) (w1 : (Cond.methodLink own i y).before a0 Z = true) (w2 : (Cond.static y).before a0 Z = true) (w3 : (Cond.initialized y.cls).before a0 Z = true) (w4 : (Cond.code y bytes' maxL' ret').before a0 Z = true) (hy : y.cls ≠ "java/lang/invoke/MethodHandle" ∧ y.cls ≠ "java/lang/invoke/VarHandle") (pd : parseMethodDescriptor y.desc = some ⟨ps, r'⟩)
    (C : Con l Z n0 y bytes' maxL' ret' rm as h ws' Q') (hst : st = List.reverseAux as rest) (hlen : as.length = ps.length) (hL : Ls.length = maxL) (hr : roomOk R rm maxL' rest k n = true) (hws : ∀ x ∈ ws', x ∈ ws ∨ h0.size ≤ x) (g : ∀ v h', Q' v h' → Keep h h' ws' → Wp wd p l e R s m args below meth c Z own nam bytes maxL ret n0 h0 ws Q I h' (k + rm.cells) (n + rm.slots) q1 Ls (psh v rest)) : Wp wd p l e R s m args below meth c Z own nam bytes maxL ret n0 h0 ws Q I h k n pc Ls st := by
  subst hq1
  exact  fun E T L vm0 B X N eT => by
    obtain ⟨r1, r2, r3, r4⟩ := roomOk_spec hr
    subst hst
    obtain ⟨v, vm, ⟨T1, L1, k1, n1⟩, -, X1, ⟨Lc, hQ, l1, y1, z1⟩, st1⟩ := Jvm.LawKit.callS X E.1 (bO E B) (mvT (bZ E B) w1) (mvT (bZ E B) w2) (mvT (bZ E B) w3) (mvT (bZ E B) w4) hy (backOf (Q := fun v h1 L => Q' v h1 ∧ Pmt h ws' L ∧ Keep h h1 ws') (C (oldOf E X N eT) (fun x hx => n0Of E (hws x hx)) []) (bZ E B) w4 w3 r1 r2) (g := mkF m pc Ls.toArray (List.reverseAux as rest)) rfl (by rw [E.2.2.1, ← hL]; simp) (argsL := as) (rest := rest) (lenOf pd hlen) (rev_eq as rest) (by show 2 * 0 + _ ≤ _; omega) (hb E.2.1 hd) (fun _ _ => ⟨rfl, eT, r3, r4⟩)
    dsimp only [Pt.U, Pt.locs, Pt.cells, Pt.slots] at X1 l1 y1 z1 st1 hQ
    subst l1 y1 z1
    obtain ⟨s2, o, hs, r⟩ := g v _ hQ.1 hQ.2.2 E T1 _ vm0 (bG B hQ.2.2.1) X1 (N.app (pmtOf E X eT hws hQ.2.1)) rfl
    exact ⟨s2, o, st1 _ (by rw [psh_eq]; exact hs), r⟩
theorem invokespecial {q1 : Nat} (hd : decode bytes pc = .ok (.invokespecial i, 3)) (hq1 : pc + 3 = q1) (hy1 : y.name = "<init>") (w1 : (Cond.methodLink own i y).before a0 Z = true) (w2 : (Cond.instanceMethod y).before a0 Z = true) (w3 : (Cond.initialized y.cls).before a0 Z = true) (w4 : (Cond.code y bytes' maxL' none).before a0 Z = true) (hy : y.cls ≠ "java/lang/invoke/MethodHandle" ∧ y.cls ≠ "java/lang/invoke/VarHandle") (pd : parseMethodDescriptor y.desc = some ⟨ps, r'⟩)
    (C : Con l Z n0 y bytes' maxL' none rm (.ref a :: as) h ws' Q') (hst : st = List.reverseAux as (.ref a :: rest)) (hlen : as.length = ps.length) (hL : Ls.length = maxL) (hr : roomOk R rm maxL' rest k n = true) (hws : ∀ x ∈ ws', x ∈ ws ∨ h0.size ≤ x) (g : ∀ v h', Q' v h' → Keep h h' ws' → Wp wd p l e R s m args below meth c Z own nam bytes maxL ret n0 h0 ws Q I h' (k + rm.cells) (n + rm.slots) q1 Ls (psh v rest)) : Wp wd p l e R s m args below meth c Z own nam bytes maxL ret n0 h0 ws Q I h k n pc Ls st := by
  subst hq1
  exact  fun E T L vm0 B X N eT => by
    obtain ⟨r1, r2, r3, r4⟩ := roomOk_spec hr
    subst hst
    obtain ⟨v, vm, ⟨T1, L1, k1, n1⟩, -, X1, ⟨Lc, hQ, l1, y1, z1⟩, st1⟩ := X.specialBack E.1 hy1 (bO E B) (mvT (bZ E B) w1) (mvT (bZ E B) w2) (mvT (bZ E B) w4) hy (backOf (Q := fun v h1 L => Q' v h1 ∧ Pmt h ws' L ∧ Keep h h1 ws') (C (oldOf E X N eT) (fun x hx => n0Of E (hws x hx)) []) (bZ E B) w4 w3 r1 r2) (g := mkF m pc Ls.toArray (List.reverseAux as (.ref a :: rest))) rfl (by rw [E.2.2.1, ← hL]; simp) (Steps.refl _) (a := a) (argsL := as) (rest := rest) (lenOf pd hlen) (rev_eq as _) (by show 2 * 0 + _ ≤ _; omega) (hb E.2.1 hd) (fun _ _ => ⟨rfl, eT, r3, r4⟩)
    dsimp only [Pt.U, Pt.locs, Pt.cells, Pt.slots] at X1 l1 y1 z1 st1 hQ
    subst l1 y1 z1
    obtain ⟨s2, o, hs, r⟩ := g v _ hQ.1 hQ.2.2 E T1 _ vm0 (bG B hQ.2.2.1) X1 (N.app (pmtOf E X eT hws hQ.2.1)) rfl
    exact ⟨s2, o, st1.trans (by rw [psh_eq]; exact hs), r⟩
theorem invokevirtual {q1 : Nat} {z : MethodName} {D : String} (hd : decode bytes pc = .ok (.invokevirtual i, 3)) (hq1 : pc + 3 = q1) (w1 : (Cond.methodLink own i y).before a0 Z = true) (w2 : (Cond.declares y).before a0 Z = true) (nf : ∀ vm0, Z.Warmed39 vm0 → NotFace (s.setVm vm0) y) (w3 : (Cond.selects D y z).before a0 Z = true) (w4 : (Cond.instanceMethod z).before a0 Z = true) (w5 : (Cond.initialized z.cls).before a0 Z = true) (w6 : (Cond.code z bytes' maxL' ret').before a0 Z = true) (hy : y.cls ≠ "java/lang/invoke/MethodHandle" ∧ y.cls ≠ "java/lang/invoke/VarHandle") (pd : parseMethodDescriptor y.desc = some ⟨ps, r'⟩)
    (X0 : Exa Z h a D) (C : Con l Z n0 z bytes' maxL' ret' rm (.ref a :: as) h ws' Q') (hst : st = List.reverseAux as (.ref a :: rest)) (hlen : as.length = ps.length) (hL : Ls.length = maxL) (hr : roomOk R rm maxL' rest k n = true) (hws : ∀ x ∈ ws', x ∈ ws ∨ h0.size ≤ x) (g : ∀ v h', Q' v h' → Keep h h' ws' → Wp wd p l e R s m args below meth c Z own nam bytes maxL ret n0 h0 ws Q I h' (k + rm.cells) (n + rm.slots) q1 Ls (psh v rest)) : Wp wd p l e R s m args below meth c Z own nam bytes maxL ret n0 h0 ws Q I h k n pc Ls st := by
  subst hq1
  exact  fun E T L vm0 B X N eT => by
    obtain ⟨r1, r2, r3, r4⟩ := roomOk_spec hr
    subst hst
    obtain ⟨cq, kq, qa, qb, qc⟩ := isOf (bZ E B) eT X0
    obtain ⟨v, vm, ⟨T1, L1, k1, n1⟩, -, X1, ⟨Lc, hQ, l1, y1, z1⟩, st1⟩ := X.virtualBack E.1 (bO E B) (mvT (bZ E B) w1) (mvT (bZ E B) w2) (nf vm0 (bZ E B)) (mvT (bZ E B) w3) (mvT (bZ E B) w4) hy (backOf (Q := fun v h1 L => Q' v h1 ∧ Pmt h ws' L ∧ Keep h h1 ws') (C (oldOf E X N eT) (fun x hx => n0Of E (hws x hx)) []) (bZ E B) w6 w5 r1 r2) qa qc (g := mkF m pc Ls.toArray (List.reverseAux as (.ref a :: rest))) rfl (by rw [E.2.2.1, ← hL]; simp) (Steps.refl _) (argsL := as) (rest := rest) (lenOf pd hlen) (rev_eq as _) (by show 2 * 0 + _ ≤ _; omega) (hb E.2.1 hd) (fun _ _ => ⟨rfl, eT, r3, r4⟩)
    dsimp only [Pt.U, Pt.locs, Pt.cells, Pt.slots] at X1 l1 y1 z1 st1 hQ
    subst l1 y1 z1
    obtain ⟨s2, o, hs, r⟩ := g v _ hQ.1 hQ.2.2 E T1 _ vm0 (bG B hQ.2.2.1) X1 (N.app (pmtOf E X eT hws hQ.2.1)) rfl
    exact ⟨s2, o, st1.trans (by rw [psh_eq]; exact hs), r⟩
/-- the method that the entry names is the one that is run -/
theorem invokevirt {q1 : Nat} (hd : decode bytes pc = .ok (.invokevirtual i, 3)) (hq1 : pc + 3 = q1) (w1 : (Cond.methodLink own i y).before a0 Z = true) (w2 : (Cond.declares y).before a0 Z = true) {D : String} (w3 : (Cond.selects D y y).before a0 Z = true) (w4 : (Cond.instanceMethod y).before a0 Z = true) (w5 : (Cond.initialized y.cls).before a0 Z = true) (w6 : (Cond.code y bytes' maxL' ret').before a0 Z = true) (hy : y.cls ≠ "java/lang/invoke/MethodHandle" ∧ y.cls ≠ "java/lang/invoke/VarHandle") (pd : parseMethodDescriptor y.desc = some ⟨ps, r'⟩)
    (X0 : Exa Z h a D) (C : Con l Z n0 y bytes' maxL' ret' rm (.ref a :: as) h ws' Q') (hst : st = List.reverseAux as (.ref a :: rest)) (hlen : as.length = ps.length) (hL : Ls.length = maxL) (hr : roomOk R rm maxL' rest k n = true) (hws : ∀ x ∈ ws', x ∈ ws ∨ h0.size ≤ x) (g : ∀ v h', Q' v h' → Keep h h' ws' → Wp wd p l e R s m args below meth c Z own nam bytes maxL ret n0 h0 ws Q I h' (k + rm.cells) (n + rm.slots) q1 Ls (psh v rest)) : Wp wd p l e R s m args below meth c Z own nam bytes maxL ret n0 h0 ws Q I h k n pc Ls st := by
  subst hq1
  exact  invokevirtual hd rfl w1 w2 (fun vm0 hz => notFace_of_selects (args := #[]) (mvT (s := s.setVm vm0) hz w3)) w3 w4 w5 w6 hy pd X0 C hst hlen hL hr hws g
/-- the entry names a method that a class above declares -/
theorem invokeup {q1 : Nat} {z : MethodName} {D owner : String} (hd : decode bytes pc = .ok (.invokevirtual i, 3)) (hq1 : pc + 3 = q1) (w1 : (Cond.methodLink own i y).before a0 Z = true) (w2 : (Cond.sameMethod y.cls owner y.name y.desc).before a0 Z = true) (w3 : (Cond.declares ⟨owner, y.name, y.desc⟩).before a0 Z = true) (ho : owner ≠ "java/lang/invoke/MethodHandle" ∧ owner ≠ "java/lang/invoke/VarHandle") (w4 : (Cond.selects D y z).before a0 Z = true) (w5 : (Cond.instanceMethod z).before a0 Z = true) (w6 : (Cond.initialized z.cls).before a0 Z = true) (w7 : (Cond.code z bytes' maxL' ret').before a0 Z = true) (pd : parseMethodDescriptor y.desc = some ⟨ps, r'⟩)
    (X0 : Exa Z h a D) (C : Con l Z n0 z bytes' maxL' ret' rm (.ref a :: as) h ws' Q') (hst : st = List.reverseAux as (.ref a :: rest)) (hlen : as.length = ps.length) (hL : Ls.length = maxL) (hr : roomOk R rm maxL' rest k n = true) (hws : ∀ x ∈ ws', x ∈ ws ∨ h0.size ≤ x) (g : ∀ v h', Q' v h' → Keep h h' ws' → Wp wd p l e R s m args below meth c Z own nam bytes maxL ret n0 h0 ws Q I h' (k + rm.cells) (n + rm.slots) q1 Ls (psh v rest)) : Wp wd p l e R s m args below meth c Z own nam bytes maxL ret n0 h0 ws Q I h k n pc Ls st := by
  subst hq1
  exact  fun E T L vm0 B X N eT => by
    obtain ⟨r1, r2, r3, r4⟩ := roomOk_spec hr
    subst hst
    obtain ⟨cq, kq, qa, qb, qc⟩ := isOf (bZ E B) eT X0
    obtain ⟨v, vm, ⟨T1, L1, k1, n1⟩, -, X1, ⟨Lc, hQ, l1, y1, z1⟩, st1⟩ := X.virtualBackUp E.1 (bO E B) (mvT (bZ E B) w1) (mvT (bZ E B) w2) (mvT (bZ E B) w3) ho (mvT (bZ E B) w4) (mvT (bZ E B) w5) (backOf (Q := fun v h1 L => Q' v h1 ∧ Pmt h ws' L ∧ Keep h h1 ws') (C (oldOf E X N eT) (fun x hx => n0Of E (hws x hx)) []) (bZ E B) w7 w6 r1 r2) qa qc (g := mkF m pc Ls.toArray (List.reverseAux as (.ref a :: rest))) rfl (by rw [E.2.2.1, ← hL]; simp) (Steps.refl _) (argsL := as) (rest := rest) (lenOf pd hlen) (rev_eq as _) (by show 2 * 0 + _ ≤ _; omega) (hb E.2.1 hd) (fun _ _ => ⟨rfl, eT, r3, r4⟩)
    dsimp only [Pt.U, Pt.locs, Pt.cells, Pt.slots] at X1 l1 y1 z1 st1 hQ
    subst l1 y1 z1
    obtain ⟨s2, o, hs, r⟩ := g v _ hQ.1 hQ.2.2 E T1 _ vm0 (bG B hQ.2.2.1) X1 (N.app (pmtOf E X eT hws hQ.2.1)) rfl
    exact ⟨s2, o, st1.trans (by rw [psh_eq]; exact hs), r⟩
theorem invokeface {q1 : Nat} {z : MethodName} {D : String} {cnt : Nat} (hd : decode bytes pc = .ok (.invokeinterface i cnt, 5)) (hq1 : pc + 5 = q1) (w1 : (Cond.methodLink own i y).before a0 Z = true) (w2 : (Cond.declares y).before a0 Z = true) (w3 : (Cond.interfaceMethod y.cls y.cls y.name y.desc).before a0 Z = true) (w4 : (Cond.selects D y z).before a0 Z = true) (w5 : (Cond.instanceMethod z).before a0 Z = true) (w5b : (Cond.publicMethod z).before a0 Z = true) (w5c : (Cond.unhidden D y.name y.desc).before a0 Z = true) (w5d : (Cond.castable D y.cls).before a0 Z = true) (w6 : (Cond.initialized z.cls).before a0 Z = true) (w7 : (Cond.code z bytes' maxL' ret').before a0 Z = true) (hy : y.cls ≠ "java/lang/invoke/MethodHandle" ∧ y.cls ≠ "java/lang/invoke/VarHandle") (hfc : ((Cond.interfaceMethod y.cls y.cls y.name y.desc).onTables && (Cond.interfaceMethod y.cls y.cls y.name y.desc).keepsFace) = true) (pd : parseMethodDescriptor y.desc = some ⟨ps, r'⟩)
    (X0 : Exa Z h a D) (C : Con l Z n0 z bytes' maxL' ret' rm (.ref a :: as) h ws' Q') (hst : st = List.reverseAux as (.ref a :: rest)) (hlen : as.length = ps.length) (hL : Ls.length = maxL) (hr : roomOk R rm maxL' rest k n = true) (hws : ∀ x ∈ ws', x ∈ ws ∨ h0.size ≤ x) (g : ∀ v h', Q' v h' → Keep h h' ws' → Wp wd p l e R s m args below meth c Z own nam bytes maxL ret n0 h0 ws Q I h' (k + rm.cells) (n + rm.slots) q1 Ls (psh v rest)) : Wp wd p l e R s m args below meth c Z own nam bytes maxL ret n0 h0 ws Q I h k n pc Ls st := by
  subst hq1
  exact  fun E T L vm0 B X N eT => by
    obtain ⟨r1, r2, r3, r4⟩ := roomOk_spec hr
    subst hst
    obtain ⟨cq, kq, qa, qb, qc⟩ := isOf (bZ E B) eT X0
    obtain ⟨v, vm, ⟨T1, L1, k1, n1⟩, -, X1, ⟨Lc, hQ, l1, y1, z1⟩, st1⟩ := X.interfaceBack E.1 (bO E B) (mvT (bZ E B) w1) (mvT (bZ E B) w2) (mvT (bZ E B) w3 hfc) (mvT (bZ E B) w4) (mvT (bZ E B) w5) (mvT (bZ E B) w5b) (mvT (bZ E B) w5c) (mvT (bZ E B) w5d) hy (backOf (Q := fun v h1 L => Q' v h1 ∧ Pmt h ws' L ∧ Keep h h1 ws') (C (oldOf E X N eT) (fun x hx => n0Of E (hws x hx)) []) (bZ E B) w7 w6 r1 r2) qa qb qc (g := mkF m pc Ls.toArray (List.reverseAux as (.ref a :: rest))) rfl (by rw [E.2.2.1, ← hL]; simp) (Steps.refl _) (argsL := as) (rest := rest) (lenOf pd hlen) (rev_eq as _) (by show 2 * 0 + _ ≤ _; omega) (hb E.2.1 hd) (fun _ _ => ⟨rfl, eT, r3, r4⟩)
    dsimp only [Pt.U, Pt.locs, Pt.cells, Pt.slots] at X1 l1 y1 z1 st1 hQ
    subst l1 y1 z1
    obtain ⟨s2, o, hs, r⟩ := g v _ hQ.1 hQ.2.2 E T1 _ vm0 (bG B hQ.2.2.1) X1 (N.app (pmtOf E X eT hws hQ.2.1)) rfl
    exact ⟨s2, o, st1.trans (by rw [psh_eq]; exact hs), r⟩
/-- a private method of the class at hand -/
theorem invokepriv {q1 : Nat} {D : String} {kk : Nat} (hd : decode bytes pc = .ok (.invokevirtual i, 3)) (hq1 : pc + 3 = q1) (w1 : (Cond.methodLink own i y).before a0 Z = true) (w2 : (Cond.instanceMethod y).before a0 Z = true) (w3 : (Cond.instantiable y.cls kk).before a0 Z = true) (w4 : (Cond.privateMethod y).before a0 Z = true) (w5 : (Cond.initialized y.cls).before a0 Z = true) (w6 : (Cond.code y bytes' maxL' ret').before a0 Z = true) (hy : y.cls ≠ "java/lang/invoke/MethodHandle" ∧ y.cls ≠ "java/lang/invoke/VarHandle") (pd : parseMethodDescriptor y.desc = some ⟨ps, r'⟩)
    (X0 : Exa Z h a D) (C : Con l Z n0 y bytes' maxL' ret' rm (.ref a :: as) h ws' Q') (hst : st = List.reverseAux as (.ref a :: rest)) (hlen : as.length = ps.length) (hL : Ls.length = maxL) (hr : roomOk R rm maxL' rest k n = true) (hws : ∀ x ∈ ws', x ∈ ws ∨ h0.size ≤ x) (g : ∀ v h', Q' v h' → Keep h h' ws' → Wp wd p l e R s m args below meth c Z own nam bytes maxL ret n0 h0 ws Q I h' (k + rm.cells) (n + rm.slots) q1 Ls (psh v rest)) : Wp wd p l e R s m args below meth c Z own nam bytes maxL ret n0 h0 ws Q I h k n pc Ls st := by
  subst hq1
  exact  fun E T L vm0 B X N eT => by
    obtain ⟨r1, r2, r3, r4⟩ := roomOk_spec hr
    subst hst
    obtain ⟨cq, q1, q2⟩ := X0.cell
    obtain ⟨ci, ki, i1, i2, -, i3, -⟩ := Cond.instantiable_spec (mvT (s := s.setVm vm0) (args := args) (bZ E B) w3)
    have hpv : (s.setVm vm0).PrivateAt y := Cond.privateMethod_at (mvP (bZ E B) w4 (args := #[]))
    have hsel : (Cond.selects y.cls y y).before args (s.setVm vm0) = true := selects_self_of_private i1 i2 (by simp only [Bool.or_eq_false_iff] at i3; exact i3.1) hpv (mvT (bZ E B) w2) hy
    obtain ⟨v, vm, ⟨T1, L1, k1, n1⟩, -, X1, ⟨Lc, hQ, l1, y1, z1⟩, st1⟩ := X.privateBack E.1 (bO E B) (mvT (bZ E B) w1) (mvT (bZ E B) w2) hsel hpv (mvT (bZ E B) w6) hy (backOf (Q := fun v h1 L => Q' v h1 ∧ Pmt h ws' L ∧ Keep h h1 ws') (C (oldOf E X N eT) (fun x hx => n0Of E (hws x hx)) []) (bZ E B) w6 w5 r1 r2) (g := mkF m pc Ls.toArray (List.reverseAux as (.ref a :: rest))) rfl (by rw [E.2.2.1, ← hL]; simp) (Steps.refl _) (a := a) (by rw [eT]; exact q1) q2 (argsL := as) (rest := rest) (lenOf pd hlen) (rev_eq as _) (by show 2 * 0 + _ ≤ _; omega) (hb E.2.1 hd) (fun _ _ => ⟨rfl, eT, r3, r4⟩)
    dsimp only [Pt.U, Pt.locs, Pt.cells, Pt.slots] at X1 l1 y1 z1 st1 hQ
    subst l1 y1 z1
    obtain ⟨s2, o, hs, r⟩ := g v _ hQ.1 hQ.2.2 E T1 _ vm0 (bG B hQ.2.2.1) X1 (N.app (pmtOf E X eT hws hQ.2.1)) rfl
    exact ⟨s2, o, st1.trans (by rw [psh_eq]; exact hs), r⟩
end Calls
/-! ### wide: constants are interned -/
section Wide
theorem sameNil {s T : State} {L : List Loc} {k n : Nat} (q : s.sameButNew T L k n) (e : T.heap = s.heap) : s.sameButNew T [] k n :=
  ⟨q.1, q.2.1, q.2.2.1, q.2.2.2.1, q.2.2.2.2.1, fun a c ha => ⟨c, by rw [e]; exact ha, rfl, rfl, fun _ _ => rfl⟩⟩
/-- ldc of a String constant whose text this run has not interned yet, ahead of the body's first write -/
theorem ldcLit {q1 : Nat} {i nn : Nat} {text : String} {Ts : List String} {vs : List Value} {z : Int32} (hd : decode bytes pc = .ok (.ldc i, 2)) (hq1 : pc + 2 = q1) (w : (Cond.stringLink own i text).before a0 Z = true) (wS : ∀ a ∈ Bundle.stringAtoms, a.before a0 Z = true) (hI : ∀ vm, I vm → IB Z vm Ts) (hnot : text ∉ Ts) (hh : Jvm.Lit.constHeld Z own i) (hcw : Jvm.Lit.compactW.before a0 Z = true)
    (ht : (∀ c ∈ text.toList, c.toNat < 256) ∧ text.toList.map (fun c => Value.int (Jvm.Lit.byteI c.toNat.toUInt16)) = vs) (hz : ¬ z < 0) (hl : z.toNatClampNeg = vs.length) (hn : 4 * text.toList.length ≤ nn) (hbig : nn ≤ 536870912) (hc : k + 2 ≤ R.cells) (hl' : n + (nn + 4) ≤ R.slots)
    (g : ∀ (a : Addr) (h' : Heap) (b : Addr) (kk : ClassId), Ext h0 h' → Exa Z h' a "java/lang/String" → Fld Z h' a "java/lang/String" "coder" "B" (.int 0) → Fld Z h' a "java/lang/String" "value" "[B" (.ref b) → Arv Z h' b kk .byte z vs (.int 0) → a < h'.size → b < h'.size → Wp true p l e R s m args below meth c Z own nam bytes maxL ret n0 h0 ws Q (fun vm => IB Z vm (text :: Ts) ∧ Lit (Z.setVm vm) own i a) h' (k + 2) (n + (nn + 4)) q1 Ls (.ref a :: st)) : Wp true p l e R s m args below meth c Z own nam bytes maxL ret n0 h0 ws Q I h0 k n pc Ls st := by
  subst hq1
  exact  fun E T L vm0 B X N eT => by
    have eh : s.heap = h0 := E.2.2.2.2.2.2.2.2.1
    have X' : Stand p l e R (s.setVm vm0) m args below meth c T [] k n := ⟨X.admits, X.cas, X.clock, X.frames, X.room, X.hears, X.method, X.code, X.here, X.tail, X.warmed, X.limits, X.bytes, sameNil X.same (by show T.heap = s.heap; rw [eT, eh])⟩
    obtain ⟨a, T', h', k1, b, kk, r1, r2, r3, r4, r5, r6, r7, r8, r9, r10, r11, r12, r13, r14, r15, r16⟩ := ldcSVL (s := s) X' E.1 B.2.1 (bO (wd := true) E B) w wS eT B.1 (Nat.le_refl _) (fun _ q => nomatch q) (fun b cl hb => by rw [eh]; exact E.2.2.2.2.2.2.2.2.2.1.2.2 b cl hb) (hI _ B.2.2) hnot hh hcw ht hz hl (g := mkF m pc Ls.toArray st) rfl (hb E.2.1 hd) hn hbig hc hl'
    obtain ⟨s2, o, hs, r⟩ := g a h' b kk r3 r8 r9 r10 r11 r12 r13 E T' [] T'.vm ⟨⟨r4.1, r4.2.mono r5⟩, r6, r14, r15⟩ r1 (Pmt.nil _ _) r2
    exact ⟨s2, o, r16 _ hs, r⟩
theorem ldcAgain {q1 : Nat} {i : Nat} {text : String} {a : Addr} (hd : decode bytes pc = .ok (.ldc i, 2)) (hq1 : pc + 2 = q1) (w : (Cond.stringLink own i text).before a0 Z = true) (hI : ∀ vm, I vm → Lit (Z.setVm vm) own i a) (g : Wp true p l e R s m args below meth c Z own nam bytes maxL ret n0 h0 ws Q I h k n q1 Ls (.ref a :: st)) : Wp true p l e R s m args below meth c Z own nam bytes maxL ret n0 h0 ws Q I h k n pc Ls st := by
  subst hq1
  exact  step g fun E T L t vm0 B X _ hr => Jvm.RoadKit.ldcAgain (s := s) X E.1 B.2.1 (bO (wd := true) E B) w (a := a) (hI _ B.2.2) (g := mkF m pc Ls.toArray st) rfl (hb E.2.1 hd) _ hr
/-- ldc of a String constant, of whose text nothing is said -/
theorem ldcAny {q1 : Nat} {i nn : Nat} {text : String} (hd : decode bytes pc = .ok (.ldc i, 2)) (hq1 : pc + 2 = q1) (w : (Cond.stringLink own i text).before a0 Z = true) (wS : ∀ a ∈ Bundle.stringAtoms, a.before a0 Z = true) (hn : 4 * text.toList.length ≤ nn) (hbig : nn ≤ 536870912) (hc : k + 2 ≤ R.cells) (hl' : n + (nn + 4) ≤ R.slots)
    (g : ∀ (a : Addr) (h' : Heap), Ext h h' → Wp true p l e R s m args below meth c Z own nam bytes maxL ret n0 h0 ws Q (fun _ => True) h' (k + 2) (n + (nn + 4)) q1 Ls (.ref a :: st)) : Wp true p l e R s m args below meth c Z own nam bytes maxL ret n0 h0 ws Q I h k n pc Ls st := by
  subst hq1
  exact  fun E T L vm0 B X N eT => by
    obtain ⟨a, T', h', k1, r1, r2, r3, r4, r5, r6, r7, r8⟩ := ldcS (s := s) X E.1 B.2.1 (bO (wd := true) E B) w wS eT B.1 (Nat.le_refl _) (g := mkF m pc Ls.toArray st) rfl (hb E.2.1 hd) hn hbig hc hl'
    obtain ⟨s2, o, hs, r⟩ := g a h' r3 E T' L T'.vm ⟨⟨r4.1, r4.2.mono r5⟩, r6, trivial⟩ r1 N r2
    exact ⟨s2, o, r8 _ hs, r⟩
variable {y : MethodName} {bytes' : ByteArray} {maxL' : Nat} {ret' : Option FieldType} {rm : Room} {as : List Value} {ws' : List Addr} {I' : Vm → Prop} {Q' : Option Value → Heap → Prop} {ps : List FieldType} {r' : Option FieldType} {i : Nat} {a : Addr}
theorem backJ {as' : Array Value} {len W' : Nat} {QL : Option Value → Heap → List Loc → Prop}
    (hM : MetFree l y (head1 [Cond.code y bytes' maxL' ret'] rm) (fun a U => a = as' ∧ Z.Warmed39 U.vm ∧ U.heap = h ∧ I' U.vm) (fun _ _ _ _ _ => True) (fun _ U o U' => ∃ v L, o = .returned v ∧ QL v U'.heap L ∧ ReturnedEndW U o U' L rm.cells rm.slots))
    (hZ : Z.Warmed39 s.vm) (wc : (Cond.code y bytes' maxL' ret').before a0 Z = true) (wz : (Cond.initialized y.cls).before a0 Z = true) (hf : rm.frames + 1 ≤ R.frames) (hl : W' + (maxL' + 11) + rm.locals ≤ R.locals) :
    BackS l R p e below s args y len W' (fun A a => a = as' ∧ A.U.heap = h ∧ I' A.U.vm ∧ A.cells + rm.cells ≤ R.cells ∧ A.slots + rm.slots ≤ R.slots)
      (fun A _ v B => ∃ L, QL v B.U.heap L ∧ B.locs = A.locs ++ L ∧ B.cells = A.cells + rm.cells ∧ B.slots = A.slots + rm.slots) :=
  BackS.of_freeW (bytes := bytes') (maxL := maxL') (ret := ret') (E := fun _ _ o t L k n => k = rm.cells ∧ n = rm.slots ∧ ∃ v, o = .returned v ∧ QL v t.heap L) hM hf hl
    (fun m meth c A a Y hp => have hU : Z.Warmed39 A.U.vm := wtrans hZ Y.warmed
      ⟨by show (Cond.and _ .tt).before a A.U = true; rw [Cond.before_and, mv hU wc]; rfl, mv hU wc, mv hU wz, hp.2.2.2.1, hp.2.2.2.2⟩)
    (fun m meth c A a g mk Y hp => ⟨hp.1, wtrans hZ Y.warmed, hp.2.1, hp.2.2.1⟩) (fun _ _ _ _ _ _ _ _ _ => trivial)
    (fun _ _ _ _ ⟨v, L, h1, h2, h3⟩ => ⟨L, _, _, h3, rfl, rfl, v, h1, h2⟩)
    (fun m meth c A a g mk v t L k n Y hp _ _ ⟨e1, e2, v', e3, e4⟩ => by cases e3; subst e1 e2; exact ⟨L, e4, rfl, rfl, rfl⟩)
/-- what is known of the tables stands under tables that are warmer in the narrow sense -/
def Stab (I I' : Vm → Prop) : Prop := ∀ (s : State) (vm vm' : Vm), (s.setVm vm).WarmedH vm' → I vm → I' vm'
theorem stabIB {Z : State} {Ts : List String} : Stab (fun vm => IB Z vm Ts) (fun vm => IB Z vm Ts) := fun s vm vm' hW ⟨more, e, q⟩ => ⟨more, by rw [hW.interned_eq]; exact e, q⟩
theorem stabT {I : Vm → Prop} : Stab I (fun _ => True) := fun _ _ _ _ _ => trivial
theorem rebase {Z s : State} {vm0 vm1 : Vm} {h : Heap} {U : State} (B : Base true I Z s vm0 h) (hS : (s.setVm vm0).Since U.vm U.heap.size) (hg : h.size ≤ U.heap.size) (hv : U.vm = vm1) : Base true (fun _ => True) Z s vm1 U.heap := by
  subst hv
  exact ⟨B.1.trans hS hg, State.Warmed39.trans (t := s.setVm vm0) B.2.1 hS.1, trivial⟩
theorem invokestaticW {q1 : Nat} (hd : decode bytes pc = .ok (.invokestatic i, 3)) (hq1 : pc + 3 = q1) (w1 : (Cond.methodLink own i y).before a0 Z = true) (w2 : (Cond.static y).before a0 Z = true) (w3 : (Cond.initialized y.cls).before a0 Z = true) (w4 : (Cond.code y bytes' maxL' ret').before a0 Z = true) (hy : y.cls ≠ "java/lang/invoke/MethodHandle" ∧ y.cls ≠ "java/lang/invoke/VarHandle") (pd : parseMethodDescriptor y.desc = some ⟨ps, r'⟩)
    (C : ConW l Z n0 y bytes' maxL' ret' rm as h ws' I' Q') (hst : st = List.reverseAux as rest) (hlen : as.length = ps.length) (hL : Ls.length = maxL) (hr : roomOk R rm maxL' rest k n = true) (hws : ∀ x ∈ ws', x ∈ ws ∨ h0.size ≤ x) (hSt : Stab I I') (g : ∀ v h', Q' v h' → Keep h h' ws' → Wp true p l e R s m args below meth c Z own nam bytes maxL ret n0 h0 ws Q (fun _ => True) h' (k + rm.cells) (n + rm.slots) q1 Ls (psh v rest)) : Wp true p l e R s m args below meth c Z own nam bytes maxL ret n0 h0 ws Q I h k n pc Ls st := by
  subst hq1
  exact  fun E T L vm0 B X N eT => by
    obtain ⟨r1, r2, r3, r4⟩ := roomOk_spec hr
    subst hst
    obtain ⟨v, vm, ⟨T1, L1, k1, n1⟩, -, X1, hS, hgr, ⟨Lc, hQ, l1, y1, z1⟩, st1⟩ := callSS X E.1 (bO E B) (mvT (bZ E B) w1) (mvT (bZ E B) w2) (mvT (bZ E B) w3) (mvT (bZ E B) w4) hy (backJ (QL := fun v h1 L => Q' v h1 ∧ Pmt h ws' L ∧ Keep h h1 ws') (C (oldOf E X N eT) (fun x hx => n0Of E (hws x hx)) []) (bZ E B) w4 w3 r1 r2) (g := mkF m pc Ls.toArray (List.reverseAux as rest)) rfl (by rw [E.2.2.1, ← hL]; simp) (argsL := as) (rest := rest) (lenOf pd hlen) (rev_eq as rest) (by show 2 * 0 + _ ≤ _; omega) (hb E.2.1 hd) (fun vm1 hw1 => ⟨rfl, eT, hSt s vm0 vm1 hw1 B.2.2, r3, r4⟩)
    dsimp only [Pt.U, Pt.locs, Pt.cells, Pt.slots] at X1 l1 y1 z1 st1 hQ hS hgr
    subst l1 y1 z1
    obtain ⟨s2, o, hs, r⟩ := g v _ hQ.1 hQ.2.2 E T1 _ T1.vm (rebase B hS (by rw [← eT]; exact hgr) rfl) X1 (N.app (pmtOf E X eT hws hQ.2.1)) rfl
    exact ⟨s2, o, st1.trans (by rw [psh_eq]; exact hs), r⟩
theorem invokespecialW {q1 : Nat} (hd : decode bytes pc = .ok (.invokespecial i, 3)) (hq1 : pc + 3 = q1) (hy1 : y.name = "<init>") (w1 : (Cond.methodLink own i y).before a0 Z = true) (w2 : (Cond.instanceMethod y).before a0 Z = true) (w3 : (Cond.initialized y.cls).before a0 Z = true) (w4 : (Cond.code y bytes' maxL' none).before a0 Z = true) (hy : y.cls ≠ "java/lang/invoke/MethodHandle" ∧ y.cls ≠ "java/lang/invoke/VarHandle") (pd : parseMethodDescriptor y.desc = some ⟨ps, r'⟩)
    (C : ConW l Z n0 y bytes' maxL' none rm (.ref a :: as) h ws' I' Q') (hst : st = List.reverseAux as (.ref a :: rest)) (hlen : as.length = ps.length) (hL : Ls.length = maxL) (hr : roomOk R rm maxL' rest k n = true) (hws : ∀ x ∈ ws', x ∈ ws ∨ h0.size ≤ x) (hSt : Stab I I') (g : ∀ v h', Q' v h' → Keep h h' ws' → Wp true p l e R s m args below meth c Z own nam bytes maxL ret n0 h0 ws Q (fun _ => True) h' (k + rm.cells) (n + rm.slots) q1 Ls (psh v rest)) : Wp true p l e R s m args below meth c Z own nam bytes maxL ret n0 h0 ws Q I h k n pc Ls st := by
  subst hq1
  exact  fun E T L vm0 B X N eT => by
    obtain ⟨r1, r2, r3, r4⟩ := roomOk_spec hr
    subst hst
    obtain ⟨v, vm, ⟨T1, L1, k1, n1⟩, -, X1, hS, hgr, ⟨Lc, hQ, l1, y1, z1⟩, st1⟩ := X.specialBackS E.1 hy1 (bO E B) (mvT (bZ E B) w1) (mvT (bZ E B) w2) (mvT (bZ E B) w4) hy (backJ (QL := fun v h1 L => Q' v h1 ∧ Pmt h ws' L ∧ Keep h h1 ws') (C (oldOf E X N eT) (fun x hx => n0Of E (hws x hx)) []) (bZ E B) w4 w3 r1 r2) (g := mkF m pc Ls.toArray (List.reverseAux as (.ref a :: rest))) rfl (by rw [E.2.2.1, ← hL]; simp) (Steps.refl _) (a := a) (argsL := as) (rest := rest) (lenOf pd hlen) (rev_eq as _) (by show 2 * 0 + _ ≤ _; omega) (hb E.2.1 hd) (fun vm1 hw1 => ⟨rfl, eT, hSt s vm0 vm1 hw1 B.2.2, r3, r4⟩)
    dsimp only [Pt.U, Pt.locs, Pt.cells, Pt.slots] at X1 l1 y1 z1 st1 hQ hS hgr
    subst l1 y1 z1
    obtain ⟨s2, o, hs, r⟩ := g v _ hQ.1 hQ.2.2 E T1 _ T1.vm (rebase B hS (by rw [← eT]; exact hgr) rfl) X1 (N.app (pmtOf E X eT hws hQ.2.1)) rfl
    exact ⟨s2, o, st1.trans (by rw [psh_eq]; exact hs), r⟩
end Wide
/-! the end -/
theorem ret_v (hd : decode bytes pc = .ok (.return_, 1)) (hret : ret = none) (hr : (Nat.ble k R.cells && Nat.ble n R.slots) = true) (hQ : Q none h) : Wp wd p l e R s m args below meth c Z own nam bytes maxL ret n0 h0 ws Q I h k n pc Ls [] := fun E T L vm0 B X N eT => by
  have hr' := Bool.and_eq_true_iff.mp hr
  obtain ⟨fs, hrr, hrun, hended, hW, hsame⟩ := X.leave (v := none) (fun _ => rfl) E.2.2.2.2.2.2.2.1
  refine ⟨_, _, ?_, hrun, hended, _, _, rfl, ⟨?_, N⟩, endOf E B ⟨_, rfl⟩ hW hsame eT (Nat.le_of_ble_eq_true hr'.1) (Nat.le_of_ble_eq_true hr'.2)⟩
  · exact X.returnOut E.1 (E.2.2.2.2.2.2.1.trans hret) (hb E.2.1 hd) hrr
  · show Q none T.heap
    rw [eT]; exact hQ
theorem ret_w {w : Value} {t : FieldType} {ii : Instr} (hd : decode bytes pc = .ok (ii, 1)) (hret : ret = some t) (hn : narrow t w = w)
    (hi : (ii = .ireturn ∧ (t = .int ∨ t = .boolean ∨ t = .byte ∨ t = .char ∨ t = .short) ∧ ∃ z, w = .int z) ∨ (ii = .lreturn ∧ t = .long ∧ ∃ z, w = .long z) ∨ (ii = .dreturn ∧ t = .double ∧ ∃ z, w = .double z) ∨ (ii = .freturn ∧ t = .float ∧ ∃ z, w = .float z) ∨ (ii = .areturn ∧ t.isReference = true ∧ w.isRef = true))
    (hr : (Nat.ble k R.cells && Nat.ble n R.slots) = true) (hQ : Q (some w) h) : Wp wd p l e R s m args below meth c Z own nam bytes maxL ret n0 h0 ws Q I h k n pc Ls (w :: rest) := fun E T L vm0 B X N eT => by
  have hr' := Bool.and_eq_true_iff.mp hr
  obtain ⟨fs, hrr, hrun, hended, hW, hsame⟩ := X.leave (v := some w) (fun h => by rw [E.2.2.2.2.2.2.1, hret] at h; cases h) E.2.2.2.2.2.2.2.1
  refine ⟨_, _, ?_, hrun, hended, _, _, rfl, ⟨?_, N⟩, endOf E B ⟨_, rfl⟩ hW hsame eT (Nat.le_of_ble_eq_true hr'.1) (Nat.le_of_ble_eq_true hr'.2)⟩
  · exact retOut X E.1 (E.2.2.2.2.2.2.1.trans hret) hn hi (hb E.2.1 hd) hrr
  · show Q _ T.heap
    rw [eT]; exact hQ
theorem ret_i {x : Int32} (hd : decode bytes pc = .ok (.ireturn, 1)) (hret : ret = some .int) (hr : (Nat.ble k R.cells && Nat.ble n R.slots) = true) (hQ : Q (some (.int x)) h) : Wp wd p l e R s m args below meth c Z own nam bytes maxL ret n0 h0 ws Q I h k n pc Ls (.int x :: rest) :=
  ret_w hd hret rfl (Or.inl ⟨rfl, Or.inl rfl, x, rfl⟩) hr hQ
theorem ret_l {x : Int64} (hd : decode bytes pc = .ok (.lreturn, 1)) (hret : ret = some .long) (hr : (Nat.ble k R.cells && Nat.ble n R.slots) = true) (hQ : Q (some (.long x)) h) : Wp wd p l e R s m args below meth c Z own nam bytes maxL ret n0 h0 ws Q I h k n pc Ls (.long x :: rest) :=
  ret_w hd hret rfl (Or.inr (Or.inl ⟨rfl, rfl, x, rfl⟩)) hr hQ
theorem ret_a {w : Value} {t : FieldType} (hd : decode bytes pc = .ok (.areturn, 1)) (hret : ret = some t) (ht : t.isReference = true) (hw : w.isRef = true) (hr : (Nat.ble k R.cells && Nat.ble n R.slots) = true) (hQ : Q (some w) h) : Wp wd p l e R s m args below meth c Z own nam bytes maxL ret n0 h0 ws Q I h k n pc Ls (w :: rest) :=
  ret_w hd hret (by cases t <;> first | (cases ht; done) | (cases w <;> first | rfl | (cases hw; done))) (Or.inr (Or.inr (Or.inr (Or.inr ⟨rfl, ht, hw⟩)))) hr hQ
theorem ret_n {x : Int32} {t : FieldType} (hd : decode bytes pc = .ok (.ireturn, 1)) (hret : ret = some t) (ht : t = .boolean ∨ t = .byte ∨ t = .char ∨ t = .short) (hr : (Nat.ble k R.cells && Nat.ble n R.slots) = true) (hQ : Q (some (.int (nar t x))) h) : Wp wd p l e R s m args below meth c Z own nam bytes maxL ret n0 h0 ws Q I h k n pc Ls (.int x :: rest) := fun E T L vm0 B X N eT => by
  have hr' := Bool.and_eq_true_iff.mp hr
  obtain ⟨fs, hrr, hrun, hended, hW, hsame⟩ := X.leave (v := some (.int (nar t x))) (fun h => by rw [E.2.2.2.2.2.2.1, hret] at h; cases h) E.2.2.2.2.2.2.2.1
  refine ⟨_, _, ?_, hrun, hended, _, _, rfl, ⟨?_, N⟩, endOf E B ⟨_, rfl⟩ hW hsame eT (Nat.le_of_ble_eq_true hr'.1) (Nat.le_of_ble_eq_true hr'.2)⟩
  · exact retN X E.1 (E.2.2.2.2.2.2.1.trans hret) ht (hb E.2.1 hd) hrr
  · show Q _ T.heap
    rw [eT]; exact hQ
end Walk
end Jvm.OwnWp
namespace Jvm.Pilot.@@N@@
open Jvm Jvm.ClassFile Sem Op Lib Jvm.Free Jvm.Stand Jvm.LawKit Jvm.RoadKit Jvm.OwnWp Bundle Jvm.Pilot.@@N@@.Jvm.D
theorem ww {Z : State} {a0 : Array Value} (hw : ∀ d ∈ tables_1, d.before a0 Z = true) (i : Nat) {d : Jvm.Cond} (h : tables_1[i]? = some d) : d.before a0 Z = true := hw d (List.mem_of_getElem? h)
theorem pd0 : parseMethodDescriptor "([C)V" = some ⟨[(.array .char)], none⟩ := by decide +kernel
theorem pd1 : parseMethodDescriptor "([CIILjava/lang/Void;)V" = some ⟨[(.array .char), .int, .int, (.object "java/lang/Void")], none⟩ := by decide +kernel
theorem pd2 : parseMethodDescriptor "()V" = some ⟨[], none⟩ := by decide +kernel
theorem pd3 : parseMethodDescriptor "(II)V" = some ⟨[.int, .int], none⟩ := by decide +kernel
theorem pd4 : parseMethodDescriptor "(Ljava/lang/String;Lcom/example/pathbook/pathbook/document/Position;)Lcom/example/pathbook/pathbook/document/ScalarNode;" = some ⟨[(.object "java/lang/String"), (.object "com/example/pathbook/pathbook/document/Position")], some (.object "com/example/pathbook/pathbook/document/ScalarNode")⟩ := by decide +kernel
theorem pd5 : parseMethodDescriptor "(Lcom/example/pathbook/pathbook/document/ScalarNode$Kind;Ljava/lang/String;Lcom/example/pathbook/pathbook/document/Position;)V" = some ⟨[(.object "com/example/pathbook/pathbook/document/ScalarNode$Kind"), (.object "java/lang/String"), (.object "com/example/pathbook/pathbook/document/Position")], none⟩ := by decide +kernel
theorem pd6 : parseMethodDescriptor "(Lcom/example/pathbook/pathbook/document/Position;)V" = some ⟨[(.object "com/example/pathbook/pathbook/document/Position")], none⟩ := by decide +kernel
theorem pd7 : parseMethodDescriptor "()Lcom/example/pathbook/pathbook/document/ScalarNode$Kind;" = some ⟨[], some (.object "com/example/pathbook/pathbook/document/ScalarNode$Kind")⟩ := by decide +kernel
theorem pd8 : parseMethodDescriptor "()Ljava/lang/String;" = some ⟨[], some (.object "java/lang/String")⟩ := by decide +kernel
theorem pd9 : parseMethodDescriptor "(Ljava/lang/Object;)Z" = some ⟨[(.object "java/lang/Object")], some .boolean⟩ := by decide +kernel
theorem pd10 : parseMethodDescriptor "()Lcom/example/pathbook/pathbook/document/Position;" = some ⟨[], some (.object "com/example/pathbook/pathbook/document/Position")⟩ := by decide +kernel
theorem pd11 : parseMethodDescriptor "()I" = some ⟨[], some .int⟩ := by decide +kernel
theorem pd12 : parseMethodDescriptor "([CII)[B" = some ⟨[(.array .char), .int, .int], some (.array .byte)⟩ := by decide +kernel
theorem pd13 : parseMethodDescriptor "([CI[BII)I" = some ⟨[(.array .char), .int, (.array .byte), .int, .int], some .int⟩ := by decide +kernel
theorem pd14 : parseMethodDescriptor "([BI)B" = some ⟨[(.array .byte), .int], some .byte⟩ := by decide +kernel
theorem pd15 : parseMethodDescriptor "(I)[B" = some ⟨[.int], some (.array .byte)⟩ := by decide +kernel
theorem pd16 : parseMethodDescriptor "(I)I" = some ⟨[.int], some .int⟩ := by decide +kernel
theorem pd17 : parseMethodDescriptor "([BII)V" = some ⟨[(.array .byte), .int, .int], none⟩ := by decide +kernel
theorem pd18 : parseMethodDescriptor "([BI)C" = some ⟨[(.array .byte), .int], some .char⟩ := by decide +kernel
theorem own_succ {j : Int32} {i : Nat} (h : j.toInt = (i : Int)) (hb : i < 2147483647) : (j + 1).toInt = ((i + 1 : Nat) : Int) := by
  have e : (1 : Int32).toInt = 1 := rfl
  rw [XT.add32 (by rw [h, e]; constructor <;> omega), h, e]; omega
theorem own_lt {x y : Int32} : x < y ↔ x.toInt < y.toInt := Int32.lt_iff_toInt_lt
theorem own_eq {x y : Int32} (h : x.toInt = y.toInt) : x = y := Int32.toInt_inj.mp h
theorem own_b8 (x : Int32) : nar .byte (x.toInt8.toInt32) = x.toInt8.toInt32 := by simp [nar]
theorem own_and255 (x : Int32) : ∃ n : Nat, (x &&& 255).toInt = (n : Int) ∧ n < 256 := by
  have h := c_mask x 255 8 (by decide) (by decide)
  refine ⟨(x &&& 255).toInt.toNat, ?_, ?_⟩ <;> omega
theorem own_c8 (x : Int32) : nar .char ((x &&& 255).toUInt32.toUInt16.toUInt32.toInt32) = x &&& 255 := by
  rw [i2c_mask]; exact i2c_mask x
theorem own_le255 (x : Int32) : ¬ (255 : Int32) < x &&& 255 := by
  obtain ⟨n, h1, h2⟩ := own_and255 x
  rw [own_lt, h1]; have : (255 : Int32).toInt = 255 := rfl; omega
theorem own_in1 {a : Addr} : ∀ {L : List Addr}, a ∈ a :: L := List.mem_cons_self
theorem d1_0 : decode jdk_42_method_3_code 0 = .ok (.aload_n 0, 1) := by decide +kernel
theorem d1_1 : decode jdk_42_method_3_code 1 = .ok (.aload_n 1, 1) := by decide +kernel
theorem d1_2 : decode jdk_42_method_3_code 2 = .ok (.iconst 0, 1) := by decide +kernel
theorem d1_3 : decode jdk_42_method_3_code 3 = .ok (.aload_n 1, 1) := by decide +kernel
theorem d1_4 : decode jdk_42_method_3_code 4 = .ok (.arraylength, 1) := by decide +kernel
theorem d1_5 : decode jdk_42_method_3_code 5 = .ok (.aconst_null, 1) := by decide +kernel
theorem d1_6 : decode jdk_42_method_3_code 6 = .ok (.invokespecial 27, 3) := by decide +kernel
theorem d1_9 : decode jdk_42_method_3_code 9 = .ok (.return_, 1) := by decide +kernel
theorem d2_0 : decode jdk_42_method_149_code 0 = .ok (.aload_n 0, 1) := by decide +kernel
theorem d2_1 : decode jdk_42_method_149_code 1 = .ok (.invokespecial 1, 3) := by decide +kernel
theorem d2_4 : decode jdk_42_method_149_code 4 = .ok (.iload_n 3, 1) := by decide +kernel
theorem d2_5 : decode jdk_42_method_149_code 5 = .ok (.ifCond .ne 22, 3) := by decide +kernel
theorem d2_8 : decode jdk_42_method_149_code 8 = .ok (.aload_n 0, 1) := by decide +kernel
theorem d2_9 : decode jdk_42_method_149_code 9 = .ok (.ldc 7, 2) := by decide +kernel
theorem d2_11 : decode jdk_42_method_149_code 11 = .ok (.getfield 9, 3) := by decide +kernel
theorem d2_14 : decode jdk_42_method_149_code 14 = .ok (.putfield 9, 3) := by decide +kernel
theorem d2_17 : decode jdk_42_method_149_code 17 = .ok (.aload_n 0, 1) := by decide +kernel
theorem d2_18 : decode jdk_42_method_149_code 18 = .ok (.ldc 7, 2) := by decide +kernel
theorem d2_20 : decode jdk_42_method_149_code 20 = .ok (.getfield 15, 3) := by decide +kernel
theorem d2_23 : decode jdk_42_method_149_code 23 = .ok (.putfield 15, 3) := by decide +kernel
theorem d2_26 : decode jdk_42_method_149_code 26 = .ok (.return_, 1) := by decide +kernel
theorem d2_27 : decode jdk_42_method_149_code 27 = .ok (.getstatic 38, 3) := by decide +kernel
theorem d2_30 : decode jdk_42_method_149_code 30 = .ok (.ifCond .eq 28, 3) := by decide +kernel
theorem d2_33 : decode jdk_42_method_149_code 33 = .ok (.aload_n 1, 1) := by decide +kernel
theorem d2_34 : decode jdk_42_method_149_code 34 = .ok (.iload_n 2, 1) := by decide +kernel
theorem d2_35 : decode jdk_42_method_149_code 35 = .ok (.iload_n 3, 1) := by decide +kernel
theorem d2_36 : decode jdk_42_method_149_code 36 = .ok (.invokestatic 177, 3) := by decide +kernel
theorem d2_39 : decode jdk_42_method_149_code 39 = .ok (.astore 5, 2) := by decide +kernel
theorem d2_41 : decode jdk_42_method_149_code 41 = .ok (.aload_n 0, 1) := by decide +kernel
theorem d2_42 : decode jdk_42_method_149_code 42 = .ok (.aload 5, 2) := by decide +kernel
theorem d2_44 : decode jdk_42_method_149_code 44 = .ok (.iload_n 3, 1) := by decide +kernel
theorem d2_45 : decode jdk_42_method_149_code 45 = .ok (.invokestatic 47, 3) := by decide +kernel
theorem d2_48 : decode jdk_42_method_149_code 48 = .ok (.putfield 15, 3) := by decide +kernel
theorem d2_51 : decode jdk_42_method_149_code 51 = .ok (.aload_n 0, 1) := by decide +kernel
theorem d2_52 : decode jdk_42_method_149_code 52 = .ok (.aload 5, 2) := by decide +kernel
theorem d2_54 : decode jdk_42_method_149_code 54 = .ok (.putfield 9, 3) := by decide +kernel
theorem d2_57 : decode jdk_42_method_149_code 57 = .ok (.return_, 1) := by decide +kernel
theorem d2_58 : decode jdk_42_method_149_code 58 = .ok (.aload_n 0, 1) := by decide +kernel
theorem d2_59 : decode jdk_42_method_149_code 59 = .ok (.iconst 1, 1) := by decide +kernel
theorem d2_60 : decode jdk_42_method_149_code 60 = .ok (.putfield 15, 3) := by decide +kernel
theorem d2_63 : decode jdk_42_method_149_code 63 = .ok (.aload_n 0, 1) := by decide +kernel
theorem d2_64 : decode jdk_42_method_149_code 64 = .ok (.aload_n 1, 1) := by decide +kernel
theorem d2_65 : decode jdk_42_method_149_code 65 = .ok (.iload_n 2, 1) := by decide +kernel
theorem d2_66 : decode jdk_42_method_149_code 66 = .ok (.iload_n 3, 1) := by decide +kernel
theorem d2_67 : decode jdk_42_method_149_code 67 = .ok (.invokestatic 180, 3) := by decide +kernel
theorem d2_70 : decode jdk_42_method_149_code 70 = .ok (.putfield 9, 3) := by decide +kernel
theorem d2_73 : decode jdk_42_method_149_code 73 = .ok (.return_, 1) := by decide +kernel
theorem d15_0 : decode jdk_52_method_16_code 0 = .ok (.iload_n 2, 1) := by decide +kernel
theorem d15_1 : decode jdk_52_method_16_code 1 = .ok (.newarray .byte, 2) := by decide +kernel
theorem d15_3 : decode jdk_52_method_16_code 3 = .ok (.astore_n 3, 1) := by decide +kernel
theorem d15_4 : decode jdk_52_method_16_code 4 = .ok (.aload_n 0, 1) := by decide +kernel
theorem d15_5 : decode jdk_52_method_16_code 5 = .ok (.iload_n 1, 1) := by decide +kernel
theorem d15_6 : decode jdk_52_method_16_code 6 = .ok (.aload_n 3, 1) := by decide +kernel
theorem d15_7 : decode jdk_52_method_16_code 7 = .ok (.iconst 0, 1) := by decide +kernel
theorem d15_8 : decode jdk_52_method_16_code 8 = .ok (.iload_n 2, 1) := by decide +kernel
theorem d15_9 : decode jdk_52_method_16_code 9 = .ok (.invokestatic 115, 3) := by decide +kernel
theorem d15_12 : decode jdk_52_method_16_code 12 = .ok (.istore 4, 2) := by decide +kernel
theorem d15_14 : decode jdk_52_method_16_code 14 = .ok (.iload 4, 2) := by decide +kernel
theorem d15_16 : decode jdk_52_method_16_code 16 = .ok (.iload_n 2, 1) := by decide +kernel
theorem d15_17 : decode jdk_52_method_16_code 17 = .ok (.if_icmp .eq 40, 3) := by decide +kernel
theorem d15_20 : decode jdk_52_method_16_code 20 = .ok (.aload_n 0, 1) := by decide +kernel
theorem d15_21 : decode jdk_52_method_16_code 21 = .ok (.iload_n 1, 1) := by decide +kernel
theorem d15_22 : decode jdk_52_method_16_code 22 = .ok (.iload_n 2, 1) := by decide +kernel
theorem d15_23 : decode jdk_52_method_16_code 23 = .ok (.invokestatic 119, 3) := by decide +kernel
theorem d15_26 : decode jdk_52_method_16_code 26 = .ok (.astore 5, 2) := by decide +kernel
theorem d15_28 : decode jdk_52_method_16_code 28 = .ok (.aload 5, 2) := by decide +kernel
theorem d15_30 : decode jdk_52_method_16_code 30 = .ok (.iload 4, 2) := by decide +kernel
theorem d15_32 : decode jdk_52_method_16_code 32 = .ok (.invokestatic 71, 3) := by decide +kernel
theorem d15_35 : decode jdk_52_method_16_code 35 = .ok (.sipush 255, 3) := by decide +kernel
theorem d15_38 : decode jdk_52_method_16_code 38 = .ok (.if_icmp .gt 16, 3) := by decide +kernel
theorem d15_41 : decode jdk_52_method_16_code 41 = .ok (.aload 5, 2) := by decide +kernel
theorem d15_43 : decode jdk_52_method_16_code 43 = .ok (.iconst 0, 1) := by decide +kernel
theorem d15_44 : decode jdk_52_method_16_code 44 = .ok (.aload_n 3, 1) := by decide +kernel
theorem d15_45 : decode jdk_52_method_16_code 45 = .ok (.iconst 0, 1) := by decide +kernel
theorem d15_46 : decode jdk_52_method_16_code 46 = .ok (.iload_n 2, 1) := by decide +kernel
theorem d15_47 : decode jdk_52_method_16_code 47 = .ok (.invokestatic 123, 3) := by decide +kernel
theorem d15_50 : decode jdk_52_method_16_code 50 = .ok (.iload_n 2, 1) := by decide +kernel
theorem d15_51 : decode jdk_52_method_16_code 51 = .ok (.if_icmp .eq 6, 3) := by decide +kernel
theorem d15_54 : decode jdk_52_method_16_code 54 = .ok (.aload 5, 2) := by decide +kernel
theorem d15_56 : decode jdk_52_method_16_code 56 = .ok (.areturn, 1) := by decide +kernel
theorem d15_57 : decode jdk_52_method_16_code 57 = .ok (.aload_n 3, 1) := by decide +kernel
theorem d15_58 : decode jdk_52_method_16_code 58 = .ok (.areturn, 1) := by decide +kernel
theorem d16_0 : decode jdk_52_method_21_code 0 = .ok (.iconst 0, 1) := by decide +kernel
theorem d16_1 : decode jdk_52_method_21_code 1 = .ok (.istore 5, 2) := by decide +kernel
theorem d16_3 : decode jdk_52_method_21_code 3 = .ok (.iload 5, 2) := by decide +kernel
theorem d16_5 : decode jdk_52_method_21_code 5 = .ok (.iload 4, 2) := by decide +kernel
theorem d16_7 : decode jdk_52_method_21_code 7 = .ok (.if_icmp .ge 37, 3) := by decide +kernel
theorem d16_10 : decode jdk_52_method_21_code 10 = .ok (.aload_n 0, 1) := by decide +kernel
theorem d16_11 : decode jdk_52_method_21_code 11 = .ok (.iload_n 1, 1) := by decide +kernel
theorem d16_12 : decode jdk_52_method_21_code 12 = .ok (.caload, 1) := by decide +kernel
theorem d16_13 : decode jdk_52_method_21_code 13 = .ok (.istore 6, 2) := by decide +kernel
theorem d16_15 : decode jdk_52_method_21_code 15 = .ok (.iload 6, 2) := by decide +kernel
theorem d16_17 : decode jdk_52_method_21_code 17 = .ok (.sipush 255, 3) := by decide +kernel
theorem d16_20 : decode jdk_52_method_21_code 20 = .ok (.if_icmp .le 6, 3) := by decide +kernel
theorem d16_23 : decode jdk_52_method_21_code 23 = .ok (.iload 5, 2) := by decide +kernel
theorem d16_25 : decode jdk_52_method_21_code 25 = .ok (.ireturn, 1) := by decide +kernel
theorem d16_26 : decode jdk_52_method_21_code 26 = .ok (.aload_n 2, 1) := by decide +kernel
theorem d16_27 : decode jdk_52_method_21_code 27 = .ok (.iload_n 3, 1) := by decide +kernel
theorem d16_28 : decode jdk_52_method_21_code 28 = .ok (.iload 6, 2) := by decide +kernel
theorem d16_30 : decode jdk_52_method_21_code 30 = .ok (.i2b, 1) := by decide +kernel
theorem d16_31 : decode jdk_52_method_21_code 31 = .ok (.bastore, 1) := by decide +kernel
theorem d16_32 : decode jdk_52_method_21_code 32 = .ok (.iinc 1 1, 3) := by decide +kernel
theorem d16_35 : decode jdk_52_method_21_code 35 = .ok (.iinc 3 1, 3) := by decide +kernel
theorem d16_38 : decode jdk_52_method_21_code 38 = .ok (.iinc 5 1, 3) := by decide +kernel
theorem d16_41 : decode jdk_52_method_21_code 41 = .ok (.goto (-38), 3) := by decide +kernel
theorem d16_44 : decode jdk_52_method_21_code 44 = .ok (.iload 4, 2) := by decide +kernel
theorem d16_46 : decode jdk_52_method_21_code 46 = .ok (.ireturn, 1) := by decide +kernel
theorem d17_0 : decode jdk_52_method_15_code 0 = .ok (.iload_n 1, 1) := by decide +kernel
theorem d17_1 : decode jdk_52_method_15_code 1 = .ok (.aload_n 0, 1) := by decide +kernel
theorem d17_2 : decode jdk_52_method_15_code 2 = .ok (.arraylength, 1) := by decide +kernel
theorem d17_3 : decode jdk_52_method_15_code 3 = .ok (.isub, 1) := by decide +kernel
theorem d17_4 : decode jdk_52_method_15_code 4 = .ok (.bipush 31, 2) := by decide +kernel
theorem d17_6 : decode jdk_52_method_15_code 6 = .ok (.iushr, 1) := by decide +kernel
theorem d17_7 : decode jdk_52_method_15_code 7 = .ok (.i2b, 1) := by decide +kernel
theorem d17_8 : decode jdk_52_method_15_code 8 = .ok (.ireturn, 1) := by decide +kernel
/-- chars of which none is above 255 -/
def Lat (cf : Nat → Int32) (len : Nat) : Prop := ∀ i, i < len → ¬ (255 : Int32) < cf i
set_option maxRecDepth 65536 in
set_option maxHeartbeats 40000000 in
theorem c_cm5 {l : Launch} {Z : State} {a0 : Array Value} (hw : ∀ d ∈ tables_1, d.before a0 Z = true) {n0 : Nat} {h0 : Heap} {vb db : Addr} {len : Nat} {lenI : Int32} {cf : Nat → Int32} (hlen : lenI.toInt = (len : Int)) (V : Ary Z h0 vb .char len (fun i => .int (cf i))) (B : Ary Z h0 db .byte len (fun _ => .int 0)) (hne : vb ≠ db) (hc : Lat cf len) : Con l Z n0 (⟨"java/lang/StringUTF16", "compress", "([CI[BII)I"⟩ : MethodName) jdk_52_method_21_code 7 (some .int) ({ frames := 0, cells := 0, slots := 0, locals := 0 } : Room) [.ref vb, .int 0, .ref db, .int 0, .int lenI] h0 [db] (fun v h' => v = some (.int lenI) ∧ Ary Z h' db .byte len (fun t => .int (cf t).toInt8.toInt32)) := by
  refine Con.of (Ls := [.val (.ref vb), .val (.int 0), .val (.ref db), .val (.int 0), .val (.int lenI), .unset, .unset]) (by decide +kernel) (fun m => by first | rfl | (rcases ref_cases hrw with rfl | ⟨b, rfl⟩ <;> rfl) | simp [entryFrame, mkF, argsToLocals, Value.category]) (fun p e s m below meth c => ?_)
  show Wp false p l e ({ frames := 0, cells := 0, slots := 0, locals := 0 } : Room) s m ([.ref vb, .int 0, .ref db, .int 0, .int lenI] : List Value).toArray below meth c Z "java/lang/StringUTF16" "compress" jdk_52_method_21_code 7 (some .int) n0 h0 [db] (fun v h' => v = some (.int lenI) ∧ Ary Z h' db .byte len (fun t => .int (cf t).toInt8.toInt32)) (fun _ => True) h0 0 0 0 [.val (.ref vb), .val (.int 0), .val (.ref db), .val (.int 0), .val (.int lenI), .unset, .unset] []
  have hb := V.bound
  have loop : ∀ (r i : Nat) (j : Int32) (h : Heap) (o6 : Slot), i + r = len → j.toInt = (i : Int) → oneB o6 = true → Ary Z h db .byte len (fun t => if t < i then .int (cf t).toInt8.toInt32 else .int 0) → Wp false p l e ({ frames := 0, cells := 0, slots := 0, locals := 0 } : Room) s m ([.ref vb, .int 0, .ref db, .int 0, .int lenI] : List Value).toArray below meth c Z "java/lang/StringUTF16" "compress" jdk_52_method_21_code 7 (some .int) n0 h0 [db] (fun v h' => v = some (.int lenI) ∧ Ary Z h' db .byte len (fun t => .int (cf t).toInt8.toInt32)) (fun _ => True) h 0 0 3 [.val (.ref vb), .val (.int j), .val (.ref db), .val (.int j), .val (.int lenI), .val (.int j), o6] [] := by
    intro r
    induction r with
    | zero =>
      intro i j h o6 hi hj ho A
      refine iload (q1 := 5) d16_3 rfl rfl ?_
      refine iload (q1 := 7) d16_5 rfl rfl ?_
      refine icmp_ge (q1 := 10) (q := 44) d16_7 rfl ⟨by decide, rfl⟩ (fun hc => ?_) (fun hc => ?_)
      · refine iload (q1 := 46) d16_44 rfl rfl ?_
        refine ret_i d16_46 rfl rfl ?_
        exact ⟨rfl, A.cong fun t ht => by simp [show t < i by omega]⟩
      · exact absurd hc (by rw [own_lt, hj, hlen]; omega)
    | succ r ih =>
      intro i j h o6 hi hj ho A
      refine iload (q1 := 5) d16_3 rfl rfl ?_
      refine iload (q1 := 7) d16_5 rfl rfl ?_
      refine icmp_ge (q1 := 10) (q := 44) d16_7 rfl ⟨by decide, rfl⟩ (fun hc => absurd (show j < lenI by rw [own_lt, hj, hlen]; omega) hc) (fun _ => ?_)
      refine kept fun K O => ?_
      refine aload_n (q1 := 11) d16_10 rfl rfl rfl ?_
      refine iload_n (q1 := 12) d16_11 rfl rfl ?_
      refine caload (q1 := 13) d16_12 rfl (V.keep K (ninS hne nin0)) hj (show i < len by omega) rfl ?_
      refine istore (q1 := 15) d16_13 rfl ho ?_
      simp only [List.set_cons_zero, List.set_cons_succ]
      refine iload (q1 := 17) d16_15 rfl rfl ?_
      refine sipush (q1 := 20) (v := 255) d16_17 rfl rfl ?_
      refine icmp_le (q1 := 23) (q := 26) d16_20 rfl ⟨by decide, rfl⟩ (fun _ => ?_) (fun hq => absurd hq (hc i (by omega)))
      refine aload_n (q1 := 27) d16_26 rfl rfl rfl ?_
      refine iload_n (q1 := 28) d16_27 rfl rfl ?_
      refine iload (q1 := 30) d16_28 rfl rfl ?_
      refine i2b (q1 := 31) d16_30 rfl ?_
      refine bastore (q1 := 32) d16_31 rfl (A) hj (show i < len by omega) (Or.inl (List.mem_singleton.mpr rfl)) (fun h31 W31 => ?_)
      refine iinc (q1 := 35) (v := 1) d16_32 rfl rfl rfl ?_
      simp only [List.set_cons_zero, List.set_cons_succ]
      refine iinc (q1 := 38) (v := 1) d16_35 rfl rfl rfl ?_
      simp only [List.set_cons_zero, List.set_cons_succ]
      refine iinc (q1 := 41) (v := 1) d16_38 rfl rfl rfl ?_
      simp only [List.set_cons_zero, List.set_cons_succ]
      refine goto (q := 3) d16_41 ⟨by decide, rfl⟩ ?_
      refine ih (i + 1) (j + 1) h31 _ (by omega) (own_succ hj (by omega)) rfl ((A.same W31).cong fun t ht => ?_)
      by_cases e : t = i
      · subst e; simp [own_b8]
      · by_cases e2 : t < i
        · simp [e, e2, show t < i + 1 by omega]
        · simp [e, e2, show ¬ t < i + 1 by omega]
  refine iconst (q1 := 1) (v := 0) d16_0 rfl rfl ?_
  refine istore (q1 := 3) d16_1 rfl rfl ?_
  simp only [List.set_cons_zero, List.set_cons_succ]
  exact loop len 0 0 h0 _ (by omega) rfl rfl (B.cong fun t ht => by simp)
set_option maxRecDepth 65536 in
set_option maxHeartbeats 40000000 in
theorem c_cm3 {l : Launch} {Z : State} {a0 : Array Value} (hw : ∀ d ∈ tables_1, d.before a0 Z = true) {n0 : Nat} {h0 : Heap} {vb : Addr} {len : Nat} {lenI : Int32} {cf : Nat → Int32} (hlen : lenI.toInt = (len : Int)) (hcap : len ≤ 4000) (V : Ary Z h0 vb .char len (fun i => .int (cf i))) (hc : Lat cf len) : Con l Z n0 (⟨"java/lang/StringUTF16", "compress", "([CII)[B"⟩ : MethodName) jdk_52_method_16_code 6 (some (.array .byte)) { frames := 1, cells := 1, slots := len, locals := 18 } [.ref vb, .int 0, .int lenI] h0 [] (fun v h' => v = some (.ref h0.size) ∧ Ary Z h' h0.size .byte len (fun t => .int (cf t).toInt8.toInt32)) := by
  refine Con.of (Ls := [.val (.ref vb), .val (.int 0), .val (.int lenI), .unset, .unset, .unset]) (by decide +kernel) (fun m => by first | rfl | (rcases ref_cases hrw with rfl | ⟨b, rfl⟩ <;> rfl) | simp [entryFrame, mkF, argsToLocals, Value.category]) (fun p e s m below meth c => ?_)
  show Wp false p l e ({ frames := 1, cells := 1, slots := len, locals := 18 }) s m ([.ref vb, .int 0, .int lenI] : List Value).toArray below meth c Z "java/lang/StringUTF16" "compress" jdk_52_method_16_code 6 (some (.array .byte)) n0 h0 [] (fun v h' => v = some (.ref h0.size) ∧ Ary Z h' h0.size .byte len (fun t => .int (cf t).toInt8.toInt32)) (fun _ => True) h0 0 0 0 [.val (.ref vb), .val (.int 0), .val (.int lenI), .unset, .unset, .unset] []
  refine iload_n (q1 := 1) d15_0 rfl rfl ?_
  refine newarray (q1 := 3) (len := len) (cap := len) d15_1 rfl (ww hw 15 rfl) hlen (Nat.le_refl _) (by omega) (Nat.le_refl _) (by show 0 + len ≤ len; omega) (fun S1 h1 E1 A1 => ?_)
  refine astore_n (q1 := 4) (jj := 3) d15_3 rfl rfl rfl rfl ?_
  simp only [List.set_cons_zero, List.set_cons_succ]
  refine aload_n (q1 := 5) d15_4 rfl rfl rfl ?_
  refine iload_n (q1 := 6) d15_5 rfl rfl ?_
  refine aload_n (q1 := 7) d15_6 rfl rfl rfl ?_
  refine iconst (q1 := 8) (v := 0) d15_7 rfl rfl ?_
  refine iload_n (q1 := 9) d15_8 rfl rfl ?_
  refine invokestatic (q1 := 12) d15_9 rfl (ww hw 100 rfl) (ww hw 101 rfl) (ww hw 98 rfl) (ww hw 102 rfl) (by decide) pd13 (c_cm5 hw hlen (V.ext E1) A1 (Nat.ne_of_lt V.lt) hc) rfl rfl rfl (by simp [roomOk, Value.category]) (allS (Or.inr S1) all0) (fun v h' q K => ?_)
  obtain ⟨rfl, A2⟩ := q
  refine istore (q1 := 14) d15_12 rfl rfl ?_
  simp only [List.set_cons_zero, List.set_cons_succ]
  refine iload (q1 := 16) d15_14 rfl rfl ?_
  refine iload_n (q1 := 17) d15_16 rfl rfl ?_
  refine icmp_eq (q1 := 20) (q := 57) d15_17 rfl ⟨by decide, rfl⟩ (fun _ => ?_) (fun hq => absurd rfl hq)
  refine aload_n (q1 := 58) d15_57 rfl rfl rfl ?_
  refine ret_a d15_58 rfl rfl rfl (by simp) ?_
  exact ⟨rfl, A2⟩
theorem own_cfl (z : Int32) : (((z - z).toUInt32 >>> ((31 : Int32) &&& 31).toUInt32).toInt32).toInt8.toInt32 = 0 := by
  rw [Int32.sub_self]; decide
set_option maxRecDepth 65536 in
set_option maxHeartbeats 40000000 in
theorem c_cfl {l : Launch} {Z : State} {a0 : Array Value} (hw : ∀ d ∈ tables_1, d.before a0 Z = true) {n0 : Nat} {h0 : Heap} {db : Addr} {len : Nat} {lenI : Int32} {f : Nat → Value} (hlen : lenI.toInt = (len : Int)) (A : Ary Z h0 db .byte len f) : Con l Z n0 (⟨"java/lang/StringUTF16", "coderFromArrayLen", "([BI)B"⟩ : MethodName) jdk_52_method_15_code 2 (some .byte) ({ frames := 0, cells := 0, slots := 0, locals := 0 } : Room) [.ref db, .int lenI] h0 [] (fun v h' => v = some (.int 0) ∧ h' = h0) := by
  refine Con.of (Ls := [.val (.ref db), .val (.int lenI)]) (by decide +kernel) (fun m => by first | rfl | (rcases ref_cases hrw with rfl | ⟨b, rfl⟩ <;> rfl) | simp [entryFrame, mkF, argsToLocals, Value.category]) (fun p e s m below meth c => ?_)
  show Wp false p l e ({ frames := 0, cells := 0, slots := 0, locals := 0 } : Room) s m ([.ref db, .int lenI] : List Value).toArray below meth c Z "java/lang/StringUTF16" "coderFromArrayLen" jdk_52_method_15_code 2 (some .byte) n0 h0 [] (fun v h' => v = some (.int 0) ∧ h' = h0) (fun _ => True) h0 0 0 0 [.val (.ref db), .val (.int lenI)] []
  refine iload_n (q1 := 1) d17_0 rfl rfl ?_
  refine aload_n (q1 := 2) d17_1 rfl rfl rfl ?_
  refine arraylength (q1 := 3) d17_2 rfl (A) hlen ?_
  refine isub (q1 := 4) d17_3 rfl ?_
  refine bipush (q1 := 6) (v := 31) d17_4 rfl rfl ?_
  refine iushr (q1 := 7) d17_6 rfl ?_
  refine i2b (q1 := 8) d17_7 rfl ?_
  refine ret_n (t := .byte) d17_8 rfl (by simp) rfl ?_
  refine ⟨?_, rfl⟩
  rw [own_cfl]; rfl
/-- a String as it was made of Latin-1 chars -/
def StrOf (Z : State) (h : Heap) (x : Addr) (len : Nat) (cf : Nat → Int32) (t : Addr) : Prop := Exa Z h x "java/lang/String" ∧ Fld Z h x "java/lang/String" "coder" "B" (.int 0) ∧ Fld Z h x "java/lang/String" "value" "[B" (.ref t) ∧ Ary Z h t .byte len (fun i => .int (cf i).toInt8.toInt32)
def Cmpct (Z : State) (z : Int32) : Prop := Sta Z Z.heap "java/lang/String" "COMPACT_STRINGS" "Z" (.int z) ∧ ¬ z = 0
set_option maxRecDepth 65536 in
set_option maxHeartbeats 40000000 in
theorem c_si4 {l : Launch} {Z : State} {a0 : Array Value} (hw : ∀ d ∈ tables_1, d.before a0 Z = true) {n0 : Nat} {h0 : Heap} {x vb : Addr} {len : Nat} {lenI z : Int32} {cf : Nat → Int32} {v0 c0 : Value} (hlen : lenI.toInt = (len : Int)) (hpos : 0 < len) (hcap : len ≤ 4000) (X : Exa Z h0 x "java/lang/String") (FV : Fld Z h0 x "java/lang/String" "value" "[B" v0) (FC : Fld Z h0 x "java/lang/String" "coder" "B" c0) (V : Ary Z h0 vb .char len (fun i => .int (cf i))) (hc : Lat cf len) (S : Cmpct Z z) : Con l Z n0 (⟨"java/lang/String", "<init>", "([CIILjava/lang/Void;)V"⟩ : MethodName) jdk_42_method_149_code 6 none { frames := 2, cells := 1, slots := len, locals := 35 } [.ref x, .ref vb, .int 0, .int lenI, .null] h0 [x] (fun v h' => v = none ∧ StrOf Z h' x len cf h0.size) := by
  refine Con.of (Ls := [.val (.ref x), .val (.ref vb), .val (.int 0), .val (.int lenI), .val .null, .unset]) (by decide +kernel) (fun m => by first | rfl | (rcases ref_cases hrw with rfl | ⟨b, rfl⟩ <;> rfl) | simp [entryFrame, mkF, argsToLocals, Value.category]) (fun p e s m below meth c => ?_)
  show Wp false p l e ({ frames := 2, cells := 1, slots := len, locals := 35 }) s m ([.ref x, .ref vb, .int 0, .int lenI, .null] : List Value).toArray below meth c Z "java/lang/String" "<init>" jdk_42_method_149_code 6 none n0 h0 [x] (fun v h' => v = none ∧ StrOf Z h' x len cf h0.size) (fun _ => True) h0 0 0 0 [.val (.ref x), .val (.ref vb), .val (.int 0), .val (.int lenI), .val .null, .unset] []
  refine aload_n (q1 := 1) d2_0 rfl rfl rfl ?_
  refine initObj (q1 := 4) d2_1 rfl (ww hw 11 rfl) (ww hw 12 rfl) (ww hw 13 rfl) rfl rfl ?_
  refine iload_n (q1 := 5) d2_4 rfl rfl ?_
  refine if_ne (q1 := 8) (q := 27) d2_5 rfl ⟨by decide, rfl⟩ (fun _ => ?_) (fun hq => absurd hq (by intro e; rw [e] at hlen; simp at hlen; omega))
  refine kept fun K O => ?_
  refine getstatic (q1 := 30) d2_27 rfl (ww hw 95 rfl) Via.refl (S.1.ext O.2) ?_
  refine if_eq (q1 := 33) (q := 58) d2_30 rfl ⟨by decide, rfl⟩ (fun hq => absurd hq S.2) (fun _ => ?_)
  refine aload_n (q1 := 34) d2_33 rfl rfl rfl ?_
  refine iload_n (q1 := 35) d2_34 rfl rfl ?_
  refine iload_n (q1 := 36) d2_35 rfl rfl ?_
  refine invokestatic (q1 := 39) d2_36 rfl (ww hw 96 rfl) (ww hw 97 rfl) (ww hw 98 rfl) (ww hw 99 rfl) (by decide) pd12 (c_cm3 hw hlen hcap V hc) rfl rfl rfl (by simp [roomOk, Value.category]) all0 (fun v h1 q K1 => ?_)
  obtain ⟨rfl, A1⟩ := q
  refine astore (q1 := 41) d2_39 rfl rfl rfl ?_
  simp only [List.set_cons_zero, List.set_cons_succ]
  refine aload_n (q1 := 42) d2_41 rfl rfl rfl ?_
  refine aload (q1 := 44) d2_42 rfl rfl rfl ?_
  refine iload_n (q1 := 45) d2_44 rfl rfl ?_
  refine invokestatic (q1 := 48) d2_45 rfl (ww hw 103 rfl) (ww hw 104 rfl) (ww hw 98 rfl) (ww hw 105 rfl) (by decide) pd14 (c_cfl hw hlen A1) rfl rfl rfl (by simp [roomOk, Value.category]) all0 (fun v h2 q K2 => ?_)
  obtain ⟨rfl, rfl⟩ := q
  have X1 := X.keep K1
  have FV1 := FV.keep K1 nin0
  have FC1 := FC.keep K1 nin0
  have hxt : h0.size ≠ x := Nat.ne_of_gt X.lt
  refine putfieldN (q1 := 51) d2_48 rfl (ww hw 21 rfl) Via.refl (FC1) (X1) (Or.inr ⟨(ww hw 17 rfl), rfl, rfl⟩) (ww hw 2 rfl) (ty := .byte) (by decide) rfl (fits_nar_byte _) (Or.inl (List.mem_singleton.mpr rfl)) (fun h48 W48 => ?_)
  refine aload_n (q1 := 52) d2_51 rfl rfl rfl ?_
  refine aload (q1 := 54) d2_52 rfl rfl rfl ?_
  refine putfield (q1 := 57) d2_54 rfl (ww hw 20 rfl) Via.refl (FV1.other W48 (Or.inr (slot_ne (Or.inr (ww hw 16 rfl)) (Or.inr (ww hw 17 rfl)) (by decide) (t := (.array .byte)) (t' := .byte) (by decide) (by decide)))) (X1.wr W48) (Or.inr ⟨(ww hw 16 rfl), rfl, rfl⟩) (ww hw 2 rfl) (ty := (.array .byte)) (by decide) rfl rfl (Or.inl (List.mem_singleton.mpr rfl)) (fun h54 W54 => ?_)
  refine ret_v d2_57 rfl (by simp) ?_
  refine ⟨rfl, (X1.wr W48).wr W54, ?_, ?_, ?_⟩
  · exact (FC1.same W48).other W54 (Or.inr (slot_ne (Or.inr (ww hw 17 rfl)) (Or.inr (ww hw 16 rfl)) (by decide) (t := .byte) (t' := (.array .byte)) (by decide) (by decide)))
  · exact (FV1.other W48 (Or.inr (slot_ne (Or.inr (ww hw 16 rfl)) (Or.inr (ww hw 17 rfl)) (by decide) (t := (.array .byte)) (t' := .byte) (by decide) (by decide)))).same W54
  · exact (A1.other W48 hxt).other W54 hxt
set_option maxRecDepth 65536 in
set_option maxHeartbeats 40000000 in
theorem c_si1 {l : Launch} {Z : State} {a0 : Array Value} (hw : ∀ d ∈ tables_1, d.before a0 Z = true) {n0 : Nat} {h0 : Heap} {x vb : Addr} {len : Nat} {lenI z : Int32} {cf : Nat → Int32} {v0 c0 : Value} (hlen : lenI.toInt = (len : Int)) (hpos : 0 < len) (hcap : len ≤ 4000) (X : Exa Z h0 x "java/lang/String") (FV : Fld Z h0 x "java/lang/String" "value" "[B" v0) (FC : Fld Z h0 x "java/lang/String" "coder" "B" c0) (V : Ary Z h0 vb .char len (fun i => .int (cf i))) (hc : Lat cf len) (S : Cmpct Z z) : Con l Z n0 (⟨"java/lang/String", "<init>", "([C)V"⟩ : MethodName) jdk_42_method_3_code 2 none { frames := 3, cells := 1, slots := len, locals := 52 } [.ref x, .ref vb] h0 [x] (fun v h' => v = none ∧ StrOf Z h' x len cf h0.size) := by
  refine Con.of (Ls := [.val (.ref x), .val (.ref vb)]) (by decide +kernel) (fun m => by first | rfl | (rcases ref_cases hrw with rfl | ⟨b, rfl⟩ <;> rfl) | simp [entryFrame, mkF, argsToLocals, Value.category]) (fun p e s m below meth c => ?_)
  show Wp false p l e ({ frames := 3, cells := 1, slots := len, locals := 52 }) s m ([.ref x, .ref vb] : List Value).toArray below meth c Z "java/lang/String" "<init>" jdk_42_method_3_code 2 none n0 h0 [x] (fun v h' => v = none ∧ StrOf Z h' x len cf h0.size) (fun _ => True) h0 0 0 0 [.val (.ref x), .val (.ref vb)] []
  refine aload_n (q1 := 1) d1_0 rfl rfl rfl ?_
  refine aload_n (q1 := 2) d1_1 rfl rfl rfl ?_
  refine iconst (q1 := 3) (v := 0) d1_2 rfl rfl ?_
  refine aload_n (q1 := 4) d1_3 rfl rfl rfl ?_
  refine arraylength (q1 := 5) d1_4 rfl (V) hlen ?_
  refine aconst_null (q1 := 6) d1_5 rfl ?_
  refine invokespecial (q1 := 9) d1_6 rfl rfl (ww hw 7 rfl) (ww hw 8 rfl) (ww hw 3 rfl) (ww hw 10 rfl) (by decide) pd1 (c_si4 hw hlen hpos hcap X FV FC V hc S) rfl rfl rfl (by simp [roomOk, Value.category]) (allS (Or.inl (List.mem_singleton.mpr rfl)) all0) (fun v h1 q K1 => ?_)
  obtain ⟨rfl, Q1⟩ := q
  refine ret_v d1_9 rfl (by simp) ?_
  exact ⟨rfl, Q1⟩
/-- what the case says of the constant "" -/
def LitOk (Z : State) (a0 : Array Value) : Prop := (∀ a ∈ Bundle.stringAtoms, a.before a0 Z = true) ∧ Jvm.Lit.constHeld Z "java/lang/String" 7 ∧ Jvm.Lit.compactW.before a0 Z = true
theorem own_arv0 {Z : State} {h : Heap} {b : Addr} {kk : ClassId} {d : Value} {f : Nat → Value} (A : Arv Z h b kk .byte 0 [] d) : Ary Z h b .byte 0 f := by
  obtain ⟨c, q, -, r, -⟩ := A
  exact ⟨c, q, r, by decide, fun i hi => absurd hi (Nat.not_lt_zero i)⟩
set_option maxRecDepth 65536 in
set_option maxHeartbeats 40000000 in
theorem c_si4e {l : Launch} {Z : State} {a0 : Array Value} (hw : ∀ d ∈ tables_1, d.before a0 Z = true) {n0 : Nat} {h0 : Heap} {x vb : Addr} {c0 : Value} {cf : Nat → Int32} (X : Exa Z h0 x "java/lang/String") (FV : Fld Z h0 x "java/lang/String" "value" "[B" .null) (FC : Fld Z h0 x "java/lang/String" "coder" "B" c0) (LO : LitOk Z a0) : ConW l Z n0 (⟨"java/lang/String", "<init>", "([CIILjava/lang/Void;)V"⟩ : MethodName) jdk_42_method_149_code 6 none ({ frames := 1, cells := 2, slots := 4, locals := 12 } : Room) [.ref x, .ref vb, .int 0, .int 0, .null] h0 [x] (fun vm => IB Z vm []) (fun v h' => v = none ∧ ∃ t, StrOf Z h' x 0 cf t) := by
  refine ConW.of (Ls := [.val (.ref x), .val (.ref vb), .val (.int 0), .val (.int 0), .val .null, .unset]) (by decide +kernel) (fun m => by first | rfl | (rcases ref_cases hrw with rfl | ⟨b, rfl⟩ <;> rfl) | simp [entryFrame, mkF, argsToLocals, Value.category]) (fun p e s m below meth c => ?_)
  show Wp true p l e ({ frames := 1, cells := 2, slots := 4, locals := 12 } : Room) s m ([.ref x, .ref vb, .int 0, .int 0, .null] : List Value).toArray below meth c Z "java/lang/String" "<init>" jdk_42_method_149_code 6 none n0 h0 [x] (fun v h' => v = none ∧ ∃ t, StrOf Z h' x 0 cf t) (fun vm => IB Z vm []) h0 0 0 0 [.val (.ref x), .val (.ref vb), .val (.int 0), .val (.int 0), .val .null, .unset] []
  refine aload_n (q1 := 1) d2_0 rfl rfl rfl ?_
  refine initObj (q1 := 4) d2_1 rfl (ww hw 11 rfl) (ww hw 12 rfl) (ww hw 13 rfl) rfl rfl ?_
  refine iload_n (q1 := 5) d2_4 rfl rfl ?_
  refine if_ne (q1 := 8) (q := 27) d2_5 rfl ⟨by decide, rfl⟩ (fun hq => absurd rfl hq) (fun _ => ?_)
  refine aload_n (q1 := 9) d2_8 rfl rfl rfl ?_
  refine ldcLit (q1 := 11) (nn := 0) (vs := []) (z := 0) (Ts := []) d2_9 rfl (ww hw 14 rfl) LO.1 (fun vm q => q) (by simp) LO.2.1 LO.2.2 ⟨by decide, by decide⟩ (by decide) rfl (by decide) (by decide) (by decide) (by decide) (fun a h1 b kk E1 XL FCL FVL AL la lb => ?_)
  have ne : a ≠ x := Fld.ne FVL (FV.ext E1) (by simp)
  have A1 : Ary Z h1 b .byte 0 (fun i => .int (cf i).toInt8.toInt32) := own_arv0 AL
  obtain ⟨cb, ab, -⟩ := AL
  have nb : x ≠ b := ne_arr (X.ext E1) (ww hw 2 rfl) ab
  refine getfield (q1 := 14) d2_11 rfl (ww hw 20 rfl) Via.refl (FVL) ?_
  refine putfield (q1 := 17) d2_14 rfl (ww hw 20 rfl) Via.refl (FV.ext E1) (X.ext E1) (Or.inr ⟨(ww hw 16 rfl), rfl, rfl⟩) (ww hw 2 rfl) (ty := (.array .byte)) (by decide) rfl rfl (Or.inl own_in1) (fun h2 W2 => ?_)
  refine aload_n (q1 := 18) d2_17 rfl rfl rfl ?_
  refine Jvm.OwnWp.ldcAgain (q1 := 20) d2_18 rfl (ww hw 14 rfl) (fun vm q => q.2) ?_
  refine getfield (q1 := 23) d2_20 rfl (ww hw 21 rfl) Via.refl (FCL.other W2 (Or.inl ne)) ?_
  refine putfieldN (q1 := 26) d2_23 rfl (ww hw 21 rfl) Via.refl ((FC.ext E1).other W2 (Or.inr (slot_ne (Or.inr (ww hw 17 rfl)) (Or.inr (ww hw 16 rfl)) (by decide) (t := .byte) (t' := (.array .byte)) (by decide) (by decide)))) ((X.ext E1).wr W2) (Or.inr ⟨(ww hw 17 rfl), rfl, rfl⟩) (ww hw 2 rfl) (ty := .byte) (by decide) rfl (fits_nar_byte _) (Or.inl own_in1) (fun h3 W3 => ?_)
  refine ret_v d2_26 rfl rfl ?_
  refine ⟨rfl, b, ((X.ext E1).wr W2).wr W3, ((FC.ext E1).other W2 (Or.inr (slot_ne (Or.inr (ww hw 17 rfl)) (Or.inr (ww hw 16 rfl)) (by decide) (t := .byte) (t' := (.array .byte)) (by decide) (by decide)))).same W3, ((FV.ext E1).same W2).other W3 (Or.inr (slot_ne (Or.inr (ww hw 16 rfl)) (Or.inr (ww hw 17 rfl)) (by decide) (t := (.array .byte)) (t' := .byte) (by decide) (by decide))), (A1.other W2 nb.symm).other W3 nb.symm⟩
set_option maxRecDepth 65536 in
set_option maxHeartbeats 40000000 in
theorem c_si1e {l : Launch} {Z : State} {a0 : Array Value} (hw : ∀ d ∈ tables_1, d.before a0 Z = true) {n0 : Nat} {h0 : Heap} {x vb : Addr} {c0 : Value} {cf : Nat → Int32} {f : Nat → Value} (X : Exa Z h0 x "java/lang/String") (FV : Fld Z h0 x "java/lang/String" "value" "[B" .null) (FC : Fld Z h0 x "java/lang/String" "coder" "B" c0) (V : Ary Z h0 vb .char 0 f) (LO : LitOk Z a0) : ConW l Z n0 (⟨"java/lang/String", "<init>", "([C)V"⟩ : MethodName) jdk_42_method_3_code 2 none ({ frames := 2, cells := 2, slots := 4, locals := 29 } : Room) [.ref x, .ref vb] h0 [x] (fun vm => IB Z vm []) (fun v h' => v = none ∧ ∃ t, StrOf Z h' x 0 cf t) := by
  refine ConW.of (Ls := [.val (.ref x), .val (.ref vb)]) (by decide +kernel) (fun m => by first | rfl | (rcases ref_cases hrw with rfl | ⟨b, rfl⟩ <;> rfl) | simp [entryFrame, mkF, argsToLocals, Value.category]) (fun p e s m below meth c => ?_)
  show Wp true p l e ({ frames := 2, cells := 2, slots := 4, locals := 29 } : Room) s m ([.ref x, .ref vb] : List Value).toArray below meth c Z "java/lang/String" "<init>" jdk_42_method_3_code 2 none n0 h0 [x] (fun v h' => v = none ∧ ∃ t, StrOf Z h' x 0 cf t) (fun vm => IB Z vm []) h0 0 0 0 [.val (.ref x), .val (.ref vb)] []
  refine aload_n (q1 := 1) d1_0 rfl rfl rfl ?_
  refine aload_n (q1 := 2) d1_1 rfl rfl rfl ?_
  refine iconst (q1 := 3) (v := 0) d1_2 rfl rfl ?_
  refine aload_n (q1 := 4) d1_3 rfl rfl rfl ?_
  refine arraylength (q1 := 5) (z := 0) d1_4 rfl (V) rfl ?_
  refine aconst_null (q1 := 6) d1_5 rfl ?_
  refine invokespecialW (q1 := 9) d1_6 rfl rfl (ww hw 7 rfl) (ww hw 8 rfl) (ww hw 3 rfl) (ww hw 10 rfl) (by decide) pd1 (c_si4e hw (cf := cf) X FV FC LO) rfl rfl rfl rfl (allS (Or.inl own_in1) all0) (stabIB) (fun v h1 q K1 => ?_)
  obtain ⟨rfl, Q1⟩ := q
  refine ret_v d1_9 rfl rfl ?_
  exact ⟨rfl, Q1⟩
theorem d18_0 : decode jdk_52_method_14_code 0 = .ok (.iload_n 2, 1) := by decide +kernel
theorem d18_1 : decode jdk_52_method_14_code 1 = .ok (.invokestatic 107, 3) := by decide +kernel
theorem d18_4 : decode jdk_52_method_14_code 4 = .ok (.astore_n 3, 1) := by decide +kernel
theorem d18_5 : decode jdk_52_method_14_code 5 = .ok (.iconst 0, 1) := by decide +kernel
theorem d18_6 : decode jdk_52_method_14_code 6 = .ok (.istore 4, 2) := by decide +kernel
theorem d18_8 : decode jdk_52_method_14_code 8 = .ok (.iload 4, 2) := by decide +kernel
theorem d18_10 : decode jdk_52_method_14_code 10 = .ok (.iload_n 2, 1) := by decide +kernel
theorem d18_11 : decode jdk_52_method_14_code 11 = .ok (.if_icmp .ge 21, 3) := by decide +kernel
theorem d18_14 : decode jdk_52_method_14_code 14 = .ok (.aload_n 3, 1) := by decide +kernel
theorem d18_15 : decode jdk_52_method_14_code 15 = .ok (.iload 4, 2) := by decide +kernel
theorem d18_17 : decode jdk_52_method_14_code 17 = .ok (.aload_n 0, 1) := by decide +kernel
theorem d18_18 : decode jdk_52_method_14_code 18 = .ok (.iload_n 1, 1) := by decide +kernel
theorem d18_19 : decode jdk_52_method_14_code 19 = .ok (.caload, 1) := by decide +kernel
theorem d18_20 : decode jdk_52_method_14_code 20 = .ok (.invokestatic 111, 3) := by decide +kernel
theorem d18_23 : decode jdk_52_method_14_code 23 = .ok (.iinc 1 1, 3) := by decide +kernel
theorem d18_26 : decode jdk_52_method_14_code 26 = .ok (.iinc 4 1, 3) := by decide +kernel
theorem d18_29 : decode jdk_52_method_14_code 29 = .ok (.goto (-21), 3) := by decide +kernel
theorem d18_32 : decode jdk_52_method_14_code 32 = .ok (.aload_n 3, 1) := by decide +kernel
theorem d18_33 : decode jdk_52_method_14_code 33 = .ok (.areturn, 1) := by decide +kernel
theorem d19_0 : decode jdk_52_method_2_code 0 = .ok (.iload_n 0, 1) := by decide +kernel
theorem d19_1 : decode jdk_52_method_2_code 1 = .ok (.invokestatic 11, 3) := by decide +kernel
theorem d19_4 : decode jdk_52_method_2_code 4 = .ok (.newarray .byte, 2) := by decide +kernel
theorem d19_6 : decode jdk_52_method_2_code 6 = .ok (.areturn, 1) := by decide +kernel
theorem d20_0 : decode jdk_52_method_3_code 0 = .ok (.iload_n 0, 1) := by decide +kernel
theorem d20_1 : decode jdk_52_method_3_code 1 = .ok (.ifCond .ge 11, 3) := by decide +kernel
theorem d20_4 : decode jdk_52_method_3_code 4 = .ok (.new 17, 3) := by decide +kernel
theorem d20_7 : decode jdk_52_method_3_code 7 = .ok (.dup, 1) := by decide +kernel
theorem d20_8 : decode jdk_52_method_3_code 8 = .ok (.invokespecial 19, 3) := by decide +kernel
theorem d20_11 : decode jdk_52_method_3_code 11 = .ok (.athrow, 1) := by decide +kernel
theorem d20_12 : decode jdk_52_method_3_code 12 = .ok (.iload_n 0, 1) := by decide +kernel
theorem d20_13 : decode jdk_52_method_3_code 13 = .ok (.ldc 20, 2) := by decide +kernel
theorem d20_15 : decode jdk_52_method_3_code 15 = .ok (.if_icmp .lt 40, 3) := by decide +kernel
theorem d20_18 : decode jdk_52_method_3_code 18 = .ok (.new 21, 3) := by decide +kernel
theorem d20_21 : decode jdk_52_method_3_code 21 = .ok (.dup, 1) := by decide +kernel
theorem d20_22 : decode jdk_52_method_3_code 22 = .ok (.new 23, 3) := by decide +kernel
theorem d20_25 : decode jdk_52_method_3_code 25 = .ok (.dup, 1) := by decide +kernel
theorem d20_26 : decode jdk_52_method_3_code 26 = .ok (.invokespecial 25, 3) := by decide +kernel
theorem d20_29 : decode jdk_52_method_3_code 29 = .ok (.ldc 26, 2) := by decide +kernel
theorem d20_31 : decode jdk_52_method_3_code 31 = .ok (.invokevirtual 28, 3) := by decide +kernel
theorem d20_34 : decode jdk_52_method_3_code 34 = .ok (.iload_n 0, 1) := by decide +kernel
theorem d20_35 : decode jdk_52_method_3_code 35 = .ok (.invokevirtual 32, 3) := by decide +kernel
theorem d20_38 : decode jdk_52_method_3_code 38 = .ok (.ldc 35, 2) := by decide +kernel
theorem d20_40 : decode jdk_52_method_3_code 40 = .ok (.invokevirtual 28, 3) := by decide +kernel
theorem d20_43 : decode jdk_52_method_3_code 43 = .ok (.ldc 20, 2) := by decide +kernel
theorem d20_45 : decode jdk_52_method_3_code 45 = .ok (.invokevirtual 32, 3) := by decide +kernel
theorem d20_48 : decode jdk_52_method_3_code 48 = .ok (.invokevirtual 37, 3) := by decide +kernel
theorem d20_51 : decode jdk_52_method_3_code 51 = .ok (.invokespecial 41, 3) := by decide +kernel
theorem d20_54 : decode jdk_52_method_3_code 54 = .ok (.athrow, 1) := by decide +kernel
theorem d20_55 : decode jdk_52_method_3_code 55 = .ok (.iload_n 0, 1) := by decide +kernel
theorem d20_56 : decode jdk_52_method_3_code 56 = .ok (.iconst 1, 1) := by decide +kernel
theorem d20_57 : decode jdk_52_method_3_code 57 = .ok (.ishl, 1) := by decide +kernel
theorem d20_58 : decode jdk_52_method_3_code 58 = .ok (.ireturn, 1) := by decide +kernel
theorem d21_0 : decode jdk_52_method_4_code 0 = .ok (.getstatic 44, 3) := by decide +kernel
theorem d21_3 : decode jdk_52_method_4_code 3 = .ok (.ifCond .ne 25, 3) := by decide +kernel
theorem d21_6 : decode jdk_52_method_4_code 6 = .ok (.iload_n 1, 1) := by decide +kernel
theorem d21_7 : decode jdk_52_method_4_code 7 = .ok (.ifCond .lt 11, 3) := by decide +kernel
theorem d21_10 : decode jdk_52_method_4_code 10 = .ok (.iload_n 1, 1) := by decide +kernel
theorem d21_11 : decode jdk_52_method_4_code 11 = .ok (.aload_n 0, 1) := by decide +kernel
theorem d21_12 : decode jdk_52_method_4_code 12 = .ok (.invokestatic 48, 3) := by decide +kernel
theorem d21_15 : decode jdk_52_method_4_code 15 = .ok (.if_icmp .lt 13, 3) := by decide +kernel
theorem d21_18 : decode jdk_52_method_4_code 18 = .ok (.new 52, 3) := by decide +kernel
theorem d21_21 : decode jdk_52_method_4_code 21 = .ok (.dup, 1) := by decide +kernel
theorem d21_22 : decode jdk_52_method_4_code 22 = .ok (.ldc 54, 2) := by decide +kernel
theorem d21_24 : decode jdk_52_method_4_code 24 = .ok (.invokespecial 56, 3) := by decide +kernel
theorem d21_27 : decode jdk_52_method_4_code 27 = .ok (.athrow, 1) := by decide +kernel
theorem d21_28 : decode jdk_52_method_4_code 28 = .ok (.iload_n 1, 1) := by decide +kernel
theorem d21_29 : decode jdk_52_method_4_code 29 = .ok (.iconst 1, 1) := by decide +kernel
theorem d21_30 : decode jdk_52_method_4_code 30 = .ok (.ishl, 1) := by decide +kernel
theorem d21_31 : decode jdk_52_method_4_code 31 = .ok (.istore_n 1, 1) := by decide +kernel
theorem d21_32 : decode jdk_52_method_4_code 32 = .ok (.aload_n 0, 1) := by decide +kernel
theorem d21_33 : decode jdk_52_method_4_code 33 = .ok (.iload_n 1, 1) := by decide +kernel
theorem d21_34 : decode jdk_52_method_4_code 34 = .ok (.iinc 1 1, 3) := by decide +kernel
theorem d21_37 : decode jdk_52_method_4_code 37 = .ok (.iload_n 2, 1) := by decide +kernel
theorem d21_38 : decode jdk_52_method_4_code 38 = .ok (.getstatic 59, 3) := by decide +kernel
theorem d21_41 : decode jdk_52_method_4_code 41 = .ok (.ishr, 1) := by decide +kernel
theorem d21_42 : decode jdk_52_method_4_code 42 = .ok (.i2b, 1) := by decide +kernel
theorem d21_43 : decode jdk_52_method_4_code 43 = .ok (.bastore, 1) := by decide +kernel
theorem d21_44 : decode jdk_52_method_4_code 44 = .ok (.aload_n 0, 1) := by decide +kernel
theorem d21_45 : decode jdk_52_method_4_code 45 = .ok (.iload_n 1, 1) := by decide +kernel
theorem d21_46 : decode jdk_52_method_4_code 46 = .ok (.iload_n 2, 1) := by decide +kernel
theorem d21_47 : decode jdk_52_method_4_code 47 = .ok (.getstatic 63, 3) := by decide +kernel
theorem d21_50 : decode jdk_52_method_4_code 50 = .ok (.ishr, 1) := by decide +kernel
theorem d21_51 : decode jdk_52_method_4_code 51 = .ok (.i2b, 1) := by decide +kernel
theorem d21_52 : decode jdk_52_method_4_code 52 = .ok (.bastore, 1) := by decide +kernel
theorem d21_53 : decode jdk_52_method_4_code 53 = .ok (.return_, 1) := by decide +kernel
theorem d22_0 : decode jdk_52_method_5_code 0 = .ok (.getstatic 44, 3) := by decide +kernel
theorem d22_3 : decode jdk_52_method_5_code 3 = .ok (.ifCond .ne 25, 3) := by decide +kernel
theorem d22_6 : decode jdk_52_method_5_code 6 = .ok (.iload_n 1, 1) := by decide +kernel
theorem d22_7 : decode jdk_52_method_5_code 7 = .ok (.ifCond .lt 11, 3) := by decide +kernel
theorem d22_10 : decode jdk_52_method_5_code 10 = .ok (.iload_n 1, 1) := by decide +kernel
theorem d22_11 : decode jdk_52_method_5_code 11 = .ok (.aload_n 0, 1) := by decide +kernel
theorem d22_12 : decode jdk_52_method_5_code 12 = .ok (.invokestatic 48, 3) := by decide +kernel
theorem d22_15 : decode jdk_52_method_5_code 15 = .ok (.if_icmp .lt 13, 3) := by decide +kernel
theorem d22_18 : decode jdk_52_method_5_code 18 = .ok (.new 52, 3) := by decide +kernel
theorem d22_21 : decode jdk_52_method_5_code 21 = .ok (.dup, 1) := by decide +kernel
theorem d22_22 : decode jdk_52_method_5_code 22 = .ok (.ldc 54, 2) := by decide +kernel
theorem d22_24 : decode jdk_52_method_5_code 24 = .ok (.invokespecial 56, 3) := by decide +kernel
theorem d22_27 : decode jdk_52_method_5_code 27 = .ok (.athrow, 1) := by decide +kernel
theorem d22_28 : decode jdk_52_method_5_code 28 = .ok (.iload_n 1, 1) := by decide +kernel
theorem d22_29 : decode jdk_52_method_5_code 29 = .ok (.iconst 1, 1) := by decide +kernel
theorem d22_30 : decode jdk_52_method_5_code 30 = .ok (.ishl, 1) := by decide +kernel
theorem d22_31 : decode jdk_52_method_5_code 31 = .ok (.istore_n 1, 1) := by decide +kernel
theorem d22_32 : decode jdk_52_method_5_code 32 = .ok (.aload_n 0, 1) := by decide +kernel
theorem d22_33 : decode jdk_52_method_5_code 33 = .ok (.iload_n 1, 1) := by decide +kernel
theorem d22_34 : decode jdk_52_method_5_code 34 = .ok (.iinc 1 1, 3) := by decide +kernel
theorem d22_37 : decode jdk_52_method_5_code 37 = .ok (.baload, 1) := by decide +kernel
theorem d22_38 : decode jdk_52_method_5_code 38 = .ok (.sipush 255, 3) := by decide +kernel
theorem d22_41 : decode jdk_52_method_5_code 41 = .ok (.iand, 1) := by decide +kernel
theorem d22_42 : decode jdk_52_method_5_code 42 = .ok (.getstatic 59, 3) := by decide +kernel
theorem d22_45 : decode jdk_52_method_5_code 45 = .ok (.ishl, 1) := by decide +kernel
theorem d22_46 : decode jdk_52_method_5_code 46 = .ok (.aload_n 0, 1) := by decide +kernel
theorem d22_47 : decode jdk_52_method_5_code 47 = .ok (.iload_n 1, 1) := by decide +kernel
theorem d22_48 : decode jdk_52_method_5_code 48 = .ok (.baload, 1) := by decide +kernel
theorem d22_49 : decode jdk_52_method_5_code 49 = .ok (.sipush 255, 3) := by decide +kernel
theorem d22_52 : decode jdk_52_method_5_code 52 = .ok (.iand, 1) := by decide +kernel
theorem d22_53 : decode jdk_52_method_5_code 53 = .ok (.getstatic 63, 3) := by decide +kernel
theorem d22_56 : decode jdk_52_method_5_code 56 = .ok (.ishl, 1) := by decide +kernel
theorem d22_57 : decode jdk_52_method_5_code 57 = .ok (.ior, 1) := by decide +kernel
theorem d22_58 : decode jdk_52_method_5_code 58 = .ok (.i2c, 1) := by decide +kernel
theorem d22_59 : decode jdk_52_method_5_code 59 = .ok (.ireturn, 1) := by decide +kernel
theorem own_sta {s : State} {args : Array Value} {C n d : String} {ty : FieldType} {k : Int32} (hfit : Fit s) (w1 : (Cond.laysStatic C n d).before args s = true) (w2 : (Cond.initializedFor C n d).before args s = true) (w3 : (Cond.eq (.static C n d) (.int k)).before args s = true) (ht : parseFieldDescriptor d = some ty) (hty : ty = .int ∨ ty = .boolean ∨ ty = .byte ∨ ty = .char ∨ ty = .short) : Sta s s.heap C n d (.int k) := by
  obtain ⟨v, ev, hv⟩ := static_fit hfit w1 ht
  obtain ⟨x, rfl⟩ := fit_I hv hty
  have e : x = k := gotT (Cond.eq_ints ev (Term.int_eval k)) (Cond.before_iff.mp w3)
  subst e
  exact Sta.start ev (Or.inl w2)
def U16Ok (Z : State) : Prop := Sta Z Z.heap "java/lang/StringUTF16" "$assertionsDisabled" "Z" (.int 1) ∧ Sta Z Z.heap "java/lang/StringUTF16" "HI_BYTE_SHIFT" "I" (.int 0) ∧ Sta Z Z.heap "java/lang/StringUTF16" "LO_BYTE_SHIFT" "I" (.int 8)
def loB (c : Int32) : Int32 := (c >>> ((0 : Int32) &&& 31)).toInt8.toInt32
def hiB (c : Int32) : Int32 := (c >>> ((8 : Int32) &&& 31)).toInt8.toInt32
def pairB (u v : Int32) : Int32 := nar .char ((((u &&& 255) <<< ((0 : Int32) &&& 31)) ||| ((v &&& 255) <<< ((8 : Int32) &&& 31))).toUInt32.toUInt16.toUInt32.toInt32)
theorem own_dbl {j : Int32} {i : Nat} (h : j.toInt = (i : Int)) (hi : i < 1073741824) : (j <<< ((1 : Int32) &&& 31)).toInt = ((2 * i : Nat) : Int) := by
  have a := c_ishl j 1 1 (by decide)
  have r := rng32 (j <<< ((1 : Int32) &&& 31))
  rw [h] at a
  omega
theorem own_pair {c : Int32} (h0 : 0 ≤ c.toInt) (h1 : c.toInt ≤ 65535) : pairB (loB c) (hiB c) = c := by
  have e1 := c_ishr c 0 0 (by decide)
  have e2 := c_ishr c 8 8 (by decide)
  have e3 := c_i2b (c >>> ((0 : Int32) &&& 31))
  have e4 := c_i2b (c >>> ((8 : Int32) &&& 31))
  have e5 := c_mask (loB c) 255 8 (by decide) (by decide)
  have e6 := c_mask (hiB c) 255 8 (by decide) (by decide)
  have e7 := c_ishl (loB c &&& 255) 0 0 (by decide)
  have e8 := c_ishl (hiB c &&& 255) 8 8 (by decide)
  have r7 := rng32 ((loB c &&& 255) <<< ((0 : Int32) &&& 31))
  have r8 := rng32 ((hiB c &&& 255) <<< ((8 : Int32) &&& 31))
  have l1 : (loB c).toInt = ((c >>> ((0 : Int32) &&& 31)).toInt8.toInt32).toInt := rfl
  have l2 : (hiB c).toInt = ((c >>> ((8 : Int32) &&& 31)).toInt8.toInt32).toInt := rfl
  have e9 := c_or ((hiB c &&& 255) <<< ((8 : Int32) &&& 31)) ((loB c &&& 255) <<< ((0 : Int32) &&& 31)) 8 (by decide) 256 rfl (by omega) (by omega) (by omega)
  rw [Int32.or_comm] at e9
  have r9 := rng32 (((loB c &&& 255) <<< ((0 : Int32) &&& 31)) ||| ((hiB c &&& 255) <<< ((8 : Int32) &&& 31)))
  have e10 := c_i2c (((loB c &&& 255) <<< ((0 : Int32) &&& 31)) ||| ((hiB c &&& 255) <<< ((8 : Int32) &&& 31)))
  have e11 := c_i2c ((((loB c &&& 255) <<< ((0 : Int32) &&& 31)) ||| ((hiB c &&& 255) <<< ((8 : Int32) &&& 31))).toUInt32.toUInt16.toUInt32.toInt32)
  apply own_eq
  show (((((loB c &&& 255) <<< ((0 : Int32) &&& 31)) ||| ((hiB c &&& 255) <<< ((8 : Int32) &&& 31))).toUInt32.toUInt16.toUInt32.toInt32).toUInt32.toUInt16.toUInt32.toInt32).toInt = c.toInt
  omega
set_option maxRecDepth 65536 in
set_option maxHeartbeats 40000000 in
theorem c_puc {l : Launch} {Z : State} {a0 : Array Value} (hw : ∀ d ∈ tables_1, d.before a0 Z = true) {n0 : Nat} {h0 : Heap} {b : Addr} {L i : Nat} {f : Nat → Value} {ji cc : Int32} (U : U16Ok Z) (A : Ary Z h0 b .byte L f) (hj : ji.toInt = (i : Int)) (hi : i < 1000000) (hL : 2 * i + 1 < L) : Con l Z n0 (⟨"java/lang/StringUTF16", "putChar", "([BII)V"⟩ : MethodName) jdk_52_method_4_code 3 none ({ frames := 0, cells := 0, slots := 0, locals := 0 } : Room) [.ref b, .int ji, .int cc] h0 [b] (fun v h' => v = none ∧ Ary Z h' b .byte L (fun t => if t = 2 * i + 1 then .int (hiB cc) else if t = 2 * i then .int (loB cc) else f t)) := by
  refine Con.of (Ls := [.val (.ref b), .val (.int ji), .val (.int cc)]) (by decide +kernel) (fun m => by first | rfl | (rcases ref_cases hrw with rfl | ⟨b, rfl⟩ <;> rfl) | simp [entryFrame, mkF, argsToLocals, Value.category]) (fun p e s m below meth c => ?_)
  show Wp false p l e ({ frames := 0, cells := 0, slots := 0, locals := 0 } : Room) s m ([.ref b, .int ji, .int cc] : List Value).toArray below meth c Z "java/lang/StringUTF16" "putChar" jdk_52_method_4_code 3 none n0 h0 [b] (fun v h' => v = none ∧ Ary Z h' b .byte L (fun t => if t = 2 * i + 1 then .int (hiB cc) else if t = 2 * i then .int (loB cc) else f t)) (fun _ => True) h0 0 0 0 [.val (.ref b), .val (.int ji), .val (.int cc)] []
  have d := own_dbl hj (by omega)
  refine kept fun K O => ?_
  refine getstatic (q1 := 3) d21_0 rfl (ww hw 119 rfl) Via.refl (U.1.ext O.2) ?_
  refine if_ne (q1 := 6) (q := 28) d21_3 rfl ⟨by decide, rfl⟩ (fun _ => ?_) (fun hq => absurd hq (by decide))
  refine iload_n (q1 := 29) d21_28 rfl rfl ?_
  refine iconst (q1 := 30) (v := 1) d21_29 rfl rfl ?_
  refine ishl (q1 := 31) d21_30 rfl ?_
  refine istore_n (q1 := 32) (jj := 1) d21_31 rfl rfl rfl ?_
  simp only [List.set_cons_zero, List.set_cons_succ]
  refine aload_n (q1 := 33) d21_32 rfl rfl rfl ?_
  refine iload_n (q1 := 34) d21_33 rfl rfl ?_
  refine iinc (q1 := 37) (v := 1) d21_34 rfl rfl rfl ?_
  simp only [List.set_cons_zero, List.set_cons_succ]
  refine iload_n (q1 := 38) d21_37 rfl rfl ?_
  refine getstatic (q1 := 41) d21_38 rfl (ww hw 120 rfl) Via.refl (U.2.1.ext O.2) ?_
  refine ishr (q1 := 42) d21_41 rfl ?_
  refine i2b (q1 := 43) d21_42 rfl ?_
  refine bastore (q1 := 44) d21_43 rfl (A) d (show 2 * i < L by omega) (Or.inl own_in1) (fun h43 W43 => ?_)
  refine kept fun K2 O2 => ?_
  refine aload_n (q1 := 45) d21_44 rfl rfl rfl ?_
  refine iload_n (q1 := 46) d21_45 rfl rfl ?_
  refine iload_n (q1 := 47) d21_46 rfl rfl ?_
  refine getstatic (q1 := 50) d21_47 rfl (ww hw 121 rfl) Via.refl (U.2.2.ext O2.2) ?_
  refine ishr (q1 := 51) d21_50 rfl ?_
  refine i2b (q1 := 52) d21_51 rfl ?_
  refine bastore (q1 := 53) d21_52 rfl (A.same W43) (own_succ d (by omega)) (show 2 * i + 1 < L by omega) (Or.inl own_in1) (fun h52 W52 => ?_)
  refine ret_v d21_53 rfl rfl ?_
  exact ⟨rfl, ((A.same W43).same W52).cong fun t ht => by rw [own_b8, own_b8]; rfl⟩
set_option maxRecDepth 65536 in
set_option maxHeartbeats 40000000 in
theorem c_gec {l : Launch} {Z : State} {a0 : Array Value} (hw : ∀ d ∈ tables_1, d.before a0 Z = true) {n0 : Nat} {h0 : Heap} {b : Addr} {L i : Nat} {f : Nat → Value} {ji u v' : Int32} (U : U16Ok Z) (A : Ary Z h0 b .byte L f) (hj : ji.toInt = (i : Int)) (hi : i < 1000000) (hL : 2 * i + 1 < L) (hu : f (2 * i) = .int u) (hv : f (2 * i + 1) = .int v') : Con l Z n0 (⟨"java/lang/StringUTF16", "getChar", "([BI)C"⟩ : MethodName) jdk_52_method_5_code 2 (some .char) ({ frames := 0, cells := 0, slots := 0, locals := 0 } : Room) [.ref b, .int ji] h0 [] (fun v h' => v = some (.int (pairB u v')) ∧ h' = h0) := by
  refine Con.of (Ls := [.val (.ref b), .val (.int ji)]) (by decide +kernel) (fun m => by first | rfl | (rcases ref_cases hrw with rfl | ⟨b, rfl⟩ <;> rfl) | simp [entryFrame, mkF, argsToLocals, Value.category]) (fun p e s m below meth c => ?_)
  show Wp false p l e ({ frames := 0, cells := 0, slots := 0, locals := 0 } : Room) s m ([.ref b, .int ji] : List Value).toArray below meth c Z "java/lang/StringUTF16" "getChar" jdk_52_method_5_code 2 (some .char) n0 h0 [] (fun v h' => v = some (.int (pairB u v')) ∧ h' = h0) (fun _ => True) h0 0 0 0 [.val (.ref b), .val (.int ji)] []
  have d := own_dbl hj (by omega)
  refine kept fun K O => ?_
  refine getstatic (q1 := 3) d22_0 rfl (ww hw 119 rfl) Via.refl (U.1.ext O.2) ?_
  refine if_ne (q1 := 6) (q := 28) d22_3 rfl ⟨by decide, rfl⟩ (fun _ => ?_) (fun hq => absurd hq (by decide))
  refine iload_n (q1 := 29) d22_28 rfl rfl ?_
  refine iconst (q1 := 30) (v := 1) d22_29 rfl rfl ?_
  refine ishl (q1 := 31) d22_30 rfl ?_
  refine istore_n (q1 := 32) (jj := 1) d22_31 rfl rfl rfl ?_
  simp only [List.set_cons_zero, List.set_cons_succ]
  refine aload_n (q1 := 33) d22_32 rfl rfl rfl ?_
  refine iload_n (q1 := 34) d22_33 rfl rfl ?_
  refine iinc (q1 := 37) (v := 1) d22_34 rfl rfl rfl ?_
  simp only [List.set_cons_zero, List.set_cons_succ]
  refine baload (q1 := 38) d22_37 rfl (A) d (show 2 * i < L by omega) hu ?_
  refine sipush (q1 := 41) (v := 255) d22_38 rfl rfl ?_
  refine iand (q1 := 42) d22_41 rfl ?_
  refine getstatic (q1 := 45) d22_42 rfl (ww hw 120 rfl) Via.refl (U.2.1.ext O.2) ?_
  refine ishl (q1 := 46) d22_45 rfl ?_
  refine aload_n (q1 := 47) d22_46 rfl rfl rfl ?_
  refine iload_n (q1 := 48) d22_47 rfl rfl ?_
  refine baload (q1 := 49) d22_48 rfl (A) (own_succ d (by omega)) (show 2 * i + 1 < L by omega) hv ?_
  refine sipush (q1 := 52) (v := 255) d22_49 rfl rfl ?_
  refine iand (q1 := 53) d22_52 rfl ?_
  refine getstatic (q1 := 56) d22_53 rfl (ww hw 121 rfl) Via.refl (U.2.2.ext O.2) ?_
  refine ishl (q1 := 57) d22_56 rfl ?_
  refine ior (q1 := 58) d22_57 rfl ?_
  refine i2c (q1 := 59) d22_58 rfl ?_
  refine ret_n (t := .char) d22_59 rfl (by simp) rfl ⟨rfl, rfl⟩
set_option maxRecDepth 65536 in
set_option maxHeartbeats 40000000 in
theorem c_nbl {l : Launch} {Z : State} {a0 : Array Value} (hw : ∀ d ∈ tables_1, d.before a0 Z = true) {n0 : Nat} {h0 : Heap} {len : Nat} {lenI : Int32} (hlen : lenI.toInt = (len : Int)) (hcap : len ≤ 4000) : Con l Z n0 (⟨"java/lang/StringUTF16", "newBytesLength", "(I)I"⟩ : MethodName) jdk_52_method_3_code 1 (some .int) ({ frames := 0, cells := 0, slots := 0, locals := 0 } : Room) [.int lenI] h0 [] (fun v h' => v = some (.int (lenI <<< ((1 : Int32) &&& 31))) ∧ h' = h0) := by
  refine Con.of (Ls := [.val (.int lenI)]) (by decide +kernel) (fun m => by first | rfl | (rcases ref_cases hrw with rfl | ⟨b, rfl⟩ <;> rfl) | simp [entryFrame, mkF, argsToLocals, Value.category]) (fun p e s m below meth c => ?_)
  show Wp false p l e ({ frames := 0, cells := 0, slots := 0, locals := 0 } : Room) s m ([.int lenI] : List Value).toArray below meth c Z "java/lang/StringUTF16" "newBytesLength" jdk_52_method_3_code 1 (some .int) n0 h0 [] (fun v h' => v = some (.int (lenI <<< ((1 : Int32) &&& 31))) ∧ h' = h0) (fun _ => True) h0 0 0 0 [.val (.int lenI)] []
  refine iload_n (q1 := 1) d20_0 rfl rfl ?_
  refine if_ge (q1 := 4) (q := 12) d20_1 rfl ⟨by decide, rfl⟩ (fun _ => ?_) (fun hq => absurd hq (by rw [own_lt, hlen]; have : (0 : Int32).toInt = 0 := rfl; omega))
  refine iload_n (q1 := 13) d20_12 rfl rfl ?_
  refine ldcI (q1 := 15) d20_13 rfl (ww hw 115 rfl) ?_
  refine icmp_lt (q1 := 18) (q := 55) d20_15 rfl ⟨by decide, rfl⟩ (fun _ => ?_) (fun hq => absurd (show lenI < 1073741823 by rw [own_lt, hlen]; have : (1073741823 : Int32).toInt = 1073741823 := rfl; omega) hq)
  refine iload_n (q1 := 56) d20_55 rfl rfl ?_
  refine iconst (q1 := 57) (v := 1) d20_56 rfl rfl ?_
  refine ishl (q1 := 58) d20_57 rfl ?_
  refine ret_i d20_58 rfl rfl ⟨rfl, rfl⟩
set_option maxRecDepth 65536 in
set_option maxHeartbeats 40000000 in
theorem c_nbf {l : Launch} {Z : State} {a0 : Array Value} (hw : ∀ d ∈ tables_1, d.before a0 Z = true) {n0 : Nat} {h0 : Heap} {len : Nat} {lenI : Int32} (hlen : lenI.toInt = (len : Int)) (hcap : len ≤ 4000) : Con l Z n0 (⟨"java/lang/StringUTF16", "newBytesFor", "(I)[B"⟩ : MethodName) jdk_52_method_2_code 1 (some (.array .byte)) { frames := 1, cells := 1, slots := 2 * len, locals := 12 } [.int lenI] h0 [] (fun v h' => v = some (.ref h0.size) ∧ Ary Z h' h0.size .byte (2 * len) (fun _ => .int 0)) := by
  refine Con.of (Ls := [.val (.int lenI)]) (by decide +kernel) (fun m => by first | rfl | (rcases ref_cases hrw with rfl | ⟨b, rfl⟩ <;> rfl) | simp [entryFrame, mkF, argsToLocals, Value.category]) (fun p e s m below meth c => ?_)
  show Wp false p l e ({ frames := 1, cells := 1, slots := 2 * len, locals := 12 }) s m ([.int lenI] : List Value).toArray below meth c Z "java/lang/StringUTF16" "newBytesFor" jdk_52_method_2_code 1 (some (.array .byte)) n0 h0 [] (fun v h' => v = some (.ref h0.size) ∧ Ary Z h' h0.size .byte (2 * len) (fun _ => .int 0)) (fun _ => True) h0 0 0 0 [.val (.int lenI)] []
  refine iload_n (q1 := 1) d19_0 rfl rfl ?_
  refine invokestatic (q1 := 4) d19_1 rfl (ww hw 112 rfl) (ww hw 113 rfl) (ww hw 98 rfl) (ww hw 114 rfl) (by decide) pd16 (c_nbl hw hlen hcap) rfl rfl rfl (by simp [roomOk, Value.category]) all0 (fun v h1 q K => ?_)
  obtain ⟨rfl, rfl⟩ := q
  refine newarray (q1 := 6) (len := 2 * len) (cap := 2 * len) d19_4 rfl (ww hw 15 rfl) (own_dbl hlen (by omega)) (Nat.le_refl _) (by omega) (Nat.le_refl _) (by show 0 + 0 + 2 * len ≤ 2 * len; omega) (fun S4 h4 E4 A4 => ?_)
  refine ret_a d19_6 rfl rfl rfl (by simp) ?_
  exact ⟨rfl, A4⟩
set_option maxRecDepth 65536 in
set_option maxHeartbeats 40000000 in
theorem c_tb3 {l : Launch} {Z : State} {a0 : Array Value} (hw : ∀ d ∈ tables_1, d.before a0 Z = true) {n0 : Nat} {h0 : Heap} {vb : Addr} {len : Nat} {lenI : Int32} {cf : Nat → Int32} (U : U16Ok Z) (hlen : lenI.toInt = (len : Int)) (hcap : len ≤ 4000) (V : Ary Z h0 vb .char len (fun i => .int (cf i))) : Con l Z n0 (⟨"java/lang/StringUTF16", "toBytes", "([CII)[B"⟩ : MethodName) jdk_52_method_14_code 5 (some (.array .byte)) { frames := 2, cells := 1, slots := 2 * len, locals := 24 } [.ref vb, .int 0, .int lenI] h0 [] (fun v h' => v = some (.ref h0.size) ∧ Ary Z h' h0.size .byte (2 * len) (fun t => if t % 2 = 0 then .int (loB (cf (t / 2))) else .int (hiB (cf (t / 2))))) := by
  refine Con.of (Ls := [.val (.ref vb), .val (.int 0), .val (.int lenI), .unset, .unset]) (by decide +kernel) (fun m => by first | rfl | (rcases ref_cases hrw with rfl | ⟨b, rfl⟩ <;> rfl) | simp [entryFrame, mkF, argsToLocals, Value.category]) (fun p e s m below meth c => ?_)
  show Wp false p l e ({ frames := 2, cells := 1, slots := 2 * len, locals := 24 }) s m ([.ref vb, .int 0, .int lenI] : List Value).toArray below meth c Z "java/lang/StringUTF16" "toBytes" jdk_52_method_14_code 5 (some (.array .byte)) n0 h0 [] (fun v h' => v = some (.ref h0.size) ∧ Ary Z h' h0.size .byte (2 * len) (fun t => if t % 2 = 0 then .int (loB (cf (t / 2))) else .int (hiB (cf (t / 2))))) (fun _ => True) h0 0 0 0 [.val (.ref vb), .val (.int 0), .val (.int lenI), .unset, .unset] []
  have hne : vb ≠ h0.size := Nat.ne_of_lt V.lt
  have loop : ∀ (r i : Nat) (j : Int32) (h : Heap), i + r = len → j.toInt = (i : Int) → Ary Z h h0.size .byte (2 * len) (fun t => if t < 2 * i then (if t % 2 = 0 then .int (loB (cf (t / 2))) else .int (hiB (cf (t / 2)))) else .int 0) → Wp false p l e ({ frames := 2, cells := 1, slots := 2 * len, locals := 24 }) s m ([.ref vb, .int 0, .int lenI] : List Value).toArray below meth c Z "java/lang/StringUTF16" "toBytes" jdk_52_method_14_code 5 (some (.array .byte)) n0 h0 [] (fun v h' => v = some (.ref h0.size) ∧ Ary Z h' h0.size .byte (2 * len) (fun t => if t % 2 = 0 then .int (loB (cf (t / 2))) else .int (hiB (cf (t / 2))))) (fun _ => True) h (0 + 1) (0 + 2 * len) 8 [.val (.ref vb), .val (.int j), .val (.int lenI), .val (.ref h0.size), .val (.int j)] [] := by
    intro r
    induction r with
    | zero =>
      intro i j h hi hj A
      refine iload (q1 := 10) d18_8 rfl rfl ?_
      refine iload_n (q1 := 11) d18_10 rfl rfl ?_
      refine icmp_ge (q1 := 14) (q := 32) d18_11 rfl ⟨by decide, rfl⟩ (fun _ => ?_) (fun hc => absurd hc (by rw [own_lt, hj, hlen]; omega))
      refine aload_n (q1 := 33) d18_32 rfl rfl rfl ?_
      refine ret_a d18_33 rfl rfl rfl (by simp) ?_
      exact ⟨rfl, A.cong fun t ht => by simp [show t < 2 * i by omega]⟩
    | succ r ih =>
      intro i j h hi hj A
      refine iload (q1 := 10) d18_8 rfl rfl ?_
      refine iload_n (q1 := 11) d18_10 rfl rfl ?_
      refine icmp_ge (q1 := 14) (q := 32) d18_11 rfl ⟨by decide, rfl⟩ (fun hc => absurd (show j < lenI by rw [own_lt, hj, hlen]; omega) hc) (fun _ => ?_)
      refine kept fun K O => ?_
      refine aload_n (q1 := 15) d18_14 rfl rfl rfl ?_
      refine iload (q1 := 17) d18_15 rfl rfl ?_
      refine aload_n (q1 := 18) d18_17 rfl rfl rfl ?_
      refine iload_n (q1 := 19) d18_18 rfl rfl ?_
      refine caload (q1 := 20) d18_19 rfl (V.keep K nin0) hj (show i < len by omega) rfl ?_
      refine invokestatic (q1 := 23) d18_20 rfl (ww hw 116 rfl) (ww hw 117 rfl) (ww hw 98 rfl) (ww hw 118 rfl) (by decide) pd17 (c_puc hw U A hj (by omega) (show 2 * i + 1 < 2 * len by omega)) rfl rfl rfl (by simp [roomOk, Value.category]) (allS (Or.inr (Nat.le_refl _)) all0) (fun v h1 q K1 => ?_)
      obtain ⟨rfl, A1⟩ := q
      refine iinc (q1 := 26) (v := 1) d18_23 rfl rfl rfl ?_
      simp only [List.set_cons_zero, List.set_cons_succ]
      refine iinc (q1 := 29) (v := 1) d18_26 rfl rfl rfl ?_
      simp only [List.set_cons_zero, List.set_cons_succ]
      refine goto (q := 8) d18_29 ⟨by decide, rfl⟩ ?_
      refine ih (i + 1) (j + 1) h1 (by omega) (own_succ hj (by omega)) (A1.cong fun t ht => ?_)
      by_cases e1 : t = 2 * i + 1
      · subst e1; rw [if_pos rfl, if_pos (by omega), if_neg (by omega), show (2 * i + 1) / 2 = i by omega]
      · rw [if_neg e1]
        by_cases e2 : t = 2 * i
        · subst e2; rw [if_pos rfl, if_pos (by omega), if_pos (by omega), show (2 * i) / 2 = i by omega]
        · rw [if_neg e2]
          by_cases e3 : t < 2 * i
          · simp only [if_pos e3, if_pos (show t < 2 * (i + 1) by omega)]
          · simp only [if_neg e3, if_neg (show ¬ t < 2 * (i + 1) by omega)]
  refine iload_n (q1 := 1) d18_0 rfl rfl ?_
  refine invokestatic (q1 := 4) d18_1 rfl (ww hw 109 rfl) (ww hw 110 rfl) (ww hw 98 rfl) (ww hw 111 rfl) (by decide) pd15 (c_nbf hw hlen hcap) rfl rfl rfl (by simp [roomOk, Value.category]) all0 (fun v h1 q K1 => ?_)
  obtain ⟨rfl, A1⟩ := q
  refine astore_n (q1 := 5) (jj := 3) d18_4 rfl rfl rfl rfl ?_
  simp only [List.set_cons_zero, List.set_cons_succ]
  refine iconst (q1 := 6) (v := 0) d18_5 rfl rfl ?_
  refine istore (q1 := 8) d18_6 rfl rfl ?_
  simp only [List.set_cons_zero, List.set_cons_succ]
  exact loop len 0 0 h1 (by omega) rfl (A1.cong fun t ht => by simp)
set_option maxRecDepth 65536 in
set_option maxHeartbeats 40000000 in
theorem c_cm5u {l : Launch} {Z : State} {a0 : Array Value} (hw : ∀ d ∈ tables_1, d.before a0 Z = true) {n0 : Nat} {h0 : Heap} {vb db : Addr} {len : Nat} {lenI : Int32} {cf : Nat → Int32} (hlen : lenI.toInt = (len : Int)) (V : Ary Z h0 vb .char len (fun i => .int (cf i))) (B : Ary Z h0 db .byte len (fun _ => .int 0)) (hne : vb ≠ db) (hc : ¬ Lat cf len) : Con l Z n0 (⟨"java/lang/StringUTF16", "compress", "([CI[BII)I"⟩ : MethodName) jdk_52_method_21_code 7 (some .int) ({ frames := 0, cells := 0, slots := 0, locals := 0 } : Room) [.ref vb, .int 0, .ref db, .int 0, .int lenI] h0 [db] (fun v h' => ∃ (r : Int32) (i : Nat), v = some (.int r) ∧ r.toInt = (i : Int) ∧ i < len ∧ (255 : Int32) < cf i) := by
  refine Con.of (Ls := [.val (.ref vb), .val (.int 0), .val (.ref db), .val (.int 0), .val (.int lenI), .unset, .unset]) (by decide +kernel) (fun m => by first | rfl | (rcases ref_cases hrw with rfl | ⟨b, rfl⟩ <;> rfl) | simp [entryFrame, mkF, argsToLocals, Value.category]) (fun p e s m below meth c => ?_)
  show Wp false p l e ({ frames := 0, cells := 0, slots := 0, locals := 0 } : Room) s m ([.ref vb, .int 0, .ref db, .int 0, .int lenI] : List Value).toArray below meth c Z "java/lang/StringUTF16" "compress" jdk_52_method_21_code 7 (some .int) n0 h0 [db] (fun v h' => ∃ (r : Int32) (i : Nat), v = some (.int r) ∧ r.toInt = (i : Int) ∧ i < len ∧ (255 : Int32) < cf i) (fun _ => True) h0 0 0 0 [.val (.ref vb), .val (.int 0), .val (.ref db), .val (.int 0), .val (.int lenI), .unset, .unset] []
  have hb := V.bound
  have loop : ∀ (r i : Nat) (j : Int32) (h : Heap) (o6 : Slot), i + r = len → j.toInt = (i : Int) → oneB o6 = true → (∀ t, t < i → ¬ (255 : Int32) < cf t) → (∃ f, Ary Z h db .byte len f) → Wp false p l e ({ frames := 0, cells := 0, slots := 0, locals := 0 } : Room) s m ([.ref vb, .int 0, .ref db, .int 0, .int lenI] : List Value).toArray below meth c Z "java/lang/StringUTF16" "compress" jdk_52_method_21_code 7 (some .int) n0 h0 [db] (fun v h' => ∃ (r : Int32) (i : Nat), v = some (.int r) ∧ r.toInt = (i : Int) ∧ i < len ∧ (255 : Int32) < cf i) (fun _ => True) h 0 0 3 [.val (.ref vb), .val (.int j), .val (.ref db), .val (.int j), .val (.int lenI), .val (.int j), o6] [] := by
    intro r
    induction r with
    | zero =>
      intro i j h o6 hi hj ho hlat A
      exact absurd (fun t ht => hlat t (by omega)) hc
    | succ r ih =>
      intro i j h o6 hi hj ho hlat ⟨f, A⟩
      refine iload (q1 := 5) d16_3 rfl rfl ?_
      refine iload (q1 := 7) d16_5 rfl rfl ?_
      refine icmp_ge (q1 := 10) (q := 44) d16_7 rfl ⟨by decide, rfl⟩ (fun hc => absurd (show j < lenI by rw [own_lt, hj, hlen]; omega) hc) (fun _ => ?_)
      refine kept fun K O => ?_
      refine aload_n (q1 := 11) d16_10 rfl rfl rfl ?_
      refine iload_n (q1 := 12) d16_11 rfl rfl ?_
      refine caload (q1 := 13) d16_12 rfl (V.keep K (ninS hne nin0)) hj (show i < len by omega) rfl ?_
      refine istore (q1 := 15) d16_13 rfl ho ?_
      simp only [List.set_cons_zero, List.set_cons_succ]
      refine iload (q1 := 17) d16_15 rfl rfl ?_
      refine sipush (q1 := 20) (v := 255) d16_17 rfl rfl ?_
      refine icmp_le (q1 := 23) (q := 26) d16_20 rfl ⟨by decide, rfl⟩ (fun hq => ?_) (fun hq => ?_)
      · refine aload_n (q1 := 27) d16_26 rfl rfl rfl ?_
        refine iload_n (q1 := 28) d16_27 rfl rfl ?_
        refine iload (q1 := 30) d16_28 rfl rfl ?_
        refine i2b (q1 := 31) d16_30 rfl ?_
        refine bastore (q1 := 32) d16_31 rfl (A) hj (show i < len by omega) (Or.inl own_in1) (fun h31 W31 => ?_)
        refine iinc (q1 := 35) (v := 1) d16_32 rfl rfl rfl ?_
        simp only [List.set_cons_zero, List.set_cons_succ]
        refine iinc (q1 := 38) (v := 1) d16_35 rfl rfl rfl ?_
        simp only [List.set_cons_zero, List.set_cons_succ]
        refine iinc (q1 := 41) (v := 1) d16_38 rfl rfl rfl ?_
        simp only [List.set_cons_zero, List.set_cons_succ]
        refine goto (q := 3) d16_41 ⟨by decide, rfl⟩ ?_
        refine ih (i + 1) (j + 1) h31 _ (by omega) (own_succ hj (by omega)) rfl (fun t ht => ?_) ⟨_, A.same W31⟩
        by_cases e : t = i
        · subst e; exact hq
        · exact hlat t (by omega)
      · refine iload (q1 := 25) d16_23 rfl rfl ?_
        refine ret_i d16_25 rfl rfl ⟨j, i, rfl, hj, by omega, hq⟩
  refine iconst (q1 := 1) (v := 0) d16_0 rfl rfl ?_
  refine istore (q1 := 3) d16_1 rfl rfl ?_
  simp only [List.set_cons_zero, List.set_cons_succ]
  exact loop len 0 0 h0 _ (by omega) rfl rfl (fun t ht => absurd ht (Nat.not_lt_zero t)) ⟨_, B⟩
def Chr (cf : Nat → Int32) (len : Nat) : Prop := ∀ i, i < len → 0 ≤ (cf i).toInt ∧ (cf i).toInt ≤ 65535
set_option maxRecDepth 65536 in
set_option maxHeartbeats 40000000 in
theorem c_cm3u {l : Launch} {Z : State} {a0 : Array Value} (hw : ∀ d ∈ tables_1, d.before a0 Z = true) {n0 : Nat} {h0 : Heap} {vb : Addr} {len : Nat} {lenI : Int32} {cf : Nat → Int32} (U : U16Ok Z) (hlen : lenI.toInt = (len : Int)) (hcap : len ≤ 4000) (V : Ary Z h0 vb .char len (fun i => .int (cf i))) (hch : Chr cf len) (hc : ¬ Lat cf len) : Con l Z n0 (⟨"java/lang/StringUTF16", "compress", "([CII)[B"⟩ : MethodName) jdk_52_method_16_code 6 (some (.array .byte)) { frames := 3, cells := 2, slots := len + 2 * len, locals := 40 } [.ref vb, .int 0, .int lenI] h0 [] (fun v h' => ∃ t : Addr, v = some (.ref t) ∧ h0.size ≤ t ∧ ∃ f, Ary Z h' t .byte (2 * len) f) := by
  refine Con.of (Ls := [.val (.ref vb), .val (.int 0), .val (.int lenI), .unset, .unset, .unset]) (by decide +kernel) (fun m => by first | rfl | (rcases ref_cases hrw with rfl | ⟨b, rfl⟩ <;> rfl) | simp [entryFrame, mkF, argsToLocals, Value.category]) (fun p e s m below meth c => ?_)
  show Wp false p l e ({ frames := 3, cells := 2, slots := len + 2 * len, locals := 40 }) s m ([.ref vb, .int 0, .int lenI] : List Value).toArray below meth c Z "java/lang/StringUTF16" "compress" jdk_52_method_16_code 6 (some (.array .byte)) n0 h0 [] (fun v h' => ∃ t : Addr, v = some (.ref t) ∧ h0.size ≤ t ∧ ∃ f, Ary Z h' t .byte (2 * len) f) (fun _ => True) h0 0 0 0 [.val (.ref vb), .val (.int 0), .val (.int lenI), .unset, .unset, .unset] []
  refine iload_n (q1 := 1) d15_0 rfl rfl ?_
  refine newarray (q1 := 3) (len := len) (cap := len) d15_1 rfl (ww hw 15 rfl) hlen (Nat.le_refl _) (by omega) (by show 0 + 1 ≤ 2; omega) (by show 0 + len ≤ len + 2 * len; omega) (fun S1 h1 E1 A1 => ?_)
  refine astore_n (q1 := 4) (jj := 3) d15_3 rfl rfl rfl rfl ?_
  simp only [List.set_cons_zero, List.set_cons_succ]
  refine aload_n (q1 := 5) d15_4 rfl rfl rfl ?_
  refine iload_n (q1 := 6) d15_5 rfl rfl ?_
  refine aload_n (q1 := 7) d15_6 rfl rfl rfl ?_
  refine iconst (q1 := 8) (v := 0) d15_7 rfl rfl ?_
  refine iload_n (q1 := 9) d15_8 rfl rfl ?_
  refine invokestatic (q1 := 12) d15_9 rfl (ww hw 100 rfl) (ww hw 101 rfl) (ww hw 98 rfl) (ww hw 102 rfl) (by decide) pd13 (c_cm5u hw hlen (V.ext E1) A1 (Nat.ne_of_lt V.lt) hc) rfl rfl rfl (by simp [roomOk, Value.category]) (allS (Or.inr S1) all0) (fun v h2 q K => ?_)
  obtain ⟨r, i, rfl, hr, hi, h255⟩ := q
  have V2 := (V.ext E1).keep K (ninS (Nat.ne_of_lt V.lt) nin0)
  refine istore (q1 := 14) d15_12 rfl rfl ?_
  simp only [List.set_cons_zero, List.set_cons_succ]
  refine iload (q1 := 16) d15_14 rfl rfl ?_
  refine iload_n (q1 := 17) d15_16 rfl rfl ?_
  refine icmp_eq (q1 := 20) (q := 57) d15_17 rfl ⟨by decide, rfl⟩ (fun hq => absurd hq (fun e => by rw [e, hlen] at hr; omega)) (fun _ => ?_)
  refine aload_n (q1 := 21) d15_20 rfl rfl rfl ?_
  refine iload_n (q1 := 22) d15_21 rfl rfl ?_
  refine iload_n (q1 := 23) d15_22 rfl rfl ?_
  refine invokestatic (q1 := 26) d15_23 rfl (ww hw 106 rfl) (ww hw 107 rfl) (ww hw 98 rfl) (ww hw 108 rfl) (by decide) pd12 (c_tb3 hw U hlen hcap V2) rfl rfl rfl (by simp [roomOk, Value.category]) all0 (fun v h3 q K3 => ?_)
  obtain ⟨rfl, A3⟩ := q
  refine astore (q1 := 28) d15_26 rfl rfl rfl ?_
  simp only [List.set_cons_zero, List.set_cons_succ]
  refine aload (q1 := 30) d15_28 rfl rfl rfl ?_
  refine iload (q1 := 32) d15_30 rfl rfl ?_
  refine invokestatic (q1 := 35) d15_32 rfl (ww hw 122 rfl) (ww hw 123 rfl) (ww hw 98 rfl) (ww hw 124 rfl) (by decide) pd18 (c_gec hw U A3 hr (by omega) (show 2 * i + 1 < 2 * len by omega) (u := loB (cf i)) (v' := hiB (cf i)) (by rw [if_pos (by omega), show 2 * i / 2 = i by omega]) (by rw [if_neg (by omega), show (2 * i + 1) / 2 = i by omega])) rfl rfl rfl (by simp [roomOk, Value.category]) all0 (fun v h4 q K4 => ?_)
  obtain ⟨rfl, rfl⟩ := q
  rw [own_pair (hch i hi).1 (hch i hi).2]
  refine sipush (q1 := 38) (v := 255) d15_35 rfl rfl ?_
  refine icmp_gt (q1 := 41) (q := 54) d15_38 rfl ⟨by decide, rfl⟩ (fun _ => ?_) (fun hq => absurd h255 hq)
  refine aload (q1 := 56) d15_54 rfl rfl rfl ?_
  refine ret_a d15_56 rfl rfl rfl (by simp) ?_
  exact ⟨_, rfl, Nat.le_trans E1.1 K.1, _, A3⟩
theorem own_cflu {z y : Int32} {len : Nat} (hz : z.toInt = (len : Int)) (hy : y.toInt = ((2 * len : Nat) : Int)) (h0 : 0 < len) (h1 : len ≤ 4000) : (((z - y).toUInt32 >>> ((31 : Int32) &&& 31).toUInt32).toInt32).toInt8.toInt32 = 1 := by
  have a := c_isub z y
  have r := rng32 (z - y)
  have b := c_iushr (z - y) 31 31 (by decide) (by decide)
  have c := c_i2b (((z - y).toUInt32 >>> ((31 : Int32) &&& 31).toUInt32).toInt32)
  apply own_eq
  have e : (1 : Int32).toInt = 1 := rfl
  rw [e]
  omega
set_option maxRecDepth 65536 in
set_option maxHeartbeats 40000000 in
theorem c_cflu {l : Launch} {Z : State} {a0 : Array Value} (hw : ∀ d ∈ tables_1, d.before a0 Z = true) {n0 : Nat} {h0 : Heap} {db : Addr} {len : Nat} {lenI : Int32} {f : Nat → Value} (hlen : lenI.toInt = (len : Int)) (hpos : 0 < len) (hcap : len ≤ 4000) (A : Ary Z h0 db .byte (2 * len) f) : Con l Z n0 (⟨"java/lang/StringUTF16", "coderFromArrayLen", "([BI)B"⟩ : MethodName) jdk_52_method_15_code 2 (some .byte) ({ frames := 0, cells := 0, slots := 0, locals := 0 } : Room) [.ref db, .int lenI] h0 [] (fun v h' => v = some (.int 1) ∧ h' = h0) := by
  refine Con.of (Ls := [.val (.ref db), .val (.int lenI)]) (by decide +kernel) (fun m => by first | rfl | (rcases ref_cases hrw with rfl | ⟨b, rfl⟩ <;> rfl) | simp [entryFrame, mkF, argsToLocals, Value.category]) (fun p e s m below meth c => ?_)
  show Wp false p l e ({ frames := 0, cells := 0, slots := 0, locals := 0 } : Room) s m ([.ref db, .int lenI] : List Value).toArray below meth c Z "java/lang/StringUTF16" "coderFromArrayLen" jdk_52_method_15_code 2 (some .byte) n0 h0 [] (fun v h' => v = some (.int 1) ∧ h' = h0) (fun _ => True) h0 0 0 0 [.val (.ref db), .val (.int lenI)] []
  refine iload_n (q1 := 1) d17_0 rfl rfl ?_
  refine aload_n (q1 := 2) d17_1 rfl rfl rfl ?_
  refine arraylength (q1 := 3) d17_2 rfl (A) (own_dbl hlen (by omega)) ?_
  refine isub (q1 := 4) d17_3 rfl ?_
  refine bipush (q1 := 6) (v := 31) d17_4 rfl rfl ?_
  refine iushr (q1 := 7) d17_6 rfl ?_
  refine i2b (q1 := 8) d17_7 rfl ?_
  refine ret_n (t := .byte) d17_8 rfl (by simp) rfl ?_
  refine ⟨?_, rfl⟩
  rw [own_cflu hlen (own_dbl hlen (by omega)) hpos hcap]; rfl
set_option maxRecDepth 65536 in
set_option maxHeartbeats 40000000 in
theorem c_si4u {l : Launch} {Z : State} {a0 : Array Value} (hw : ∀ d ∈ tables_1, d.before a0 Z = true) {n0 : Nat} {h0 : Heap} {x vb : Addr} {len : Nat} {lenI z : Int32} {cf : Nat → Int32} {v0 c0 : Value} (U : U16Ok Z) (hlen : lenI.toInt = (len : Int)) (hpos : 0 < len) (hcap : len ≤ 4000) (X : Exa Z h0 x "java/lang/String") (FV : Fld Z h0 x "java/lang/String" "value" "[B" v0) (FC : Fld Z h0 x "java/lang/String" "coder" "B" c0) (V : Ary Z h0 vb .char len (fun i => .int (cf i))) (hch : Chr cf len) (hc : ¬ Lat cf len) (S : Cmpct Z z) : Con l Z n0 (⟨"java/lang/String", "<init>", "([CIILjava/lang/Void;)V"⟩ : MethodName) jdk_42_method_149_code 6 none { frames := 4, cells := 2, slots := len + 2 * len, locals := 57 } [.ref x, .ref vb, .int 0, .int lenI, .null] h0 [x] (fun v h' => v = none ∧ Exa Z h' x "java/lang/String") := by
  refine Con.of (Ls := [.val (.ref x), .val (.ref vb), .val (.int 0), .val (.int lenI), .val .null, .unset]) (by decide +kernel) (fun m => by first | rfl | (rcases ref_cases hrw with rfl | ⟨b, rfl⟩ <;> rfl) | simp [entryFrame, mkF, argsToLocals, Value.category]) (fun p e s m below meth c => ?_)
  show Wp false p l e ({ frames := 4, cells := 2, slots := len + 2 * len, locals := 57 }) s m ([.ref x, .ref vb, .int 0, .int lenI, .null] : List Value).toArray below meth c Z "java/lang/String" "<init>" jdk_42_method_149_code 6 none n0 h0 [x] (fun v h' => v = none ∧ Exa Z h' x "java/lang/String") (fun _ => True) h0 0 0 0 [.val (.ref x), .val (.ref vb), .val (.int 0), .val (.int lenI), .val .null, .unset] []
  refine aload_n (q1 := 1) d2_0 rfl rfl rfl ?_
  refine initObj (q1 := 4) d2_1 rfl (ww hw 11 rfl) (ww hw 12 rfl) (ww hw 13 rfl) rfl rfl ?_
  refine iload_n (q1 := 5) d2_4 rfl rfl ?_
  refine if_ne (q1 := 8) (q := 27) d2_5 rfl ⟨by decide, rfl⟩ (fun _ => ?_) (fun hq => absurd hq (by intro e; rw [e] at hlen; simp at hlen; omega))
  refine kept fun K O => ?_
  refine getstatic (q1 := 30) d2_27 rfl (ww hw 95 rfl) Via.refl (S.1.ext O.2) ?_
  refine if_eq (q1 := 33) (q := 58) d2_30 rfl ⟨by decide, rfl⟩ (fun hq => absurd hq S.2) (fun _ => ?_)
  refine aload_n (q1 := 34) d2_33 rfl rfl rfl ?_
  refine iload_n (q1 := 35) d2_34 rfl rfl ?_
  refine iload_n (q1 := 36) d2_35 rfl rfl ?_
  refine invokestatic (q1 := 39) d2_36 rfl (ww hw 96 rfl) (ww hw 97 rfl) (ww hw 98 rfl) (ww hw 99 rfl) (by decide) pd12 (c_cm3u hw U hlen hcap V hch hc) rfl rfl rfl (by simp [roomOk, Value.category]) all0 (fun v h1 q K1 => ?_)
  obtain ⟨t, rfl, ht, f, A1⟩ := q
  refine astore (q1 := 41) d2_39 rfl rfl rfl ?_
  simp only [List.set_cons_zero, List.set_cons_succ]
  refine aload_n (q1 := 42) d2_41 rfl rfl rfl ?_
  refine aload (q1 := 44) d2_42 rfl rfl rfl ?_
  refine iload_n (q1 := 45) d2_44 rfl rfl ?_
  refine invokestatic (q1 := 48) d2_45 rfl (ww hw 103 rfl) (ww hw 104 rfl) (ww hw 98 rfl) (ww hw 105 rfl) (by decide) pd14 (c_cflu hw hlen hpos hcap A1) rfl rfl rfl (by simp [roomOk, Value.category]) all0 (fun v h2 q K2 => ?_)
  obtain ⟨rfl, rfl⟩ := q
  have X1 := X.keep K1
  refine putfieldN (q1 := 51) d2_48 rfl (ww hw 21 rfl) Via.refl (FC.keep K1 nin0) (X1) (Or.inr ⟨(ww hw 17 rfl), rfl, rfl⟩) (ww hw 2 rfl) (ty := .byte) (by decide) rfl (fits_nar_byte _) (Or.inl own_in1) (fun h48 W48 => ?_)
  refine aload_n (q1 := 52) d2_51 rfl rfl rfl ?_
  refine aload (q1 := 54) d2_52 rfl rfl rfl ?_
  refine putfield (q1 := 57) d2_54 rfl (ww hw 20 rfl) Via.refl ((FV.keep K1 nin0).other W48 (Or.inr (slot_ne (Or.inr (ww hw 16 rfl)) (Or.inr (ww hw 17 rfl)) (by decide) (t := (.array .byte)) (t' := .byte) (by decide) (by decide)))) (X1.wr W48) (Or.inr ⟨(ww hw 16 rfl), rfl, rfl⟩) (ww hw 2 rfl) (ty := (.array .byte)) (by decide) rfl rfl (Or.inl own_in1) (fun h54 W54 => ?_)
  refine ret_v d2_57 rfl (by simp) ?_
  exact ⟨rfl, (X1.wr W48).wr W54⟩
set_option maxRecDepth 65536 in
set_option maxHeartbeats 40000000 in
theorem c_si1u {l : Launch} {Z : State} {a0 : Array Value} (hw : ∀ d ∈ tables_1, d.before a0 Z = true) {n0 : Nat} {h0 : Heap} {x vb : Addr} {len : Nat} {lenI z : Int32} {cf : Nat → Int32} {v0 c0 : Value} (U : U16Ok Z) (hlen : lenI.toInt = (len : Int)) (hpos : 0 < len) (hcap : len ≤ 4000) (X : Exa Z h0 x "java/lang/String") (FV : Fld Z h0 x "java/lang/String" "value" "[B" v0) (FC : Fld Z h0 x "java/lang/String" "coder" "B" c0) (V : Ary Z h0 vb .char len (fun i => .int (cf i))) (hch : Chr cf len) (hc : ¬ Lat cf len) (S : Cmpct Z z) : Con l Z n0 (⟨"java/lang/String", "<init>", "([C)V"⟩ : MethodName) jdk_42_method_3_code 2 none { frames := 5, cells := 2, slots := len + 2 * len, locals := 74 } [.ref x, .ref vb] h0 [x] (fun v h' => v = none ∧ Exa Z h' x "java/lang/String") := by
  refine Con.of (Ls := [.val (.ref x), .val (.ref vb)]) (by decide +kernel) (fun m => by first | rfl | (rcases ref_cases hrw with rfl | ⟨b, rfl⟩ <;> rfl) | simp [entryFrame, mkF, argsToLocals, Value.category]) (fun p e s m below meth c => ?_)
  show Wp false p l e ({ frames := 5, cells := 2, slots := len + 2 * len, locals := 74 }) s m ([.ref x, .ref vb] : List Value).toArray below meth c Z "java/lang/String" "<init>" jdk_42_method_3_code 2 none n0 h0 [x] (fun v h' => v = none ∧ Exa Z h' x "java/lang/String") (fun _ => True) h0 0 0 0 [.val (.ref x), .val (.ref vb)] []
  refine aload_n (q1 := 1) d1_0 rfl rfl rfl ?_
  refine aload_n (q1 := 2) d1_1 rfl rfl rfl ?_
  refine iconst (q1 := 3) (v := 0) d1_2 rfl rfl ?_
  refine aload_n (q1 := 4) d1_3 rfl rfl rfl ?_
  refine arraylength (q1 := 5) d1_4 rfl (V) hlen ?_
  refine aconst_null (q1 := 6) d1_5 rfl ?_
  refine invokespecial (q1 := 9) d1_6 rfl rfl (ww hw 7 rfl) (ww hw 8 rfl) (ww hw 3 rfl) (ww hw 10 rfl) (by decide) pd1 (c_si4u hw U hlen hpos hcap X FV FC V hch hc S) rfl rfl rfl (by simp [roomOk, Value.category]) (allS (Or.inl own_in1) all0) (fun v h1 q K1 => ?_)
  obtain ⟨rfl, Q1⟩ := q
  refine ret_v d1_9 rfl (by simp) ?_
  exact ⟨rfl, Q1⟩
theorem d4_0 : decode prog_18_method_1_code 0 = .ok (.aload_n 0, 1) := by decide +kernel
theorem d4_1 : decode prog_18_method_1_code 1 = .ok (.invokespecial 1, 3) := by decide +kernel
theorem d4_4 : decode prog_18_method_1_code 4 = .ok (.aload_n 0, 1) := by decide +kernel
theorem d4_5 : decode prog_18_method_1_code 5 = .ok (.iload_n 1, 1) := by decide +kernel
theorem d4_6 : decode prog_18_method_1_code 6 = .ok (.putfield 7, 3) := by decide +kernel
theorem d4_9 : decode prog_18_method_1_code 9 = .ok (.aload_n 0, 1) := by decide +kernel
theorem d4_10 : decode prog_18_method_1_code 10 = .ok (.iload_n 2, 1) := by decide +kernel
theorem d4_11 : decode prog_18_method_1_code 11 = .ok (.putfield 13, 3) := by decide +kernel
theorem d4_14 : decode prog_18_method_1_code 14 = .ok (.return_, 1) := by decide +kernel
theorem d5_0 : decode jdk_30_method_1_code 0 = .ok (.aload_n 0, 1) := by decide +kernel
theorem d5_1 : decode jdk_30_method_1_code 1 = .ok (.invokespecial 1, 3) := by decide +kernel
theorem d5_4 : decode jdk_30_method_1_code 4 = .ok (.return_, 1) := by decide +kernel
theorem d6_0 : decode prog_23_method_2_code 0 = .ok (.new 8, 3) := by decide +kernel
theorem d6_3 : decode prog_23_method_2_code 3 = .ok (.dup, 1) := by decide +kernel
theorem d6_4 : decode prog_23_method_2_code 4 = .ok (.getstatic 17, 3) := by decide +kernel
theorem d6_7 : decode prog_23_method_2_code 7 = .ok (.aload_n 0, 1) := by decide +kernel
theorem d6_8 : decode prog_23_method_2_code 8 = .ok (.aload_n 1, 1) := by decide +kernel
theorem d6_9 : decode prog_23_method_2_code 9 = .ok (.invokespecial 22, 3) := by decide +kernel
theorem d6_12 : decode prog_23_method_2_code 12 = .ok (.areturn, 1) := by decide +kernel
theorem d7_0 : decode prog_23_method_1_code 0 = .ok (.aload_n 0, 1) := by decide +kernel
theorem d7_1 : decode prog_23_method_1_code 1 = .ok (.aload_n 3, 1) := by decide +kernel
theorem d7_2 : decode prog_23_method_1_code 2 = .ok (.invokespecial 1, 3) := by decide +kernel
theorem d7_5 : decode prog_23_method_1_code 5 = .ok (.aload_n 0, 1) := by decide +kernel
theorem d7_6 : decode prog_23_method_1_code 6 = .ok (.aload_n 1, 1) := by decide +kernel
theorem d7_7 : decode prog_23_method_1_code 7 = .ok (.putfield 7, 3) := by decide +kernel
theorem d7_10 : decode prog_23_method_1_code 10 = .ok (.aload_n 0, 1) := by decide +kernel
theorem d7_11 : decode prog_23_method_1_code 11 = .ok (.aload_n 2, 1) := by decide +kernel
theorem d7_12 : decode prog_23_method_1_code 12 = .ok (.putfield 13, 3) := by decide +kernel
theorem d7_15 : decode prog_23_method_1_code 15 = .ok (.return_, 1) := by decide +kernel
theorem d8_0 : decode prog_11_method_1_code 0 = .ok (.aload_n 0, 1) := by decide +kernel
theorem d8_1 : decode prog_11_method_1_code 1 = .ok (.invokespecial 1, 3) := by decide +kernel
theorem d8_4 : decode prog_11_method_1_code 4 = .ok (.aload_n 0, 1) := by decide +kernel
theorem d8_5 : decode prog_11_method_1_code 5 = .ok (.aload_n 1, 1) := by decide +kernel
theorem d8_6 : decode prog_11_method_1_code 6 = .ok (.putfield 7, 3) := by decide +kernel
theorem d8_9 : decode prog_11_method_1_code 9 = .ok (.return_, 1) := by decide +kernel
theorem d9_0 : decode prog_23_method_3_code 0 = .ok (.aload_n 0, 1) := by decide +kernel
theorem d9_1 : decode prog_23_method_3_code 1 = .ok (.getfield 7, 3) := by decide +kernel
theorem d9_4 : decode prog_23_method_3_code 4 = .ok (.areturn, 1) := by decide +kernel
theorem d10_0 : decode prog_23_method_4_code 0 = .ok (.aload_n 0, 1) := by decide +kernel
theorem d10_1 : decode prog_23_method_4_code 1 = .ok (.getfield 13, 3) := by decide +kernel
theorem d10_4 : decode prog_23_method_4_code 4 = .ok (.areturn, 1) := by decide +kernel
theorem d11_0 : decode jdk_42_method_66_code 0 = .ok (.aload_n 0, 1) := by decide +kernel
theorem d11_1 : decode jdk_42_method_66_code 1 = .ok (.aload_n 1, 1) := by decide +kernel
theorem d11_2 : decode jdk_42_method_66_code 2 = .ok (.if_acmp .ne 5, 3) := by decide +kernel
theorem d11_5 : decode jdk_42_method_66_code 5 = .ok (.iconst 1, 1) := by decide +kernel
theorem d11_6 : decode jdk_42_method_66_code 6 = .ok (.ireturn, 1) := by decide +kernel
theorem d11_7 : decode jdk_42_method_66_code 7 = .ok (.aload_n 1, 1) := by decide +kernel
theorem d11_8 : decode jdk_42_method_66_code 8 = .ok (.instanceof 10, 3) := by decide +kernel
theorem d11_11 : decode jdk_42_method_66_code 11 = .ok (.ifCond .eq 43, 3) := by decide +kernel
theorem d11_14 : decode jdk_42_method_66_code 14 = .ok (.aload_n 1, 1) := by decide +kernel
theorem d11_15 : decode jdk_42_method_66_code 15 = .ok (.checkcast 10, 3) := by decide +kernel
theorem d11_18 : decode jdk_42_method_66_code 18 = .ok (.astore_n 2, 1) := by decide +kernel
theorem d11_19 : decode jdk_42_method_66_code 19 = .ok (.getstatic 38, 3) := by decide +kernel
theorem d11_22 : decode jdk_42_method_66_code 22 = .ok (.ifCond .eq 14, 3) := by decide +kernel
theorem d11_25 : decode jdk_42_method_66_code 25 = .ok (.aload_n 0, 1) := by decide +kernel
theorem d11_26 : decode jdk_42_method_66_code 26 = .ok (.getfield 15, 3) := by decide +kernel
theorem d11_29 : decode jdk_42_method_66_code 29 = .ok (.aload_n 2, 1) := by decide +kernel
theorem d11_30 : decode jdk_42_method_66_code 30 = .ok (.getfield 15, 3) := by decide +kernel
theorem d11_33 : decode jdk_42_method_66_code 33 = .ok (.if_icmp .ne 21, 3) := by decide +kernel
theorem d11_36 : decode jdk_42_method_66_code 36 = .ok (.aload_n 0, 1) := by decide +kernel
theorem d11_37 : decode jdk_42_method_66_code 37 = .ok (.getfield 9, 3) := by decide +kernel
theorem d11_40 : decode jdk_42_method_66_code 40 = .ok (.aload_n 2, 1) := by decide +kernel
theorem d11_41 : decode jdk_42_method_66_code 41 = .ok (.getfield 9, 3) := by decide +kernel
theorem d11_44 : decode jdk_42_method_66_code 44 = .ok (.invokestatic 541, 3) := by decide +kernel
theorem d11_47 : decode jdk_42_method_66_code 47 = .ok (.ifCond .eq 7, 3) := by decide +kernel
theorem d11_50 : decode jdk_42_method_66_code 50 = .ok (.iconst 1, 1) := by decide +kernel
theorem d11_51 : decode jdk_42_method_66_code 51 = .ok (.goto 4, 3) := by decide +kernel
theorem d11_54 : decode jdk_42_method_66_code 54 = .ok (.iconst 0, 1) := by decide +kernel
theorem d11_55 : decode jdk_42_method_66_code 55 = .ok (.ireturn, 1) := by decide +kernel
theorem d12_0 : decode prog_11_method_2_code 0 = .ok (.aload_n 0, 1) := by decide +kernel
theorem d12_1 : decode prog_11_method_2_code 1 = .ok (.getfield 7, 3) := by decide +kernel
theorem d12_4 : decode prog_11_method_2_code 4 = .ok (.areturn, 1) := by decide +kernel
theorem d13_0 : decode prog_18_method_7_code 0 = .ok (.aload_n 0, 1) := by decide +kernel
theorem d13_1 : decode prog_18_method_7_code 1 = .ok (.getfield 7, 3) := by decide +kernel
theorem d13_4 : decode prog_18_method_7_code 4 = .ok (.ireturn, 1) := by decide +kernel
theorem d14_0 : decode prog_18_method_8_code 0 = .ok (.aload_n 0, 1) := by decide +kernel
theorem d14_1 : decode prog_18_method_8_code 1 = .ok (.getfield 13, 3) := by decide +kernel
theorem d14_4 : decode prog_18_method_8_code 4 = .ok (.ireturn, 1) := by decide +kernel
set_option maxRecDepth 65536 in
set_option maxHeartbeats 40000000 in
theorem c_rec {l : Launch} {Z : State} {a0 : Array Value} (hw : ∀ d ∈ tables_1, d.before a0 Z = true) {n0 : Nat} {h0 : Heap} {a : Addr} : Con l Z n0 (⟨"java/lang/Record", "<init>", "()V"⟩ : MethodName) jdk_30_method_1_code 1 none ({ frames := 1, cells := 0, slots := 0, locals := 12 } : Room) [.ref a] h0 [] (fun v h' => v = none ∧ h' = h0) := by
  refine Con.of (Ls := [.val (.ref a)]) (by decide +kernel) (fun m => by first | rfl | (rcases ref_cases hrw with rfl | ⟨b, rfl⟩ <;> rfl) | simp [entryFrame, mkF, argsToLocals, Value.category]) (fun p e s m below meth c => ?_)
  show Wp false p l e ({ frames := 1, cells := 0, slots := 0, locals := 12 } : Room) s m ([.ref a] : List Value).toArray below meth c Z "java/lang/Record" "<init>" jdk_30_method_1_code 1 none n0 h0 [] (fun v h' => v = none ∧ h' = h0) (fun _ => True) h0 0 0 0 [.val (.ref a)] []
  refine aload_n (q1 := 1) d5_0 rfl rfl rfl ?_
  refine initObj (q1 := 4) d5_1 rfl (ww hw 33 rfl) (ww hw 12 rfl) (ww hw 13 rfl) rfl rfl ?_
  refine ret_v d5_4 rfl rfl ⟨rfl, rfl⟩
def PosIs (Z : State) (h : Heap) (a : Addr) (ln cl : Int32) : Prop := Exa Z h a "com/example/pathbook/pathbook/document/Position" ∧ Fld Z h a "com/example/pathbook/pathbook/document/Position" "line" "I" (.int ln) ∧ Fld Z h a "com/example/pathbook/pathbook/document/Position" "column" "I" (.int cl)
set_option maxRecDepth 65536 in
set_option maxHeartbeats 40000000 in
theorem c_pi {l : Launch} {Z : State} {a0 : Array Value} (hw : ∀ d ∈ tables_1, d.before a0 Z = true) {n0 : Nat} {h0 : Heap} {a : Addr} {ln cl : Int32} {u1 u2 : Value} (X : Exa Z h0 a "com/example/pathbook/pathbook/document/Position") (F1 : Fld Z h0 a "com/example/pathbook/pathbook/document/Position" "line" "I" u1) (F2 : Fld Z h0 a "com/example/pathbook/pathbook/document/Position" "column" "I" u2) : Con l Z n0 (⟨"com/example/pathbook/pathbook/document/Position", "<init>", "(II)V"⟩ : MethodName) prog_18_method_1_code 3 none ({ frames := 2, cells := 0, slots := 0, locals := 24 } : Room) [.ref a, .int ln, .int cl] h0 [a] (fun v h' => v = none ∧ PosIs Z h' a ln cl) := by
  refine Con.of (Ls := [.val (.ref a), .val (.int ln), .val (.int cl)]) (by decide +kernel) (fun m => by first | rfl | (rcases ref_cases hrw with rfl | ⟨b, rfl⟩ <;> rfl) | simp [entryFrame, mkF, argsToLocals, Value.category]) (fun p e s m below meth c => ?_)
  show Wp false p l e ({ frames := 2, cells := 0, slots := 0, locals := 24 } : Room) s m ([.ref a, .int ln, .int cl] : List Value).toArray below meth c Z "com/example/pathbook/pathbook/document/Position" "<init>" prog_18_method_1_code 3 none n0 h0 [a] (fun v h' => v = none ∧ PosIs Z h' a ln cl) (fun _ => True) h0 0 0 0 [.val (.ref a), .val (.int ln), .val (.int cl)] []
  refine aload_n (q1 := 1) d4_0 rfl rfl rfl ?_
  refine invokespecial (q1 := 4) d4_1 rfl rfl (ww hw 28 rfl) (ww hw 29 rfl) (ww hw 31 rfl) (ww hw 32 rfl) (by decide) pd2 (c_rec hw) rfl rfl rfl rfl all0 (fun v h1 q _ => ?_)
  obtain ⟨rfl, rfl⟩ := q
  refine aload_n (q1 := 5) d4_4 rfl rfl rfl ?_
  refine iload_n (q1 := 6) d4_5 rfl rfl ?_
  refine putfield (q1 := 9) d4_6 rfl (ww hw 34 rfl) Via.refl (F1) (X) (Or.inr ⟨(ww hw 35 rfl), rfl, rfl⟩) (ww hw 23 rfl) (ty := .int) (by decide) rfl rfl (Or.inl own_in1) (fun h6 W6 => ?_)
  refine aload_n (q1 := 10) d4_9 rfl rfl rfl ?_
  refine iload_n (q1 := 11) d4_10 rfl rfl ?_
  refine putfield (q1 := 14) d4_11 rfl (ww hw 36 rfl) Via.refl (F2.other W6 (Or.inr (slot_ne (Or.inr (ww hw 37 rfl)) (Or.inr (ww hw 35 rfl)) (by decide) (t := .int) (t' := .int) (by decide) (by decide)))) (X.wr W6) (Or.inr ⟨(ww hw 37 rfl), rfl, rfl⟩) (ww hw 23 rfl) (ty := .int) (by decide) rfl rfl (Or.inl own_in1) (fun h11 W11 => ?_)
  refine ret_v d4_14 rfl rfl ?_
  exact ⟨rfl, (X.wr W6).wr W11, (F1.same W6).other W11 (Or.inr (slot_ne (Or.inr (ww hw 35 rfl)) (Or.inr (ww hw 37 rfl)) (by decide) (t := .int) (t' := .int) (by decide) (by decide))), (F2.other W6 (Or.inr (slot_ne (Or.inr (ww hw 37 rfl)) (Or.inr (ww hw 35 rfl)) (by decide) (t := .int) (t' := .int) (by decide) (by decide)))).same W11⟩
set_option maxRecDepth 65536 in
set_option maxHeartbeats 40000000 in
theorem c_ndi {l : Launch} {Z : State} {a0 : Array Value} (hw : ∀ d ∈ tables_1, d.before a0 Z = true) {n0 : Nat} {h0 : Heap} {a ps : Addr} {u1 : Value} (X : Exa Z h0 a "com/example/pathbook/pathbook/document/ScalarNode") (F1 : Fld Z h0 a "com/example/pathbook/pathbook/document/Node" "start" "Lcom/example/pathbook/pathbook/document/Position;" u1) : Con l Z n0 (⟨"com/example/pathbook/pathbook/document/Node", "<init>", "(Lcom/example/pathbook/pathbook/document/Position;)V"⟩ : MethodName) prog_11_method_1_code 2 none ({ frames := 1, cells := 0, slots := 0, locals := 12 } : Room) [.ref a, .ref ps] h0 [a] (fun v h' => v = none ∧ Exa Z h' a "com/example/pathbook/pathbook/document/ScalarNode" ∧ Fld Z h' a "com/example/pathbook/pathbook/document/Node" "start" "Lcom/example/pathbook/pathbook/document/Position;" (.ref ps) ∧ ∃ w, Wr h0 h' a (Jvm.RoadKit.slotOf Z "com/example/pathbook/pathbook/document/Node" "start" "Lcom/example/pathbook/pathbook/document/Position;") w) := by
  refine Con.of (Ls := [.val (.ref a), .val (.ref ps)]) (by decide +kernel) (fun m => by first | rfl | (rcases ref_cases hrw with rfl | ⟨b, rfl⟩ <;> rfl) | simp [entryFrame, mkF, argsToLocals, Value.category]) (fun p e s m below meth c => ?_)
  show Wp false p l e ({ frames := 1, cells := 0, slots := 0, locals := 12 } : Room) s m ([.ref a, .ref ps] : List Value).toArray below meth c Z "com/example/pathbook/pathbook/document/Node" "<init>" prog_11_method_1_code 2 none n0 h0 [a] (fun v h' => v = none ∧ Exa Z h' a "com/example/pathbook/pathbook/document/ScalarNode" ∧ Fld Z h' a "com/example/pathbook/pathbook/document/Node" "start" "Lcom/example/pathbook/pathbook/document/Position;" (.ref ps) ∧ ∃ w, Wr h0 h' a (Jvm.RoadKit.slotOf Z "com/example/pathbook/pathbook/document/Node" "start" "Lcom/example/pathbook/pathbook/document/Position;") w) (fun _ => True) h0 0 0 0 [.val (.ref a), .val (.ref ps)] []
  refine aload_n (q1 := 1) d8_0 rfl rfl rfl ?_
  refine initObj (q1 := 4) d8_1 rfl (ww hw 55 rfl) (ww hw 12 rfl) (ww hw 13 rfl) rfl rfl ?_
  refine aload_n (q1 := 5) d8_4 rfl rfl rfl ?_
  refine aload_n (q1 := 6) d8_5 rfl rfl rfl ?_
  refine putfield (q1 := 9) d8_6 rfl (ww hw 56 rfl) Via.refl (F1) (X) (Or.inr ⟨(ww hw 57 rfl), rfl, rfl⟩) (ww hw 43 rfl) (ty := (.object "com/example/pathbook/pathbook/document/Position")) (by decide) rfl rfl (Or.inl own_in1) (fun h6 W6 => ?_)
  refine ret_v d8_9 rfl rfl ?_
  exact ⟨rfl, X.wr W6, F1.same W6, _, W6⟩
def NodeIs (Z : State) (h : Heap) (a tx ps : Addr) (kd : Value) : Prop := Exa Z h a "com/example/pathbook/pathbook/document/ScalarNode" ∧ Fld Z h a "com/example/pathbook/pathbook/document/ScalarNode" "kind" "Lcom/example/pathbook/pathbook/document/ScalarNode$Kind;" kd ∧ Fld Z h a "com/example/pathbook/pathbook/document/ScalarNode" "text" "Ljava/lang/String;" (.ref tx) ∧ Fld Z h a "com/example/pathbook/pathbook/document/Node" "start" "Lcom/example/pathbook/pathbook/document/Position;" (.ref ps)
set_option maxRecDepth 65536 in
set_option maxHeartbeats 40000000 in
theorem c_sni {l : Launch} {Z : State} {a0 : Array Value} (hw : ∀ d ∈ tables_1, d.before a0 Z = true) {n0 : Nat} {h0 : Heap} {a kd tx ps : Addr} {u1 u2 u3 : Value} (X : Exa Z h0 a "com/example/pathbook/pathbook/document/ScalarNode") (F1 : Fld Z h0 a "com/example/pathbook/pathbook/document/ScalarNode" "kind" "Lcom/example/pathbook/pathbook/document/ScalarNode$Kind;" u1) (F2 : Fld Z h0 a "com/example/pathbook/pathbook/document/ScalarNode" "text" "Ljava/lang/String;" u2) (F3 : Fld Z h0 a "com/example/pathbook/pathbook/document/Node" "start" "Lcom/example/pathbook/pathbook/document/Position;" u3) : Con l Z n0 (⟨"com/example/pathbook/pathbook/document/ScalarNode", "<init>", "(Lcom/example/pathbook/pathbook/document/ScalarNode$Kind;Ljava/lang/String;Lcom/example/pathbook/pathbook/document/Position;)V"⟩ : MethodName) prog_23_method_1_code 4 none ({ frames := 2, cells := 0, slots := 0, locals := 25 } : Room) [.ref a, .ref kd, .ref tx, .ref ps] h0 [a] (fun v h' => v = none ∧ NodeIs Z h' a tx ps (.ref kd)) := by
  refine Con.of (Ls := [.val (.ref a), .val (.ref kd), .val (.ref tx), .val (.ref ps)]) (by decide +kernel) (fun m => by first | rfl | (rcases ref_cases hrw with rfl | ⟨b, rfl⟩ <;> rfl) | simp [entryFrame, mkF, argsToLocals, Value.category]) (fun p e s m below meth c => ?_)
  show Wp false p l e ({ frames := 2, cells := 0, slots := 0, locals := 25 } : Room) s m ([.ref a, .ref kd, .ref tx, .ref ps] : List Value).toArray below meth c Z "com/example/pathbook/pathbook/document/ScalarNode" "<init>" prog_23_method_1_code 4 none n0 h0 [a] (fun v h' => v = none ∧ NodeIs Z h' a tx ps (.ref kd)) (fun _ => True) h0 0 0 0 [.val (.ref a), .val (.ref kd), .val (.ref tx), .val (.ref ps)] []
  refine aload_n (q1 := 1) d7_0 rfl rfl rfl ?_
  refine aload_n (q1 := 2) d7_1 rfl rfl rfl ?_
  refine invokespecial (q1 := 5) d7_2 rfl rfl (ww hw 50 rfl) (ww hw 51 rfl) (ww hw 53 rfl) (ww hw 54 rfl) (by decide) pd6 (c_ndi hw X F3) rfl rfl rfl rfl (allS (Or.inl own_in1) all0) (fun v h1 q K1 => ?_)
  obtain ⟨rfl, X1, f3, w, W1⟩ := q
  have f1 := F1.other W1 (Or.inr (slot_ne (Or.inr (ww hw 59 rfl)) (Or.inr (ww hw 57 rfl)) (by decide) (t := (.object "com/example/pathbook/pathbook/document/ScalarNode$Kind")) (t' := (.object "com/example/pathbook/pathbook/document/Position")) (by decide) (by decide)))
  have f2 := F2.other W1 (Or.inr (slot_ne (Or.inr (ww hw 61 rfl)) (Or.inr (ww hw 57 rfl)) (by decide) (t := (.object "java/lang/String")) (t' := (.object "com/example/pathbook/pathbook/document/Position")) (by decide) (by decide)))
  refine aload_n (q1 := 6) d7_5 rfl rfl rfl ?_
  refine aload_n (q1 := 7) d7_6 rfl rfl rfl ?_
  refine putfield (q1 := 10) d7_7 rfl (ww hw 58 rfl) Via.refl (f1) (X1) (Or.inr ⟨(ww hw 59 rfl), rfl, rfl⟩) (ww hw 43 rfl) (ty := (.object "com/example/pathbook/pathbook/document/ScalarNode$Kind")) (by decide) rfl rfl (Or.inl own_in1) (fun h7 W7 => ?_)
  refine aload_n (q1 := 11) d7_10 rfl rfl rfl ?_
  refine aload_n (q1 := 12) d7_11 rfl rfl rfl ?_
  refine putfield (q1 := 15) d7_12 rfl (ww hw 60 rfl) Via.refl (f2.other W7 (Or.inr (slot_ne (Or.inr (ww hw 61 rfl)) (Or.inr (ww hw 59 rfl)) (by decide) (t := (.object "java/lang/String")) (t' := (.object "com/example/pathbook/pathbook/document/ScalarNode$Kind")) (by decide) (by decide)))) (X1.wr W7) (Or.inr ⟨(ww hw 61 rfl), rfl, rfl⟩) (ww hw 43 rfl) (ty := (.object "java/lang/String")) (by decide) rfl rfl (Or.inl own_in1) (fun h12 W12 => ?_)
  refine ret_v d7_15 rfl rfl ?_
  exact ⟨rfl, (X1.wr W7).wr W12, (f1.same W7).other W12 (Or.inr (slot_ne (Or.inr (ww hw 59 rfl)) (Or.inr (ww hw 61 rfl)) (by decide) (t := (.object "com/example/pathbook/pathbook/document/ScalarNode$Kind")) (t' := (.object "java/lang/String")) (by decide) (by decide))), (f2.other W7 (Or.inr (slot_ne (Or.inr (ww hw 61 rfl)) (Or.inr (ww hw 59 rfl)) (by decide) (t := (.object "java/lang/String")) (t' := (.object "com/example/pathbook/pathbook/document/ScalarNode$Kind")) (by decide) (by decide)))).same W12, (f3.other W7 (Or.inr (slot_ne (Or.inr (ww hw 57 rfl)) (Or.inr (ww hw 59 rfl)) (by decide) (t := (.object "com/example/pathbook/pathbook/document/Position")) (t' := (.object "com/example/pathbook/pathbook/document/ScalarNode$Kind")) (by decide) (by decide)))).other W12 (Or.inr (slot_ne (Or.inr (ww hw 57 rfl)) (Or.inr (ww hw 61 rfl)) (by decide) (t := (.object "com/example/pathbook/pathbook/document/Position")) (t' := (.object "java/lang/String")) (by decide) (by decide)))⟩
set_option maxRecDepth 65536 in
set_option maxHeartbeats 40000000 in
theorem c_strm {l : Launch} {Z : State} {a0 : Array Value} (hw : ∀ d ∈ tables_1, d.before a0 Z = true) {n0 : Nat} {h0 : Heap} {tx ps kd : Addr} (K : Sta Z Z.heap "com/example/pathbook/pathbook/document/ScalarNode$Kind" "STRING" "Lcom/example/pathbook/pathbook/document/ScalarNode$Kind;" (.ref kd)) : Con l Z n0 (⟨"com/example/pathbook/pathbook/document/ScalarNode", "string", "(Ljava/lang/String;Lcom/example/pathbook/pathbook/document/Position;)Lcom/example/pathbook/pathbook/document/ScalarNode;"⟩ : MethodName) prog_23_method_2_code 2 (some (.object "com/example/pathbook/pathbook/document/ScalarNode")) ({ frames := 3, cells := 1, slots := 3, locals := 45 } : Room) [.ref tx, .ref ps] h0 [] (fun v h' => v = some (.ref h0.size) ∧ NodeIs Z h' h0.size tx ps (.ref kd)) := by
  refine Con.of (Ls := [.val (.ref tx), .val (.ref ps)]) (by decide +kernel) (fun m => by first | rfl | (rcases ref_cases hrw with rfl | ⟨b, rfl⟩ <;> rfl) | simp [entryFrame, mkF, argsToLocals, Value.category]) (fun p e s m below meth c => ?_)
  show Wp false p l e ({ frames := 3, cells := 1, slots := 3, locals := 45 } : Room) s m ([.ref tx, .ref ps] : List Value).toArray below meth c Z "com/example/pathbook/pathbook/document/ScalarNode" "string" prog_23_method_2_code 2 (some (.object "com/example/pathbook/pathbook/document/ScalarNode")) n0 h0 [] (fun v h' => v = some (.ref h0.size) ∧ NodeIs Z h' h0.size tx ps (.ref kd)) (fun _ => True) h0 0 0 0 [.val (.ref tx), .val (.ref ps)] []
  refine new (q1 := 3) d6_0 rfl (ww hw 42 rfl) (ww hw 43 rfl) (ww hw 40 rfl) (by decide) (by decide) (fun S0 h0 E0 X0 D0 U0 => ?_)
  refine Jvm.OwnWp.dup (q1 := 4) d6_3 rfl rfl ?_
  refine kept fun K0 O => ?_
  refine getstatic (q1 := 7) d6_4 rfl (ww hw 44 rfl) Via.refl (K.ext O.2) ?_
  refine aload_n (q1 := 8) d6_7 rfl rfl rfl ?_
  refine aload_n (q1 := 9) d6_8 rfl rfl rfl ?_
  refine invokespecial (q1 := 12) d6_9 rfl rfl (ww hw 47 rfl) (ww hw 48 rfl) (ww hw 40 rfl) (ww hw 49 rfl) (by decide) pd5 (c_sni hw X0 (D0 (Or.inr (ww hw 59 rfl)) (ty := .object "com/example/pathbook/pathbook/document/ScalarNode$Kind") (by decide)) (D0 (Or.inr (ww hw 61 rfl)) (ty := .object "java/lang/String") (by decide)) (D0 (Or.inr (ww hw 57 rfl)) (ty := .object "com/example/pathbook/pathbook/document/Position") (by decide))) rfl rfl rfl rfl (allS (Or.inr S0) all0) (fun v h1 q K1 => ?_)
  obtain ⟨rfl, N⟩ := q
  refine ret_a d6_12 rfl rfl rfl rfl ⟨rfl, N⟩
set_option maxRecDepth 65536 in
set_option maxHeartbeats 40000000 in
theorem c_knd {l : Launch} {Z : State} {a0 : Array Value} (hw : ∀ d ∈ tables_1, d.before a0 Z = true) {n0 : Nat} {h0 : Heap} {a kd tx ps : Addr} (B : NodeIs Z h0 a tx ps (.ref kd)) : Con l Z n0 (⟨"com/example/pathbook/pathbook/document/ScalarNode", "kind", "()Lcom/example/pathbook/pathbook/document/ScalarNode$Kind;"⟩ : MethodName) prog_23_method_3_code 1 (some (.object "com/example/pathbook/pathbook/document/ScalarNode$Kind")) ({ frames := 0, cells := 0, slots := 0, locals := 0 } : Room) [.ref a] h0 [] (fun v h' => v = some (.ref kd) ∧ h' = h0) := by
  refine Con.of (Ls := [.val (.ref a)]) (by decide +kernel) (fun m => by first | rfl | (rcases ref_cases hrw with rfl | ⟨b, rfl⟩ <;> rfl) | simp [entryFrame, mkF, argsToLocals, Value.category]) (fun p e s m below meth c => ?_)
  show Wp false p l e ({ frames := 0, cells := 0, slots := 0, locals := 0 } : Room) s m ([.ref a] : List Value).toArray below meth c Z "com/example/pathbook/pathbook/document/ScalarNode" "kind" prog_23_method_3_code 1 (some (.object "com/example/pathbook/pathbook/document/ScalarNode$Kind")) n0 h0 [] (fun v h' => v = some (.ref kd) ∧ h' = h0) (fun _ => True) h0 0 0 0 [.val (.ref a)] []
  refine aload_n (q1 := 1) d9_0 rfl rfl rfl ?_
  refine getfield (q1 := 4) d9_1 rfl (ww hw 58 rfl) Via.refl (B.2.1) ?_
  refine ret_a d9_4 rfl rfl rfl rfl ⟨rfl, rfl⟩
set_option maxRecDepth 65536 in
set_option maxHeartbeats 40000000 in
theorem c_txt {l : Launch} {Z : State} {a0 : Array Value} (hw : ∀ d ∈ tables_1, d.before a0 Z = true) {n0 : Nat} {h0 : Heap} {a kd tx ps : Addr} (B : NodeIs Z h0 a tx ps (.ref kd)) : Con l Z n0 (⟨"com/example/pathbook/pathbook/document/ScalarNode", "text", "()Ljava/lang/String;"⟩ : MethodName) prog_23_method_4_code 1 (some (.object "java/lang/String")) ({ frames := 0, cells := 0, slots := 0, locals := 0 } : Room) [.ref a] h0 [] (fun v h' => v = some (.ref tx) ∧ h' = h0) := by
  refine Con.of (Ls := [.val (.ref a)]) (by decide +kernel) (fun m => by first | rfl | (rcases ref_cases hrw with rfl | ⟨b, rfl⟩ <;> rfl) | simp [entryFrame, mkF, argsToLocals, Value.category]) (fun p e s m below meth c => ?_)
  show Wp false p l e ({ frames := 0, cells := 0, slots := 0, locals := 0 } : Room) s m ([.ref a] : List Value).toArray below meth c Z "com/example/pathbook/pathbook/document/ScalarNode" "text" prog_23_method_4_code 1 (some (.object "java/lang/String")) n0 h0 [] (fun v h' => v = some (.ref tx) ∧ h' = h0) (fun _ => True) h0 0 0 0 [.val (.ref a)] []
  refine aload_n (q1 := 1) d10_0 rfl rfl rfl ?_
  refine getfield (q1 := 4) d10_1 rfl (ww hw 60 rfl) Via.refl (B.2.2.1) ?_
  refine ret_a d10_4 rfl rfl rfl rfl ⟨rfl, rfl⟩
set_option maxRecDepth 65536 in
set_option maxHeartbeats 40000000 in
theorem c_nst {l : Launch} {Z : State} {a0 : Array Value} (hw : ∀ d ∈ tables_1, d.before a0 Z = true) {n0 : Nat} {h0 : Heap} {a kd tx ps : Addr} (B : NodeIs Z h0 a tx ps (.ref kd)) : Con l Z n0 (⟨"com/example/pathbook/pathbook/document/Node", "start", "()Lcom/example/pathbook/pathbook/document/Position;"⟩ : MethodName) prog_11_method_2_code 1 (some (.object "com/example/pathbook/pathbook/document/Position")) ({ frames := 0, cells := 0, slots := 0, locals := 0 } : Room) [.ref a] h0 [] (fun v h' => v = some (.ref ps) ∧ h' = h0) := by
  refine Con.of (Ls := [.val (.ref a)]) (by decide +kernel) (fun m => by first | rfl | (rcases ref_cases hrw with rfl | ⟨b, rfl⟩ <;> rfl) | simp [entryFrame, mkF, argsToLocals, Value.category]) (fun p e s m below meth c => ?_)
  show Wp false p l e ({ frames := 0, cells := 0, slots := 0, locals := 0 } : Room) s m ([.ref a] : List Value).toArray below meth c Z "com/example/pathbook/pathbook/document/Node" "start" prog_11_method_2_code 1 (some (.object "com/example/pathbook/pathbook/document/Position")) n0 h0 [] (fun v h' => v = some (.ref ps) ∧ h' = h0) (fun _ => True) h0 0 0 0 [.val (.ref a)] []
  refine aload_n (q1 := 1) d12_0 rfl rfl rfl ?_
  refine getfield (q1 := 4) d12_1 rfl (ww hw 56 rfl) Via.refl (B.2.2.2) ?_
  refine ret_a d12_4 rfl rfl rfl rfl ⟨rfl, rfl⟩
set_option maxRecDepth 65536 in
set_option maxHeartbeats 40000000 in
theorem c_pln {l : Launch} {Z : State} {a0 : Array Value} (hw : ∀ d ∈ tables_1, d.before a0 Z = true) {n0 : Nat} {h0 : Heap} {a : Addr} {ln cl : Int32} (B : PosIs Z h0 a ln cl) : Con l Z n0 (⟨"com/example/pathbook/pathbook/document/Position", "line", "()I"⟩ : MethodName) prog_18_method_7_code 1 (some .int) ({ frames := 0, cells := 0, slots := 0, locals := 0 } : Room) [.ref a] h0 [] (fun v h' => v = some (.int ln) ∧ h' = h0) := by
  refine Con.of (Ls := [.val (.ref a)]) (by decide +kernel) (fun m => by first | rfl | (rcases ref_cases hrw with rfl | ⟨b, rfl⟩ <;> rfl) | simp [entryFrame, mkF, argsToLocals, Value.category]) (fun p e s m below meth c => ?_)
  show Wp false p l e ({ frames := 0, cells := 0, slots := 0, locals := 0 } : Room) s m ([.ref a] : List Value).toArray below meth c Z "com/example/pathbook/pathbook/document/Position" "line" prog_18_method_7_code 1 (some .int) n0 h0 [] (fun v h' => v = some (.int ln) ∧ h' = h0) (fun _ => True) h0 0 0 0 [.val (.ref a)] []
  refine aload_n (q1 := 1) d13_0 rfl rfl rfl ?_
  refine getfield (q1 := 4) d13_1 rfl (ww hw 34 rfl) Via.refl (B.2.1) ?_
  refine ret_i d13_4 rfl rfl ⟨rfl, rfl⟩
set_option maxRecDepth 65536 in
set_option maxHeartbeats 40000000 in
theorem c_pcl {l : Launch} {Z : State} {a0 : Array Value} (hw : ∀ d ∈ tables_1, d.before a0 Z = true) {n0 : Nat} {h0 : Heap} {a : Addr} {ln cl : Int32} (B : PosIs Z h0 a ln cl) : Con l Z n0 (⟨"com/example/pathbook/pathbook/document/Position", "column", "()I"⟩ : MethodName) prog_18_method_8_code 1 (some .int) ({ frames := 0, cells := 0, slots := 0, locals := 0 } : Room) [.ref a] h0 [] (fun v h' => v = some (.int cl) ∧ h' = h0) := by
  refine Con.of (Ls := [.val (.ref a)]) (by decide +kernel) (fun m => by first | rfl | (rcases ref_cases hrw with rfl | ⟨b, rfl⟩ <;> rfl) | simp [entryFrame, mkF, argsToLocals, Value.category]) (fun p e s m below meth c => ?_)
  show Wp false p l e ({ frames := 0, cells := 0, slots := 0, locals := 0 } : Room) s m ([.ref a] : List Value).toArray below meth c Z "com/example/pathbook/pathbook/document/Position" "column" prog_18_method_8_code 1 (some .int) n0 h0 [] (fun v h' => v = some (.int cl) ∧ h' = h0) (fun _ => True) h0 0 0 0 [.val (.ref a)] []
  refine aload_n (q1 := 1) d14_0 rfl rfl rfl ?_
  refine getfield (q1 := 4) d14_1 rfl (ww hw 36 rfl) Via.refl (B.2.2) ?_
  refine ret_i d14_4 rfl rfl ⟨rfl, rfl⟩
set_option maxRecDepth 65536 in
set_option maxHeartbeats 40000000 in
theorem c_eqs {l : Launch} {Z : State} {a0 : Array Value} (hw : ∀ d ∈ tables_1, d.before a0 Z = true) {n0 : Nat} {h0 : Heap} {a : Addr} : Con l Z n0 (⟨"java/lang/String", "equals", "(Ljava/lang/Object;)Z"⟩ : MethodName) jdk_42_method_66_code 3 (some .boolean) ({ frames := 0, cells := 0, slots := 0, locals := 0 } : Room) [.ref a, .ref a] h0 [] (fun v h' => v = some (.int 1) ∧ h' = h0) := by
  refine Con.of (Ls := [.val (.ref a), .val (.ref a), .unset]) (by decide +kernel) (fun m => by first | rfl | (rcases ref_cases hrw with rfl | ⟨b, rfl⟩ <;> rfl) | simp [entryFrame, mkF, argsToLocals, Value.category]) (fun p e s m below meth c => ?_)
  show Wp false p l e ({ frames := 0, cells := 0, slots := 0, locals := 0 } : Room) s m ([.ref a, .ref a] : List Value).toArray below meth c Z "java/lang/String" "equals" jdk_42_method_66_code 3 (some .boolean) n0 h0 [] (fun v h' => v = some (.int 1) ∧ h' = h0) (fun _ => True) h0 0 0 0 [.val (.ref a), .val (.ref a), .unset] []
  refine aload_n (q1 := 1) d11_0 rfl rfl rfl ?_
  refine aload_n (q1 := 2) d11_1 rfl rfl rfl ?_
  refine acmp_ne (q1 := 5) (q := 7) d11_2 rfl ⟨by decide, rfl⟩ rfl rfl (fun hq => absurd rfl hq) (fun _ => ?_)
  refine iconst (q1 := 6) (v := 1) d11_5 rfl rfl ?_
  refine ret_n (t := .boolean) d11_6 rfl (by simp) rfl ⟨rfl, rfl⟩
theorem own_and3 (x : Int32) : x &&& 3 = 0 ∨ x &&& 3 = 1 ∨ x &&& 3 = 2 ∨ x &&& 3 = 3 := by
  have h := c_mask x 3 2 (by decide) (by decide)
  have e : (x &&& 3).toInt = 0 ∨ (x &&& 3).toInt = 1 ∨ (x &&& 3).toInt = 2 ∨ (x &&& 3).toInt = 3 := by omega
  rcases e with e | e | e | e
  · exact Or.inl (own_eq e)
  · exact Or.inr (Or.inl (own_eq e))
  · exact Or.inr (Or.inr (Or.inl (own_eq e)))
  · exact Or.inr (Or.inr (Or.inr (own_eq e)))
theorem own_m16 (x : Int32) : 0 ≤ (x &&& 65535).toInt ∧ (x &&& 65535).toInt ≤ 65535 := by
  have h := c_mask x 65535 16 (by decide) (by decide)
  omega
theorem own_c16 (x : Int32) : nar .char ((x &&& 65535).toUInt32.toUInt16.toUInt32.toInt32) = x &&& 65535 := by
  have a := own_m16 x
  have b := c_i2c (x &&& 65535)
  have c := c_i2c ((x &&& 65535).toUInt32.toUInt16.toUInt32.toInt32)
  apply own_eq
  show ((((x &&& 65535).toUInt32.toUInt16.toUInt32.toInt32).toUInt32.toUInt16.toUInt32.toInt32)).toInt = _
  omega
set_option maxRecDepth 65536 in
set_option maxHeartbeats 40000000 in
theorem law {l : Launch} {Z : State} {a0 : Array Value} (hw : ∀ d ∈ tables_1, d.before a0 Z = true) {n0 : Nat} {h0 : Heap} {p1 p2 p3 p4 p5 p6 z : Int32} {kd : Addr} (S : Cmpct Z z) (LO : LitOk Z a0) (U : U16Ok Z) (K0 : Sta Z Z.heap "com/example/pathbook/pathbook/document/ScalarNode$Kind" "STRING" "Lcom/example/pathbook/pathbook/document/ScalarNode$Kind;" (.ref kd)) : ConW l Z n0 x code maxLocals ret room_1 [.int p1, .int p2, .int p3, .int p4, .int p5, .int p6] h0 [] (fun vm => IB Z vm []) (fun v h' => v = some (.int 1)) := by
  refine ConW.of (Ls := [.val (.int p1), .val (.int p2), .val (.int p3), .val (.int p4), .val (.int p5), .val (.int p6), .unset, .unset, .unset, .unset, .unset, .unset]) (by decide +kernel) (fun m => by first | rfl | (rcases ref_cases hrw with rfl | ⟨b, rfl⟩ <;> rfl) | simp [entryFrame, mkF, argsToLocals, Value.category]) (fun p e s m below meth c => ?_)
  show Wp true p l e room_1 s m ([.int p1, .int p2, .int p3, .int p4, .int p5, .int p6] : List Value).toArray below meth c Z "com/example/pathbook/pathbook/document/ScalarNodeStringPinLaw" "law" code maxLocals (some .boolean) n0 h0 [] (fun v h' => v = some (.int 1)) (fun vm => IB Z vm []) h0 0 0 0 [.val (.int p1), .val (.int p2), .val (.int p3), .val (.int p4), .val (.int p5), .val (.int p6), .unset, .unset, .unset, .unset, .unset, .unset] []
  have fin : ∀ (ln : Int32) (ca tx : Addr) (h : Heap), Exa Z h tx "java/lang/String" → Wp true p l e room_1 s m ([.int p1, .int p2, .int p3, .int p4, .int p5, .int p6] : List Value).toArray below meth c Z "com/example/pathbook/pathbook/document/ScalarNodeStringPinLaw" "law" code maxLocals (some .boolean) n0 h0 [] (fun v h' => v = some (.int 1)) (fun _ => True) h 4 16 64 [.val (.int p1), .val (.int p2), .val (.int p3), .val (.int p4), .val (.int p5), .val (.int p6), .val (.int ln), .val (.ref ca), .unset, .unset, .unset, .unset] [.ref tx] := by
    intro ln ca tx h XN
    refine astore (q1 := 66) at_64 rfl rfl rfl ?_
    simp only [List.set_cons_zero, List.set_cons_succ]
    refine new (q1 := 69) at_66 rfl (ww hw 22 rfl) (ww hw 23 rfl) (ww hw 24 rfl) (by decide) (by decide) (fun S66 h66 E66 X66 D66 U66 => ?_)
    refine Jvm.OwnWp.dup (q1 := 70) at_69 rfl rfl ?_
    refine iload (q1 := 72) at_70 rfl rfl ?_
    refine iload (q1 := 74) at_72 rfl rfl ?_
    refine invokespecial (q1 := 77) at_74 rfl rfl (ww hw 25 rfl) (ww hw 26 rfl) (ww hw 24 rfl) (ww hw 27 rfl) (by decide) pd3 (c_pi hw X66 (D66 (Or.inr (ww hw 35 rfl)) (ty := .int) (by decide)) (D66 (Or.inr (ww hw 37 rfl)) (ty := .int) (by decide))) rfl rfl rfl rfl (allS (Or.inr S66) all0) (fun v h74 q K74 => ?_)
    obtain ⟨rfl, B⟩ := q
    have X1 := (XN.ext E66).keep K74
    refine astore (q1 := 79) at_77 rfl rfl rfl ?_
    simp only [List.set_cons_zero, List.set_cons_succ]
    refine aload (q1 := 81) at_79 rfl rfl rfl ?_
    refine aload (q1 := 83) at_81 rfl rfl rfl ?_
    refine invokestatic (q1 := 86) at_83 rfl (ww hw 38 rfl) (ww hw 39 rfl) (ww hw 40 rfl) (ww hw 41 rfl) (by decide) pd4 (c_strm hw K0) rfl rfl rfl rfl all0 (fun v h83 q K83 => ?_)
    obtain ⟨rfl, N⟩ := q
    have X2 := X1.keep K83
    have B2 : PosIs Z h83 h.size p5 p6 := ⟨B.1.keep K83, B.2.1.keep K83 nin0, B.2.2.keep K83 nin0⟩
    refine astore (q1 := 88) at_86 rfl rfl rfl ?_
    simp only [List.set_cons_zero, List.set_cons_succ]
    refine aload (q1 := 90) at_88 rfl rfl rfl ?_
    refine ifnonnull (q1 := 93) (q := 95) at_90 rfl ⟨by decide, rfl⟩ rfl (fun _ => ?_) (fun hq => absurd hq (by simp))
    refine aload (q1 := 97) at_95 rfl rfl rfl ?_
    refine invokevirt (q1 := 100) at_97 rfl (ww hw 62 rfl) (ww hw 63 rfl) (ww hw 65 rfl) (ww hw 64 rfl) (ww hw 40 rfl) (ww hw 66 rfl) (by decide) pd7 (N.1) (c_knd hw N) rfl rfl rfl rfl all0 (fun v h97 q _ => ?_)
    obtain ⟨rfl, rfl⟩ := q
    refine kept fun K O => ?_
    refine getstatic (q1 := 103) at_100 rfl (ww hw 67 rfl) Via.refl (K0.ext O.2) ?_
    refine acmp_eq (q1 := 106) (q := 108) at_103 rfl ⟨by decide, rfl⟩ rfl rfl (fun _ => ?_) (fun hq => absurd rfl hq)
    refine aload (q1 := 110) at_108 rfl rfl rfl ?_
    refine aload (q1 := 112) at_110 rfl rfl rfl ?_
    refine invokevirt (q1 := 115) at_112 rfl (ww hw 68 rfl) (ww hw 69 rfl) (ww hw 71 rfl) (ww hw 70 rfl) (ww hw 40 rfl) (ww hw 72 rfl) (by decide) pd8 (N.1) (c_txt hw N) rfl rfl rfl rfl all0 (fun v h112 q _ => ?_)
    obtain ⟨rfl, rfl⟩ := q
    refine invokevirt (q1 := 118) at_115 rfl (ww hw 73 rfl) (ww hw 74 rfl) (ww hw 76 rfl) (ww hw 75 rfl) (ww hw 3 rfl) (ww hw 77 rfl) (by decide) pd9 (X2) (c_eqs hw) rfl rfl rfl rfl all0 (fun v h115 q _ => ?_)
    obtain ⟨rfl, rfl⟩ := q
    refine if_ne (q1 := 121) (q := 123) at_118 rfl ⟨by decide, rfl⟩ (fun _ => ?_) (fun hq => absurd hq (by decide))
    refine aload (q1 := 125) at_123 rfl rfl rfl ?_
    refine invokeup (q1 := 128) at_125 rfl (ww hw 78 rfl) (ww hw 79 rfl) (ww hw 80 rfl) (by decide) (ww hw 82 rfl) (ww hw 81 rfl) (ww hw 53 rfl) (ww hw 83 rfl) pd10 (N.1) (c_nst hw N) rfl rfl rfl rfl all0 (fun v h125 q _ => ?_)
    obtain ⟨rfl, rfl⟩ := q
    refine astore (q1 := 130) at_128 rfl rfl rfl ?_
    simp only [List.set_cons_zero, List.set_cons_succ]
    refine aload (q1 := 132) at_130 rfl rfl rfl ?_
    refine ifnonnull (q1 := 135) (q := 137) at_132 rfl ⟨by decide, rfl⟩ rfl (fun _ => ?_) (fun hq => absurd hq (by simp))
    refine aload (q1 := 139) at_137 rfl rfl rfl ?_
    refine invokevirt (q1 := 142) at_139 rfl (ww hw 84 rfl) (ww hw 85 rfl) (ww hw 87 rfl) (ww hw 86 rfl) (ww hw 24 rfl) (ww hw 88 rfl) (by decide) pd11 (B2.1) (c_pln hw B2) rfl rfl rfl rfl all0 (fun v h139 q _ => ?_)
    obtain ⟨rfl, rfl⟩ := q
    refine iload (q1 := 144) at_142 rfl rfl ?_
    refine icmp_ne (q1 := 147) (q := 161) at_144 rfl ⟨by decide, rfl⟩ (fun hq => absurd rfl hq) (fun _ => ?_)
    refine aload (q1 := 149) at_147 rfl rfl rfl ?_
    refine invokevirt (q1 := 152) at_149 rfl (ww hw 89 rfl) (ww hw 90 rfl) (ww hw 92 rfl) (ww hw 91 rfl) (ww hw 24 rfl) (ww hw 93 rfl) (by decide) pd11 (B2.1) (c_pcl hw B2) rfl rfl rfl rfl all0 (fun v h149 q _ => ?_)
    obtain ⟨rfl, rfl⟩ := q
    refine iload (q1 := 154) at_152 rfl rfl ?_
    refine icmp_ne (q1 := 157) (q := 161) at_154 rfl ⟨by decide, rfl⟩ (fun hq => absurd rfl hq) (fun _ => ?_)
    refine iconst (q1 := 158) (v := 1) at_157 rfl rfl ?_
    refine goto (q := 162) at_158 ⟨by decide, rfl⟩ ?_
    refine ret_n (t := .boolean) at_162 rfl (by simp) rfl rfl
  have str : ∀ (len : Nat) (lenI : Int32) (cf : Nat → Int32) (ca : Addr) (h : Heap) (k n : Nat), lenI.toInt = (len : Int) → 0 < len → len ≤ 3 → Ary Z h ca .char len (fun i => .int (cf i)) → Chr cf len → k ≤ 1 → n ≤ 3 → Wp true p l e room_1 s m ([.int p1, .int p2, .int p3, .int p4, .int p5, .int p6] : List Value).toArray below meth c Z "com/example/pathbook/pathbook/document/ScalarNodeStringPinLaw" "law" code maxLocals (some .boolean) n0 h0 [] (fun v h' => v = some (.int 1)) (fun vm => IB Z vm []) h k n 55 [.val (.int p1), .val (.int p2), .val (.int p3), .val (.int p4), .val (.int p5), .val (.int p6), .val (.int lenI), .val (.ref ca), .unset, .unset, .unset, .unset] [] := by
    intro len lenI cf ca h k n hlen hpos hle V hch hk hn
    refine more (k' := 1) (n' := 3) hk hn ?_
    refine new (q1 := 58) at_55 rfl (ww hw 1 rfl) (ww hw 2 rfl) (ww hw 3 rfl) (by decide) (by decide) (fun S55 h55 E55 X55 D55 U55 => ?_)
    refine Jvm.OwnWp.dup (q1 := 59) at_58 rfl rfl ?_
    refine aload (q1 := 61) at_59 rfl rfl rfl ?_
    by_cases hc : Lat cf len
    · refine invokespecial (q1 := 64) at_61 rfl rfl (ww hw 4 rfl) (ww hw 5 rfl) (ww hw 3 rfl) (ww hw 6 rfl) (by decide) pd0 (c_si1 hw hlen hpos (by omega) X55 (D55 (Or.inr (ww hw 16 rfl)) (ty := .array .byte) (by decide)) (D55 (Or.inr (ww hw 17 rfl)) (ty := .byte) (by decide)) (V.ext E55) hc S) rfl rfl rfl (by simp [roomOk, room_1, Value.category]; omega) (allS (Or.inr S55) all0) (fun v h61 q K61 => ?_)
      obtain ⟨rfl, XT, -, -, -⟩ := q
      refine more (k' := 4) (n' := 16) (by show 1 + 1 + 1 ≤ 4; omega) (by show 3 + 4 + len ≤ 16; omega) (wk (J := fun _ => True) (fun _ _ => trivial) ?_)
      exact fin _ _ _ _ XT
    · refine invokespecial (q1 := 64) at_61 rfl rfl (ww hw 4 rfl) (ww hw 5 rfl) (ww hw 3 rfl) (ww hw 6 rfl) (by decide) pd0 (c_si1u hw U hlen hpos (by omega) X55 (D55 (Or.inr (ww hw 16 rfl)) (ty := .array .byte) (by decide)) (D55 (Or.inr (ww hw 17 rfl)) (ty := .byte) (by decide)) (V.ext E55) hch hc S) rfl rfl rfl (by simp [roomOk, room_1, Value.category]; omega) (allS (Or.inr S55) all0) (fun v h61 q K61 => ?_)
      obtain ⟨rfl, XT⟩ := q
      refine more (k' := 4) (n' := 16) (by show 1 + 1 + 2 ≤ 4; omega) (by show 3 + 4 + (len + 2 * len) ≤ 16; omega) (wk (J := fun _ => True) (fun _ _ => trivial) ?_)
      exact fin _ _ _ _ XT
  refine iload_n (q1 := 1) at_0 rfl rfl ?_
  refine iconst (q1 := 2) (v := 3) at_1 rfl rfl ?_
  refine iand (q1 := 3) at_2 rfl ?_
  refine istore (q1 := 5) at_3 rfl rfl ?_
  simp only [List.set_cons_zero, List.set_cons_succ]
  refine iload (q1 := 7) at_5 rfl rfl ?_
  rcases own_and3 p1 with hn | hn | hn | hn
  · rw [hn]
    refine newarray (q1 := 9) (len := 0) (cap := 0) at_7 rfl (ww hw 0 rfl) rfl (by decide) (by decide) (by decide) (by decide) (fun S7 h7 E7 A7 => ?_)
    refine astore (q1 := 11) at_9 rfl rfl rfl ?_
    simp only [List.set_cons_zero, List.set_cons_succ]
    refine iload (q1 := 13) at_11 rfl rfl ?_
    refine if_le (q1 := 16) (q := 25) at_13 rfl ⟨by decide, rfl⟩ (fun _ => ?_) (fun hq => absurd hq (by decide))
    refine iload (q1 := 27) at_25 rfl rfl ?_
    refine iconst (q1 := 28) (v := 1) at_27 rfl rfl ?_
    refine icmp_le (q1 := 31) (q := 40) at_28 rfl ⟨by decide, rfl⟩ (fun _ => ?_) (fun hq => absurd hq (by decide))
    refine iload (q1 := 42) at_40 rfl rfl ?_
    refine iconst (q1 := 43) (v := 2) at_42 rfl rfl ?_
    refine icmp_le (q1 := 46) (q := 55) at_43 rfl ⟨by decide, rfl⟩ (fun _ => ?_) (fun hq => absurd hq (by decide))
    refine new (q1 := 58) at_55 rfl (ww hw 1 rfl) (ww hw 2 rfl) (ww hw 3 rfl) (by decide) (by decide) (fun S55 h55 E55 X55 D55 U55 => ?_)
    refine Jvm.OwnWp.dup (q1 := 59) at_58 rfl rfl ?_
    refine aload (q1 := 61) at_59 rfl rfl rfl ?_
    refine invokespecialW (q1 := 64) at_61 rfl rfl (ww hw 4 rfl) (ww hw 5 rfl) (ww hw 3 rfl) (ww hw 6 rfl) (by decide) pd0 (c_si1e hw (cf := fun _ => 0) X55 (D55 (Or.inr (ww hw 16 rfl)) (ty := .array .byte) (by decide)) (D55 (Or.inr (ww hw 17 rfl)) (ty := .byte) (by decide)) (A7.ext E55) LO) rfl rfl rfl rfl (allS (Or.inr S55) all0) (stabIB) (fun v h61 q K61 => ?_)
    obtain ⟨rfl, t, XT, -, -, -⟩ := q
    refine more (k' := 4) (n' := 16) (by decide) (by decide) ?_
    exact fin _ _ _ _ XT
  · rw [hn]
    refine newarray (q1 := 9) (len := 1) (cap := 1) at_7 rfl (ww hw 0 rfl) rfl (by decide) (by decide) (by decide) (by decide) (fun S7 h7 E7 A7 => ?_)
    refine astore (q1 := 11) at_9 rfl rfl rfl ?_
    simp only [List.set_cons_zero, List.set_cons_succ]
    refine iload (q1 := 13) at_11 rfl rfl ?_
    refine if_le (q1 := 16) (q := 25) at_13 rfl ⟨by decide, rfl⟩ (fun hq => absurd (by decide) hq) (fun _ => ?_)
    refine aload (q1 := 18) at_16 rfl rfl rfl ?_
    refine iconst (q1 := 19) (v := 0) at_18 rfl rfl ?_
    refine iload_n (q1 := 20) at_19 rfl rfl ?_
    refine ldcI (q1 := 22) at_20 rfl (ww hw 94 rfl) ?_
    refine iand (q1 := 23) at_22 rfl ?_
    refine i2c (q1 := 24) at_23 rfl ?_
    refine castore (q1 := 25) (i := 0) at_24 rfl (A7) rfl (by decide) (Or.inr S7) (fun h24 W24 => ?_)
    refine iload (q1 := 27) at_25 rfl rfl ?_
    refine iconst (q1 := 28) (v := 1) at_27 rfl rfl ?_
    refine icmp_le (q1 := 31) (q := 40) at_28 rfl ⟨by decide, rfl⟩ (fun _ => ?_) (fun hq => absurd hq (by decide))
    refine iload (q1 := 42) at_40 rfl rfl ?_
    refine iconst (q1 := 43) (v := 2) at_42 rfl rfl ?_
    refine icmp_le (q1 := 46) (q := 55) at_43 rfl ⟨by decide, rfl⟩ (fun _ => ?_) (fun hq => absurd hq (by decide))
    refine str 1 1 (fun _ => p2 &&& 65535) h0.size h24 _ _ rfl (by decide) (by decide) ((A7.same W24).cong fun t ht => ?_) (fun i _ => own_m16 p2) (by decide) (by decide)
    have e : t = 0 := by omega
    subst e; rw [if_pos rfl, own_c16]
  · rw [hn]
    refine newarray (q1 := 9) (len := 2) (cap := 2) at_7 rfl (ww hw 0 rfl) rfl (by decide) (by decide) (by decide) (by decide) (fun S7 h7 E7 A7 => ?_)
    refine astore (q1 := 11) at_9 rfl rfl rfl ?_
    simp only [List.set_cons_zero, List.set_cons_succ]
    refine iload (q1 := 13) at_11 rfl rfl ?_
    refine if_le (q1 := 16) (q := 25) at_13 rfl ⟨by decide, rfl⟩ (fun hq => absurd (by decide) hq) (fun _ => ?_)
    refine aload (q1 := 18) at_16 rfl rfl rfl ?_
    refine iconst (q1 := 19) (v := 0) at_18 rfl rfl ?_
    refine iload_n (q1 := 20) at_19 rfl rfl ?_
    refine ldcI (q1 := 22) at_20 rfl (ww hw 94 rfl) ?_
    refine iand (q1 := 23) at_22 rfl ?_
    refine i2c (q1 := 24) at_23 rfl ?_
    refine castore (q1 := 25) (i := 0) at_24 rfl (A7) rfl (by decide) (Or.inr S7) (fun h24 W24 => ?_)
    refine iload (q1 := 27) at_25 rfl rfl ?_
    refine iconst (q1 := 28) (v := 1) at_27 rfl rfl ?_
    refine icmp_le (q1 := 31) (q := 40) at_28 rfl ⟨by decide, rfl⟩ (fun hq => absurd (by decide) hq) (fun _ => ?_)
    refine aload (q1 := 33) at_31 rfl rfl rfl ?_
    refine iconst (q1 := 34) (v := 1) at_33 rfl rfl ?_
    refine iload_n (q1 := 35) at_34 rfl rfl ?_
    refine ldcI (q1 := 37) at_35 rfl (ww hw 94 rfl) ?_
    refine iand (q1 := 38) at_37 rfl ?_
    refine i2c (q1 := 39) at_38 rfl ?_
    refine castore (q1 := 40) (i := 1) at_39 rfl (A7.same W24) rfl (by decide) (Or.inr S7) (fun h39 W39 => ?_)
    refine iload (q1 := 42) at_40 rfl rfl ?_
    refine iconst (q1 := 43) (v := 2) at_42 rfl rfl ?_
    refine icmp_le (q1 := 46) (q := 55) at_43 rfl ⟨by decide, rfl⟩ (fun _ => ?_) (fun hq => absurd hq (by decide))
    refine str 2 2 (fun i => if i = 1 then p3 &&& 65535 else p2 &&& 65535) h0.size h39 _ _ rfl (by decide) (by decide) (((A7.same W24).same W39).cong fun t ht => ?_) (fun i _ => by by_cases e : i = 1 <;> simp only [e, if_true, if_false] <;> exact own_m16 _) (by decide) (by decide)
    have e : t = 0 ∨ t = 1 := by omega
    rcases e with rfl | rfl
    · simp only [if_neg (show ¬ (0 : Nat) = 1 by decide), if_pos, own_c16]
    · simp only [if_pos, own_c16]
  · rw [hn]
    refine newarray (q1 := 9) (len := 3) (cap := 3) at_7 rfl (ww hw 0 rfl) rfl (by decide) (by decide) (by decide) (by decide) (fun S7 h7 E7 A7 => ?_)
    refine astore (q1 := 11) at_9 rfl rfl rfl ?_
    simp only [List.set_cons_zero, List.set_cons_succ]
    refine iload (q1 := 13) at_11 rfl rfl ?_
    refine if_le (q1 := 16) (q := 25) at_13 rfl ⟨by decide, rfl⟩ (fun hq => absurd (by decide) hq) (fun _ => ?_)
    refine aload (q1 := 18) at_16 rfl rfl rfl ?_
    refine iconst (q1 := 19) (v := 0) at_18 rfl rfl ?_
    refine iload_n (q1 := 20) at_19 rfl rfl ?_
    refine ldcI (q1 := 22) at_20 rfl (ww hw 94 rfl) ?_
    refine iand (q1 := 23) at_22 rfl ?_
    refine i2c (q1 := 24) at_23 rfl ?_
    refine castore (q1 := 25) (i := 0) at_24 rfl (A7) rfl (by decide) (Or.inr S7) (fun h24 W24 => ?_)
    refine iload (q1 := 27) at_25 rfl rfl ?_
    refine iconst (q1 := 28) (v := 1) at_27 rfl rfl ?_
    refine icmp_le (q1 := 31) (q := 40) at_28 rfl ⟨by decide, rfl⟩ (fun hq => absurd (by decide) hq) (fun _ => ?_)
    refine aload (q1 := 33) at_31 rfl rfl rfl ?_
    refine iconst (q1 := 34) (v := 1) at_33 rfl rfl ?_
    refine iload_n (q1 := 35) at_34 rfl rfl ?_
    refine ldcI (q1 := 37) at_35 rfl (ww hw 94 rfl) ?_
    refine iand (q1 := 38) at_37 rfl ?_
    refine i2c (q1 := 39) at_38 rfl ?_
    refine castore (q1 := 40) (i := 1) at_39 rfl (A7.same W24) rfl (by decide) (Or.inr S7) (fun h39 W39 => ?_)
    refine iload (q1 := 42) at_40 rfl rfl ?_
    refine iconst (q1 := 43) (v := 2) at_42 rfl rfl ?_
    refine icmp_le (q1 := 46) (q := 55) at_43 rfl ⟨by decide, rfl⟩ (fun hq => absurd (by decide) hq) (fun _ => ?_)
    refine aload (q1 := 48) at_46 rfl rfl rfl ?_
    refine iconst (q1 := 49) (v := 2) at_48 rfl rfl ?_
    refine iload_n (q1 := 50) at_49 rfl rfl ?_
    refine ldcI (q1 := 52) at_50 rfl (ww hw 94 rfl) ?_
    refine iand (q1 := 53) at_52 rfl ?_
    refine i2c (q1 := 54) at_53 rfl ?_
    refine castore (q1 := 55) (i := 2) at_54 rfl ((A7.same W24).same W39) rfl (by decide) (Or.inr S7) (fun h54 W54 => ?_)
    refine str 3 3 (fun i => if i = 2 then p4 &&& 65535 else if i = 1 then p3 &&& 65535 else p2 &&& 65535) h0.size h54 _ _ rfl (by decide) (by decide) ((((A7.same W24).same W39).same W54).cong fun t ht => ?_) (fun i _ => by by_cases e : i = 2 <;> by_cases e1 : i = 1 <;> simp only [e, e1, if_true, if_false] <;> exact own_m16 _) (by decide) (by decide)
    have e : t = 0 ∨ t = 1 ∨ t = 2 := by omega
    rcases e with rfl | rfl | rfl
    · simp only [if_neg (show ¬ (0 : Nat) = 1 by decide), if_neg (show ¬ (0 : Nat) = 2 by decide), if_pos, own_c16]
    · simp only [if_neg (show ¬ (1 : Nat) = 2 by decide), if_pos, own_c16]
    · simp only [if_pos, own_c16]
set_option maxRecDepth 65536 in
set_option maxHeartbeats 40000000 in
theorem comes_1 {Post : Tables → Env → Array Value → State → Outcome → State → Prop} (hpost : ∀ tb e args s v u, (limb_1_1.after args s (.returned v) u = true ∧ limb_1_2.after args s (.returned v) u = true ∧ True) → ReturnedEndW s (.returned v) u (Jvm.fieldLocs frame_1_writes args s ++ Jvm.arrayLocs frame_1_arrays args s ++ Jvm.staticLocs frame_1_statics s) 24 1152 → Post tb e args s (.returned v) u) :
    ArmFor flags0 classFile x code maxLocals ret World_1 tables_1 room_1 Calls_1 rest_1 Pre_1 Post := by
  intro l hfl _ _ p e ha hc hk s m args below hf hA hF happ hP
  obtain ⟨hcalls, hrest, hpre⟩ := hP
  obtain ⟨-, -, -, hnamed, -, -, -, hat⟩ := (Spec.applies_iff hf).mp happ
  obtain ⟨hg, hn⟩ := and_e (Cond.before_iff.mp (show (Jvm.Cond.and given_1 narrow_1).before args s = true from hpre))
  obtain ⟨g1, g2⟩ := and_e hg
  obtain ⟨g3, g4⟩ := and_e g2
  obtain ⟨g5, g6⟩ := and_e g4
  obtain ⟨g7, g8⟩ := and_e g6
  obtain ⟨g9, g10⟩ := and_e g8
  obtain ⟨g11, g12⟩ := and_e g10
  obtain ⟨w0, w1, w2, w3, w4, w5, rfl⟩ : ∃ w0 w1 w2 w3 w4 w5 : Value, args = #[w0, w1, w2, w3, w4, w5] := by
    have hs : args.size = 6 := by simpa [Cond.value, given_1] using g1
    obtain ⟨L⟩ := args
    match L, hs with
    | [w0, w1, w2, w3, w4, w5], _ => exact ⟨w0, w1, w2, w3, w4, w5, rfl⟩
  have hw := fun d (hd : d ∈ tables_1) => atoms_spec (ws := Jvm.Cond.code x code maxLocals ret :: tables_1) hat d (List.mem_cons_of_mem _ hd)
  have hfit : Fit s := fun {y c} hc i hi => by
    obtain ⟨ha, rfl⟩ := Array.getElem?_eq_some_iff.mp hc
    have q := List.all_eq_true.mp ((Array.all_eq_true_iff_forall_mem.mp hF) _ (Array.getElem_mem ha)) i (List.mem_range.mpr hi)
    simpa [Array.getElem?_eq_getElem hi] using q
  obtain ⟨hsets, hown0⟩ := atoms_of _ (rest_1_c_eq ▸ (show rest_1_c.before _ s = true from hrest))
  obtain ⟨i0, ei0⟩ := is_v g3
  obtain rfl : w0 = (.int i0) := Option.some.inj ei0
  obtain ⟨i1, ei1⟩ := is_v g5
  obtain rfl : w1 = (.int i1) := Option.some.inj ei1
  obtain ⟨i2, ei2⟩ := is_v g7
  obtain rfl : w2 = (.int i2) := Option.some.inj ei2
  obtain ⟨i3, ei3⟩ := is_v g9
  obtain rfl : w3 = (.int i3) := Option.some.inj ei3
  obtain ⟨i4, ei4⟩ := is_v g11
  obtain rfl : w4 = (.int i4) := Option.some.inj ei4
  obtain ⟨i5, ei5⟩ := is_v g12
  obtain rfl : w5 = (.int i5) := Option.some.inj ei5
  obtain ⟨z, ez⟩ := is_v (Cond.before_iff.mp (hsets _ (List.mem_of_getElem? (i := 1) rfl)))
  have S : Cmpct s z := ⟨Sta.start ez (Or.inl (hsets _ (List.mem_of_getElem? (i := 0) rfl))), gotF (Cond.eq_ints ez (Term.int_eval (0))) (not_v (Cond.before_iff.mp (hsets _ (List.mem_of_getElem? (i := 2) rfl))))⟩
  have LO : LitOk s _ := ⟨fun d hd => by
      simp only [Bundle.stringAtoms, List.mem_cons, List.not_mem_nil, or_false] at hd
      rcases hd with rfl | rfl | rfl | rfl | rfl | rfl | rfl
      · exact (ww hw 3 rfl)
      · exact (ww hw 2 rfl)
      · exact (ww hw 15 rfl)
      · exact (ww hw 16 rfl)
      · exact (ww hw 17 rfl)
      · exact (ww hw 18 rfl)
      · exact (ww hw 19 rfl), hcalls.1 ("java/lang/String", 7) (List.mem_singleton.mpr rfl), hsets _ (List.mem_of_getElem? (i := 2) rfl)⟩
  have U : U16Ok s := ⟨own_sta hfit (hsets _ (List.mem_of_getElem? (i := 10) rfl)) (hsets _ (List.mem_of_getElem? (i := 11) rfl)) (hsets _ (List.mem_of_getElem? (i := 12) rfl)) (ty := .boolean) (by decide) (by simp), own_sta hfit (hsets _ (List.mem_of_getElem? (i := 13) rfl)) (hsets _ (List.mem_of_getElem? (i := 14) rfl)) (hsets _ (List.mem_of_getElem? (i := 15) rfl)) (ty := .int) (by decide) (by simp), own_sta hfit (hsets _ (List.mem_of_getElem? (i := 16) rfl)) (hsets _ (List.mem_of_getElem? (i := 17) rfl)) (hsets _ (List.mem_of_getElem? (i := 18) rfl)) (ty := .int) (by decide) (by simp)⟩
  obtain ⟨kd, ek⟩ := exa_v hn
  have K0 : Sta s s.heap "com/example/pathbook/pathbook/document/ScalarNode$Kind" "STRING" "Lcom/example/pathbook/pathbook/document/ScalarNode$Kind;" (.ref kd) := Sta.start ek (Or.inr ⟨(ww hw 45 rfl), (ww hw 46 rfl)⟩)
  obtain ⟨n, o, h1, h2, h3, _, L, rfl, ⟨rfl, N, -⟩, hq⟩ := law (l := l) hw (p1 := i0) (p2 := i1) (p3 := i2) (p4 := i3) (p5 := i4) (p6 := i5) S LO U K0 (Old.start s) all0 tables_1 p e ha hc hk s m _ below hf ((Spec.applies_iff_loose hf).mp happ).1 ⟨rfl, State.Warmed39.refl s, rfl, IB.start⟩ trivial
  refine ⟨n, _, h1, h2, h3, hpost _ _ _ _ _ _ ⟨Cond.after_iff.mpr rfl, Cond.after_iff.mpr (eq_i res_at (Term.int_eval (1)) rfl), trivial⟩ ⟨hq.1, hq.2.1, hq.2.2.1, (hq.2.2.2.sift fun y hy => Or.inr ((N y hy).elim (fun q => nomatch q) id)).mono (by decide) (by decide)⟩⟩
theorem main_1_1 : Claimed_1_1 := comes_1 fun _ _ _ _ _ _ h hF => ⟨h.1, hF⟩
theorem main_1_2 : Claimed_1_2 := comes_1 fun _ _ _ _ _ _ h hF => ⟨h.2.1, hF⟩
end Jvm.Pilot.@@N@@
namespace Jvm.Pilot.@@N@@
open Jvm Jvm.ClassFile Sem Op Lib Jvm.Free Jvm.Stand Jvm.Pilot.@@N@@.Jvm.D
/-! MADE BY PROGRAM (witnessworld.py) out of the Statement's table words and the real class files: 25 classes; the members and pool entries that the words name. The judged class is class 1, her method 1. -/
namespace start1
open Jvm.ClassFile
def u (s : String) : CpInfo := .utf8 (stringToUtf16 s)
/-- a pool by its gaps: so many unusable entries, then the entry; so many at the end -/
def gap : Nat → List CpInfo → List CpInfo
  | 0, r => r
  | n + 1, r => .unusable :: gap n r
def poolList (es : List (Nat × CpInfo)) (last : Nat) : List CpInfo := es.foldr (fun e r => gap e.1 (e.2 :: r)) (gap last [])
def pool (es : List (Nat × CpInfo)) (last : Nat) : Array CpInfo := ⟨poolList es last⟩
def fileOf (pool : Array CpInfo) (this : Nat) (attrs : Array Attribute := #[]) (ms : Array MethodInfo := #[]) (fl : Nat := 33) (sup : Nat := 0) (ifs : Array Nat := #[]) (fds : Array FieldInfo := #[]) : ClassFile where
  minorVersion := 0
  majorVersion := 65
  constantPool := pool
  accessFlags := fl
  thisClass := this
  superClass := sup
  interfaces := ifs
  fields := fds
  methods := ms
  attributes := attrs
def plain (name : String) (sup : Option ClassId) : Class where
  name := name
  kind := .ordinary
  loader := none
  accessFlags := 33
  super := sup
  interfaces := #[]
  cf := none
  fields := #[]
  methods := #[]
  instanceTypes := #[]
  staticTypes := #[]
  resolved := #[]
  callSites := []
  init := .initialized
  statics := none
  mirror := none

def pool0 : Array CpInfo := pool [(5, u "<init>"), (0, u "()V"), (1, .class_ 10), (1, u "java/lang/Object")] 113

def k0c0 : Code := { maxStack := 0, maxLocals := 1, code := object_method_1_code, exceptionTable := #[], attributes := #[] }
def k0m0 : Method := { name := "<init>", desc := "()V", sig := { parameters := [], returnType := none }, accessFlags := 1, code := some k0c0 }
/-- java/lang/Object -/
def k0 : Class := { plain "java/lang/Object" none with
  accessFlags := 33
  interfaces := #[]
  cf := some (fileOf pool0 8 #[] #[{ accessFlags := 1, nameIndex := 5, descriptorIndex := 6, attributes := #[] }] 33 0 #[] #[])
  fields := #[]
  methods := #[k0m0]
  instanceTypes := #[]
  staticTypes := #[]
  resolved := Array.replicate 124 none
  statics := none }

def pool1 : Array CpInfo := pool [(2, .class_ 4), (1, u "java/lang/Object"), (0, u "<init>"), (0, u "()V"), (0, .integer 65535), (0, .class_ 9), (0, u "java/lang/String"), (0, .methodref 8 11), (0, .nameAndType 5 12), (0, u "([C)V"), (0, .class_ 14), (0, u "com/example/pathbook/pathbook/document/Position"), (0, .methodref 13 16), (0, .nameAndType 5 17), (0, u "(II)V"), (0, .methodref 19 20), (0, .class_ 21), (0, .nameAndType 22 23), (0, u "com/example/pathbook/pathbook/document/ScalarNode"), (0, u "string"), (0, u "(Ljava/lang/String;Lcom/example/pathbook/pathbook/document/Position;)Lcom/example/pathbook/pathbook/document/ScalarNode;"), (0, .methodref 19 25), (0, .nameAndType 26 27), (0, u "kind"), (0, u "()Lcom/example/pathbook/pathbook/document/ScalarNode$Kind;"), (0, .fieldref 29 30), (0, .class_ 31), (0, .nameAndType 32 33), (0, u "com/example/pathbook/pathbook/document/ScalarNode$Kind"), (0, u "STRING"), (0, u "Lcom/example/pathbook/pathbook/document/ScalarNode$Kind;"), (0, .methodref 19 35), (0, .nameAndType 36 37), (0, u "text"), (0, u "()Ljava/lang/String;"), (0, .methodref 8 39), (0, .nameAndType 40 41), (0, u "equals"), (0, u "(Ljava/lang/Object;)Z"), (0, .methodref 19 43), (0, .nameAndType 44 45), (0, u "start"), (0, u "()Lcom/example/pathbook/pathbook/document/Position;"), (0, .methodref 13 47), (0, .nameAndType 48 49), (0, u "line"), (0, u "()I"), (0, .methodref 13 51), (0, .nameAndType 52 49), (0, u "column"), (0, .class_ 54), (0, u "com/example/pathbook/pathbook/document/ScalarNodeStringPinLaw"), (2, u "law"), (0, u "(IIIIII)Z")] 7

def k1m0 : Method := { name := "<init>", desc := "()V", sig := { parameters := [], returnType := none }, accessFlags := 1, code := none }
def k1c1 : Code := { maxStack := 4, maxLocals := 12, code := code, exceptionTable := #[], attributes := #[] }
def k1m1 : Method := { name := "law", desc := "(IIIIII)Z", sig := { parameters := [.int, .int, .int, .int, .int, .int], returnType := some .boolean }, accessFlags := 9, code := some k1c1 }
/-- com/example/pathbook/pathbook/document/ScalarNodeStringPinLaw -/
def k1 : Class := { plain "com/example/pathbook/pathbook/document/ScalarNodeStringPinLaw" (some 0) with
  accessFlags := 49
  interfaces := #[]
  cf := some (fileOf pool1 53 #[] #[{ accessFlags := 1, nameIndex := 5, descriptorIndex := 6, attributes := #[] }, { accessFlags := 9, nameIndex := 57, descriptorIndex := 58, attributes := #[] }] 49 2 #[] #[])
  fields := #[]
  methods := #[k1m0, k1m1]
  instanceTypes := #[]
  staticTypes := #[]
  resolved := Array.replicate 66 none
  statics := none }

def pool2 : Array CpInfo := pool [(1, .class_ 2), (0, u "java/io/Serializable"), (0, .class_ 4), (0, u "java/lang/Object")] 2

/-- java/io/Serializable -/
def k2 : Class := { plain "java/io/Serializable" (some 0) with
  accessFlags := 1537
  interfaces := #[]
  cf := some (fileOf pool2 1 #[] #[] 1537 3 #[] #[])
  fields := #[]
  methods := #[]
  instanceTypes := #[]
  staticTypes := #[]
  resolved := Array.replicate 7 none
  statics := none }

def pool3 : Array CpInfo := pool [(1, .class_ 2), (0, u "java/lang/Comparable"), (0, .class_ 4), (0, u "java/lang/Object")] 7

/-- java/lang/Comparable -/
def k3 : Class := { plain "java/lang/Comparable" (some 0) with
  accessFlags := 1537
  interfaces := #[]
  cf := some (fileOf pool3 1 #[] #[] 1537 3 #[] #[])
  fields := #[]
  methods := #[]
  instanceTypes := #[]
  staticTypes := #[]
  resolved := Array.replicate 12 none
  statics := none }

def pool4 : Array CpInfo := pool [(2, .class_ 4), (1, u "java/lang/CharSequence"), (42, .class_ 48), (0, u "java/lang/CharSequence$1CodePointIterator"), (10, .class_ 60), (0, u "java/lang/CharSequence$1CharIterator"), (5, .class_ 67), (0, u "java/lang/Object")] 63

/-- java/lang/CharSequence -/
def k4 : Class := { plain "java/lang/CharSequence" (some 0) with
  accessFlags := 1537
  interfaces := #[]
  cf := some (fileOf pool4 2 #[.nestMembers #[47, 59]] #[] 1537 66 #[] #[])
  fields := #[]
  methods := #[]
  instanceTypes := #[]
  staticTypes := #[]
  resolved := Array.replicate 131 none
  statics := none }

def pool5 : Array CpInfo := pool [(1, .class_ 2), (0, u "java/lang/constant/Constable"), (0, .class_ 4), (0, u "java/lang/Object")] 6

/-- java/lang/constant/Constable -/
def k5 : Class := { plain "java/lang/constant/Constable" (some 0) with
  accessFlags := 1537
  interfaces := #[]
  cf := some (fileOf pool5 1 #[] #[] 1537 3 #[] #[])
  fields := #[]
  methods := #[]
  instanceTypes := #[]
  staticTypes := #[]
  resolved := Array.replicate 11 none
  statics := none }

def pool6 : Array CpInfo := pool [(1, .class_ 2), (0, u "java/lang/constant/ConstantDesc"), (0, .class_ 4), (0, u "java/lang/Object")] 32

/-- java/lang/constant/ConstantDesc -/
def k6 : Class := { plain "java/lang/constant/ConstantDesc" (some 0) with
  accessFlags := 1537
  interfaces := #[]
  cf := some (fileOf pool6 1 #[] #[] 1537 3 #[] #[])
  fields := #[]
  methods := #[]
  instanceTypes := #[]
  staticTypes := #[]
  resolved := Array.replicate 37 none
  statics := none }

def pool7 : Array CpInfo := pool [(1, .methodref 2 3), (0, .class_ 4), (0, .nameAndType 5 6), (0, u "java/lang/Object"), (0, u "<init>"), (0, u "()V"), (0, .string 8), (0, u ""), (0, .fieldref 10 11), (0, .class_ 12), (0, .nameAndType 13 14), (0, u "java/lang/String"), (0, u "value"), (0, u "[B"), (0, .fieldref 10 16), (0, .nameAndType 17 18), (0, u "coder"), (0, u "B"), (2, u "hash"), (0, u "I"), (2, u "hashIsZero"), (0, u "Z"), (0, .methodref 10 28), (0, .nameAndType 5 29), (0, u "([CIILjava/lang/Void;)V"), (8, .fieldref 10 39), (0, .nameAndType 40 26), (0, u "COMPACT_STRINGS"), (1, .class_ 44), (1, u "java/lang/StringUTF16"), (0, u "compress"), (1, .methodref 42 48), (0, .nameAndType 49 50), (0, u "coderFromArrayLen"), (0, u "([BI)B"), (126, .methodref 42 178), (0, .nameAndType 45 179), (0, u "([CII)[B"), (363, u "equals"), (29, u "(Ljava/lang/Object;)Z"), (1, .class_ 576), (0, u "java/lang/CharSequence"), (22, u "CASE_INSENSITIVE_ORDER"), (0, u "Ljava/util/Comparator;"), (409, u "([C)V"), (90, u "serialPersistentFields"), (0, u "[Ljava/io/ObjectStreamField;"), (0, .class_ 1104), (0, u "java/lang/String$CaseInsensitiveComparator"), (1, .class_ 1107), (0, u "java/io/Serializable"), (0, .class_ 1109), (0, u "java/lang/Comparable"), (0, .class_ 1111), (0, u "java/lang/constant/Constable"), (0, .class_ 1113), (0, u "java/lang/constant/ConstantDesc"), (2, u "serialVersionUID"), (0, u "J"), (3, u "REPL"), (0, u "C"), (2, u "LATIN1"), (1, u "UTF16")] 323

def k7m0 : Method := { name := "<init>", desc := "()V", sig := { parameters := [], returnType := none }, accessFlags := 1, code := none }
def k7c1 : Code := { maxStack := 5, maxLocals := 2, code := jdk_42_method_3_code, exceptionTable := #[], attributes := #[] }
def k7m1 : Method := { name := "<init>", desc := "([C)V", sig := { parameters := [(.array .char)], returnType := none }, accessFlags := 1, code := some k7c1 }
def k7c2 : Code := { maxStack := 2, maxLocals := 3, code := jdk_42_method_66_code, exceptionTable := #[], attributes := #[] }
def k7m2 : Method := { name := "equals", desc := "(Ljava/lang/Object;)Z", sig := { parameters := [(.object "java/lang/Object")], returnType := some .boolean }, accessFlags := 1, code := some k7c2 }
def k7c3 : Code := { maxStack := 4, maxLocals := 6, code := jdk_42_method_149_code, exceptionTable := #[], attributes := #[] }
def k7m3 : Method := { name := "<init>", desc := "([CIILjava/lang/Void;)V", sig := { parameters := [(.array .char), .int, .int, (.object "java/lang/Void")], returnType := none }, accessFlags := 2, code := some k7c3 }
/-- java/lang/String -/
def k7 : Class := { plain "java/lang/String" (some 0) with
  accessFlags := 49
  interfaces := #[2, 3, 4, 5, 6]
  cf := some (fileOf pool7 10 #[.nestMembers #[1103]] #[{ accessFlags := 1, nameIndex := 5, descriptorIndex := 6, attributes := #[] }, { accessFlags := 1, nameIndex := 5, descriptorIndex := 1010, attributes := #[] }, { accessFlags := 1, nameIndex := 543, descriptorIndex := 573, attributes := #[] }, { accessFlags := 2, nameIndex := 5, descriptorIndex := 29, attributes := #[] }] 49 2 #[1106, 1108, 575, 1110, 1112] #[{ accessFlags := 18, nameIndex := 13, descriptorIndex := 14, attributes := #[] }, { accessFlags := 18, nameIndex := 17, descriptorIndex := 18, attributes := #[] }, { accessFlags := 2, nameIndex := 21, descriptorIndex := 22, attributes := #[] }, { accessFlags := 2, nameIndex := 25, descriptorIndex := 26, attributes := #[] }, { accessFlags := 26, nameIndex := 1116, descriptorIndex := 1117, attributes := #[] }, { accessFlags := 24, nameIndex := 40, descriptorIndex := 26, attributes := #[] }, { accessFlags := 26, nameIndex := 1101, descriptorIndex := 1102, attributes := #[] }, { accessFlags := 26, nameIndex := 1121, descriptorIndex := 1122, attributes := #[] }, { accessFlags := 25, nameIndex := 599, descriptorIndex := 600, attributes := #[] }, { accessFlags := 24, nameIndex := 1125, descriptorIndex := 18, attributes := #[] }, { accessFlags := 24, nameIndex := 1127, descriptorIndex := 18, attributes := #[] }])
  fields := #[{ name := "value", type := (.array .byte), accessFlags := 18, slot := 0, constantValue := 0 }, { name := "coder", type := .byte, accessFlags := 18, slot := 1, constantValue := 0 }, { name := "hash", type := .int, accessFlags := 2, slot := 2, constantValue := 0 }, { name := "hashIsZero", type := .boolean, accessFlags := 2, slot := 3, constantValue := 0 }, { name := "serialVersionUID", type := .long, accessFlags := 26, slot := 0, constantValue := 0 }, { name := "COMPACT_STRINGS", type := .boolean, accessFlags := 24, slot := 1, constantValue := 0 }, { name := "serialPersistentFields", type := (.array (.object "java/io/ObjectStreamField")), accessFlags := 26, slot := 2, constantValue := 0 }, { name := "REPL", type := .char, accessFlags := 26, slot := 3, constantValue := 0 }, { name := "CASE_INSENSITIVE_ORDER", type := (.object "java/util/Comparator"), accessFlags := 25, slot := 4, constantValue := 0 }, { name := "LATIN1", type := .byte, accessFlags := 24, slot := 5, constantValue := 0 }, { name := "UTF16", type := .byte, accessFlags := 24, slot := 6, constantValue := 0 }]
  methods := #[k7m0, k7m1, k7m2, k7m3]
  instanceTypes := #[(.array .byte), .byte, .int, .boolean]
  staticTypes := #[.long, .boolean, (.array (.object "java/io/ObjectStreamField")), .char, (.object "java/util/Comparator"), .byte, .byte]
  resolved := Array.replicate 1451 none
  statics := some 0 }

def pool8 : Array CpInfo := pool [(1, .methodref 2 3), (0, .class_ 4), (0, .nameAndType 5 6), (0, u "java/lang/Object"), (0, u "<init>"), (0, u "()V"), (0, .class_ 8), (0, u "java/lang/Record")] 13

def k8c0 : Code := { maxStack := 1, maxLocals := 1, code := jdk_30_method_1_code, exceptionTable := #[], attributes := #[] }
def k8m0 : Method := { name := "<init>", desc := "()V", sig := { parameters := [], returnType := none }, accessFlags := 4, code := some k8c0 }
/-- java/lang/Record -/
def k8 : Class := { plain "java/lang/Record" (some 0) with
  accessFlags := 1057
  interfaces := #[]
  cf := some (fileOf pool8 7 #[] #[{ accessFlags := 4, nameIndex := 5, descriptorIndex := 6, attributes := #[] }] 1057 2 #[] #[])
  fields := #[]
  methods := #[k8m0]
  instanceTypes := #[]
  staticTypes := #[]
  resolved := Array.replicate 22 none
  statics := none }

def pool9 : Array CpInfo := pool [(1, .methodref 2 3), (0, .class_ 4), (0, .nameAndType 5 6), (0, u "java/lang/Record"), (0, u "<init>"), (0, u "()V"), (0, .fieldref 8 9), (0, .class_ 10), (0, .nameAndType 11 12), (0, u "com/example/pathbook/pathbook/document/Position"), (0, u "line"), (0, u "I"), (0, .fieldref 8 14), (0, .nameAndType 15 12), (0, u "column"), (5, u "()I"), (16, u "(II)V"), (14, u "START"), (0, u "Lcom/example/pathbook/pathbook/document/Position;"), (16, u "IN_TEXT_ORDER"), (0, u "Ljava/util/Comparator;")] 48

def k9c0 : Code := { maxStack := 2, maxLocals := 3, code := prog_18_method_1_code, exceptionTable := #[], attributes := #[] }
def k9m0 : Method := { name := "<init>", desc := "(II)V", sig := { parameters := [.int, .int], returnType := none }, accessFlags := 1, code := some k9c0 }
def k9c1 : Code := { maxStack := 1, maxLocals := 1, code := prog_18_method_7_code, exceptionTable := #[], attributes := #[] }
def k9m1 : Method := { name := "line", desc := "()I", sig := { parameters := [], returnType := some .int }, accessFlags := 1, code := some k9c1 }
def k9c2 : Code := { maxStack := 1, maxLocals := 1, code := prog_18_method_8_code, exceptionTable := #[], attributes := #[] }
def k9m2 : Method := { name := "column", desc := "()I", sig := { parameters := [], returnType := some .int }, accessFlags := 1, code := some k9c2 }
/-- com/example/pathbook/pathbook/document/Position -/
def k9 : Class := { plain "com/example/pathbook/pathbook/document/Position" (some 8) with
  accessFlags := 49
  interfaces := #[]
  cf := some (fileOf pool9 8 #[] #[{ accessFlags := 1, nameIndex := 5, descriptorIndex := 38, attributes := #[] }, { accessFlags := 1, nameIndex := 11, descriptorIndex := 21, attributes := #[] }, { accessFlags := 1, nameIndex := 15, descriptorIndex := 21, attributes := #[] }] 49 2 #[] #[{ accessFlags := 18, nameIndex := 11, descriptorIndex := 12, attributes := #[] }, { accessFlags := 18, nameIndex := 15, descriptorIndex := 12, attributes := #[] }, { accessFlags := 25, nameIndex := 53, descriptorIndex := 54, attributes := #[] }, { accessFlags := 25, nameIndex := 71, descriptorIndex := 72, attributes := #[] }])
  fields := #[{ name := "line", type := .int, accessFlags := 18, slot := 0, constantValue := 0 }, { name := "column", type := .int, accessFlags := 18, slot := 1, constantValue := 0 }, { name := "START", type := (.object "com/example/pathbook/pathbook/document/Position"), accessFlags := 25, slot := 0, constantValue := 0 }, { name := "IN_TEXT_ORDER", type := (.object "java/util/Comparator"), accessFlags := 25, slot := 1, constantValue := 0 }]
  methods := #[k9m0, k9m1, k9m2]
  instanceTypes := #[.int, .int]
  staticTypes := #[(.object "com/example/pathbook/pathbook/document/Position"), (.object "java/util/Comparator")]
  resolved := Array.replicate 121 none
  statics := none }

def pool10 : Array CpInfo := pool [(1, .methodref 2 3), (0, .class_ 4), (0, .nameAndType 5 6), (0, u "java/lang/Object"), (0, u "<init>"), (0, u "()V"), (0, .fieldref 8 9), (0, .class_ 10), (0, .nameAndType 11 12), (0, u "com/example/pathbook/pathbook/document/Node"), (0, u "start"), (0, u "Lcom/example/pathbook/pathbook/document/Position;"), (0, u "(Lcom/example/pathbook/pathbook/document/Position;)V"), (2, u "()Lcom/example/pathbook/pathbook/document/Position;")] 11

def k10c0 : Code := { maxStack := 2, maxLocals := 2, code := prog_11_method_1_code, exceptionTable := #[], attributes := #[] }
def k10m0 : Method := { name := "<init>", desc := "(Lcom/example/pathbook/pathbook/document/Position;)V", sig := { parameters := [(.object "com/example/pathbook/pathbook/document/Position")], returnType := none }, accessFlags := 0, code := some k10c0 }
def k10c1 : Code := { maxStack := 1, maxLocals := 1, code := prog_11_method_2_code, exceptionTable := #[], attributes := #[] }
def k10m1 : Method := { name := "start", desc := "()Lcom/example/pathbook/pathbook/document/Position;", sig := { parameters := [], returnType := some (.object "com/example/pathbook/pathbook/document/Position") }, accessFlags := 1, code := some k10c1 }
/-- com/example/pathbook/pathbook/document/Node -/
def k10 : Class := { plain "com/example/pathbook/pathbook/document/Node" (some 0) with
  accessFlags := 1057
  interfaces := #[]
  cf := some (fileOf pool10 8 #[] #[{ accessFlags := 0, nameIndex := 5, descriptorIndex := 13, attributes := #[] }, { accessFlags := 1, nameIndex := 11, descriptorIndex := 16, attributes := #[] }] 1057 2 #[] #[{ accessFlags := 18, nameIndex := 11, descriptorIndex := 12, attributes := #[] }])
  fields := #[{ name := "start", type := (.object "com/example/pathbook/pathbook/document/Position"), accessFlags := 18, slot := 0, constantValue := 0 }]
  methods := #[k10m0, k10m1]
  instanceTypes := #[(.object "com/example/pathbook/pathbook/document/Position")]
  staticTypes := #[]
  resolved := Array.replicate 28 none
  statics := none }

def pool11 : Array CpInfo := pool [(1, .methodref 2 3), (0, .class_ 4), (0, .nameAndType 5 6), (0, u "com/example/pathbook/pathbook/document/Node"), (0, u "<init>"), (0, u "(Lcom/example/pathbook/pathbook/document/Position;)V"), (0, .fieldref 8 9), (0, .class_ 10), (0, .nameAndType 11 12), (0, u "com/example/pathbook/pathbook/document/ScalarNode"), (0, u "kind"), (0, u "Lcom/example/pathbook/pathbook/document/ScalarNode$Kind;"), (0, .fieldref 8 14), (0, .nameAndType 15 16), (0, u "text"), (0, u "Ljava/lang/String;"), (0, .fieldref 18 19), (0, .class_ 20), (0, .nameAndType 21 12), (0, u "com/example/pathbook/pathbook/document/ScalarNode$Kind"), (0, u "STRING"), (0, .methodref 8 23), (0, .nameAndType 5 24), (0, u "(Lcom/example/pathbook/pathbook/document/ScalarNode$Kind;Ljava/lang/String;Lcom/example/pathbook/pathbook/document/Position;)V"), (25, u "string"), (0, u "(Ljava/lang/String;Lcom/example/pathbook/pathbook/document/Position;)Lcom/example/pathbook/pathbook/document/ScalarNode;"), (0, u "()Lcom/example/pathbook/pathbook/document/ScalarNode$Kind;"), (0, u "()Ljava/lang/String;")] 23

def k11c0 : Code := { maxStack := 2, maxLocals := 4, code := prog_23_method_1_code, exceptionTable := #[], attributes := #[] }
def k11m0 : Method := { name := "<init>", desc := "(Lcom/example/pathbook/pathbook/document/ScalarNode$Kind;Ljava/lang/String;Lcom/example/pathbook/pathbook/document/Position;)V", sig := { parameters := [(.object "com/example/pathbook/pathbook/document/ScalarNode$Kind"), (.object "java/lang/String"), (.object "com/example/pathbook/pathbook/document/Position")], returnType := none }, accessFlags := 0, code := some k11c0 }
def k11c1 : Code := { maxStack := 5, maxLocals := 2, code := prog_23_method_2_code, exceptionTable := #[], attributes := #[] }
def k11m1 : Method := { name := "string", desc := "(Ljava/lang/String;Lcom/example/pathbook/pathbook/document/Position;)Lcom/example/pathbook/pathbook/document/ScalarNode;", sig := { parameters := [(.object "java/lang/String"), (.object "com/example/pathbook/pathbook/document/Position")], returnType := some (.object "com/example/pathbook/pathbook/document/ScalarNode") }, accessFlags := 9, code := some k11c1 }
def k11c2 : Code := { maxStack := 1, maxLocals := 1, code := prog_23_method_3_code, exceptionTable := #[], attributes := #[] }
def k11m2 : Method := { name := "kind", desc := "()Lcom/example/pathbook/pathbook/document/ScalarNode$Kind;", sig := { parameters := [], returnType := some (.object "com/example/pathbook/pathbook/document/ScalarNode$Kind") }, accessFlags := 1, code := some k11c2 }
def k11c3 : Code := { maxStack := 1, maxLocals := 1, code := prog_23_method_4_code, exceptionTable := #[], attributes := #[] }
def k11m3 : Method := { name := "text", desc := "()Ljava/lang/String;", sig := { parameters := [], returnType := some (.object "java/lang/String") }, accessFlags := 1, code := some k11c3 }
/-- com/example/pathbook/pathbook/document/ScalarNode -/
def k11 : Class := { plain "com/example/pathbook/pathbook/document/ScalarNode" (some 10) with
  accessFlags := 49
  interfaces := #[]
  cf := some (fileOf pool11 8 #[.nestMembers #[18]] #[{ accessFlags := 0, nameIndex := 5, descriptorIndex := 24, attributes := #[] }, { accessFlags := 9, nameIndex := 50, descriptorIndex := 51, attributes := #[] }, { accessFlags := 1, nameIndex := 11, descriptorIndex := 52, attributes := #[] }, { accessFlags := 1, nameIndex := 15, descriptorIndex := 53, attributes := #[] }] 49 2 #[] #[{ accessFlags := 18, nameIndex := 11, descriptorIndex := 12, attributes := #[] }, { accessFlags := 18, nameIndex := 15, descriptorIndex := 16, attributes := #[] }])
  fields := #[{ name := "kind", type := (.object "com/example/pathbook/pathbook/document/ScalarNode$Kind"), accessFlags := 18, slot := 1, constantValue := 0 }, { name := "text", type := (.object "java/lang/String"), accessFlags := 18, slot := 2, constantValue := 0 }]
  methods := #[k11m0, k11m1, k11m2, k11m3]
  instanceTypes := #[(.object "com/example/pathbook/pathbook/document/Position"), (.object "com/example/pathbook/pathbook/document/ScalarNode$Kind"), (.object "java/lang/String")]
  staticTypes := #[]
  resolved := Array.replicate 77 none
  statics := none }

def pool12 : Array CpInfo := pool [(2, .class_ 4), (1, u "java/lang/Enum"), (0, u "name"), (0, u "Ljava/lang/String;"), (2, u "ordinal"), (0, u "I"), (1, .class_ 14), (1, u "java/lang/Object"), (4, u "hash"), (86, .class_ 108), (1, u "java/lang/Enum$EnumDesc"), (2, .class_ 112), (0, u "java/lang/constant/Constable"), (0, .class_ 114), (0, u "java/lang/Comparable"), (0, .class_ 116), (0, u "java/io/Serializable")] 87

/-- java/lang/Enum -/
def k12 : Class := { plain "java/lang/Enum" (some 0) with
  accessFlags := 1057
  interfaces := #[5, 3, 2]
  cf := some (fileOf pool12 2 #[.nestMembers #[106]] #[] 1057 12 #[111, 113, 115] #[{ accessFlags := 18, nameIndex := 5, descriptorIndex := 6, attributes := #[] }, { accessFlags := 18, nameIndex := 9, descriptorIndex := 10, attributes := #[] }, { accessFlags := 2, nameIndex := 19, descriptorIndex := 10, attributes := #[] }])
  fields := #[{ name := "name", type := (.object "java/lang/String"), accessFlags := 18, slot := 0, constantValue := 0 }, { name := "ordinal", type := .int, accessFlags := 18, slot := 1, constantValue := 0 }, { name := "hash", type := .int, accessFlags := 2, slot := 2, constantValue := 0 }]
  methods := #[]
  instanceTypes := #[(.object "java/lang/String"), .int, .int]
  staticTypes := #[]
  resolved := Array.replicate 204 none
  statics := none }

def pool13 : Array CpInfo := pool [(1, .class_ 2), (0, u "com/example/pathbook/pathbook/document/ScalarNode$Kind"), (2, u "STRING"), (0, u "Lcom/example/pathbook/pathbook/document/ScalarNode$Kind;"), (2, u "INTEGER"), (2, u "FLOAT"), (2, u "BOOLEAN"), (2, u "NULL"), (2, u "$VALUES"), (0, u "[Lcom/example/pathbook/pathbook/document/ScalarNode$Kind;"), (6, .class_ 31), (1, u "java/lang/Enum"), (28, .class_ 61), (0, u "com/example/pathbook/pathbook/document/ScalarNode")] 2

/-- com/example/pathbook/pathbook/document/ScalarNode$Kind -/
def k13 : Class := { plain "com/example/pathbook/pathbook/document/ScalarNode$Kind" (some 12) with
  accessFlags := 16433
  interfaces := #[]
  cf := some (fileOf pool13 1 #[.nestHost 60] #[] 16433 29 #[] #[{ accessFlags := 16409, nameIndex := 5, descriptorIndex := 6, attributes := #[] }, { accessFlags := 16409, nameIndex := 9, descriptorIndex := 6, attributes := #[] }, { accessFlags := 16409, nameIndex := 12, descriptorIndex := 6, attributes := #[] }, { accessFlags := 16409, nameIndex := 15, descriptorIndex := 6, attributes := #[] }, { accessFlags := 16409, nameIndex := 18, descriptorIndex := 6, attributes := #[] }, { accessFlags := 4122, nameIndex := 21, descriptorIndex := 22, attributes := #[] }])
  fields := #[{ name := "STRING", type := (.object "com/example/pathbook/pathbook/document/ScalarNode$Kind"), accessFlags := 16409, slot := 0, constantValue := 0 }, { name := "INTEGER", type := (.object "com/example/pathbook/pathbook/document/ScalarNode$Kind"), accessFlags := 16409, slot := 1, constantValue := 0 }, { name := "FLOAT", type := (.object "com/example/pathbook/pathbook/document/ScalarNode$Kind"), accessFlags := 16409, slot := 2, constantValue := 0 }, { name := "BOOLEAN", type := (.object "com/example/pathbook/pathbook/document/ScalarNode$Kind"), accessFlags := 16409, slot := 3, constantValue := 0 }, { name := "NULL", type := (.object "com/example/pathbook/pathbook/document/ScalarNode$Kind"), accessFlags := 16409, slot := 4, constantValue := 0 }, { name := "$VALUES", type := (.array (.object "com/example/pathbook/pathbook/document/ScalarNode$Kind")), accessFlags := 4122, slot := 5, constantValue := 0 }]
  methods := #[]
  instanceTypes := #[(.object "java/lang/String"), .int, .int]
  staticTypes := #[(.object "com/example/pathbook/pathbook/document/ScalarNode$Kind"), (.object "com/example/pathbook/pathbook/document/ScalarNode$Kind"), (.object "com/example/pathbook/pathbook/document/ScalarNode$Kind"), (.object "com/example/pathbook/pathbook/document/ScalarNode$Kind"), (.object "com/example/pathbook/pathbook/document/ScalarNode$Kind"), (.array (.object "com/example/pathbook/pathbook/document/ScalarNode$Kind"))]
  resolved := Array.replicate 64 none
  statics := some 1 }

def pool14 : Array CpInfo := pool [(6, .class_ 8), (1, u "java/lang/Object"), (0, u "<init>"), (0, u "()V"), (0, .methodref 12 13), (0, .class_ 14), (0, .nameAndType 15 16), (0, u "java/lang/StringUTF16"), (0, u "newBytesLength"), (0, u "(I)I"), (3, .integer 1073741823), (23, .fieldref 12 45), (0, .nameAndType 46 47), (0, u "$assertionsDisabled"), (0, u "Z"), (11, .fieldref 12 60), (0, .nameAndType 61 62), (0, u "HI_BYTE_SHIFT"), (0, u "I"), (0, .fieldref 12 64), (0, .nameAndType 65 62), (0, u "LO_BYTE_SHIFT"), (5, .methodref 12 72), (0, .nameAndType 73 74), (0, u "getChar"), (0, u "([BI)C"), (32, .methodref 12 108), (0, .nameAndType 109 110), (0, u "newBytesFor"), (0, u "(I)[B"), (0, .methodref 12 112), (0, .nameAndType 113 114), (0, u "putChar"), (0, u "([BII)V"), (0, .methodref 12 116), (0, .nameAndType 117 118), (0, u "compress"), (0, u "([CI[BII)I"), (0, .methodref 12 120), (0, .nameAndType 121 122), (0, u "toBytes"), (0, u "([CII)[B"), (138, u "coderFromArrayLen"), (0, u "([BI)B"), (106, .class_ 371), (1, u "java/lang/StringUTF16$LinesSpliterator"), (58, u "MAX_LENGTH"), (196, .class_ 628), (0, u "java/lang/StringUTF16$CodePointsSpliterator"), (0, .class_ 630), (0, u "java/lang/StringUTF16$CharsSpliterator")] 4

def k14m0 : Method := { name := "<init>", desc := "()V", sig := { parameters := [], returnType := none }, accessFlags := 0, code := none }
def k14c1 : Code := { maxStack := 1, maxLocals := 1, code := jdk_52_method_2_code, exceptionTable := #[], attributes := #[] }
def k14m1 : Method := { name := "newBytesFor", desc := "(I)[B", sig := { parameters := [.int], returnType := some (.array .byte) }, accessFlags := 9, code := some k14c1 }
def k14c2 : Code := { maxStack := 4, maxLocals := 1, code := jdk_52_method_3_code, exceptionTable := #[], attributes := #[] }
def k14m2 : Method := { name := "newBytesLength", desc := "(I)I", sig := { parameters := [.int], returnType := some .int }, accessFlags := 9, code := some k14c2 }
def k14c3 : Code := { maxStack := 4, maxLocals := 3, code := jdk_52_method_4_code, exceptionTable := #[], attributes := #[] }
def k14m3 : Method := { name := "putChar", desc := "([BII)V", sig := { parameters := [(.array .byte), .int, .int], returnType := none }, accessFlags := 8, code := some k14c3 }
def k14c4 : Code := { maxStack := 3, maxLocals := 2, code := jdk_52_method_5_code, exceptionTable := #[], attributes := #[] }
def k14m4 : Method := { name := "getChar", desc := "([BI)C", sig := { parameters := [(.array .byte), .int], returnType := some .char }, accessFlags := 8, code := some k14c4 }
def k14c5 : Code := { maxStack := 4, maxLocals := 5, code := jdk_52_method_14_code, exceptionTable := #[], attributes := #[] }
def k14m5 : Method := { name := "toBytes", desc := "([CII)[B", sig := { parameters := [(.array .char), .int, .int], returnType := some (.array .byte) }, accessFlags := 9, code := some k14c5 }
def k14c6 : Code := { maxStack := 2, maxLocals := 2, code := jdk_52_method_15_code, exceptionTable := #[], attributes := #[] }
def k14m6 : Method := { name := "coderFromArrayLen", desc := "([BI)B", sig := { parameters := [(.array .byte), .int], returnType := some .byte }, accessFlags := 8, code := some k14c6 }
def k14c7 : Code := { maxStack := 5, maxLocals := 6, code := jdk_52_method_16_code, exceptionTable := #[], attributes := #[] }
def k14m7 : Method := { name := "compress", desc := "([CII)[B", sig := { parameters := [(.array .char), .int, .int], returnType := some (.array .byte) }, accessFlags := 9, code := some k14c7 }
def k14c8 : Code := { maxStack := 3, maxLocals := 7, code := jdk_52_method_21_code, exceptionTable := #[], attributes := #[] }
def k14m8 : Method := { name := "compress", desc := "([CI[BII)I", sig := { parameters := [(.array .char), .int, (.array .byte), .int, .int], returnType := some .int }, accessFlags := 9, code := some k14c8 }
/-- java/lang/StringUTF16 -/
def k14 : Class := { plain "java/lang/StringUTF16" (some 0) with
  accessFlags := 48
  interfaces := #[]
  cf := some (fileOf pool14 12 #[.nestMembers #[627, 629, 369]] #[{ accessFlags := 0, nameIndex := 9, descriptorIndex := 10, attributes := #[] }, { accessFlags := 9, nameIndex := 109, descriptorIndex := 110, attributes := #[] }, { accessFlags := 9, nameIndex := 15, descriptorIndex := 16, attributes := #[] }, { accessFlags := 8, nameIndex := 113, descriptorIndex := 114, attributes := #[] }, { accessFlags := 8, nameIndex := 73, descriptorIndex := 74, attributes := #[] }, { accessFlags := 9, nameIndex := 121, descriptorIndex := 122, attributes := #[] }, { accessFlags := 8, nameIndex := 261, descriptorIndex := 262, attributes := #[] }, { accessFlags := 9, nameIndex := 117, descriptorIndex := 122, attributes := #[] }, { accessFlags := 9, nameIndex := 117, descriptorIndex := 118, attributes := #[] }] 48 6 #[] #[{ accessFlags := 26, nameIndex := 61, descriptorIndex := 62, attributes := #[] }, { accessFlags := 26, nameIndex := 65, descriptorIndex := 62, attributes := #[] }, { accessFlags := 24, nameIndex := 430, descriptorIndex := 62, attributes := #[] }, { accessFlags := 4120, nameIndex := 46, descriptorIndex := 47, attributes := #[] }])
  fields := #[{ name := "HI_BYTE_SHIFT", type := .int, accessFlags := 26, slot := 0, constantValue := 0 }, { name := "LO_BYTE_SHIFT", type := .int, accessFlags := 26, slot := 1, constantValue := 0 }, { name := "MAX_LENGTH", type := .int, accessFlags := 24, slot := 2, constantValue := 0 }, { name := "$assertionsDisabled", type := .boolean, accessFlags := 4120, slot := 3, constantValue := 0 }]
  methods := #[k14m0, k14m1, k14m2, k14m3, k14m4, k14m5, k14m6, k14m7, k14m8]
  instanceTypes := #[]
  staticTypes := #[.int, .int, .int, .boolean]
  resolved := Array.replicate 635 none
  statics := some 2 }

def pool15 : Array CpInfo := pool [(4, .class_ 6), (1, u "java/lang/Object"), (0, u "<init>"), (0, u "()V"), (5, .class_ 16), (1, u "java/lang/StringLatin1"), (104, u "$assertionsDisabled"), (0, u "Z"), (98, .class_ 223), (1, u "java/lang/StringLatin1$LinesSpliterator"), (166, .class_ 391), (0, u "java/lang/StringLatin1$CharsSpliterator")] 3

def k15m0 : Method := { name := "<init>", desc := "()V", sig := { parameters := [], returnType := none }, accessFlags := 0, code := none }
/-- java/lang/StringLatin1 -/
def k15 : Class := { plain "java/lang/StringLatin1" (some 0) with
  accessFlags := 48
  interfaces := #[]
  cf := some (fileOf pool15 14 #[.nestMembers #[390, 221]] #[{ accessFlags := 0, nameIndex := 7, descriptorIndex := 8, attributes := #[] }] 48 4 #[] #[{ accessFlags := 4120, nameIndex := 121, descriptorIndex := 122, attributes := #[] }])
  fields := #[{ name := "$assertionsDisabled", type := .boolean, accessFlags := 4120, slot := 0, constantValue := 0 }]
  methods := #[k15m0]
  instanceTypes := #[]
  staticTypes := #[.boolean]
  resolved := Array.replicate 395 none
  statics := none }

def pool16 : Array CpInfo := pool [(2, .class_ 4), (1, u "java/lang/Object"), (0, u "<init>"), (0, u "()V"), (17, .class_ 26), (1, u "jdk/internal/util/Preconditions"), (28, .class_ 56), (0, u "jdk/internal/util/Preconditions$4"), (57, .class_ 115), (0, u "jdk/internal/util/Preconditions$1"), (7, u "SIOOBE_FORMATTER"), (0, u "Ljava/util/function/BiFunction;"), (0, .class_ 126), (0, u "jdk/internal/util/Preconditions$2"), (3, u "AIOOBE_FORMATTER"), (0, .class_ 132), (0, u "jdk/internal/util/Preconditions$3"), (3, u "IOOBE_FORMATTER")] 57

def k16m0 : Method := { name := "<init>", desc := "()V", sig := { parameters := [], returnType := none }, accessFlags := 1, code := none }
/-- jdk/internal/util/Preconditions -/
def k16 : Class := { plain "jdk/internal/util/Preconditions" (some 0) with
  accessFlags := 33
  interfaces := #[]
  cf := some (fileOf pool16 24 #[.nestMembers #[55, 131, 125, 114]] #[{ accessFlags := 1, nameIndex := 5, descriptorIndex := 6, attributes := #[] }] 33 2 #[] #[{ accessFlags := 25, nameIndex := 123, descriptorIndex := 124, attributes := #[] }, { accessFlags := 25, nameIndex := 130, descriptorIndex := 124, attributes := #[] }, { accessFlags := 25, nameIndex := 136, descriptorIndex := 124, attributes := #[] }])
  fields := #[{ name := "SIOOBE_FORMATTER", type := (.object "java/util/function/BiFunction"), accessFlags := 25, slot := 0, constantValue := 0 }, { name := "AIOOBE_FORMATTER", type := (.object "java/util/function/BiFunction"), accessFlags := 25, slot := 1, constantValue := 0 }, { name := "IOOBE_FORMATTER", type := (.object "java/util/function/BiFunction"), accessFlags := 25, slot := 2, constantValue := 0 }]
  methods := #[k16m0]
  instanceTypes := #[]
  staticTypes := #[(.object "java/util/function/BiFunction"), (.object "java/util/function/BiFunction"), (.object "java/util/function/BiFunction")]
  resolved := Array.replicate 194 none
  statics := some 3 }

def pool17 : Array CpInfo := pool [(9, u "<init>"), (6, .class_ 18), (1, u "java/lang/Object"), (0, u "()V"), (1, .class_ 23), (1, u "jdk/internal/util/ArraysSupport"), (0, u "LOG2_ARRAY_LONG_INDEX_SCALE"), (0, u "I"), (2, u "U"), (0, u "Ljdk/internal/misc/Unsafe;"), (8, u "BIG_ENDIAN"), (0, u "Z"), (8, u "LOG2_BYTE_BIT_SIZE"), (4, u "LOG2_ARRAY_INT_INDEX_SCALE"), (54, u "JLA"), (0, u "Ljdk/internal/access/JavaLangAccess;"), (11, u "LOG2_ARRAY_BOOLEAN_INDEX_SCALE"), (9, u "LOG2_ARRAY_BYTE_INDEX_SCALE"), (5, u "LOG2_ARRAY_CHAR_INDEX_SCALE"), (5, u "LOG2_ARRAY_SHORT_INDEX_SCALE"), (18, u "LOG2_ARRAY_FLOAT_INDEX_SCALE"), (24, u "LOG2_ARRAY_DOUBLE_INDEX_SCALE"), (89, u "T_BOOLEAN"), (2, u "T_CHAR"), (1, u "T_FLOAT"), (1, u "T_DOUBLE"), (1, u "T_BYTE"), (1, u "T_SHORT"), (1, u "T_INT"), (1, u "T_LONG"), (1, u "SOFT_MAX_ARRAY_LENGTH")] 83

def k17m0 : Method := { name := "<init>", desc := "()V", sig := { parameters := [], returnType := none }, accessFlags := 2, code := none }
/-- jdk/internal/util/ArraysSupport -/
def k17 : Class := { plain "jdk/internal/util/ArraysSupport" (some 0) with
  accessFlags := 33
  interfaces := #[]
  cf := some (fileOf pool17 21 #[] #[{ accessFlags := 2, nameIndex := 9, descriptorIndex := 19, attributes := #[] }] 33 16 #[] #[{ accessFlags := 24, nameIndex := 28, descriptorIndex := 29, attributes := #[] }, { accessFlags := 26, nameIndex := 38, descriptorIndex := 39, attributes := #[] }, { accessFlags := 25, nameIndex := 121, descriptorIndex := 25, attributes := #[] }, { accessFlags := 25, nameIndex := 131, descriptorIndex := 25, attributes := #[] }, { accessFlags := 25, nameIndex := 137, descriptorIndex := 25, attributes := #[] }, { accessFlags := 25, nameIndex := 143, descriptorIndex := 25, attributes := #[] }, { accessFlags := 25, nameIndex := 53, descriptorIndex := 25, attributes := #[] }, { accessFlags := 25, nameIndex := 24, descriptorIndex := 25, attributes := #[] }, { accessFlags := 25, nameIndex := 162, descriptorIndex := 25, attributes := #[] }, { accessFlags := 25, nameIndex := 187, descriptorIndex := 25, attributes := #[] }, { accessFlags := 26, nameIndex := 48, descriptorIndex := 25, attributes := #[] }, { accessFlags := 25, nameIndex := 277, descriptorIndex := 25, attributes := #[] }, { accessFlags := 25, nameIndex := 280, descriptorIndex := 25, attributes := #[] }, { accessFlags := 25, nameIndex := 282, descriptorIndex := 25, attributes := #[] }, { accessFlags := 25, nameIndex := 284, descriptorIndex := 25, attributes := #[] }, { accessFlags := 25, nameIndex := 286, descriptorIndex := 25, attributes := #[] }, { accessFlags := 25, nameIndex := 288, descriptorIndex := 25, attributes := #[] }, { accessFlags := 25, nameIndex := 290, descriptorIndex := 25, attributes := #[] }, { accessFlags := 25, nameIndex := 292, descriptorIndex := 25, attributes := #[] }, { accessFlags := 26, nameIndex := 108, descriptorIndex := 109, attributes := #[] }, { accessFlags := 25, nameIndex := 294, descriptorIndex := 25, attributes := #[] }])
  fields := #[{ name := "U", type := (.object "jdk/internal/misc/Unsafe"), accessFlags := 24, slot := 0, constantValue := 0 }, { name := "BIG_ENDIAN", type := .boolean, accessFlags := 26, slot := 1, constantValue := 0 }, { name := "LOG2_ARRAY_BOOLEAN_INDEX_SCALE", type := .int, accessFlags := 25, slot := 2, constantValue := 0 }, { name := "LOG2_ARRAY_BYTE_INDEX_SCALE", type := .int, accessFlags := 25, slot := 3, constantValue := 0 }, { name := "LOG2_ARRAY_CHAR_INDEX_SCALE", type := .int, accessFlags := 25, slot := 4, constantValue := 0 }, { name := "LOG2_ARRAY_SHORT_INDEX_SCALE", type := .int, accessFlags := 25, slot := 5, constantValue := 0 }, { name := "LOG2_ARRAY_INT_INDEX_SCALE", type := .int, accessFlags := 25, slot := 6, constantValue := 0 }, { name := "LOG2_ARRAY_LONG_INDEX_SCALE", type := .int, accessFlags := 25, slot := 7, constantValue := 0 }, { name := "LOG2_ARRAY_FLOAT_INDEX_SCALE", type := .int, accessFlags := 25, slot := 8, constantValue := 0 }, { name := "LOG2_ARRAY_DOUBLE_INDEX_SCALE", type := .int, accessFlags := 25, slot := 9, constantValue := 0 }, { name := "LOG2_BYTE_BIT_SIZE", type := .int, accessFlags := 26, slot := 10, constantValue := 0 }, { name := "T_BOOLEAN", type := .int, accessFlags := 25, slot := 11, constantValue := 0 }, { name := "T_CHAR", type := .int, accessFlags := 25, slot := 12, constantValue := 0 }, { name := "T_FLOAT", type := .int, accessFlags := 25, slot := 13, constantValue := 0 }, { name := "T_DOUBLE", type := .int, accessFlags := 25, slot := 14, constantValue := 0 }, { name := "T_BYTE", type := .int, accessFlags := 25, slot := 15, constantValue := 0 }, { name := "T_SHORT", type := .int, accessFlags := 25, slot := 16, constantValue := 0 }, { name := "T_INT", type := .int, accessFlags := 25, slot := 17, constantValue := 0 }, { name := "T_LONG", type := .int, accessFlags := 25, slot := 18, constantValue := 0 }, { name := "JLA", type := (.object "jdk/internal/access/JavaLangAccess"), accessFlags := 26, slot := 19, constantValue := 0 }, { name := "SOFT_MAX_ARRAY_LENGTH", type := .int, accessFlags := 25, slot := 20, constantValue := 0 }]
  methods := #[k17m0]
  instanceTypes := #[]
  staticTypes := #[(.object "jdk/internal/misc/Unsafe"), .boolean, .int, .int, .int, .int, .int, .int, .int, .int, .int, .int, .int, .int, .int, .int, .int, .int, .int, (.object "jdk/internal/access/JavaLangAccess"), .int]
  resolved := Array.replicate 378 none
  statics := none }

def pool18 : Array CpInfo := pool [(1, u "java/lang/Cloneable"), (0, .class_ 1), (0, u "java/lang/Object"), (0, .class_ 3)] 3

/-- java/lang/Cloneable -/
def k18 : Class := { plain "java/lang/Cloneable" (some 0) with
  accessFlags := 1537
  interfaces := #[]
  cf := some (fileOf pool18 2 #[] #[] 1537 4 #[] #[])
  fields := #[]
  methods := #[]
  instanceTypes := #[]
  staticTypes := #[]
  resolved := Array.replicate 8 none
  statics := none }

/-- the primitive byte -/
def k19 : Class := { plain "byte" none with kind := .primitive 'B', accessFlags := 0x411 }
/-- [B -/
def k20 : Class := { plain "[B" (some 0) with kind := .array 19 .byte, interfaces := #[18, 2], accessFlags := 1041 }

/-- the primitive char -/
def k21 : Class := { plain "char" none with kind := .primitive 'C', accessFlags := 0x411 }
/-- [C -/
def k22 : Class := { plain "[C" (some 0) with kind := .array 21 .char, interfaces := #[18, 2], accessFlags := 1041 }

/-- the primitive int -/
def k23 : Class := { plain "int" none with kind := .primitive 'I', accessFlags := 0x411 }
/-- [I -/
def k24 : Class := { plain "[I" (some 0) with kind := .array 23 .int, interfaces := #[18, 2], accessFlags := 1041 }

def heap : Heap := #[{ cls := 7, slots := #[.long 0, .int 1, .null, .int 0, .null, .int 0, .int 0], vm := .statics 7 },
  { cls := 13, slots := #[.ref 4, .null, .null, .null, .null, .null], vm := .statics 13 },
  { cls := 14, slots := #[.int 0, .int 8, .int 0, .int 1], vm := .statics 14 },
  { cls := 16, slots := #[.null, .null, .null], vm := .statics 16 },
  { cls := 13, slots := #[.null, .int 0, .int 0], vm := .none }]
def classes : Array Class := #[k0, k1, k2, k3, k4, k5, k6, k7, k8, k9, k10, k11, k12, k13, k14, k15, k16, k17, k18, k19, k20, k21, k22, k23, k24]
def interned : List (Array UInt16 × Addr) := []
def slotsUsed : Nat := 23
def theMethod : MethodId := ⟨1, 1⟩
def args0 : Array Value := #[.int 5, .int 5, .int 5, .int 5, .int 5, .int 5]
def aboutOver (below : List Frame) : State where
  vm := { classes := classes, interned := interned.toArray }
  heap := heap
  slotsUsed := slotsUsed
  threads := #[{ frames := .invoking theMethod args0 :: below }]
def below0 : List Frame := [.native { method := ⟨0, 0⟩, args := #[] }]
def about1 : State := aboutOver below0
def p0 : Program := .bare "" "" ""
def e0 : Env := launch0.env 0 0 0
theorem w_frames : about1.frames = Frame.invoking theMethod args0 :: below0 := rfl
set_option maxRecDepth 65536 in
theorem w_args : argsFit about1.vm theMethod args0 = true := by decide +kernel
set_option maxRecDepth 65536 in
theorem w_heap : heapFits about1 = true := by decide +kernel
set_option maxRecDepth 65536 in
theorem w_runnable : about1.curStatus? = some .runnable := by decide +kernel
set_option maxRecDepth 65536 in
theorem w_alone : about1.alone = true := by decide +kernel
set_option maxRecDepth 65536 in
theorem w_named : about1.methodNamed? x = some theMethod := by decide +kernel
set_option maxRecDepth 65536 in
theorem w_hears : about1.hears theMethod below0 = true := by decide +kernel
set_option maxRecDepth 65536 in
theorem w_ripe : about1.ripe theMethod args0 below0 = true := by decide +kernel
theorem w_running : about1.status = .running := rfl
set_option maxRecDepth 65536 in
theorem w_room : about1.hasRoom e0.platform room_1 = true :=
  launch0.hasRoom_least _ room_1 (by decide +kernel) (by decide +kernel) (by decide +kernel) (by decide +kernel) (by decide +kernel) (by decide +kernel)
theorem allAtoms_all (ts : List Jvm.Cond) (a : Array Jvm.Value) (st : Jvm.State) : (allAtoms ts).before a st = ts.all (fun c => c.before a st) := by
  induction ts with
  | nil => rfl
  | cons c t ih =>
    show (Jvm.Cond.and c (allAtoms t)).before a st = _
    rw [Jvm.Cond.before_and, ih, List.all_cons]
def words1 : List Jvm.Cond := Jvm.Cond.code x code maxLocals ret :: tables_1
/-- a 'code' word, met by the world's own term for the bytes: nothing is compared byte by byte -/
theorem code_word {y : MethodName} {bytes : ByteArray} {mx : Nat} {rt : Option FieldType} {a : Array Value} {s : State} {m : MethodId} {meth : Method} {c : Code} (h1 : s.methodNamed? y = some m) (h2 : s.vm.method? m = some meth) (h3 : meth.code = some c) (h4 : c.code = bytes)
    (h5 : (c.maxLocals == mx && c.exceptionTable.isEmpty && decide (c.maxStack ≤ mostOperands) && decide (meth.sig.returnType = rt) && !meth.locks && decide (parseMethodDescriptor y.desc = some meth.sig)) = true) : (Jvm.Cond.code y bytes mx rt).before a s = true := by
  simp only [Bool.and_eq_true, beq_iff_eq, Bool.not_eq_true', decide_eq_true_eq] at h5
  obtain ⟨⟨⟨⟨⟨g1, g2⟩, g3⟩, g4⟩, g5⟩, g6⟩ := h5
  simp [Cond.before, Cond.holds, Cond.value, h1, h2, h3, h4, g1, g2, g3, g4, g5, g6]
def isCode : Jvm.Cond → Bool
  | .code _ _ _ _ => true
  | _ => false
theorem all_split {L : List Jvm.Cond} {P : Jvm.Cond → Bool} (h1 : L.all (fun c => isCode c || P c) = true) (h2 : ∀ c ∈ L.filter isCode, P c = true) : L.all P = true := by
  refine List.all_eq_true.mpr fun c hc => ?_
  have h := List.all_eq_true.mp h1 c hc
  rcases Bool.eq_false_or_eq_true (isCode c) with hi | hi
  · exact h2 c (List.mem_filter.mpr ⟨hc, hi⟩)
  · simpa [hi] using h
set_option maxRecDepth 65536 in
theorem w_c0 : (Jvm.Cond.code x code maxLocals ret).before args0 about1 = true := code_word (m := ⟨1, 1⟩) (meth := k1m1) (c := k1c1) (by decide +kernel) rfl rfl rfl (by decide +kernel)
set_option maxRecDepth 65536 in
theorem w_c1 : (Jvm.Cond.code ({ cls := "java/lang/String", name := "<init>", desc := "([C)V" } : Jvm.MethodName) jdk_42_method_3_code (2 : Nat) (Option.none : Option Jvm.ClassFile.FieldType)).before args0 about1 = true := code_word (m := ⟨7, 1⟩) (meth := k7m1) (c := k7c1) (by decide +kernel) rfl rfl rfl (by decide +kernel)
set_option maxRecDepth 65536 in
theorem w_c2 : (Jvm.Cond.code ({ cls := "java/lang/String", name := "<init>", desc := "([CIILjava/lang/Void;)V" } : Jvm.MethodName) jdk_42_method_149_code (6 : Nat) (Option.none : Option Jvm.ClassFile.FieldType)).before args0 about1 = true := code_word (m := ⟨7, 3⟩) (meth := k7m3) (c := k7c3) (by decide +kernel) rfl rfl rfl (by decide +kernel)
set_option maxRecDepth 65536 in
theorem w_c3 : (Jvm.Cond.code ({ cls := "java/lang/Object", name := "<init>", desc := "()V" } : Jvm.MethodName) object_method_1_code (1 : Nat) (Option.none : Option Jvm.ClassFile.FieldType)).before args0 about1 = true := code_word (m := ⟨0, 0⟩) (meth := k0m0) (c := k0c0) (by decide +kernel) rfl rfl rfl (by decide +kernel)
set_option maxRecDepth 65536 in
theorem w_c4 : (Jvm.Cond.code ({ cls := "com/example/pathbook/pathbook/document/Position", name := "<init>", desc := "(II)V" } : Jvm.MethodName) prog_18_method_1_code (3 : Nat) (Option.none : Option Jvm.ClassFile.FieldType)).before args0 about1 = true := code_word (m := ⟨9, 0⟩) (meth := k9m0) (c := k9c0) (by decide +kernel) rfl rfl rfl (by decide +kernel)
set_option maxRecDepth 65536 in
theorem w_c5 : (Jvm.Cond.code ({ cls := "java/lang/Record", name := "<init>", desc := "()V" } : Jvm.MethodName) jdk_30_method_1_code (1 : Nat) (Option.none : Option Jvm.ClassFile.FieldType)).before args0 about1 = true := code_word (m := ⟨8, 0⟩) (meth := k8m0) (c := k8c0) (by decide +kernel) rfl rfl rfl (by decide +kernel)
set_option maxRecDepth 65536 in
theorem w_c6 : (Jvm.Cond.code ({ cls := "com/example/pathbook/pathbook/document/ScalarNode", name := "string", desc := "(Ljava/lang/String;Lcom/example/pathbook/pathbook/document/Position;)Lcom/example/pathbook/pathbook/document/ScalarNode;" } : Jvm.MethodName) prog_23_method_2_code (2 : Nat) (Option.some (Jvm.ClassFile.FieldType.object "com/example/pathbook/pathbook/document/ScalarNode"))).before args0 about1 = true := code_word (m := ⟨11, 1⟩) (meth := k11m1) (c := k11c1) (by decide +kernel) rfl rfl rfl (by decide +kernel)
set_option maxRecDepth 65536 in
theorem w_c7 : (Jvm.Cond.code ({ cls := "com/example/pathbook/pathbook/document/ScalarNode", name := "<init>", desc := "(Lcom/example/pathbook/pathbook/document/ScalarNode$Kind;Ljava/lang/String;Lcom/example/pathbook/pathbook/document/Position;)V" } : Jvm.MethodName) prog_23_method_1_code (4 : Nat) (Option.none : Option Jvm.ClassFile.FieldType)).before args0 about1 = true := code_word (m := ⟨11, 0⟩) (meth := k11m0) (c := k11c0) (by decide +kernel) rfl rfl rfl (by decide +kernel)
set_option maxRecDepth 65536 in
theorem w_c8 : (Jvm.Cond.code ({ cls := "com/example/pathbook/pathbook/document/Node", name := "<init>", desc := "(Lcom/example/pathbook/pathbook/document/Position;)V" } : Jvm.MethodName) prog_11_method_1_code (2 : Nat) (Option.none : Option Jvm.ClassFile.FieldType)).before args0 about1 = true := code_word (m := ⟨10, 0⟩) (meth := k10m0) (c := k10c0) (by decide +kernel) rfl rfl rfl (by decide +kernel)
set_option maxRecDepth 65536 in
theorem w_c9 : (Jvm.Cond.code ({ cls := "com/example/pathbook/pathbook/document/ScalarNode", name := "kind", desc := "()Lcom/example/pathbook/pathbook/document/ScalarNode$Kind;" } : Jvm.MethodName) prog_23_method_3_code (1 : Nat) (Option.some (Jvm.ClassFile.FieldType.object "com/example/pathbook/pathbook/document/ScalarNode$Kind"))).before args0 about1 = true := code_word (m := ⟨11, 2⟩) (meth := k11m2) (c := k11c2) (by decide +kernel) rfl rfl rfl (by decide +kernel)
set_option maxRecDepth 65536 in
theorem w_c10 : (Jvm.Cond.code ({ cls := "com/example/pathbook/pathbook/document/ScalarNode", name := "text", desc := "()Ljava/lang/String;" } : Jvm.MethodName) prog_23_method_4_code (1 : Nat) (Option.some (Jvm.ClassFile.FieldType.object "java/lang/String"))).before args0 about1 = true := code_word (m := ⟨11, 3⟩) (meth := k11m3) (c := k11c3) (by decide +kernel) rfl rfl rfl (by decide +kernel)
set_option maxRecDepth 65536 in
theorem w_c11 : (Jvm.Cond.code ({ cls := "java/lang/String", name := "equals", desc := "(Ljava/lang/Object;)Z" } : Jvm.MethodName) jdk_42_method_66_code (3 : Nat) (Option.some Jvm.ClassFile.FieldType.boolean)).before args0 about1 = true := code_word (m := ⟨7, 2⟩) (meth := k7m2) (c := k7c2) (by decide +kernel) rfl rfl rfl (by decide +kernel)
set_option maxRecDepth 65536 in
theorem w_c12 : (Jvm.Cond.code ({ cls := "com/example/pathbook/pathbook/document/Node", name := "start", desc := "()Lcom/example/pathbook/pathbook/document/Position;" } : Jvm.MethodName) prog_11_method_2_code (1 : Nat) (Option.some (Jvm.ClassFile.FieldType.object "com/example/pathbook/pathbook/document/Position"))).before args0 about1 = true := code_word (m := ⟨10, 1⟩) (meth := k10m1) (c := k10c1) (by decide +kernel) rfl rfl rfl (by decide +kernel)
set_option maxRecDepth 65536 in
theorem w_c13 : (Jvm.Cond.code ({ cls := "com/example/pathbook/pathbook/document/Position", name := "line", desc := "()I" } : Jvm.MethodName) prog_18_method_7_code (1 : Nat) (Option.some Jvm.ClassFile.FieldType.int)).before args0 about1 = true := code_word (m := ⟨9, 1⟩) (meth := k9m1) (c := k9c1) (by decide +kernel) rfl rfl rfl (by decide +kernel)
set_option maxRecDepth 65536 in
theorem w_c14 : (Jvm.Cond.code ({ cls := "com/example/pathbook/pathbook/document/Position", name := "column", desc := "()I" } : Jvm.MethodName) prog_18_method_8_code (1 : Nat) (Option.some Jvm.ClassFile.FieldType.int)).before args0 about1 = true := code_word (m := ⟨9, 2⟩) (meth := k9m2) (c := k9c2) (by decide +kernel) rfl rfl rfl (by decide +kernel)
set_option maxRecDepth 65536 in
theorem w_c15 : (Jvm.Cond.code ({ cls := "java/lang/StringUTF16", name := "compress", desc := "([CII)[B" } : Jvm.MethodName) jdk_52_method_16_code (6 : Nat) (Option.some (Jvm.ClassFile.FieldType.array Jvm.ClassFile.FieldType.byte))).before args0 about1 = true := code_word (m := ⟨14, 7⟩) (meth := k14m7) (c := k14c7) (by decide +kernel) rfl rfl rfl (by decide +kernel)
set_option maxRecDepth 65536 in
theorem w_c16 : (Jvm.Cond.code ({ cls := "java/lang/StringUTF16", name := "compress", desc := "([CI[BII)I" } : Jvm.MethodName) jdk_52_method_21_code (7 : Nat) (Option.some Jvm.ClassFile.FieldType.int)).before args0 about1 = true := code_word (m := ⟨14, 8⟩) (meth := k14m8) (c := k14c8) (by decide +kernel) rfl rfl rfl (by decide +kernel)
set_option maxRecDepth 65536 in
theorem w_c17 : (Jvm.Cond.code ({ cls := "java/lang/StringUTF16", name := "coderFromArrayLen", desc := "([BI)B" } : Jvm.MethodName) jdk_52_method_15_code (2 : Nat) (Option.some Jvm.ClassFile.FieldType.byte)).before args0 about1 = true := code_word (m := ⟨14, 6⟩) (meth := k14m6) (c := k14c6) (by decide +kernel) rfl rfl rfl (by decide +kernel)
set_option maxRecDepth 65536 in
theorem w_c18 : (Jvm.Cond.code ({ cls := "java/lang/StringUTF16", name := "toBytes", desc := "([CII)[B" } : Jvm.MethodName) jdk_52_method_14_code (5 : Nat) (Option.some (Jvm.ClassFile.FieldType.array Jvm.ClassFile.FieldType.byte))).before args0 about1 = true := code_word (m := ⟨14, 5⟩) (meth := k14m5) (c := k14c5) (by decide +kernel) rfl rfl rfl (by decide +kernel)
set_option maxRecDepth 65536 in
theorem w_c19 : (Jvm.Cond.code ({ cls := "java/lang/StringUTF16", name := "newBytesFor", desc := "(I)[B" } : Jvm.MethodName) jdk_52_method_2_code (1 : Nat) (Option.some (Jvm.ClassFile.FieldType.array Jvm.ClassFile.FieldType.byte))).before args0 about1 = true := code_word (m := ⟨14, 1⟩) (meth := k14m1) (c := k14c1) (by decide +kernel) rfl rfl rfl (by decide +kernel)
set_option maxRecDepth 65536 in
theorem w_c20 : (Jvm.Cond.code ({ cls := "java/lang/StringUTF16", name := "newBytesLength", desc := "(I)I" } : Jvm.MethodName) jdk_52_method_3_code (1 : Nat) (Option.some Jvm.ClassFile.FieldType.int)).before args0 about1 = true := code_word (m := ⟨14, 2⟩) (meth := k14m2) (c := k14c2) (by decide +kernel) rfl rfl rfl (by decide +kernel)
set_option maxRecDepth 65536 in
theorem w_c21 : (Jvm.Cond.code ({ cls := "java/lang/StringUTF16", name := "putChar", desc := "([BII)V" } : Jvm.MethodName) jdk_52_method_4_code (3 : Nat) (Option.none : Option Jvm.ClassFile.FieldType)).before args0 about1 = true := code_word (m := ⟨14, 3⟩) (meth := k14m3) (c := k14c3) (by decide +kernel) rfl rfl rfl (by decide +kernel)
set_option maxRecDepth 65536 in
theorem w_c22 : (Jvm.Cond.code ({ cls := "java/lang/StringUTF16", name := "getChar", desc := "([BI)C" } : Jvm.MethodName) jdk_52_method_5_code (2 : Nat) (Option.some Jvm.ClassFile.FieldType.char)).before args0 about1 = true := code_word (m := ⟨14, 4⟩) (meth := k14m4) (c := k14c4) (by decide +kernel) rfl rfl rfl (by decide +kernel)
def codes1 : List Jvm.Cond := [Jvm.Cond.code x code maxLocals ret, Jvm.Cond.code ({ cls := "java/lang/String", name := "<init>", desc := "([C)V" } : Jvm.MethodName) jdk_42_method_3_code (2 : Nat) (Option.none : Option Jvm.ClassFile.FieldType), Jvm.Cond.code ({ cls := "java/lang/String", name := "<init>", desc := "([CIILjava/lang/Void;)V" } : Jvm.MethodName) jdk_42_method_149_code (6 : Nat) (Option.none : Option Jvm.ClassFile.FieldType), Jvm.Cond.code ({ cls := "java/lang/Object", name := "<init>", desc := "()V" } : Jvm.MethodName) object_method_1_code (1 : Nat) (Option.none : Option Jvm.ClassFile.FieldType), Jvm.Cond.code ({ cls := "com/example/pathbook/pathbook/document/Position", name := "<init>", desc := "(II)V" } : Jvm.MethodName) prog_18_method_1_code (3 : Nat) (Option.none : Option Jvm.ClassFile.FieldType), Jvm.Cond.code ({ cls := "java/lang/Record", name := "<init>", desc := "()V" } : Jvm.MethodName) jdk_30_method_1_code (1 : Nat) (Option.none : Option Jvm.ClassFile.FieldType), Jvm.Cond.code ({ cls := "com/example/pathbook/pathbook/document/ScalarNode", name := "string", desc := "(Ljava/lang/String;Lcom/example/pathbook/pathbook/document/Position;)Lcom/example/pathbook/pathbook/document/ScalarNode;" } : Jvm.MethodName) prog_23_method_2_code (2 : Nat) (Option.some (Jvm.ClassFile.FieldType.object "com/example/pathbook/pathbook/document/ScalarNode")), Jvm.Cond.code ({ cls := "com/example/pathbook/pathbook/document/ScalarNode", name := "<init>", desc := "(Lcom/example/pathbook/pathbook/document/ScalarNode$Kind;Ljava/lang/String;Lcom/example/pathbook/pathbook/document/Position;)V" } : Jvm.MethodName) prog_23_method_1_code (4 : Nat) (Option.none : Option Jvm.ClassFile.FieldType), Jvm.Cond.code ({ cls := "com/example/pathbook/pathbook/document/Node", name := "<init>", desc := "(Lcom/example/pathbook/pathbook/document/Position;)V" } : Jvm.MethodName) prog_11_method_1_code (2 : Nat) (Option.none : Option Jvm.ClassFile.FieldType), Jvm.Cond.code ({ cls := "com/example/pathbook/pathbook/document/ScalarNode", name := "kind", desc := "()Lcom/example/pathbook/pathbook/document/ScalarNode$Kind;" } : Jvm.MethodName) prog_23_method_3_code (1 : Nat) (Option.some (Jvm.ClassFile.FieldType.object "com/example/pathbook/pathbook/document/ScalarNode$Kind")), Jvm.Cond.code ({ cls := "com/example/pathbook/pathbook/document/ScalarNode", name := "text", desc := "()Ljava/lang/String;" } : Jvm.MethodName) prog_23_method_4_code (1 : Nat) (Option.some (Jvm.ClassFile.FieldType.object "java/lang/String")), Jvm.Cond.code ({ cls := "java/lang/String", name := "equals", desc := "(Ljava/lang/Object;)Z" } : Jvm.MethodName) jdk_42_method_66_code (3 : Nat) (Option.some Jvm.ClassFile.FieldType.boolean), Jvm.Cond.code ({ cls := "com/example/pathbook/pathbook/document/Node", name := "start", desc := "()Lcom/example/pathbook/pathbook/document/Position;" } : Jvm.MethodName) prog_11_method_2_code (1 : Nat) (Option.some (Jvm.ClassFile.FieldType.object "com/example/pathbook/pathbook/document/Position")), Jvm.Cond.code ({ cls := "com/example/pathbook/pathbook/document/Position", name := "line", desc := "()I" } : Jvm.MethodName) prog_18_method_7_code (1 : Nat) (Option.some Jvm.ClassFile.FieldType.int), Jvm.Cond.code ({ cls := "com/example/pathbook/pathbook/document/Position", name := "column", desc := "()I" } : Jvm.MethodName) prog_18_method_8_code (1 : Nat) (Option.some Jvm.ClassFile.FieldType.int), Jvm.Cond.code ({ cls := "java/lang/StringUTF16", name := "compress", desc := "([CII)[B" } : Jvm.MethodName) jdk_52_method_16_code (6 : Nat) (Option.some (Jvm.ClassFile.FieldType.array Jvm.ClassFile.FieldType.byte)), Jvm.Cond.code ({ cls := "java/lang/StringUTF16", name := "compress", desc := "([CI[BII)I" } : Jvm.MethodName) jdk_52_method_21_code (7 : Nat) (Option.some Jvm.ClassFile.FieldType.int), Jvm.Cond.code ({ cls := "java/lang/StringUTF16", name := "coderFromArrayLen", desc := "([BI)B" } : Jvm.MethodName) jdk_52_method_15_code (2 : Nat) (Option.some Jvm.ClassFile.FieldType.byte), Jvm.Cond.code ({ cls := "java/lang/StringUTF16", name := "toBytes", desc := "([CII)[B" } : Jvm.MethodName) jdk_52_method_14_code (5 : Nat) (Option.some (Jvm.ClassFile.FieldType.array Jvm.ClassFile.FieldType.byte)), Jvm.Cond.code ({ cls := "java/lang/StringUTF16", name := "newBytesFor", desc := "(I)[B" } : Jvm.MethodName) jdk_52_method_2_code (1 : Nat) (Option.some (Jvm.ClassFile.FieldType.array Jvm.ClassFile.FieldType.byte)), Jvm.Cond.code ({ cls := "java/lang/StringUTF16", name := "newBytesLength", desc := "(I)I" } : Jvm.MethodName) jdk_52_method_3_code (1 : Nat) (Option.some Jvm.ClassFile.FieldType.int), Jvm.Cond.code ({ cls := "java/lang/StringUTF16", name := "putChar", desc := "([BII)V" } : Jvm.MethodName) jdk_52_method_4_code (3 : Nat) (Option.none : Option Jvm.ClassFile.FieldType), Jvm.Cond.code ({ cls := "java/lang/StringUTF16", name := "getChar", desc := "([BI)C" } : Jvm.MethodName) jdk_52_method_5_code (2 : Nat) (Option.some Jvm.ClassFile.FieldType.char)]
set_option maxRecDepth 65536 in
theorem codes_eq : words1.filter isCode = codes1 := rfl
theorem w_codes : ∀ c ∈ words1.filter isCode, c.before args0 about1 = true := by
  rw [codes_eq]
  intro c hc
  simp only [codes1, List.mem_cons, List.not_mem_nil, or_false] at hc
  rcases hc with rfl | rfl | rfl | rfl | rfl | rfl | rfl | rfl | rfl | rfl | rfl | rfl | rfl | rfl | rfl | rfl | rfl | rfl | rfl | rfl | rfl | rfl | rfl
  · exact w_c0
  · exact w_c1
  · exact w_c2
  · exact w_c3
  · exact w_c4
  · exact w_c5
  · exact w_c6
  · exact w_c7
  · exact w_c8
  · exact w_c9
  · exact w_c10
  · exact w_c11
  · exact w_c12
  · exact w_c13
  · exact w_c14
  · exact w_c15
  · exact w_c16
  · exact w_c17
  · exact w_c18
  · exact w_c19
  · exact w_c20
  · exact w_c21
  · exact w_c22
set_option maxRecDepth 65536 in
theorem w_t1 : (words1.take 24).all (fun c => isCode c || c.before args0 about1) = true := by decide +kernel
set_option maxRecDepth 65536 in
theorem w_t2 : ((words1.drop 24).take 24).all (fun c => isCode c || c.before args0 about1) = true := by decide +kernel
set_option maxRecDepth 65536 in
theorem w_t3 : (((words1.drop 24).drop 24).take 24).all (fun c => isCode c || c.before args0 about1) = true := by decide +kernel
set_option maxRecDepth 65536 in
theorem w_t4 : ((((words1.drop 24).drop 24).drop 24).take 24).all (fun c => isCode c || c.before args0 about1) = true := by decide +kernel
set_option maxRecDepth 65536 in
theorem w_t5 : (((((words1.drop 24).drop 24).drop 24).drop 24).take 24).all (fun c => isCode c || c.before args0 about1) = true := by decide +kernel
set_option maxRecDepth 65536 in
theorem w_t6 : (((((words1.drop 24).drop 24).drop 24).drop 24).drop 24).all (fun c => isCode c || c.before args0 about1) = true := by decide +kernel
theorem w_tables : (allAtoms (Jvm.Cond.code x code maxLocals ret :: tables_1)).before args0 about1 = true := by
  rw [allAtoms_all]
  show words1.all (fun c => c.before args0 about1) = true
  refine all_split ?_ w_codes
  rw [← List.take_append_drop 24 words1, List.all_append, w_t1, ← List.take_append_drop 24 (words1.drop 24), List.all_append, w_t2, ← List.take_append_drop 24 ((words1.drop 24).drop 24), List.all_append, w_t3, ← List.take_append_drop 24 (((words1.drop 24).drop 24).drop 24), List.all_append, w_t4, ← List.take_append_drop 24 ((((words1.drop 24).drop 24).drop 24).drop 24), List.all_append, w_t5, w_t6]
  rfl
set_option maxRecDepth 65536 in
theorem w_rest : rest_1_c.before args0 about1 = true := by decide +kernel
set_option maxRecDepth 65536 in
theorem w_case : (Jvm.Cond.and given_1 narrow_1).before args0 about1 = true := by decide +kernel
set_option maxRecDepth 65536 in
theorem w_consts : constsHeld consts_1 about1 := Jvm.Lit.constsHeldB_iff.mp (by decide +kernel)
theorem w_applies : (headSpec (Jvm.Cond.code x code maxLocals ret :: tables_1) room_1).applies x e0.platform about1 = true :=
  (Spec.applies_iff w_frames).mpr ⟨w_running, w_runnable, w_alone, w_named, w_hears, w_ripe, w_room, w_tables⟩
theorem atStart : AtStart classFile x code maxLocals ret World_1 tables_1 room_1 Calls_1 rest_1 Pre_1 launch0 p0 e0 about1 theMethod args0 below0 :=
  ⟨lists_1, trivial, launch0.admits_env _ _ _, launch0.least_env, fairChoices_fair.cas, fairChoices_fair.clock, w_frames, w_args, w_heap, w_applies, ⟨w_consts, trivial⟩, w_rest, w_case⟩
end start1
theorem witness_1 : WitnessClaimed_1 := ⟨start1.p0, start1.e0, start1.about1, start1.theMethod, start1.args0, start1.below0, start1.atStart⟩
end Jvm.Pilot.@@N@@
