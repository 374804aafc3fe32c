import JvmDerived
import JvmDerived.Pilot.@@N@@Statement
import JvmDerived.Pilot.@@N@@Code
set_option linter.unusedVariables false
set_option linter.unusedSimpArgs false
namespace Jvm.OwnWp
open Sem ClassFile Op Lib Jvm.Free Jvm.Stand Jvm.LawKit Jvm.RoadKit
set_option maxHeartbeats 1000000
/-! the walk of a body as a weakest precondition: own text over the library's laws -/
def EnvOk (p : Program) (s : State) (m : MethodId) (meth : Method) (c : Code) (Z : State) (own nam : String) (bytes : ByteArray) (maxL : Nat) (ret : Option FieldType) (n0 : Nat) (h0 : Heap) (ws : List Addr) : Prop :=
  p.tables.exec = Jvm.exec ∧ c.code = bytes ∧ c.maxLocals = maxL ∧ Z.Warmed39 s.vm ∧ s.vm.findClass own = some m.cls ∧ meth.name = nam ∧ meth.sig.returnType = ret ∧ meth.locks = false ∧ s.heap = h0 ∧ Old Z n0 h0 ∧ ∀ a ∈ ws, n0 ≤ a
/-- what may be written: the named objects and what is new -/
def Pmt (h0 : Heap) (ws : List Addr) (L : List Loc) : Prop := ∀ y ∈ L, y.base ∈ ws ∨ h0.size ≤ y.base
theorem Pmt.nil (h0 : Heap) (ws : List Addr) : Pmt h0 ws [] := fun _ q => nomatch q
theorem Pmt.app {h0 : Heap} {ws : List Addr} {L L' : List Loc} (N : Pmt h0 ws L) (N' : Pmt h0 ws L') : Pmt h0 ws (L ++ L') := fun y q => (List.mem_append.mp q).elim (N y) (N' y)
theorem Pmt.snoc {h0 : Heap} {ws : List Addr} {L : List Loc} {a : Addr} {sl : Nat} (N : Pmt h0 ws L) (q : a ∈ ws ∨ h0.size ≤ a) : Pmt h0 ws (L ++ [⟨a, sl⟩]) := N.app fun y hy => by cases List.mem_singleton.mp hy; exact q
theorem keep_of {s t : State} {h : Heap} {ws : List Addr} {L : List Loc} {k n : Nat} (q : s.sameButNew t L k n) (N : Pmt s.heap ws L) (e : t.heap = h) : Keep s.heap h ws := by
  subst e
  obtain ⟨-, q1, -, -, -, q2⟩ := q
  refine ⟨q1, fun x c hx hn => ?_, fun x c hx => ?_⟩
  · obtain ⟨c', r1, r2, r3, r4⟩ := q2 x c hx
    have e : c'.slots = c.slots := by
      apply Array.ext_getElem?
      intro i
      refine r4 i fun hm => ?_
      rcases N _ hm with u | u
      · exact hn u
      · exact absurd (Array.getElem?_eq_some_iff.mp hx).1 (Nat.not_lt.mpr u)
    rw [r1, r2, e]
  · obtain ⟨c', r1, r2, r3, r4⟩ := q2 x c hx
    exact ⟨c', r1, by rw [r2], by rw [r2], r3⟩
/-- the tables over which the walk stands: the start's own, or (wide) tables that have grown since by interned constants, of which I is known -/
def Base (wd : Bool) (I : Vm → Prop) (Z s : State) (vm0 : Vm) (h : Heap) : Prop :=
  match wd with
  | false => vm0 = s.vm
  | true => s.Since vm0 h.size ∧ Z.Warmed39 vm0 ∧ I vm0
def EndF (wd : Bool) (s : State) (o : Outcome) (t : State) (L : List Loc) (k n : Nat) : Prop :=
  match wd with
  | false => FrameEnd s o t L k n
  | true => ReturnedEndW s o t L k n
/-- what is known of the tables at the end -/
def EndI (wd : Bool) (J : Vm → Prop) (t : State) : Prop := wd = true → J t.vm
theorem EndF.same {wd : Bool} {s : State} {o : Outcome} {t : State} {L : List Loc} {k n : Nat} (h : EndF wd s o t L k n) : s.sameButNew { t with vm := s.vm } L k n := by
  cases wd
  · exact h.2.2
  · exact h.2.2.2
def Wp (wd : Bool) (p : Program) (l : Launch) (e : Env) (R : Room) (s : State) (m : MethodId) (args : Array Value) (below : List Frame) (meth : Method) (c : Code) (Z : State) (own nam : String) (bytes : ByteArray) (maxL : Nat) (ret : Option FieldType) (n0 : Nat) (h0 : Heap) (ws : List Addr) (Q : Option Value → Heap → Prop) (I : Vm → Prop) (h : Heap) (k n pc : Nat) (Ls : List Slot) (st : List Value) : Prop :=
  EnvOk p s m meth c Z own nam bytes maxL ret n0 h0 ws → ∀ (T : State) (L : List Loc) (vm0 : Vm), Base wd I Z s vm0 h → Stand p l e R (s.setVm vm0) m args below meth c T L k n → Pmt h0 ws L → T.heap = h →
    ∃ s₂ o, Steps p.tables e below (T.setTop (mkF m pc Ls.toArray st)) s₂ ∧ s₂.status = .running ∧ Ended s₂ below o ∧ ∃ v L', o = .returned v ∧ (Q v s₂.heap ∧ Pmt h0 ws L') ∧ EndF wd s o s₂ L' R.cells R.slots
/-- a method's contract, at one heap and with these arguments -/
def Con (l : Launch) (Z : State) (n0 : Nat) (y : MethodName) (bytes : ByteArray) (maxL : Nat) (ret : Option FieldType) (rm : Room) (as : List Value) (h0 : Heap) (ws : List Addr) (Q : Option Value → Heap → Prop) : Prop :=
  Old Z n0 h0 → (∀ a ∈ ws, n0 ≤ a) → ∀ wds, MetFree l y (head1 (Cond.code y bytes maxL ret :: wds) rm) (fun a U => a = as.toArray ∧ Z.Warmed39 U.vm ∧ U.heap = h0) (fun _ _ _ _ _ => True) (fun _ U o U' => ∃ v L, o = .returned v ∧ (Q v U'.heap ∧ Pmt h0 ws L ∧ Keep h0 U'.heap ws) ∧ FrameEnd U o U' L rm.cells rm.slots)
theorem Con.of {l : Launch} {Z : State} {n0 : Nat} {y : MethodName} {bytes : ByteArray} {maxL : Nat} {ret : Option FieldType} {rm : Room} {as : List Value} {h0 : Heap} {ws : List Addr} {Q : Option Value → Heap → Prop} {Ls : List Slot}
    (hpl : plainFor y = true) (hent : ∀ m, entryFrame m as.toArray maxL = mkF m 0 Ls.toArray [])
    (g : ∀ p e s m below meth c, Wp false p l e rm s m as.toArray below meth c Z y.cls y.name bytes maxL ret n0 h0 ws Q (fun _ => True) h0 0 0 0 Ls []) : Con l Z n0 y bytes maxL ret rm as h0 ws Q := by
  intro hO hws wds
  refine MetFree.of_bodySF hpl hisR ?_
  intro p e s m args below meth c s₁ Bd hml0 hP hK
  obtain ⟨rfl, hZ, hh⟩ := hP
  have X0 : Stand p l e rm s m as.toArray below meth c s₁ [] 0 0 := Stand.of_body Bd
  have e0 : s₁.heap = h0 := by rw [← hh, Bd.state]; rfl
  rw [hent]
  obtain ⟨s2, o, r1, r2, r3, v, L, r4, ⟨r5, r6⟩, r7⟩ := g p e s m below meth c ⟨Bd.exec, Bd.bytes, hml0, hZ, findClass_of_methodNamed Bd.named, (name_of_methodNamed Bd.named Bd.method).1, Bd.returns, Bd.notSynchronized, hh, hO, hws⟩ s₁ [] s.vm rfl X0 (Pmt.nil _ _) e0
  exact ⟨s2, o, r1, r2, r3, v, L, r4, ⟨r5, r6, by rw [← hh]; exact keep_of r7.2.2 (by rw [hh]; exact r6) rfl⟩, r7⟩
theorem Con.post {l : Launch} {Z : State} {n0 : Nat} {y : MethodName} {bytes : ByteArray} {maxL : Nat} {ret : Option FieldType} {rm : Room} {as : List Value} {h0 : Heap} {ws : List Addr} {Q Q' : Option Value → Heap → Prop}
    (c : Con l Z n0 y bytes maxL ret rm as h0 ws Q) (f : ∀ v h, Q v h → Q' v h) : Con l Z n0 y bytes maxL ret rm as h0 ws Q' := fun hO hws wds p e ha hc hk s m args below hf happ hP hK => by
  obtain ⟨a1, a2, a3, a4, a5, v, L, a6, ⟨a7, a8⟩, a9⟩ := c hO hws wds p e ha hc hk s m args below hf happ hP hK
  exact ⟨a1, a2, a3, a4, a5, v, L, a6, ⟨f _ _ a7, a8⟩, a9⟩
/-- the contract of a method that may intern constants -/
def ConW (l : Launch) (Z : State) (n0 : Nat) (y : MethodName) (bytes : ByteArray) (maxL : Nat) (ret : Option FieldType) (rm : Room) (as : List Value) (h0 : Heap) (ws : List Addr) (I : Vm → Prop) (Q : Option Value → Heap → Prop) : Prop :=
  Old Z n0 h0 → (∀ a ∈ ws, n0 ≤ a) → ∀ wds, MetFree l y (head1 (Cond.code y bytes maxL ret :: wds) rm) (fun a U => a = as.toArray ∧ Z.Warmed39 U.vm ∧ U.heap = h0 ∧ I U.vm) (fun _ _ _ _ _ => True) (fun _ U o U' => ∃ v L, o = .returned v ∧ (Q v U'.heap ∧ Pmt h0 ws L ∧ Keep h0 U'.heap ws) ∧ ReturnedEndW U o U' L rm.cells rm.slots)
theorem ConW.of {l : Launch} {Z : State} {n0 : Nat} {y : MethodName} {bytes : ByteArray} {maxL : Nat} {ret : Option FieldType} {rm : Room} {as : List Value} {h0 : Heap} {ws : List Addr} {I : Vm → Prop} {Q : Option Value → Heap → Prop} {Ls : List Slot}
    (hpl : plainFor y = true) (hent : ∀ m, entryFrame m as.toArray maxL = mkF m 0 Ls.toArray [])
    (g : ∀ p e s m below meth c, Wp true p l e rm s m as.toArray below meth c Z y.cls y.name bytes maxL ret n0 h0 ws Q I h0 0 0 0 Ls []) : ConW l Z n0 y bytes maxL ret rm as h0 ws I Q := by
  intro hO hws wds
  refine MetFree.of_bodySF hpl hisR ?_
  intro p e s m args below meth c s₁ Bd hml0 hP hK
  obtain ⟨rfl, hZ, hh, hI⟩ := hP
  have X0 : Stand p l e rm s m as.toArray below meth c s₁ [] 0 0 := Stand.of_body Bd
  have e0 : s₁.heap = h0 := by rw [← hh, Bd.state]; rfl
  rw [hent]
  obtain ⟨s2, o, r1, r2, r3, v, L, r4, ⟨r5, r6⟩, r7⟩ := g p e s m below meth c ⟨Bd.exec, Bd.bytes, hml0, hZ, findClass_of_methodNamed Bd.named, (name_of_methodNamed Bd.named Bd.method).1, Bd.returns, Bd.notSynchronized, hh, hO, hws⟩ s₁ [] s.vm ⟨(State.WarmedH.refl s).since _, hZ, hI⟩ X0 (Pmt.nil _ _) e0
  exact ⟨s2, o, r1, r2, r3, v, L, r4, ⟨r5, r6, by rw [← hh]; exact keep_of r7.2.2.2 (by rw [hh]; exact r6) rfl⟩, r7⟩
/-- what a call pushes -/
def psh : Option Value → List Value → List Value
  | none, r => r
  | some v, r => v :: r
theorem psh_eq (v : Option Value) (r : List Value) : v.toList ++ r = psh v r := by cases v <;> rfl
def oneB : Slot → Bool
  | .unset => true
  | .second => false
  | .val v => v.category == 1
def oneAt (Ls : List Slot) (j : Nat) : Bool := (Ls[j]?.map oneB).getD false
theorem oneAt_spec {Ls : List Slot} {j : Nat} (h : oneAt Ls j = true) : ∃ o, Ls.toArray[j]? = some o ∧ (o = .unset ∨ ∃ w, o = .val w ∧ w.category = 1) := by
  unfold oneAt at h
  cases q : Ls[j]? with
  | none => simp [q] at h
  | some o =>
    refine ⟨o, by simpa using q, ?_⟩
    cases o <;> simp [q, oneB] at h ⊢
    exact h
/-- two words, for a long -/
def twoAt (Ls : List Slot) (j : Nat) : Bool := (match Ls[j]? with | some .second => false | some _ => true | none => false) && (match Ls[j + 1]? with | some .second => true | some .unset => true | some (.val w) => w.category == 1 | none => false)
theorem two_store {Ls : List Slot} {j : Nat} {x : Int64} (h : twoAt Ls j = true) : storeLocals Ls.toArray j (.long x) = some ((Ls.set j (.val (.long x))).set (j + 1) .second).toArray := by
  unfold twoAt at h
  cases q : Ls[j]? with
  | none => simp [q] at h
  | some o =>
    cases r : Ls[j + 1]? with
    | none => simp [r] at h
    | some o' =>
      obtain ⟨b1, -⟩ := List.getElem?_eq_some_iff.mp q
      obtain ⟨b2, -⟩ := List.getElem?_eq_some_iff.mp r
      cases o with
      | second => simp [q] at h
      | unset => cases o' <;> simp_all [storeLocals, storeSelf, setAt, Value.category]
      | val w =>
        cases o' <;> by_cases hw : w.category = 2 <;> simp_all [storeLocals, storeSelf, setAt, Value.category]
        all_goals rw [List.set_comm _ _ (show j + 1 ≠ j by omega), List.set_set]
theorem one_store {Ls : List Slot} {j : Nat} {v : Value} (h : oneAt Ls j = true) (hv : v.category = 1) : storeLocals Ls.toArray j v = some (Ls.set j (.val v)).toArray := by
  obtain ⟨o, q1, q2⟩ := oneAt_spec h
  rw [XS.store1 q1 q2 hv]; simp
section Walk
variable {wd : Bool} {I : Vm → Prop} {vm0 : Vm} {p : Program} {l : Launch} {e : Env} {R : Room} {s : State} {m : MethodId} {args : Array Value} {below : List Frame} {meth : Method} {c : Code} {Z : State} {own nam : String} {bytes : ByteArray} {maxL : Nat} {ret : Option FieldType} {n0 : Nat} {h0 : Heap} {ws : List Addr} {Q : Option Value → Heap → Prop} {h : Heap} {k n pc : Nat} {Ls : List Slot} {st rest : List Value} {a0 : Array Value}
theorem bZ (E : EnvOk p s m meth c Z own nam bytes maxL ret n0 h0 ws) (B : Base wd I Z s vm0 h) : Z.Warmed39 (s.setVm vm0).vm := by
  cases wd
  · cases B; exact E.2.2.2.1
  · exact B.2.1
theorem bO (E : EnvOk p s m meth c Z own nam bytes maxL ret n0 h0 ws) (B : Base wd I Z s vm0 h) : (s.setVm vm0).vm.findClass own = some m.cls := by
  cases wd
  · cases B; exact E.2.2.2.2.1
  · show vm0.findClass own = _
    rw [B.1.1.alike.findClass]; exact E.2.2.2.2.1
theorem bG {h' : Heap} (B : Base wd I Z s vm0 h) (q : h.size ≤ h'.size) : Base wd I Z s vm0 h' := by
  cases wd
  · exact B
  · exact ⟨⟨B.1.1, B.1.2.mono q⟩, B.2⟩
theorem szOf (E : EnvOk p s m meth c Z own nam bytes maxL ret n0 h0 ws) {T : State} {L : List Loc} (X : Stand p l e R (s.setVm vm0) m args below meth c T L k n) (eT : T.heap = h) : h0.size ≤ h.size := by
  have q : s.heap.size ≤ T.heap.size := X.same.2.1
  rw [E.2.2.2.2.2.2.2.2.1] at q
  rw [← eT]; exact q
theorem keepOf (E : EnvOk p s m meth c Z own nam bytes maxL ret n0 h0 ws) {T : State} {L : List Loc} (X : Stand p l e R (s.setVm vm0) m args below meth c T L k n) (N : Pmt h0 ws L) (eT : T.heap = h) : Keep h0 h ws := by
  have q := E.2.2.2.2.2.2.2.2.1
  rw [← q]; exact keep_of (s := s.setVm vm0) X.same (by show Pmt s.heap ws L; rw [q]; exact N) eT
theorem endOf (E : EnvOk p s m meth c Z own nam bytes maxL ret n0 h0 ws) (B : Base wd I Z s vm0 h) {U : State} {L : List Loc} {o : Outcome} (hr : ∃ v, o = .returned v) (hW : (s.setVm vm0).WarmedH U.vm) (hs : (s.setVm vm0).sameButNew ({ U with vm := (s.setVm vm0).vm } : State) L k n) (hU : U.heap = h) (hk : k ≤ R.cells) (hn : n ≤ R.slots) : EndF wd s o U L R.cells R.slots := by
  cases wd
  · cases B; exact ⟨hr, hW, hs.mono hk hn⟩
  · obtain ⟨r1, r2, r3⟩ := B.1.ended hW (by rw [hU]; exact Nat.le_refl _) hs
    exact ⟨hr, r1, r2, r3.mono hk hn⟩
theorem n0Of (E : EnvOk p s m meth c Z own nam bytes maxL ret n0 h0 ws) {x : Addr} (q : x ∈ ws ∨ h0.size ≤ x) : n0 ≤ x := by
  obtain ⟨o1, o2⟩ := E.2.2.2.2.2.2.2.2.2.1
  rcases q with q | q
  · exact E.2.2.2.2.2.2.2.2.2.2 x q
  · have := o2.1; omega
theorem oldOf (E : EnvOk p s m meth c Z own nam bytes maxL ret n0 h0 ws) {T : State} {L : List Loc} (X : Stand p l e R (s.setVm vm0) m args below meth c T L k n) (N : Pmt h0 ws L) (eT : T.heap = h) : Old Z n0 h :=
  E.2.2.2.2.2.2.2.2.2.1.keep (keepOf E X N eT) E.2.2.2.2.2.2.2.2.2.2
theorem pmtOf (E : EnvOk p s m meth c Z own nam bytes maxL ret n0 h0 ws) {T : State} {L L' : List Loc} {ws' : List Addr} (X : Stand p l e R (s.setVm vm0) m args below meth c T L k n) (eT : T.heap = h) (hws : ∀ x ∈ ws', x ∈ ws ∨ h0.size ≤ x) (N' : Pmt h ws' L') : Pmt h0 ws L' := fun y hy => by
  rcases N' y hy with q | q
  · exact hws _ q
  · exact Or.inr (Nat.le_trans (szOf E X eT) q)
/-- what is kept since the body's start -/
theorem kept (g : Keep h0 h ws → Old Z n0 h → Wp wd p l e R s m args below meth c Z own nam bytes maxL ret n0 h0 ws Q I h k n pc Ls st) : Wp wd p l e R s m args below meth c Z own nam bytes maxL ret n0 h0 ws Q I h k n pc Ls st := fun E T L vm0 B X N eT => g (keepOf E X N eT) (oldOf E X N eT) E T L vm0 B X N eT
theorem step {pc' : Nat} {Ls' : List Slot} {st' : List Value} (g : Wp wd p l e R s m args below meth c Z own nam bytes maxL ret n0 h0 ws Q I h k n pc' Ls' st')
    (f : EnvOk p s m meth c Z own nam bytes maxL ret n0 h0 ws → ∀ (T : State) (L : List Loc) (t : State) (vm0 : Vm), Base wd I Z s vm0 h → Stand p l e R (s.setVm vm0) m args below meth c T L k n → T.heap = h → Steps p.tables e below (T.setTop (mkF m pc' Ls'.toArray st')) t → Steps p.tables e below (T.setTop (mkF m pc Ls.toArray st)) t) : Wp wd p l e R s m args below meth c Z own nam bytes maxL ret n0 h0 ws Q I h k n pc Ls st := fun E T L vm0 B X N eT => by
  obtain ⟨s2, o, hs, r⟩ := g E T L vm0 B X N eT
  exact ⟨s2, o, f E T L s2 vm0 B X eT hs, r⟩
/-- a law that hands back a new state -/
theorem lawS {pc' : Nat} {Ls' : List Slot} {st' : List Value}
    (f : EnvOk p s m meth c Z own nam bytes maxL ret n0 h0 ws → ∀ (T : State) (L : List Loc) (vm0 : Vm), Base wd I Z s vm0 h → Stand p l e R (s.setVm vm0) m args below meth c T L k n → Pmt h0 ws L → T.heap = h → ∃ (T' : State) (L' : List Loc) (h' : Heap) (k' n' : Nat), Stand p l e R (s.setVm vm0) m args below meth c T' L' k' n' ∧ Pmt h0 ws L' ∧ T'.heap = h' ∧ h.size ≤ h'.size ∧ (∀ t, Steps p.tables e below (T'.setTop (mkF m pc' Ls'.toArray st')) t → Steps p.tables e below (T.setTop (mkF m pc Ls.toArray st)) t) ∧ Wp wd p l e R s m args below meth c Z own nam bytes maxL ret n0 h0 ws Q I h' k' n' pc' Ls' st') : Wp wd p l e R s m args below meth c Z own nam bytes maxL ret n0 h0 ws Q I h k n pc Ls st := fun E T L vm0 B X N eT => by
  obtain ⟨T', L', h', k', n', X', N', e', gr, st', g⟩ := f E T L vm0 B X N eT
  obtain ⟨s2, o, hs, r⟩ := g E T' L' vm0 (bG B gr) X' N' e'
  exact ⟨s2, o, st' _ hs, r⟩
theorem more {k' n' : Nat} (hk : k ≤ k') (hn : n ≤ n') (g : Wp wd p l e R s m args below meth c Z own nam bytes maxL ret n0 h0 ws Q I h k' n' pc Ls st) : Wp wd p l e R s m args below meth c Z own nam bytes maxL ret n0 h0 ws Q I h k n pc Ls st := fun E T L vm0 B X N eT =>
  g E T L vm0 B (X.mono hk hn) N eT
theorem conv {Q' : Option Value → Heap → Prop} (g : Wp wd p l e R s m args below meth c Z own nam bytes maxL ret n0 h0 ws Q' I h k n pc Ls st) (f : ∀ v h, Q' v h → Q v h) : Wp wd p l e R s m args below meth c Z own nam bytes maxL ret n0 h0 ws Q I h k n pc Ls st := fun E T L vm0 B X N eT => by
  obtain ⟨s2, o, h1, h2, h3, v, L', h4, ⟨h5, h6⟩, h7⟩ := g E T L vm0 B X N eT
  exact ⟨s2, o, h1, h2, h3, v, L', h4, ⟨f _ _ h5, h6⟩, h7⟩
theorem wk {J : Vm → Prop} (hJ : ∀ vm, I vm → J vm) (g : Wp wd p l e R s m args below meth c Z own nam bytes maxL ret n0 h0 ws Q J h k n pc Ls st) : Wp wd p l e R s m args below meth c Z own nam bytes maxL ret n0 h0 ws Q I h k n pc Ls st := fun E T L vm0 B X N eT =>
  g E T L vm0 (by cases wd; exact B; exact ⟨B.1, B.2.1, hJ _ B.2.2⟩) X N eT

theorem iadd {q1 : Nat} {x y : Int32} (hd : decode bytes pc = .ok (.iadd, 1)) (hq1 : pc + 1 = q1) (g : Wp wd p l e R s m args below meth c Z own nam bytes maxL ret n0 h0 ws Q I h k n q1 Ls (.int (x + y) :: rest)) : Wp wd p l e R s m args below meth c Z own nam bytes maxL ret n0 h0 ws Q I h k n pc Ls (.int y :: .int x :: rest) := by
  subst hq1
  exact  step g fun E T L t vm0 B X _ hr => XS.iadd X.here E.1 rfl (hb E.2.1 hd) rfl hr

theorem isub {q1 : Nat} {x y : Int32} (hd : decode bytes pc = .ok (.isub, 1)) (hq1 : pc + 1 = q1) (g : Wp wd p l e R s m args below meth c Z own nam bytes maxL ret n0 h0 ws Q I h k n q1 Ls (.int (x - y) :: rest)) : Wp wd p l e R s m args below meth c Z own nam bytes maxL ret n0 h0 ws Q I h k n pc Ls (.int y :: .int x :: rest) := by
  subst hq1
  exact  step g fun E T L t vm0 B X _ hr => XS.isub X.here E.1 rfl (hb E.2.1 hd) rfl hr

theorem imul {q1 : Nat} {x y : Int32} (hd : decode bytes pc = .ok (.imul, 1)) (hq1 : pc + 1 = q1) (g : Wp wd p l e R s m args below meth c Z own nam bytes maxL ret n0 h0 ws Q I h k n q1 Ls (.int (x * y) :: rest)) : Wp wd p l e R s m args below meth c Z own nam bytes maxL ret n0 h0 ws Q I h k n pc Ls (.int y :: .int x :: rest) := by
  subst hq1
  exact  step g fun E T L t vm0 B X _ hr => XS.imul X.here E.1 rfl (hb E.2.1 hd) rfl hr

theorem iand {q1 : Nat} {x y : Int32} (hd : decode bytes pc = .ok (.iand, 1)) (hq1 : pc + 1 = q1) (g : Wp wd p l e R s m args below meth c Z own nam bytes maxL ret n0 h0 ws Q I h k n q1 Ls (.int (x &&& y) :: rest)) : Wp wd p l e R s m args below meth c Z own nam bytes maxL ret n0 h0 ws Q I h k n pc Ls (.int y :: .int x :: rest) := by
  subst hq1
  exact  step g fun E T L t vm0 B X _ hr => XS.iand X.here E.1 rfl (hb E.2.1 hd) rfl hr

theorem ior {q1 : Nat} {x y : Int32} (hd : decode bytes pc = .ok (.ior, 1)) (hq1 : pc + 1 = q1) (g : Wp wd p l e R s m args below meth c Z own nam bytes maxL ret n0 h0 ws Q I h k n q1 Ls (.int (x ||| y) :: rest)) : Wp wd p l e R s m args below meth c Z own nam bytes maxL ret n0 h0 ws Q I h k n pc Ls (.int y :: .int x :: rest) := by
  subst hq1
  exact  step g fun E T L t vm0 B X _ hr => XS.ior X.here E.1 rfl (hb E.2.1 hd) rfl hr

theorem ixor {q1 : Nat} {x y : Int32} (hd : decode bytes pc = .ok (.ixor, 1)) (hq1 : pc + 1 = q1) (g : Wp wd p l e R s m args below meth c Z own nam bytes maxL ret n0 h0 ws Q I h k n q1 Ls (.int (x ^^^ y) :: rest)) : Wp wd p l e R s m args below meth c Z own nam bytes maxL ret n0 h0 ws Q I h k n pc Ls (.int y :: .int x :: rest) := by
  subst hq1
  exact  step g fun E T L t vm0 B X _ hr => XS.ixor X.here E.1 rfl (hb E.2.1 hd) rfl hr

theorem ladd {q1 : Nat} {x y : Int64} (hd : decode bytes pc = .ok (.ladd, 1)) (hq1 : pc + 1 = q1) (g : Wp wd p l e R s m args below meth c Z own nam bytes maxL ret n0 h0 ws Q I h k n q1 Ls (.long (x + y) :: rest)) : Wp wd p l e R s m args below meth c Z own nam bytes maxL ret n0 h0 ws Q I h k n pc Ls (.long y :: .long x :: rest) := by
  subst hq1
  exact  step g fun E T L t vm0 B X _ hr => XS.ladd X.here E.1 rfl (hb E.2.1 hd) rfl hr

theorem lsub {q1 : Nat} {x y : Int64} (hd : decode bytes pc = .ok (.lsub, 1)) (hq1 : pc + 1 = q1) (g : Wp wd p l e R s m args below meth c Z own nam bytes maxL ret n0 h0 ws Q I h k n q1 Ls (.long (x - y) :: rest)) : Wp wd p l e R s m args below meth c Z own nam bytes maxL ret n0 h0 ws Q I h k n pc Ls (.long y :: .long x :: rest) := by
  subst hq1
  exact  step g fun E T L t vm0 B X _ hr => XS.lsub X.here E.1 rfl (hb E.2.1 hd) rfl hr

theorem lmul {q1 : Nat} {x y : Int64} (hd : decode bytes pc = .ok (.lmul, 1)) (hq1 : pc + 1 = q1) (g : Wp wd p l e R s m args below meth c Z own nam bytes maxL ret n0 h0 ws Q I h k n q1 Ls (.long (x * y) :: rest)) : Wp wd p l e R s m args below meth c Z own nam bytes maxL ret n0 h0 ws Q I h k n pc Ls (.long y :: .long x :: rest) := by
  subst hq1
  exact  step g fun E T L t vm0 B X _ hr => XS.lmul X.here E.1 rfl (hb E.2.1 hd) rfl hr

theorem land {q1 : Nat} {x y : Int64} (hd : decode bytes pc = .ok (.land, 1)) (hq1 : pc + 1 = q1) (g : Wp wd p l e R s m args below meth c Z own nam bytes maxL ret n0 h0 ws Q I h k n q1 Ls (.long (x &&& y) :: rest)) : Wp wd p l e R s m args below meth c Z own nam bytes maxL ret n0 h0 ws Q I h k n pc Ls (.long y :: .long x :: rest) := by
  subst hq1
  exact  step g fun E T L t vm0 B X _ hr => XS.land X.here E.1 rfl (hb E.2.1 hd) rfl hr

theorem lor {q1 : Nat} {x y : Int64} (hd : decode bytes pc = .ok (.lor, 1)) (hq1 : pc + 1 = q1) (g : Wp wd p l e R s m args below meth c Z own nam bytes maxL ret n0 h0 ws Q I h k n q1 Ls (.long (x ||| y) :: rest)) : Wp wd p l e R s m args below meth c Z own nam bytes maxL ret n0 h0 ws Q I h k n pc Ls (.long y :: .long x :: rest) := by
  subst hq1
  exact  step g fun E T L t vm0 B X _ hr => XS.lor X.here E.1 rfl (hb E.2.1 hd) rfl hr

theorem lxor {q1 : Nat} {x y : Int64} (hd : decode bytes pc = .ok (.lxor, 1)) (hq1 : pc + 1 = q1) (g : Wp wd p l e R s m args below meth c Z own nam bytes maxL ret n0 h0 ws Q I h k n q1 Ls (.long (x ^^^ y) :: rest)) : Wp wd p l e R s m args below meth c Z own nam bytes maxL ret n0 h0 ws Q I h k n pc Ls (.long y :: .long x :: rest) := by
  subst hq1
  exact  step g fun E T L t vm0 B X _ hr => XS.lxor X.here E.1 rfl (hb E.2.1 hd) rfl hr

theorem ishl {q1 : Nat} {x y : Int32} (hd : decode bytes pc = .ok (.ishl, 1)) (hq1 : pc + 1 = q1) (g : Wp wd p l e R s m args below meth c Z own nam bytes maxL ret n0 h0 ws Q I h k n q1 Ls (.int (x <<< (y &&& 31)) :: rest)) : Wp wd p l e R s m args below meth c Z own nam bytes maxL ret n0 h0 ws Q I h k n pc Ls (.int y :: .int x :: rest) := by
  subst hq1
  exact  step g fun E T L t vm0 B X _ hr => XS.ishl X.here E.1 rfl (hb E.2.1 hd) rfl hr

theorem ishr {q1 : Nat} {x y : Int32} (hd : decode bytes pc = .ok (.ishr, 1)) (hq1 : pc + 1 = q1) (g : Wp wd p l e R s m args below meth c Z own nam bytes maxL ret n0 h0 ws Q I h k n q1 Ls (.int (x >>> (y &&& 31)) :: rest)) : Wp wd p l e R s m args below meth c Z own nam bytes maxL ret n0 h0 ws Q I h k n pc Ls (.int y :: .int x :: rest) := by
  subst hq1
  exact  step g fun E T L t vm0 B X _ hr => XS.ishr X.here E.1 rfl (hb E.2.1 hd) rfl hr

theorem iushr {q1 : Nat} {x y : Int32} (hd : decode bytes pc = .ok (.iushr, 1)) (hq1 : pc + 1 = q1) (g : Wp wd p l e R s m args below meth c Z own nam bytes maxL ret n0 h0 ws Q I h k n q1 Ls (.int ((x.toUInt32 >>> (y &&& 31).toUInt32).toInt32) :: rest)) : Wp wd p l e R s m args below meth c Z own nam bytes maxL ret n0 h0 ws Q I h k n pc Ls (.int y :: .int x :: rest) := by
  subst hq1
  exact  step g fun E T L t vm0 B X _ hr => XS.iushr X.here E.1 rfl (hb E.2.1 hd) rfl hr

theorem lshl {q1 : Nat} {x : Int64} {y : Int32} (hd : decode bytes pc = .ok (.lshl, 1)) (hq1 : pc + 1 = q1) (g : Wp wd p l e R s m args below meth c Z own nam bytes maxL ret n0 h0 ws Q I h k n q1 Ls (.long (x <<< (y &&& 0x3f).toInt64) :: rest)) : Wp wd p l e R s m args below meth c Z own nam bytes maxL ret n0 h0 ws Q I h k n pc Ls (.int y :: .long x :: rest) := by
  subst hq1
  exact  step g fun E T L t vm0 B X _ hr => XS.lshl X.here E.1 rfl (hb E.2.1 hd) rfl hr

theorem lshr {q1 : Nat} {x : Int64} {y : Int32} (hd : decode bytes pc = .ok (.lshr, 1)) (hq1 : pc + 1 = q1) (g : Wp wd p l e R s m args below meth c Z own nam bytes maxL ret n0 h0 ws Q I h k n q1 Ls (.long (x >>> (y &&& 0x3f).toInt64) :: rest)) : Wp wd p l e R s m args below meth c Z own nam bytes maxL ret n0 h0 ws Q I h k n pc Ls (.int y :: .long x :: rest) := by
  subst hq1
  exact  step g fun E T L t vm0 B X _ hr => XS.lshr X.here E.1 rfl (hb E.2.1 hd) rfl hr

theorem lushr {q1 : Nat} {x : Int64} {y : Int32} (hd : decode bytes pc = .ok (.lushr, 1)) (hq1 : pc + 1 = q1) (g : Wp wd p l e R s m args below meth c Z own nam bytes maxL ret n0 h0 ws Q I h k n q1 Ls (.long ((x.toUInt64 >>> (y &&& 0x3f).toInt64.toUInt64).toInt64) :: rest)) : Wp wd p l e R s m args below meth c Z own nam bytes maxL ret n0 h0 ws Q I h k n pc Ls (.int y :: .long x :: rest) := by
  subst hq1
  exact  step g fun E T L t vm0 B X _ hr => XS.lushr X.here E.1 rfl (hb E.2.1 hd) rfl hr

theorem lcmp {q1 : Nat} {x y : Int64} (hd : decode bytes pc = .ok (.lcmp, 1)) (hq1 : pc + 1 = q1) (g : Wp wd p l e R s m args below meth c Z own nam bytes maxL ret n0 h0 ws Q I h k n q1 Ls (.int (lcmpW x y) :: rest)) : Wp wd p l e R s m args below meth c Z own nam bytes maxL ret n0 h0 ws Q I h k n pc Ls (.long y :: .long x :: rest) := by
  subst hq1
  exact  step g fun E T L t vm0 B X _ hr => XS.lcmp X.here E.1 rfl (hb E.2.1 hd) rfl hr

theorem idiv {q1 : Nat} {x y : Int32} (hd : decode bytes pc = .ok (.idiv, 1)) (hq1 : pc + 1 = q1) (hy : y ≠ 0) (g : Wp wd p l e R s m args below meth c Z own nam bytes maxL ret n0 h0 ws Q I h k n q1 Ls (.int (x / y) :: rest)) : Wp wd p l e R s m args below meth c Z own nam bytes maxL ret n0 h0 ws Q I h k n pc Ls (.int y :: .int x :: rest) := by
  subst hq1
  exact  step g fun E T L t vm0 B X _ hr => XS.idiv X.here E.1 rfl (hb E.2.1 hd) rfl hy hr

theorem ldiv {q1 : Nat} {x y : Int64} (hd : decode bytes pc = .ok (.ldiv, 1)) (hq1 : pc + 1 = q1) (hy : y ≠ 0) (g : Wp wd p l e R s m args below meth c Z own nam bytes maxL ret n0 h0 ws Q I h k n q1 Ls (.long (x / y) :: rest)) : Wp wd p l e R s m args below meth c Z own nam bytes maxL ret n0 h0 ws Q I h k n pc Ls (.long y :: .long x :: rest) := by
  subst hq1
  exact  step g fun E T L t vm0 B X _ hr => XS.ldiv X.here E.1 rfl (hb E.2.1 hd) rfl hy hr

theorem irem {q1 : Nat} {x y : Int32} (hd : decode bytes pc = .ok (.irem, 1)) (hq1 : pc + 1 = q1) (hy : y ≠ 0) (g : Wp wd p l e R s m args below meth c Z own nam bytes maxL ret n0 h0 ws Q I h k n q1 Ls (.int (x % y) :: rest)) : Wp wd p l e R s m args below meth c Z own nam bytes maxL ret n0 h0 ws Q I h k n pc Ls (.int y :: .int x :: rest) := by
  subst hq1
  exact  step g fun E T L t vm0 B X _ hr => iremM X E.1 rfl (hb E.2.1 hd) rfl hy hr

theorem ineg {q1 : Nat} {x : Int32} (hd : decode bytes pc = .ok (.ineg, 1)) (hq1 : pc + 1 = q1) (g : Wp wd p l e R s m args below meth c Z own nam bytes maxL ret n0 h0 ws Q I h k n q1 Ls (.int (-x) :: rest)) : Wp wd p l e R s m args below meth c Z own nam bytes maxL ret n0 h0 ws Q I h k n pc Ls (.int x :: rest) := by
  subst hq1
  exact  step g fun E T L t vm0 B X _ hr => XS.ineg X.here E.1 rfl (hb E.2.1 hd) rfl hr

theorem lneg {q1 : Nat} {x : Int64} (hd : decode bytes pc = .ok (.lneg, 1)) (hq1 : pc + 1 = q1) (g : Wp wd p l e R s m args below meth c Z own nam bytes maxL ret n0 h0 ws Q I h k n q1 Ls (.long (-x) :: rest)) : Wp wd p l e R s m args below meth c Z own nam bytes maxL ret n0 h0 ws Q I h k n pc Ls (.long x :: rest) := by
  subst hq1
  exact  step g fun E T L t vm0 B X _ hr => XS.lneg X.here E.1 rfl (hb E.2.1 hd) rfl hr

theorem i2l {q1 : Nat} {x : Int32} (hd : decode bytes pc = .ok (.i2l, 1)) (hq1 : pc + 1 = q1) (g : Wp wd p l e R s m args below meth c Z own nam bytes maxL ret n0 h0 ws Q I h k n q1 Ls (.long (x.toInt64) :: rest)) : Wp wd p l e R s m args below meth c Z own nam bytes maxL ret n0 h0 ws Q I h k n pc Ls (.int x :: rest) := by
  subst hq1
  exact  step g fun E T L t vm0 B X _ hr => XS.i2l X.here E.1 rfl (hb E.2.1 hd) rfl hr

theorem l2i {q1 : Nat} {x : Int64} (hd : decode bytes pc = .ok (.l2i, 1)) (hq1 : pc + 1 = q1) (g : Wp wd p l e R s m args below meth c Z own nam bytes maxL ret n0 h0 ws Q I h k n q1 Ls (.int (x.toInt32) :: rest)) : Wp wd p l e R s m args below meth c Z own nam bytes maxL ret n0 h0 ws Q I h k n pc Ls (.long x :: rest) := by
  subst hq1
  exact  step g fun E T L t vm0 B X _ hr => XS.l2i X.here E.1 rfl (hb E.2.1 hd) rfl hr

theorem i2b {q1 : Nat} {x : Int32} (hd : decode bytes pc = .ok (.i2b, 1)) (hq1 : pc + 1 = q1) (g : Wp wd p l e R s m args below meth c Z own nam bytes maxL ret n0 h0 ws Q I h k n q1 Ls (.int (x.toInt8.toInt32) :: rest)) : Wp wd p l e R s m args below meth c Z own nam bytes maxL ret n0 h0 ws Q I h k n pc Ls (.int x :: rest) := by
  subst hq1
  exact  step g fun E T L t vm0 B X _ hr => XS.i2b X.here E.1 rfl (hb E.2.1 hd) rfl hr

theorem i2s {q1 : Nat} {x : Int32} (hd : decode bytes pc = .ok (.i2s, 1)) (hq1 : pc + 1 = q1) (g : Wp wd p l e R s m args below meth c Z own nam bytes maxL ret n0 h0 ws Q I h k n q1 Ls (.int (x.toInt16.toInt32) :: rest)) : Wp wd p l e R s m args below meth c Z own nam bytes maxL ret n0 h0 ws Q I h k n pc Ls (.int x :: rest) := by
  subst hq1
  exact  step g fun E T L t vm0 B X _ hr => XS.i2s X.here E.1 rfl (hb E.2.1 hd) rfl hr

theorem i2c {q1 : Nat} {x : Int32} (hd : decode bytes pc = .ok (.i2c, 1)) (hq1 : pc + 1 = q1) (g : Wp wd p l e R s m args below meth c Z own nam bytes maxL ret n0 h0 ws Q I h k n q1 Ls (.int (x.toUInt32.toUInt16.toUInt32.toInt32) :: rest)) : Wp wd p l e R s m args below meth c Z own nam bytes maxL ret n0 h0 ws Q I h k n pc Ls (.int x :: rest) := by
  subst hq1
  exact  step g fun E T L t vm0 B X _ hr => XS.i2c X.here E.1 rfl (hb E.2.1 hd) rfl hr

theorem iconst {q1 : Nat} {i : Int} {v : Int32} (hd : decode bytes pc = .ok (.iconst i, 1)) (hq1 : pc + 1 = q1) (hv : Int32.ofInt i = v) (g : Wp wd p l e R s m args below meth c Z own nam bytes maxL ret n0 h0 ws Q I h k n q1 Ls (.int v :: st)) : Wp wd p l e R s m args below meth c Z own nam bytes maxL ret n0 h0 ws Q I h k n pc Ls st := by
  subst hq1
  exact  step g fun E T L t vm0 B X _ hr => XT.iconstV X.here E.1 rfl v (hb E.2.1 hd) hv hr

theorem bipush {q1 : Nat} {i : Int} {v : Int32} (hd : decode bytes pc = .ok (.bipush i, 2)) (hq1 : pc + 2 = q1) (hv : (Int8.ofInt i).toInt32 = v) (g : Wp wd p l e R s m args below meth c Z own nam bytes maxL ret n0 h0 ws Q I h k n q1 Ls (.int v :: st)) : Wp wd p l e R s m args below meth c Z own nam bytes maxL ret n0 h0 ws Q I h k n pc Ls st := by
  subst hq1
  exact  step g fun E T L t vm0 B X _ hr => XT.bipushV X.here E.1 rfl v (hb E.2.1 hd) hv hr

theorem sipush {q1 : Nat} {i : Int} {v : Int32} (hd : decode bytes pc = .ok (.sipush i, 3)) (hq1 : pc + 3 = q1) (hv : (Int16.ofInt i).toInt32 = v) (g : Wp wd p l e R s m args below meth c Z own nam bytes maxL ret n0 h0 ws Q I h k n q1 Ls (.int v :: st)) : Wp wd p l e R s m args below meth c Z own nam bytes maxL ret n0 h0 ws Q I h k n pc Ls st := by
  subst hq1
  exact  step g fun E T L t vm0 B X _ hr => XT.sipushV X.here E.1 rfl v (hb E.2.1 hd) hv hr

theorem lconst {q1 : Nat} {i : Fin 2} {v : Int64} (hd : decode bytes pc = .ok (.lconst i, 1)) (hq1 : pc + 1 = q1) (hv : Int64.ofNat i = v) (g : Wp wd p l e R s m args below meth c Z own nam bytes maxL ret n0 h0 ws Q I h k n q1 Ls (.long v :: st)) : Wp wd p l e R s m args below meth c Z own nam bytes maxL ret n0 h0 ws Q I h k n pc Ls st := by
  subst hq1
  exact  step g fun E T L t vm0 B X _ hr => XT.lconstV X.here E.1 rfl v (hb E.2.1 hd) hv hr

theorem aconst_null {q1 : Nat} (hd : decode bytes pc = .ok (.aconst_null, 1)) (hq1 : pc + 1 = q1) (g : Wp wd p l e R s m args below meth c Z own nam bytes maxL ret n0 h0 ws Q I h k n q1 Ls (.null :: st)) : Wp wd p l e R s m args below meth c Z own nam bytes maxL ret n0 h0 ws Q I h k n pc Ls st := by
  subst hq1
  exact  step g fun E T L t vm0 B X _ hr => XS.aconstNull X.here E.1 rfl (hb E.2.1 hd) hr

theorem ldcI {q1 : Nat} {i : Nat} {v : Int32} (hd : decode bytes pc = .ok (.ldc i, 2)) (hq1 : pc + 2 = q1) (w : (Cond.constant own i v).before a0 Z = true) (g : Wp wd p l e R s m args below meth c Z own nam bytes maxL ret n0 h0 ws Q I h k n q1 Ls (.int v :: st)) : Wp wd p l e R s m args below meth c Z own nam bytes maxL ret n0 h0 ws Q I h k n pc Ls st := by
  subst hq1
  exact  step g fun E T L t vm0 B X _ hr => X.ldcInt E.1 (bO E B) (mvT (bZ E B) w) (g := mkF m pc Ls.toArray st) rfl (hb E.2.1 hd) _ hr

theorem ldcwI {q1 : Nat} {i : Nat} {v : Int32} (hd : decode bytes pc = .ok (.ldc_w i, 3)) (hq1 : pc + 3 = q1) (w : (Cond.constant own i v).before a0 Z = true) (g : Wp wd p l e R s m args below meth c Z own nam bytes maxL ret n0 h0 ws Q I h k n q1 Ls (.int v :: st)) : Wp wd p l e R s m args below meth c Z own nam bytes maxL ret n0 h0 ws Q I h k n pc Ls st := by
  subst hq1
  exact  step g fun E T L t vm0 B X _ hr => X.ldcwInt E.1 (bO E B) (mvT (bZ E B) w) (g := mkF m pc Ls.toArray st) rfl (hb E.2.1 hd) _ hr

theorem ldc2J {q1 : Nat} {i : Nat} {v : Int64} (hd : decode bytes pc = .ok (.ldc2_w i, 3)) (hq1 : pc + 3 = q1) (w : (Cond.constantLong own i v).before a0 Z = true) (g : Wp wd p l e R s m args below meth c Z own nam bytes maxL ret n0 h0 ws Q I h k n q1 Ls (.long v :: st)) : Wp wd p l e R s m args below meth c Z own nam bytes maxL ret n0 h0 ws Q I h k n pc Ls st := by
  subst hq1
  exact  step g fun E T L t vm0 B X _ hr => X.ldc2Long E.1 (bO E B) (mvT (bZ E B) w) (g := mkF m pc Ls.toArray st) rfl (hb E.2.1 hd) _ hr

theorem iload {q1 : Nat} {j : Nat} {v : Int32} (hd : decode bytes pc = .ok (.iload j, 2)) (hq1 : pc + 2 = q1) (hl : Ls[j]? = some (.val (.int v))) (g : Wp wd p l e R s m args below meth c Z own nam bytes maxL ret n0 h0 ws Q I h k n q1 Ls ((.int v) :: st)) : Wp wd p l e R s m args below meth c Z own nam bytes maxL ret n0 h0 ws Q I h k n pc Ls st := by
  subst hq1
  exact  step g fun E T L t vm0 B X _ hr => XS.iload X.here E.1 rfl (hb E.2.1 hd) (by simpa using hl) hr

theorem iload_n {q1 : Nat} {j : Fin 4} {v : Int32} (hd : decode bytes pc = .ok (.iload_n j, 1)) (hq1 : pc + 1 = q1) (hl : Ls[j.val]? = some (.val (.int v))) (g : Wp wd p l e R s m args below meth c Z own nam bytes maxL ret n0 h0 ws Q I h k n q1 Ls ((.int v) :: st)) : Wp wd p l e R s m args below meth c Z own nam bytes maxL ret n0 h0 ws Q I h k n pc Ls st := by
  subst hq1
  exact  step g fun E T L t vm0 B X _ hr => XS.iloadN X.here E.1 rfl (hb E.2.1 hd) (by simpa using hl) hr

theorem lload {q1 : Nat} {j : Nat} {v : Int64} (hd : decode bytes pc = .ok (.lload j, 2)) (hq1 : pc + 2 = q1) (hl : Ls[j]? = some (.val (.long v))) (g : Wp wd p l e R s m args below meth c Z own nam bytes maxL ret n0 h0 ws Q I h k n q1 Ls ((.long v) :: st)) : Wp wd p l e R s m args below meth c Z own nam bytes maxL ret n0 h0 ws Q I h k n pc Ls st := by
  subst hq1
  exact  step g fun E T L t vm0 B X _ hr => XS.lload X.here E.1 rfl (hb E.2.1 hd) (by simpa using hl) hr

theorem lload_n {q1 : Nat} {j : Fin 4} {v : Int64} (hd : decode bytes pc = .ok (.lload_n j, 1)) (hq1 : pc + 1 = q1) (hl : Ls[j.val]? = some (.val (.long v))) (g : Wp wd p l e R s m args below meth c Z own nam bytes maxL ret n0 h0 ws Q I h k n q1 Ls ((.long v) :: st)) : Wp wd p l e R s m args below meth c Z own nam bytes maxL ret n0 h0 ws Q I h k n pc Ls st := by
  subst hq1
  exact  step g fun E T L t vm0 B X _ hr => XS.lloadN X.here E.1 rfl (hb E.2.1 hd) (by simpa using hl) hr

theorem aload {q1 : Nat} {j : Nat} {v : Value} (hd : decode bytes pc = .ok (.aload j, 2)) (hq1 : pc + 2 = q1) (hl : Ls[j]? = some (.val (v))) (hv : v.isRef = true) (g : Wp wd p l e R s m args below meth c Z own nam bytes maxL ret n0 h0 ws Q I h k n q1 Ls ((v) :: st)) : Wp wd p l e R s m args below meth c Z own nam bytes maxL ret n0 h0 ws Q I h k n pc Ls st := by
  subst hq1
  exact  step g fun E T L t vm0 B X _ hr => XS.aload X.here E.1 rfl (hb E.2.1 hd) (by simpa using hl) hv hr

theorem aload_n {q1 : Nat} {j : Fin 4} {v : Value} (hd : decode bytes pc = .ok (.aload_n j, 1)) (hq1 : pc + 1 = q1) (hl : Ls[j.val]? = some (.val (v))) (hv : v.isRef = true) (g : Wp wd p l e R s m args below meth c Z own nam bytes maxL ret n0 h0 ws Q I h k n q1 Ls ((v) :: st)) : Wp wd p l e R s m args below meth c Z own nam bytes maxL ret n0 h0 ws Q I h k n pc Ls st := by
  subst hq1
  exact  step g fun E T L t vm0 B X _ hr => XS.aloadN X.here E.1 rfl (hb E.2.1 hd) (by simpa using hl) hv hr

theorem istore {q1 : Nat} {j : Nat} {x : Int32} (hd : decode bytes pc = .ok (.istore j, 2)) (hq1 : pc + 2 = q1) (ho : oneAt Ls j = true) (g : Wp wd p l e R s m args below meth c Z own nam bytes maxL ret n0 h0 ws Q I h k n q1 (Ls.set j (.val (.int x))) rest) : Wp wd p l e R s m args below meth c Z own nam bytes maxL ret n0 h0 ws Q I h k n pc Ls (.int x :: rest) := by
  subst hq1
  exact  step g fun E T L t vm0 B X _ hr => XS.istore X.here E.1 rfl (hb E.2.1 hd) rfl (one_store ho rfl) hr

theorem istore_n {q1 : Nat} {j : Fin 4} {jj : Nat} {x : Int32} (hd : decode bytes pc = .ok (.istore_n j, 1)) (hq1 : pc + 1 = q1) (hj : j.val = jj) (ho : oneAt Ls jj = true) (g : Wp wd p l e R s m args below meth c Z own nam bytes maxL ret n0 h0 ws Q I h k n q1 (Ls.set jj (.val (.int x))) rest) : Wp wd p l e R s m args below meth c Z own nam bytes maxL ret n0 h0 ws Q I h k n pc Ls (.int x :: rest) := by
  subst hq1
  exact  step g fun E T L t vm0 B X _ hr => XS.istoreN X.here E.1 rfl (hb E.2.1 hd) rfl (by subst hj; exact one_store ho rfl) hr

theorem astore {q1 : Nat} {j : Nat} {x : Value} (hd : decode bytes pc = .ok (.astore j, 2)) (hq1 : pc + 2 = q1) (ho : oneAt Ls j = true) (hv : x.isRef = true) (g : Wp wd p l e R s m args below meth c Z own nam bytes maxL ret n0 h0 ws Q I h k n q1 (Ls.set j (.val x)) rest) : Wp wd p l e R s m args below meth c Z own nam bytes maxL ret n0 h0 ws Q I h k n pc Ls (x :: rest) := by
  subst hq1
  exact  step g fun E T L t vm0 B X _ hr => XS.astore X.here E.1 rfl (hb E.2.1 hd) rfl hv (one_store ho (XT.cat1 hv)) hr

theorem astore_n {q1 : Nat} {j : Fin 4} {jj : Nat} {x : Value} (hd : decode bytes pc = .ok (.astore_n j, 1)) (hq1 : pc + 1 = q1) (hj : j.val = jj) (ho : oneAt Ls jj = true) (hv : x.isRef = true) (g : Wp wd p l e R s m args below meth c Z own nam bytes maxL ret n0 h0 ws Q I h k n q1 (Ls.set jj (.val x)) rest) : Wp wd p l e R s m args below meth c Z own nam bytes maxL ret n0 h0 ws Q I h k n pc Ls (x :: rest) := by
  subst hq1
  exact  step g fun E T L t vm0 B X _ hr => XS.astoreN X.here E.1 rfl (hb E.2.1 hd) rfl hv (by subst hj; exact one_store ho (XT.cat1 hv)) hr

theorem lstore {q1 : Nat} {j jk : Nat} {x : Int64} (hd : decode bytes pc = .ok (.lstore j, 2)) (hq1 : pc + 2 = q1) (hjk : j + 1 = jk) (ho : twoAt Ls j = true) (g : Wp wd p l e R s m args below meth c Z own nam bytes maxL ret n0 h0 ws Q I h k n q1 ((Ls.set j (.val (.long x))).set jk .second) rest) : Wp wd p l e R s m args below meth c Z own nam bytes maxL ret n0 h0 ws Q I h k n pc Ls (.long x :: rest) := by
  subst hq1
  exact  step g fun E T L t vm0 B X _ hr => XS.lstore X.here E.1 rfl (hb E.2.1 hd) rfl (by subst hjk; exact two_store ho) hr

theorem lstore_n {q1 : Nat} {j : Fin 4} {jj jk : Nat} {x : Int64} (hd : decode bytes pc = .ok (.lstore_n j, 1)) (hq1 : pc + 1 = q1) (hj : j.val = jj) (hjk : jj + 1 = jk) (ho : twoAt Ls jj = true) (g : Wp wd p l e R s m args below meth c Z own nam bytes maxL ret n0 h0 ws Q I h k n q1 ((Ls.set jj (.val (.long x))).set jk .second) rest) : Wp wd p l e R s m args below meth c Z own nam bytes maxL ret n0 h0 ws Q I h k n pc Ls (.long x :: rest) := by
  subst hq1
  exact  step g fun E T L t vm0 B X _ hr => XS.lstoreN X.here E.1 rfl (hb E.2.1 hd) rfl (by subst hj; subst hjk; exact two_store ho) hr

theorem iinc {q1 : Nat} {j : Nat} {i : Int} {x v : Int32} (hd : decode bytes pc = .ok (.iinc j i, 3)) (hq1 : pc + 3 = q1) (hv : Int32.ofInt i = v) (hl : Ls[j]? = some (.val (.int x))) (g : Wp wd p l e R s m args below meth c Z own nam bytes maxL ret n0 h0 ws Q I h k n q1 (Ls.set j (.val (.int (x + v)))) st) : Wp wd p l e R s m args below meth c Z own nam bytes maxL ret n0 h0 ws Q I h k n pc Ls st := by
  subst hq1
  exact  step g fun E T L t vm0 B X _ hr => XT.iincV X.here E.1 rfl v (hb E.2.1 hd) hv (by simpa using hl) (one_store (by simp [oneAt, hl, oneB, Value.category]) rfl) hr

theorem dup {q1 : Nat} {x : Value} (hd : decode bytes pc = .ok (.dup, 1)) (hq1 : pc + 1 = q1) (hc : x.category = 1) (g : Wp wd p l e R s m args below meth c Z own nam bytes maxL ret n0 h0 ws Q I h k n q1 Ls (x :: x :: rest)) : Wp wd p l e R s m args below meth c Z own nam bytes maxL ret n0 h0 ws Q I h k n pc Ls (x :: rest) := by
  subst hq1
  exact  step g fun E T L t vm0 B X _ hr => XS.dup X.here E.1 rfl (hb E.2.1 hd) rfl hc hr

theorem pop {q1 : Nat} {x : Value} (hd : decode bytes pc = .ok (.pop, 1)) (hq1 : pc + 1 = q1) (hc : x.category = 1) (g : Wp wd p l e R s m args below meth c Z own nam bytes maxL ret n0 h0 ws Q I h k n q1 Ls rest) : Wp wd p l e R s m args below meth c Z own nam bytes maxL ret n0 h0 ws Q I h k n pc Ls (x :: rest) := by
  subst hq1
  exact  step g fun E T L t vm0 B X _ hr => XS.pop X.here E.1 rfl (hb E.2.1 hd) rfl hc hr

theorem dup_x1 {q1 : Nat} {x y : Value} (hd : decode bytes pc = .ok (.dup_x1, 1)) (hq1 : pc + 1 = q1) (hc : x.category = 1) (hc' : y.category = 1) (g : Wp wd p l e R s m args below meth c Z own nam bytes maxL ret n0 h0 ws Q I h k n q1 Ls (x :: y :: x :: rest)) : Wp wd p l e R s m args below meth c Z own nam bytes maxL ret n0 h0 ws Q I h k n pc Ls (x :: y :: rest) := by
  subst hq1
  exact  step g fun E T L t vm0 B X _ hr => XS.dupX1 X.here E.1 rfl (hb E.2.1 hd) rfl hc hc' hr

theorem dup2 {q1 : Nat} {x y : Value} (hd : decode bytes pc = .ok (.dup2, 1)) (hq1 : pc + 1 = q1) (hc : x.category = 1) (hc' : y.category = 1) (g : Wp wd p l e R s m args below meth c Z own nam bytes maxL ret n0 h0 ws Q I h k n q1 Ls (x :: y :: x :: y :: rest)) : Wp wd p l e R s m args below meth c Z own nam bytes maxL ret n0 h0 ws Q I h k n pc Ls (x :: y :: rest) := by
  subst hq1
  exact  step g fun E T L t vm0 B X _ hr => XT.dup2 X.here E.1 rfl (hb E.2.1 hd) rfl hc hc' hr

theorem dup2L {q1 : Nat} {x : Int64} (hd : decode bytes pc = .ok (.dup2, 1)) (hq1 : pc + 1 = q1) (g : Wp wd p l e R s m args below meth c Z own nam bytes maxL ret n0 h0 ws Q I h k n q1 Ls (.long x :: .long x :: rest)) : Wp wd p l e R s m args below meth c Z own nam bytes maxL ret n0 h0 ws Q I h k n pc Ls (.long x :: rest) := by
  subst hq1
  exact  step g fun E T L t vm0 B X _ hr => XT.dup2L X.here E.1 rfl (hb E.2.1 hd) rfl hr

theorem goto {o : Int} {q : Nat} (hd : decode bytes pc = .ok (.goto o, 3)) (hq : (0 ≤ (pc : Int) + o) ∧ ((pc : Int) + o).toNat = q) (g : Wp wd p l e R s m args below meth c Z own nam bytes maxL ret n0 h0 ws Q I h k n q Ls st) : Wp wd p l e R s m args below meth c Z own nam bytes maxL ret n0 h0 ws Q I h k n pc Ls st :=
  step g fun E T L t vm0 B X _ hr => XS.goto X.here E.1 rfl rfl (hb E.2.1 hd) hq.1 hq.2 hr

theorem if_eq {q1 : Nat} {o : Int} {q : Nat} {x : Int32} (hd : decode bytes pc = .ok (.ifCond .eq o, 3)) (hq1 : pc + 3 = q1) (hq : (0 ≤ (pc : Int) + o) ∧ ((pc : Int) + o).toNat = q) (gt : x = 0 → Wp wd p l e R s m args below meth c Z own nam bytes maxL ret n0 h0 ws Q I h k n q Ls rest) (gf : ¬ x = 0 → Wp wd p l e R s m args below meth c Z own nam bytes maxL ret n0 h0 ws Q I h k n q1 Ls rest) : Wp wd p l e R s m args below meth c Z own nam bytes maxL ret n0 h0 ws Q I h k n pc Ls (.int x :: rest) := by
  subst hq1
  by_cases hc : x = 0
  · exact step (gt hc) fun E T L t vm0 B X _ hr => XS.ifYes X.here E.1 rfl rfl (hb E.2.1 hd) rfl ((if0 _ _).trans (teq hc).1) hq.1 hq.2 hr
  · exact step (gf hc) fun E T L t vm0 B X _ hr => XS.ifNo X.here E.1 rfl (hb E.2.1 hd) rfl ((if0 _ _).trans (feq hc).1) hr

theorem icmp_eq {q1 : Nat} {o : Int} {q : Nat} {x y : Int32} (hd : decode bytes pc = .ok (.if_icmp .eq o, 3)) (hq1 : pc + 3 = q1) (hq : (0 ≤ (pc : Int) + o) ∧ ((pc : Int) + o).toNat = q) (gt : x = y → Wp wd p l e R s m args below meth c Z own nam bytes maxL ret n0 h0 ws Q I h k n q Ls rest) (gf : ¬ x = y → Wp wd p l e R s m args below meth c Z own nam bytes maxL ret n0 h0 ws Q I h k n q1 Ls rest) : Wp wd p l e R s m args below meth c Z own nam bytes maxL ret n0 h0 ws Q I h k n pc Ls (.int y :: .int x :: rest) := by
  subst hq1
  by_cases hc : x = y
  · exact step (gt hc) fun E T L t vm0 B X _ hr => XS.icmpYes X.here E.1 rfl rfl (hb E.2.1 hd) rfl (teq hc).1 hq.1 hq.2 hr
  · exact step (gf hc) fun E T L t vm0 B X _ hr => XS.icmpNo X.here E.1 rfl (hb E.2.1 hd) rfl (feq hc).1 hr

theorem if_ne {q1 : Nat} {o : Int} {q : Nat} {x : Int32} (hd : decode bytes pc = .ok (.ifCond .ne o, 3)) (hq1 : pc + 3 = q1) (hq : (0 ≤ (pc : Int) + o) ∧ ((pc : Int) + o).toNat = q) (gt : ¬ x = 0 → Wp wd p l e R s m args below meth c Z own nam bytes maxL ret n0 h0 ws Q I h k n q Ls rest) (gf : x = 0 → Wp wd p l e R s m args below meth c Z own nam bytes maxL ret n0 h0 ws Q I h k n q1 Ls rest) : Wp wd p l e R s m args below meth c Z own nam bytes maxL ret n0 h0 ws Q I h k n pc Ls (.int x :: rest) := by
  subst hq1
  by_cases hc : x = 0
  · exact step (gf hc) fun E T L t vm0 B X _ hr => XS.ifNo X.here E.1 rfl (hb E.2.1 hd) rfl ((if0 _ _).trans (teq hc).2) hr
  · exact step (gt hc) fun E T L t vm0 B X _ hr => XS.ifYes X.here E.1 rfl rfl (hb E.2.1 hd) rfl ((if0 _ _).trans (feq hc).2) hq.1 hq.2 hr

theorem icmp_ne {q1 : Nat} {o : Int} {q : Nat} {x y : Int32} (hd : decode bytes pc = .ok (.if_icmp .ne o, 3)) (hq1 : pc + 3 = q1) (hq : (0 ≤ (pc : Int) + o) ∧ ((pc : Int) + o).toNat = q) (gt : ¬ x = y → Wp wd p l e R s m args below meth c Z own nam bytes maxL ret n0 h0 ws Q I h k n q Ls rest) (gf : x = y → Wp wd p l e R s m args below meth c Z own nam bytes maxL ret n0 h0 ws Q I h k n q1 Ls rest) : Wp wd p l e R s m args below meth c Z own nam bytes maxL ret n0 h0 ws Q I h k n pc Ls (.int y :: .int x :: rest) := by
  subst hq1
  by_cases hc : x = y
  · exact step (gf hc) fun E T L t vm0 B X _ hr => XS.icmpNo X.here E.1 rfl (hb E.2.1 hd) rfl (teq hc).2 hr
  · exact step (gt hc) fun E T L t vm0 B X _ hr => XS.icmpYes X.here E.1 rfl rfl (hb E.2.1 hd) rfl (feq hc).2 hq.1 hq.2 hr

theorem if_lt {q1 : Nat} {o : Int} {q : Nat} {x : Int32} (hd : decode bytes pc = .ok (.ifCond .lt o, 3)) (hq1 : pc + 3 = q1) (hq : (0 ≤ (pc : Int) + o) ∧ ((pc : Int) + o).toNat = q) (gt : x < 0 → Wp wd p l e R s m args below meth c Z own nam bytes maxL ret n0 h0 ws Q I h k n q Ls rest) (gf : ¬ x < 0 → Wp wd p l e R s m args below meth c Z own nam bytes maxL ret n0 h0 ws Q I h k n q1 Ls rest) : Wp wd p l e R s m args below meth c Z own nam bytes maxL ret n0 h0 ws Q I h k n pc Ls (.int x :: rest) := by
  subst hq1
  by_cases hc : x < 0
  · exact step (gt hc) fun E T L t vm0 B X _ hr => XS.ifYes X.here E.1 rfl rfl (hb E.2.1 hd) rfl ((if0 _ _).trans (tlt hc).1) hq.1 hq.2 hr
  · exact step (gf hc) fun E T L t vm0 B X _ hr => XS.ifNo X.here E.1 rfl (hb E.2.1 hd) rfl ((if0 _ _).trans (flt hc).1) hr

theorem icmp_lt {q1 : Nat} {o : Int} {q : Nat} {x y : Int32} (hd : decode bytes pc = .ok (.if_icmp .lt o, 3)) (hq1 : pc + 3 = q1) (hq : (0 ≤ (pc : Int) + o) ∧ ((pc : Int) + o).toNat = q) (gt : x < y → Wp wd p l e R s m args below meth c Z own nam bytes maxL ret n0 h0 ws Q I h k n q Ls rest) (gf : ¬ x < y → Wp wd p l e R s m args below meth c Z own nam bytes maxL ret n0 h0 ws Q I h k n q1 Ls rest) : Wp wd p l e R s m args below meth c Z own nam bytes maxL ret n0 h0 ws Q I h k n pc Ls (.int y :: .int x :: rest) := by
  subst hq1
  by_cases hc : x < y
  · exact step (gt hc) fun E T L t vm0 B X _ hr => XS.icmpYes X.here E.1 rfl rfl (hb E.2.1 hd) rfl (tlt hc).1 hq.1 hq.2 hr
  · exact step (gf hc) fun E T L t vm0 B X _ hr => XS.icmpNo X.here E.1 rfl (hb E.2.1 hd) rfl (flt hc).1 hr

theorem if_ge {q1 : Nat} {o : Int} {q : Nat} {x : Int32} (hd : decode bytes pc = .ok (.ifCond .ge o, 3)) (hq1 : pc + 3 = q1) (hq : (0 ≤ (pc : Int) + o) ∧ ((pc : Int) + o).toNat = q) (gt : ¬ x < 0 → Wp wd p l e R s m args below meth c Z own nam bytes maxL ret n0 h0 ws Q I h k n q Ls rest) (gf : x < 0 → Wp wd p l e R s m args below meth c Z own nam bytes maxL ret n0 h0 ws Q I h k n q1 Ls rest) : Wp wd p l e R s m args below meth c Z own nam bytes maxL ret n0 h0 ws Q I h k n pc Ls (.int x :: rest) := by
  subst hq1
  by_cases hc : x < 0
  · exact step (gf hc) fun E T L t vm0 B X _ hr => XS.ifNo X.here E.1 rfl (hb E.2.1 hd) rfl ((if0 _ _).trans (tlt hc).2.1) hr
  · exact step (gt hc) fun E T L t vm0 B X _ hr => XS.ifYes X.here E.1 rfl rfl (hb E.2.1 hd) rfl ((if0 _ _).trans (flt hc).2.1) hq.1 hq.2 hr

theorem icmp_ge {q1 : Nat} {o : Int} {q : Nat} {x y : Int32} (hd : decode bytes pc = .ok (.if_icmp .ge o, 3)) (hq1 : pc + 3 = q1) (hq : (0 ≤ (pc : Int) + o) ∧ ((pc : Int) + o).toNat = q) (gt : ¬ x < y → Wp wd p l e R s m args below meth c Z own nam bytes maxL ret n0 h0 ws Q I h k n q Ls rest) (gf : x < y → Wp wd p l e R s m args below meth c Z own nam bytes maxL ret n0 h0 ws Q I h k n q1 Ls rest) : Wp wd p l e R s m args below meth c Z own nam bytes maxL ret n0 h0 ws Q I h k n pc Ls (.int y :: .int x :: rest) := by
  subst hq1
  by_cases hc : x < y
  · exact step (gf hc) fun E T L t vm0 B X _ hr => XS.icmpNo X.here E.1 rfl (hb E.2.1 hd) rfl (tlt hc).2.1 hr
  · exact step (gt hc) fun E T L t vm0 B X _ hr => XS.icmpYes X.here E.1 rfl rfl (hb E.2.1 hd) rfl (flt hc).2.1 hq.1 hq.2 hr

theorem if_gt {q1 : Nat} {o : Int} {q : Nat} {x : Int32} (hd : decode bytes pc = .ok (.ifCond .gt o, 3)) (hq1 : pc + 3 = q1) (hq : (0 ≤ (pc : Int) + o) ∧ ((pc : Int) + o).toNat = q) (gt : 0 < x → Wp wd p l e R s m args below meth c Z own nam bytes maxL ret n0 h0 ws Q I h k n q Ls rest) (gf : ¬ 0 < x → Wp wd p l e R s m args below meth c Z own nam bytes maxL ret n0 h0 ws Q I h k n q1 Ls rest) : Wp wd p l e R s m args below meth c Z own nam bytes maxL ret n0 h0 ws Q I h k n pc Ls (.int x :: rest) := by
  subst hq1
  by_cases hc : 0 < x
  · exact step (gt hc) fun E T L t vm0 B X _ hr => XS.ifYes X.here E.1 rfl rfl (hb E.2.1 hd) rfl ((if0 _ _).trans (tlt hc).2.2.1) hq.1 hq.2 hr
  · exact step (gf hc) fun E T L t vm0 B X _ hr => XS.ifNo X.here E.1 rfl (hb E.2.1 hd) rfl ((if0 _ _).trans (flt hc).2.2.1) hr

theorem icmp_gt {q1 : Nat} {o : Int} {q : Nat} {x y : Int32} (hd : decode bytes pc = .ok (.if_icmp .gt o, 3)) (hq1 : pc + 3 = q1) (hq : (0 ≤ (pc : Int) + o) ∧ ((pc : Int) + o).toNat = q) (gt : y < x → Wp wd p l e R s m args below meth c Z own nam bytes maxL ret n0 h0 ws Q I h k n q Ls rest) (gf : ¬ y < x → Wp wd p l e R s m args below meth c Z own nam bytes maxL ret n0 h0 ws Q I h k n q1 Ls rest) : Wp wd p l e R s m args below meth c Z own nam bytes maxL ret n0 h0 ws Q I h k n pc Ls (.int y :: .int x :: rest) := by
  subst hq1
  by_cases hc : y < x
  · exact step (gt hc) fun E T L t vm0 B X _ hr => XS.icmpYes X.here E.1 rfl rfl (hb E.2.1 hd) rfl (tlt hc).2.2.1 hq.1 hq.2 hr
  · exact step (gf hc) fun E T L t vm0 B X _ hr => XS.icmpNo X.here E.1 rfl (hb E.2.1 hd) rfl (flt hc).2.2.1 hr

theorem if_le {q1 : Nat} {o : Int} {q : Nat} {x : Int32} (hd : decode bytes pc = .ok (.ifCond .le o, 3)) (hq1 : pc + 3 = q1) (hq : (0 ≤ (pc : Int) + o) ∧ ((pc : Int) + o).toNat = q) (gt : ¬ 0 < x → Wp wd p l e R s m args below meth c Z own nam bytes maxL ret n0 h0 ws Q I h k n q Ls rest) (gf : 0 < x → Wp wd p l e R s m args below meth c Z own nam bytes maxL ret n0 h0 ws Q I h k n q1 Ls rest) : Wp wd p l e R s m args below meth c Z own nam bytes maxL ret n0 h0 ws Q I h k n pc Ls (.int x :: rest) := by
  subst hq1
  by_cases hc : 0 < x
  · exact step (gf hc) fun E T L t vm0 B X _ hr => XS.ifNo X.here E.1 rfl (hb E.2.1 hd) rfl ((if0 _ _).trans (tlt hc).2.2.2) hr
  · exact step (gt hc) fun E T L t vm0 B X _ hr => XS.ifYes X.here E.1 rfl rfl (hb E.2.1 hd) rfl ((if0 _ _).trans (flt hc).2.2.2) hq.1 hq.2 hr

theorem icmp_le {q1 : Nat} {o : Int} {q : Nat} {x y : Int32} (hd : decode bytes pc = .ok (.if_icmp .le o, 3)) (hq1 : pc + 3 = q1) (hq : (0 ≤ (pc : Int) + o) ∧ ((pc : Int) + o).toNat = q) (gt : ¬ y < x → Wp wd p l e R s m args below meth c Z own nam bytes maxL ret n0 h0 ws Q I h k n q Ls rest) (gf : y < x → Wp wd p l e R s m args below meth c Z own nam bytes maxL ret n0 h0 ws Q I h k n q1 Ls rest) : Wp wd p l e R s m args below meth c Z own nam bytes maxL ret n0 h0 ws Q I h k n pc Ls (.int y :: .int x :: rest) := by
  subst hq1
  by_cases hc : y < x
  · exact step (gf hc) fun E T L t vm0 B X _ hr => XS.icmpNo X.here E.1 rfl (hb E.2.1 hd) rfl (tlt hc).2.2.2 hr
  · exact step (gt hc) fun E T L t vm0 B X _ hr => XS.icmpYes X.here E.1 rfl rfl (hb E.2.1 hd) rfl (flt hc).2.2.2 hq.1 hq.2 hr

theorem ifnull {q1 : Nat} {o : Int} {q : Nat} {v : Value} (hd : decode bytes pc = .ok (.ifnull o, 3)) (hq1 : pc + 3 = q1) (hq : (0 ≤ (pc : Int) + o) ∧ ((pc : Int) + o).toNat = q) (hv : v.isRef = true) (gt : v = .null → Wp wd p l e R s m args below meth c Z own nam bytes maxL ret n0 h0 ws Q I h k n q Ls rest) (gf : ¬ v = .null → Wp wd p l e R s m args below meth c Z own nam bytes maxL ret n0 h0 ws Q I h k n q1 Ls rest) : Wp wd p l e R s m args below meth c Z own nam bytes maxL ret n0 h0 ws Q I h k n pc Ls (v :: rest) := by
  subst hq1
  by_cases hn : v = .null
  · exact step (gt hn) fun E T L t vm0 B X _ hr => XT.nullYes X.here E.1 rfl rfl (hb E.2.1 hd) rfl hn hq.1 hq.2 hr
  · exact step (gf hn) fun E T L t vm0 B X _ hr => XT.nullNo X.here E.1 rfl (hb E.2.1 hd) rfl hv hn hr

theorem ifnonnull {q1 : Nat} {o : Int} {q : Nat} {v : Value} (hd : decode bytes pc = .ok (.ifnonnull o, 3)) (hq1 : pc + 3 = q1) (hq : (0 ≤ (pc : Int) + o) ∧ ((pc : Int) + o).toNat = q) (hv : v.isRef = true) (gt : ¬ v = .null → Wp wd p l e R s m args below meth c Z own nam bytes maxL ret n0 h0 ws Q I h k n q Ls rest) (gf : v = .null → Wp wd p l e R s m args below meth c Z own nam bytes maxL ret n0 h0 ws Q I h k n q1 Ls rest) : Wp wd p l e R s m args below meth c Z own nam bytes maxL ret n0 h0 ws Q I h k n pc Ls (v :: rest) := by
  subst hq1
  by_cases hn : v = .null
  · exact step (gf hn) fun E T L t vm0 B X _ hr => XT.nonnullNo X.here E.1 rfl (hb E.2.1 hd) rfl hn hr
  · exact step (gt hn) fun E T L t vm0 B X _ hr => XT.nonnullYes X.here E.1 rfl rfl (hb E.2.1 hd) rfl hv hn hq.1 hq.2 hr

theorem acmp_eq {q1 : Nat} {o : Int} {q : Nat} {x y : Value} (hd : decode bytes pc = .ok (.if_acmp .eq o, 3)) (hq1 : pc + 3 = q1) (hq : (0 ≤ (pc : Int) + o) ∧ ((pc : Int) + o).toNat = q) (hx : x.isRef = true) (hy : y.isRef = true) (gt : x = y → Wp wd p l e R s m args below meth c Z own nam bytes maxL ret n0 h0 ws Q I h k n q Ls rest) (gf : ¬ x = y → Wp wd p l e R s m args below meth c Z own nam bytes maxL ret n0 h0 ws Q I h k n q1 Ls rest) : Wp wd p l e R s m args below meth c Z own nam bytes maxL ret n0 h0 ws Q I h k n pc Ls (y :: x :: rest) := by
  subst hq1
  by_cases hn : x = y
  · exact step (gt hn) fun E T L t vm0 B X _ hr => XT.acmpYes X.here E.1 rfl rfl (hb E.2.1 hd) rfl hx hy (XT.aa_eq_t hn) hq.1 hq.2 hr
  · exact step (gf hn) fun E T L t vm0 B X _ hr => XT.acmpNo X.here E.1 rfl (hb E.2.1 hd) rfl hx hy (XT.aa_eq_f hn) hr

theorem acmp_ne {q1 : Nat} {o : Int} {q : Nat} {x y : Value} (hd : decode bytes pc = .ok (.if_acmp .ne o, 3)) (hq1 : pc + 3 = q1) (hq : (0 ≤ (pc : Int) + o) ∧ ((pc : Int) + o).toNat = q) (hx : x.isRef = true) (hy : y.isRef = true) (gt : ¬ x = y → Wp wd p l e R s m args below meth c Z own nam bytes maxL ret n0 h0 ws Q I h k n q Ls rest) (gf : x = y → Wp wd p l e R s m args below meth c Z own nam bytes maxL ret n0 h0 ws Q I h k n q1 Ls rest) : Wp wd p l e R s m args below meth c Z own nam bytes maxL ret n0 h0 ws Q I h k n pc Ls (y :: x :: rest) := by
  subst hq1
  by_cases hn : x = y
  · exact step (gf hn) fun E T L t vm0 B X _ hr => XT.acmpNo X.here E.1 rfl (hb E.2.1 hd) rfl hx hy (XT.aa_ne_f hn) hr
  · exact step (gt hn) fun E T L t vm0 B X _ hr => XT.acmpYes X.here E.1 rfl rfl (hb E.2.1 hd) rfl hx hy (XT.aa_ne_t hn) hq.1 hq.2 hr

theorem getfield {q1 : Nat} {i : Nat} {R0 O f d : String} {a : Addr} {v : Value} (hd : decode bytes pc = .ok (.getfield i, 3)) (hq1 : pc + 3 = q1) (w : (Cond.fieldLink own i R0 f d).before a0 Z = true) (via : Via Z R0 O f d) (F : Fld Z h a O f d v) (g : Wp wd p l e R s m args below meth c Z own nam bytes maxL ret n0 h0 ws Q I h k n q1 Ls (v :: rest)) : Wp wd p l e R s m args below meth c Z own nam bytes maxL ret n0 h0 ws Q I h k n pc Ls (.ref a :: rest) := by
  subst hq1
  exact  lawS fun E T L vm0 B X N eT => by
    obtain ⟨T', X', e', st'⟩ := getF X E.1 (bZ E B) (bO E B) (host := "") (Or.inl w) via eT F (g := mkF m pc Ls.toArray (.ref a :: rest)) rfl rfl (hb E.2.1 hd)
    exact ⟨T', L, h, k, n, X', N, e', Nat.le_refl _, st', g⟩

theorem putfield {q1 : Nat} {i kk : Nat} {R0 O f d C : String} {ty : FieldType} {a : Addr} {v old : Value} (hd : decode bytes pc = .ok (.putfield i, 3)) (hq1 : pc + 3 = q1) (w : (Cond.fieldLink own i R0 f d).before a0 Z = true) (via : Via Z R0 O f d) (F : Fld Z h a O f d old) (X0 : Exa Z h a C) (Lw : (Cond.lays C O f d).before a0 Z = true ∨ ((Cond.laysFinal C O f d).before a0 Z = true ∧ own = O ∧ nam = "<init>")) (wi : (Cond.instantiable C kk).before a0 Z = true) (hty : parseFieldDescriptor d = some ty) (hn : narrow ty v = v) (hf : fits ty v = true) (ha : a ∈ ws ∨ h0.size ≤ a)
    (g : ∀ h', Wr h h' a (Jvm.RoadKit.slotOf Z O f d) v → Wp wd p l e R s m args below meth c Z own nam bytes maxL ret n0 h0 ws Q I h' k n q1 Ls rest) : Wp wd p l e R s m args below meth c Z own nam bytes maxL ret n0 h0 ws Q I h k n pc Ls (v :: .ref a :: rest) := by
  subst hq1
  exact  lawS fun E T L vm0 B X N eT => by
    obtain ⟨T', h', X', e', W', st'⟩ := putF X E.1 (bZ E B) (bO E B) (host := "") (Or.inl w) via eT F X0 (Lw.imp id fun q => ⟨q.1, q.2.1, E.2.2.2.2.2.1.trans q.2.2⟩) wi hty hn hf (g := mkF m pc Ls.toArray (v :: .ref a :: rest)) rfl rfl (hb E.2.1 hd)
    exact ⟨T', _, h', k, n, X', Pmt.snoc N ha, e', Nat.le_of_eq W'.size.symm, st', g h' W'⟩

theorem putfieldN {q1 : Nat} {i kk : Nat} {R0 O f d C : String} {ty : FieldType} {a : Addr} {v v' old : Value} (hd : decode bytes pc = .ok (.putfield i, 3)) (hq1 : pc + 3 = q1) (w : (Cond.fieldLink own i R0 f d).before a0 Z = true) (via : Via Z R0 O f d) (F : Fld Z h a O f d old) (X0 : Exa Z h a C) (Lw : (Cond.lays C O f d).before a0 Z = true ∨ ((Cond.laysFinal C O f d).before a0 Z = true ∧ own = O ∧ nam = "<init>")) (wi : (Cond.instantiable C kk).before a0 Z = true) (hty : parseFieldDescriptor d = some ty) (hn : narrow ty v = v') (hf : fits ty v' = true) (ha : a ∈ ws ∨ h0.size ≤ a)
    (g : ∀ h', Wr h h' a (Jvm.RoadKit.slotOf Z O f d) v' → Wp wd p l e R s m args below meth c Z own nam bytes maxL ret n0 h0 ws Q I h' k n q1 Ls rest) : Wp wd p l e R s m args below meth c Z own nam bytes maxL ret n0 h0 ws Q I h k n pc Ls (v :: .ref a :: rest) := by
  subst hq1
  exact  lawS fun E T L vm0 B X N eT => by
    obtain ⟨T', h', X', e', W', st'⟩ := putFN X E.1 (bZ E B) (bO E B) w via eT F X0 (Lw.imp id fun q => ⟨q.1, q.2.1, E.2.2.2.2.2.1.trans q.2.2⟩) wi hty hn hf (g := mkF m pc Ls.toArray (v :: .ref a :: rest)) rfl rfl (hb E.2.1 hd)
    exact ⟨T', _, h', k, n, X', Pmt.snoc N ha, e', Nat.le_of_eq W'.size.symm, st', g h' W'⟩

theorem getstatic {q1 : Nat} {i : Nat} {R0 O f d : String} {v : Value} (hd : decode bytes pc = .ok (.getstatic i, 3)) (hq1 : pc + 3 = q1) (w : (Cond.fieldLink own i R0 f d).before a0 Z = true) (via : Via Z R0 O f d) (F : Sta Z h O f d v) (g : Wp wd p l e R s m args below meth c Z own nam bytes maxL ret n0 h0 ws Q I h k n q1 Ls (v :: st)) : Wp wd p l e R s m args below meth c Z own nam bytes maxL ret n0 h0 ws Q I h k n pc Ls st := by
  subst hq1
  exact  lawS fun E T L vm0 B X N eT => by
    obtain ⟨T', X', e', st'⟩ := getS (host := "") X E.1 (bZ E B) (bO E B) w via eT F (g := mkF m pc Ls.toArray st) rfl (hb E.2.1 hd)
    exact ⟨T', L, h, k, n, X', N, e', Nat.le_refl _, st', g⟩

theorem checkcast {q1 : Nat} {i : Nat} {K : String} {a : Addr} (hd : decode bytes pc = .ok (.checkcast i, 3)) (hq1 : pc + 3 = q1) (w : (Cond.classLink own i K).before a0 Z = true) (II : Ins Z h a K true) (g : Wp wd p l e R s m args below meth c Z own nam bytes maxL ret n0 h0 ws Q I h k n q1 Ls (.ref a :: rest)) : Wp wd p l e R s m args below meth c Z own nam bytes maxL ret n0 h0 ws Q I h k n pc Ls (.ref a :: rest) := by
  subst hq1
  exact  lawS fun E T L vm0 B X N eT => by
    obtain ⟨T', X', e', st'⟩ := castY X E.1 (bZ E B) (bO E B) w eT II (g := mkF m pc Ls.toArray (.ref a :: rest)) rfl rfl (hb E.2.1 hd)
    exact ⟨T', L, h, k, n, X', N, e', Nat.le_refl _, st', g⟩

theorem instanceofY {q1 : Nat} {i : Nat} {K : String} {a : Addr} (hd : decode bytes pc = .ok (.instanceof i, 3)) (hq1 : pc + 3 = q1) (w : (Cond.classLink own i K).before a0 Z = true) (II : Ins Z h a K true) (g : Wp wd p l e R s m args below meth c Z own nam bytes maxL ret n0 h0 ws Q I h k n q1 Ls (.int 1 :: rest)) : Wp wd p l e R s m args below meth c Z own nam bytes maxL ret n0 h0 ws Q I h k n pc Ls (.ref a :: rest) := by
  subst hq1
  exact  lawS fun E T L vm0 B X N eT => by
    obtain ⟨T', X', e', st'⟩ := instY X E.1 (bZ E B) (bO E B) w eT II (g := mkF m pc Ls.toArray (.ref a :: rest)) rfl rfl (hb E.2.1 hd)
    exact ⟨T', L, h, k, n, X', N, e', Nat.le_refl _, st', g⟩

theorem new {q1 : Nat} {i sz : Nat} {C : String} (hd : decode bytes pc = .ok (.new i, 3)) (hq1 : pc + 3 = q1) (w : (Cond.classLink own i C).before a0 Z = true) (wi : (Cond.instantiable C sz).before a0 Z = true) (wz : (Cond.initialized C).before a0 Z = true) (hk : k + 1 ≤ R.cells) (hn : n + sz ≤ R.slots)
    (g : h0.size ≤ h.size → ∀ h', Ext h h' → Exa Z h' h.size C → (∀ {O nm d : String} {ty : FieldType}, Laid Z a0 C O nm d → parseFieldDescriptor d = some ty → Fld Z h' h.size O nm d (defaultValue ty)) → Unt h' h.size → Wp wd p l e R s m args below meth c Z own nam bytes maxL ret n0 h0 ws Q I h' (k + 1) (n + sz) q1 Ls (.ref h.size :: st)) : Wp wd p l e R s m args below meth c Z own nam bytes maxL ret n0 h0 ws Q I h k n pc Ls st := by
  subst hq1
  exact  lawS fun E T L vm0 B X N eT => by
    obtain ⟨T', h', X', e', E', A', D', U', st'⟩ := newO X E.1 (bZ E B) (bO E B) w wi wz eT (g := mkF m pc Ls.toArray st) rfl (hb E.2.1 hd) hk hn
    exact ⟨T', L, h', _, _, X', N, e', E'.1, st', g (szOf E X eT) h' E' A' D' U'⟩

/-- an array: its kind, length and values -/
def Ary (Z : State) (h : Heap) (a : Addr) (ty : FieldType) (len : Nat) (f : Nat → Value) : Prop := ∃ cl : Cell, Arr Z h a cl ty ∧ cl.slots.size = len ∧ len < 2 ^ 31 ∧ ∀ i, i < len → cl.slots[i]? = some (f i)
theorem Ary.lt {h : Heap} {a : Addr} {ty : FieldType} {len : Nat} {f : Nat → Value} (A : Ary Z h a ty len f) : a < h.size := by obtain ⟨c, q, -⟩ := A; exact q.lt
theorem Ary.ext {h h' : Heap} {a : Addr} {ty : FieldType} {len : Nat} {f : Nat → Value} (A : Ary Z h a ty len f) (E : Ext h h') : Ary Z h' a ty len f := by obtain ⟨c, q, r⟩ := A; exact ⟨c, q.ext E, r⟩
theorem Ary.other {h h' : Heap} {a b : Addr} {ty : FieldType} {len sl : Nat} {f : Nat → Value} {v : Value} (A : Ary Z h a ty len f) (W : Wr h h' b sl v) (q : a ≠ b) : Ary Z h' a ty len f := by obtain ⟨c, q', r⟩ := A; exact ⟨c, q'.other W q, r⟩
theorem Ary.keep {h h' : Heap} {a : Addr} {ty : FieldType} {len : Nat} {f : Nat → Value} {ws : List Addr} (A : Ary Z h a ty len f) (K : Keep h h' ws) (q : a ∉ ws) : Ary Z h' a ty len f := by obtain ⟨c, q', r⟩ := A; exact ⟨c, ⟨K.2.1 a c q'.1 q, q'.2⟩, r⟩
theorem Ary.same {h h' : Heap} {a : Addr} {ty : FieldType} {len j : Nat} {f : Nat → Value} {v : Value} (A : Ary Z h a ty len f) (W : Wr h h' a j v) : Ary Z h' a ty len (fun i => if i = j then v else f i) := by
  obtain ⟨c, q, r1, r2, r3⟩ := A
  refine ⟨_, q.same W, by rw [sz_set]; exact r1, r2, fun i hi => ?_⟩
  by_cases e : i = j
  · subst e; simp [Cell.setSlot, r1, hi]
  · simp only [e, if_false]; rw [← r3 i hi]; exact Array.getElem?_setIfInBounds_ne (Ne.symm e)
theorem Ary.cong {h : Heap} {a : Addr} {ty : FieldType} {len : Nat} {f f' : Nat → Value} (A : Ary Z h a ty len f) (q : ∀ i, i < len → f i = f' i) : Ary Z h a ty len f' := by obtain ⟨c, q', r1, r2, r3⟩ := A; exact ⟨c, q', r1, r2, fun i hi => by rw [← q i hi]; exact r3 i hi⟩
theorem Ary.bound {h : Heap} {a : Addr} {ty : FieldType} {len : Nat} {f : Nat → Value} (A : Ary Z h a ty len f) : len < 2 ^ 31 := by obtain ⟨c, q, r1, r2, r3⟩ := A; exact r2
theorem idx_ok {j : Int32} {i len : Nat} (hj : j.toInt = (i : Int)) (hi : i < len) {cl : Cell} (r : cl.slots.size = len) : ¬ (j < 0 ∨ cl.slots.size ≤ j.toNatClampNeg) ∧ j.toNatClampNeg = i := by
  have e : j.toNatClampNeg = i := by simp [Int32.toNatClampNeg, hj]
  refine ⟨fun q => ?_, e⟩
  rcases q with q | q
  · rw [Int32.lt_iff_toInt_lt, hj] at q; simp at q; omega
  · omega
theorem len_int {len : Nat} {z : Int32} (hz : z.toInt = (len : Int)) (hl : len < 2 ^ 31) : len.toInt32 = z := Int32.toInt_inj.mp (by rw [len_toInt hl, hz])
theorem arraylength {q1 : Nat} {a : Addr} {ty : FieldType} {len : Nat} {f : Nat → Value} {z : Int32} (hd : decode bytes pc = .ok (.arraylength, 1)) (hq1 : pc + 1 = q1) (A : Ary Z h a ty len f) (hz : z.toInt = (len : Int)) (g : Wp wd p l e R s m args below meth c Z own nam bytes maxL ret n0 h0 ws Q I h k n q1 Ls (.int z :: rest)) : Wp wd p l e R s m args below meth c Z own nam bytes maxL ret n0 h0 ws Q I h k n pc Ls (.ref a :: rest) := by
  subst hq1
  exact  step g fun E T L t vm0 B X eT hr => by
    obtain ⟨cl, q, r1, r2, r3⟩ := A
    refine X.arraylength E.1 (by rw [eT]; exact q.1) (State.isArrayOf_alike (bZ E B).alike q.2.1) (g := mkF m pc Ls.toArray (.ref a :: rest)) rfl rfl (hb E.2.1 hd) _ ?_
    rw [r1, len_int hz r2]; exact hr
/-- a fresh array -/
theorem newarray {q1 : Nat} {aty : ArrayType} {N : Int32} {len cap : Nat} (hd : decode bytes pc = .ok (.newarray aty, 2)) (hq1 : pc + 2 = q1) (w : (Cond.arrayClass (newarray.typeOf aty)).before a0 Z = true) (hN : N.toInt = (len : Int)) (hcap : len ≤ cap) (hb0 : cap * 8 ≤ 536870912) (hk : k + 1 ≤ R.cells) (hn : n + cap ≤ R.slots)
    (g : h0.size ≤ h.size → ∀ h', Ext h h' → Ary Z h' h.size (newarray.typeOf aty) len (fun _ => defaultValue (newarray.typeOf aty)) → Wp wd p l e R s m args below meth c Z own nam bytes maxL ret n0 h0 ws Q I h' (k + 1) (n + cap) q1 Ls (.ref h.size :: rest)) : Wp wd p l e R s m args below meth c Z own nam bytes maxL ret n0 h0 ws Q I h k n pc Ls (.int N :: rest) := by
  subst hq1
  exact  lawS fun E T L vm0 B X NN eT => by
    have hneg : ¬ N < 0 := by rw [Int32.lt_iff_toInt_lt, hN]; simp
    have hcl : N.toNatClampNeg = len := by simp [Int32.toNatClampNeg, hN]
    obtain ⟨T', h', cA, X', e', E', A', st'⟩ := newP X E.1 (bZ E B) w eT (g := mkF m pc Ls.toArray (.int N :: rest)) rfl (hb E.2.1 hd) rfl hneg (cap := cap) (by omega) hb0 hk hn
    refine ⟨T', L, h', _, _, X', NN, e', E'.1, st', g (szOf E X eT) h' E' ⟨_, A', by rw [sz_new, hcl], by omega, fun i hi => ?_⟩⟩
    simp [newA, hcl, hi]
/-- a fresh array of references, with what may lie in it -/
def AryR (Z : State) (h : Heap) (a : Addr) (C : String) (len : Nat) (f : Nat → Value) : Prop := ∃ cl : Cell, Arr Z h a cl (.object C) ∧ Ovr Z cl.cls C ∧ cl.slots.size = len ∧ len < 2 ^ 31 ∧ ∀ i, i < len → cl.slots[i]? = some (f i)
theorem AryR.ary {h : Heap} {a : Addr} {C : String} {len : Nat} {f : Nat → Value} (A : AryR Z h a C len f) : Ary Z h a (.object C) len f := by obtain ⟨c, q, -, r⟩ := A; exact ⟨c, q, r⟩
theorem AryR.lt {h : Heap} {a : Addr} {C : String} {len : Nat} {f : Nat → Value} (A : AryR Z h a C len f) : a < h.size := A.ary.lt
theorem AryR.ext {h h' : Heap} {a : Addr} {C : String} {len : Nat} {f : Nat → Value} (A : AryR Z h a C len f) (E : Ext h h') : AryR Z h' a C len f := by obtain ⟨c, q, r⟩ := A; exact ⟨c, q.ext E, r⟩
theorem AryR.other {h h' : Heap} {a b : Addr} {C : String} {len sl : Nat} {f : Nat → Value} {v : Value} (A : AryR Z h a C len f) (W : Wr h h' b sl v) (q : a ≠ b) : AryR Z h' a C len f := by obtain ⟨c, q', r⟩ := A; exact ⟨c, q'.other W q, r⟩
theorem AryR.keep {h h' : Heap} {a : Addr} {C : String} {len : Nat} {f : Nat → Value} {ws : List Addr} (A : AryR Z h a C len f) (K : Keep h h' ws) (q : a ∉ ws) : AryR Z h' a C len f := by obtain ⟨c, q', r⟩ := A; exact ⟨c, ⟨K.2.1 a c q'.1 q, q'.2⟩, r⟩
theorem AryR.same {h h' : Heap} {a : Addr} {C : String} {len j : Nat} {f : Nat → Value} {v : Value} (A : AryR Z h a C len f) (W : Wr h h' a j v) : AryR Z h' a C len (fun i => if i = j then v else f i) := by
  obtain ⟨c, q, o, r1, r2, r3⟩ := A
  refine ⟨_, q.same W, o, by rw [sz_set]; exact r1, r2, fun i hi => ?_⟩
  by_cases e : i = j
  · subst e; simp [Cell.setSlot, r1, hi]
  · simp only [e, if_false]; rw [← r3 i hi]; exact Array.getElem?_setIfInBounds_ne (Ne.symm e)
theorem AryR.cong {h : Heap} {a : Addr} {C : String} {len : Nat} {f f' : Nat → Value} (A : AryR Z h a C len f) (q : ∀ i, i < len → f i = f' i) : AryR Z h a C len f' := by obtain ⟨c, q', o, r1, r2, r3⟩ := A; exact ⟨c, q', o, r1, r2, fun i hi => by rw [← q i hi]; exact r3 i hi⟩
theorem anewarray {q1 : Nat} {i : Nat} {C : String} {N : Int32} {len cap : Nat} (hd : decode bytes pc = .ok (.anewarray i, 3)) (hq1 : pc + 3 = q1) (w1 : (Cond.classLink own i C).before a0 Z = true) (w2 : (Cond.arrayOver (.object C)).before a0 Z = true) (hN : N.toInt = (len : Int)) (hcap : len ≤ cap) (hb0 : cap * 8 ≤ 536870912) (hk : k + 1 ≤ R.cells) (hn : n + cap ≤ R.slots)
    (g : h0.size ≤ h.size → ∀ h', Ext h h' → AryR Z h' h.size C len (fun _ => .null) → Wp wd p l e R s m args below meth c Z own nam bytes maxL ret n0 h0 ws Q I h' (k + 1) (n + cap) q1 Ls (.ref h.size :: rest)) : Wp wd p l e R s m args below meth c Z own nam bytes maxL ret n0 h0 ws Q I h k n pc Ls (.int N :: rest) := by
  subst hq1
  exact  lawS fun E T L vm0 B X NN eT => by
    have hneg : ¬ N < 0 := by rw [Int32.lt_iff_toInt_lt, hN]; simp
    have hcl : N.toNatClampNeg = len := by simp [Int32.toNatClampNeg, hN]
    obtain ⟨T', h', cA, X', e', E', A', O', st'⟩ := newR X E.1 (bZ E B) (bO E B) w1 w2 eT (g := mkF m pc Ls.toArray (.int N :: rest)) rfl (hb E.2.1 hd) rfl hneg (cap := cap) (by omega) hb0 hk hn
    refine ⟨T', L, h', _, _, X', NN, e', E'.1, st', g (szOf E X eT) h' E' ⟨_, A', O', by rw [sz_new, hcl], by omega, fun i hi => ?_⟩⟩
    simp [newA, hcl, hi, defaultValue]

theorem iaload {q1 : Nat} {a : Addr} {len i : Nat} {f : Nat → Value} {j : Int32} {v : Value} (hd : decode bytes pc = .ok (.iaload, 1)) (hq1 : pc + 1 = q1) (A : Ary Z h a .int len f) (hj : j.toInt = (i : Int)) (hi : i < len) (hv : f i = v) (g : Wp wd p l e R s m args below meth c Z own nam bytes maxL ret n0 h0 ws Q I h k n q1 Ls (v :: rest)) : Wp wd p l e R s m args below meth c Z own nam bytes maxL ret n0 h0 ws Q I h k n pc Ls (.int j :: .ref a :: rest) := by
  subst hq1
  exact  step g fun E T L t vm0 B X eT hr => by
    obtain ⟨cl, q, r1, r2, r3⟩ := A
    obtain ⟨b1, b2⟩ := idx_ok hj hi r1
    exact X.iaload E.1 (v := v) (by rw [eT]; exact q.1) (State.isArrayOf_alike (bZ E B).alike q.2.1) q.2.2 b1 (by rw [b2, r3 i hi, hv]) (g := mkF m pc Ls.toArray (.int j :: .ref a :: rest)) rfl rfl (hb E.2.1 hd) _ hr

theorem laload {q1 : Nat} {a : Addr} {len i : Nat} {f : Nat → Value} {j : Int32} {v : Value} (hd : decode bytes pc = .ok (.laload, 1)) (hq1 : pc + 1 = q1) (A : Ary Z h a .long len f) (hj : j.toInt = (i : Int)) (hi : i < len) (hv : f i = v) (g : Wp wd p l e R s m args below meth c Z own nam bytes maxL ret n0 h0 ws Q I h k n q1 Ls (v :: rest)) : Wp wd p l e R s m args below meth c Z own nam bytes maxL ret n0 h0 ws Q I h k n pc Ls (.int j :: .ref a :: rest) := by
  subst hq1
  exact  step g fun E T L t vm0 B X eT hr => by
    obtain ⟨cl, q, r1, r2, r3⟩ := A
    obtain ⟨b1, b2⟩ := idx_ok hj hi r1
    exact X.laload E.1 (v := v) (by rw [eT]; exact q.1) (State.isArrayOf_alike (bZ E B).alike q.2.1) q.2.2 b1 (by rw [b2, r3 i hi, hv]) (g := mkF m pc Ls.toArray (.int j :: .ref a :: rest)) rfl rfl (hb E.2.1 hd) _ hr

theorem caload {q1 : Nat} {a : Addr} {len i : Nat} {f : Nat → Value} {j : Int32} {v : Value} (hd : decode bytes pc = .ok (.caload, 1)) (hq1 : pc + 1 = q1) (A : Ary Z h a .char len f) (hj : j.toInt = (i : Int)) (hi : i < len) (hv : f i = v) (g : Wp wd p l e R s m args below meth c Z own nam bytes maxL ret n0 h0 ws Q I h k n q1 Ls (v :: rest)) : Wp wd p l e R s m args below meth c Z own nam bytes maxL ret n0 h0 ws Q I h k n pc Ls (.int j :: .ref a :: rest) := by
  subst hq1
  exact  step g fun E T L t vm0 B X eT hr => by
    obtain ⟨cl, q, r1, r2, r3⟩ := A
    obtain ⟨b1, b2⟩ := idx_ok hj hi r1
    exact X.caload E.1 (v := v) (by rw [eT]; exact q.1) (State.isArrayOf_alike (bZ E B).alike q.2.1) q.2.2 b1 (by rw [b2, r3 i hi, hv]) (g := mkF m pc Ls.toArray (.int j :: .ref a :: rest)) rfl rfl (hb E.2.1 hd) _ hr

theorem baload {q1 : Nat} {a : Addr} {len i : Nat} {f : Nat → Value} {j : Int32} {v : Value} (hd : decode bytes pc = .ok (.baload, 1)) (hq1 : pc + 1 = q1) (A : Ary Z h a .byte len f) (hj : j.toInt = (i : Int)) (hi : i < len) (hv : f i = v) (g : Wp wd p l e R s m args below meth c Z own nam bytes maxL ret n0 h0 ws Q I h k n q1 Ls (v :: rest)) : Wp wd p l e R s m args below meth c Z own nam bytes maxL ret n0 h0 ws Q I h k n pc Ls (.int j :: .ref a :: rest) := by
  subst hq1
  exact  step g fun E T L t vm0 B X eT hr => by
    obtain ⟨cl, q, r1, r2, r3⟩ := A
    obtain ⟨b1, b2⟩ := idx_ok hj hi r1
    exact X.baloadBytes E.1 (v := v) (by rw [eT]; exact q.1) (State.isArrayOf_alike (bZ E B).alike q.2.1) q.2.2 b1 (by rw [b2, r3 i hi, hv]) (g := mkF m pc Ls.toArray (.int j :: .ref a :: rest)) rfl rfl (hb E.2.1 hd) _ hr

theorem aaload {q1 : Nat} {a : Addr} {len i : Nat} {ty : FieldType} {f : Nat → Value} {j : Int32} {v : Value} (hd : decode bytes pc = .ok (.aaload, 1)) (hq1 : pc + 1 = q1) (A : Ary Z h a ty len f) (hty : ty.isReference = true) (hj : j.toInt = (i : Int)) (hi : i < len) (hv : f i = v) (g : Wp wd p l e R s m args below meth c Z own nam bytes maxL ret n0 h0 ws Q I h k n q1 Ls (v :: rest)) : Wp wd p l e R s m args below meth c Z own nam bytes maxL ret n0 h0 ws Q I h k n pc Ls (.int j :: .ref a :: rest) := by
  subst hq1
  exact  step g fun E T L t vm0 B X eT hr => by
    obtain ⟨cl, q, r1, r2, r3⟩ := A
    obtain ⟨b1, b2⟩ := idx_ok hj hi r1
    exact X.aaload E.1 (v := v) (by rw [eT]; exact q.1) (State.isArrayOf_alike (bZ E B).alike q.2.1) hty q.2.2 b1 (by rw [b2, r3 i hi, hv]) (g := mkF m pc Ls.toArray (.int j :: .ref a :: rest)) rfl rfl (hb E.2.1 hd) _ hr

theorem iastore {q1 : Nat} {a : Addr} {len i : Nat} {f : Nat → Value} {j : Int32} {x : Int32} (hd : decode bytes pc = .ok (.iastore, 1)) (hq1 : pc + 1 = q1) (A : Ary Z h a .int len f) (hj : j.toInt = (i : Int)) (hi : i < len) (ha : a ∈ ws ∨ h0.size ≤ a) (g : ∀ h', Wr h h' a i (.int x) → Wp wd p l e R s m args below meth c Z own nam bytes maxL ret n0 h0 ws Q I h' k n q1 Ls rest) : Wp wd p l e R s m args below meth c Z own nam bytes maxL ret n0 h0 ws Q I h k n pc Ls (.int x :: .int j :: .ref a :: rest) := by
  subst hq1
  exact  lawS fun E T L vm0 B X N eT => by
    obtain ⟨cl, q, r1, r2, r3⟩ := A
    obtain ⟨b1, b2⟩ := idx_ok hj hi r1
    obtain ⟨T', h', X', e', W', st'⟩ := stI X E.1 (bZ E B) eT q b1 (g := mkF m pc Ls.toArray (.int x :: .int j :: .ref a :: rest)) rfl rfl (hb E.2.1 hd)
    exact ⟨T', _, h', k, n, X', Pmt.snoc N ha, e', Nat.le_of_eq W'.size.symm, st', g h' (b2 ▸ W')⟩

theorem castore {q1 : Nat} {a : Addr} {len i : Nat} {f : Nat → Value} {j : Int32} {x : Int32} (hd : decode bytes pc = .ok (.castore, 1)) (hq1 : pc + 1 = q1) (A : Ary Z h a .char len f) (hj : j.toInt = (i : Int)) (hi : i < len) (ha : a ∈ ws ∨ h0.size ≤ a) (g : ∀ h', Wr h h' a i (.int (nar .char x)) → Wp wd p l e R s m args below meth c Z own nam bytes maxL ret n0 h0 ws Q I h' k n q1 Ls rest) : Wp wd p l e R s m args below meth c Z own nam bytes maxL ret n0 h0 ws Q I h k n pc Ls (.int x :: .int j :: .ref a :: rest) := by
  subst hq1
  exact  lawS fun E T L vm0 B X N eT => by
    obtain ⟨cl, q, r1, r2, r3⟩ := A
    obtain ⟨b1, b2⟩ := idx_ok hj hi r1
    obtain ⟨T', h', X', e', W', st'⟩ := stC X E.1 (bZ E B) eT q b1 (g := mkF m pc Ls.toArray (.int x :: .int j :: .ref a :: rest)) rfl rfl (hb E.2.1 hd)
    exact ⟨T', _, h', k, n, X', Pmt.snoc N ha, e', Nat.le_of_eq W'.size.symm, st', g h' (b2 ▸ W')⟩

theorem bastore {q1 : Nat} {a : Addr} {len i : Nat} {f : Nat → Value} {j : Int32} {x : Int32} (hd : decode bytes pc = .ok (.bastore, 1)) (hq1 : pc + 1 = q1) (A : Ary Z h a .byte len f) (hj : j.toInt = (i : Int)) (hi : i < len) (ha : a ∈ ws ∨ h0.size ≤ a) (g : ∀ h', Wr h h' a i (.int (nar .byte x)) → Wp wd p l e R s m args below meth c Z own nam bytes maxL ret n0 h0 ws Q I h' k n q1 Ls rest) : Wp wd p l e R s m args below meth c Z own nam bytes maxL ret n0 h0 ws Q I h k n pc Ls (.int x :: .int j :: .ref a :: rest) := by
  subst hq1
  exact  lawS fun E T L vm0 B X N eT => by
    obtain ⟨cl, q, r1, r2, r3⟩ := A
    obtain ⟨b1, b2⟩ := idx_ok hj hi r1
    obtain ⟨T', h', X', e', W', st'⟩ := stB X E.1 (bZ E B) eT q b1 (g := mkF m pc Ls.toArray (.int x :: .int j :: .ref a :: rest)) rfl rfl (hb E.2.1 hd)
    exact ⟨T', _, h', k, n, X', Pmt.snoc N ha, e', Nat.le_of_eq W'.size.symm, st', g h' (b2 ▸ W')⟩

theorem lastore {q1 : Nat} {a : Addr} {len i : Nat} {f : Nat → Value} {j : Int32} {x : Int64} (hd : decode bytes pc = .ok (.lastore, 1)) (hq1 : pc + 1 = q1) (A : Ary Z h a .long len f) (hj : j.toInt = (i : Int)) (hi : i < len) (ha : a ∈ ws ∨ h0.size ≤ a) (g : ∀ h', Wr h h' a i (.long x) → Wp wd p l e R s m args below meth c Z own nam bytes maxL ret n0 h0 ws Q I h' k n q1 Ls rest) : Wp wd p l e R s m args below meth c Z own nam bytes maxL ret n0 h0 ws Q I h k n pc Ls (.long x :: .int j :: .ref a :: rest) := by
  subst hq1
  exact  lawS fun E T L vm0 B X N eT => by
    obtain ⟨cl, q, r1, r2, r3⟩ := A
    obtain ⟨b1, b2⟩ := idx_ok hj hi r1
    obtain ⟨T', h', X', e', W', st'⟩ := stJ X E.1 (bZ E B) eT q b1 (g := mkF m pc Ls.toArray (.long x :: .int j :: .ref a :: rest)) rfl rfl (hb E.2.1 hd)
    exact ⟨T', _, h', k, n, X', Pmt.snoc N ha, e', Nat.le_of_eq W'.size.symm, st', g h' (b2 ▸ W')⟩

theorem aastore {q1 : Nat} {a : Addr} {C : String} {len i : Nat} {f : Nat → Value} {j : Int32} {v : Value} (hd : decode bytes pc = .ok (.aastore, 1)) (hq1 : pc + 1 = q1) (A : AryR Z h a C len f) (hj : j.toInt = (i : Int)) (hi : i < len) (ha : a ∈ ws ∨ h0.size ≤ a) (hS : v = .null ∨ ∃ y, v = .ref y ∧ Ins Z h y C true) (g : ∀ h', Wr h h' a i v → Wp wd p l e R s m args below meth c Z own nam bytes maxL ret n0 h0 ws Q I h' k n q1 Ls rest) : Wp wd p l e R s m args below meth c Z own nam bytes maxL ret n0 h0 ws Q I h k n pc Ls (v :: .int j :: .ref a :: rest) := by
  subst hq1
  exact  lawS fun E T L vm0 B X N eT => by
    obtain ⟨cl, q, o, r1, r2, r3⟩ := A
    obtain ⟨b1, b2⟩ := idx_ok hj hi r1
    have S : Sto Z h a v := by
      rcases hS with rfl | ⟨y, rfl, I⟩
      · exact Or.inl rfl
      · exact Sto.of q o I
    obtain ⟨T', h', X', e', W', st'⟩ := stR X E.1 (bZ E B) eT q b1 rfl S (g := mkF m pc Ls.toArray (v :: .int j :: .ref a :: rest)) rfl rfl (hb E.2.1 hd)
    exact ⟨T', _, h', k, n, X', Pmt.snoc N ha, e', Nat.le_of_eq W'.size.symm, st', g h' (b2 ▸ W')⟩

theorem initObj {q1 : Nat} {i : Nat} {a : Addr} (hd : decode bytes pc = .ok (.invokespecial i, 3)) (hq1 : pc + 3 = q1) (w1 : (Cond.methodLink own i Lib.objectInit).before a0 Z = true) (w2 : (Cond.instanceMethod Lib.objectInit).before a0 Z = true) (w3 : (Cond.code Lib.objectInit ⟨#[0xb1]⟩ 1 none).before a0 Z = true) (hL : Ls.length = maxL) (hr : (Nat.ble 1 R.frames && Nat.ble ((rest.map fun v => v.category).sum + 12) R.locals) = true) (g : Wp wd p l e R s m args below meth c Z own nam bytes maxL ret n0 h0 ws Q I h k n q1 Ls rest) : Wp wd p l e R s m args below meth c Z own nam bytes maxL ret n0 h0 ws Q I h k n pc Ls (.ref a :: rest) := by
  subst hq1
  exact  lawS fun E T L vm0 B X N eT => by
    have hr' := Bool.and_eq_true_iff.mp hr
    obtain ⟨T', X', e', st'⟩ := initO X E.1 (bZ E B) (bO E B) w1 w2 w3 eT (g := mkF m pc Ls.toArray (.ref a :: rest)) rfl (by rw [E.2.2.1, ← hL]; simp) rfl (hb E.2.1 hd) (Nat.le_of_ble_eq_true hr'.1) (W := (rest.map fun v => v.category).sum) (by show 2 * 0 + _ ≤ _; omega) (Nat.le_of_ble_eq_true hr'.2)
    exact ⟨T', L, h, k, n, X', N, e', Nat.le_refl _, st', g⟩

/-- the room that a call asks -/
def roomOk (R rm : Room) (maxL' : Nat) (rest : List Value) (k n : Nat) : Bool := Nat.ble (rm.frames + 1) R.frames && Nat.ble ((rest.map fun v => v.category).sum + (maxL' + 11) + rm.locals) R.locals && Nat.ble (k + rm.cells) R.cells && Nat.ble (n + rm.slots) R.slots
theorem roomOk_spec {R rm : Room} {maxL' k n : Nat} {rest : List Value} (h : roomOk R rm maxL' rest k n = true) : rm.frames + 1 ≤ R.frames ∧ (rest.map fun v => v.category).sum + (maxL' + 11) + rm.locals ≤ R.locals ∧ k + rm.cells ≤ R.cells ∧ n + rm.slots ≤ R.slots := by
  simp only [roomOk, Bool.and_eq_true] at h
  exact ⟨Nat.le_of_ble_eq_true h.1.1.1, Nat.le_of_ble_eq_true h.1.1.2, Nat.le_of_ble_eq_true h.1.2, Nat.le_of_ble_eq_true h.2⟩
theorem rev_eq (as r : List Value) : List.reverseAux as r = as.reverse ++ r := by simp [List.reverseAux_eq]
section Calls
variable {y : MethodName} {bytes' : ByteArray} {maxL' : Nat} {ret' : Option FieldType} {rm : Room} {as : List Value} {ws' : List Addr} {Q' : Option Value → Heap → Prop} {ps : List FieldType} {r' : Option FieldType} {i : Nat} {a : Addr}
theorem invokestatic {q1 : Nat} (hd : decode bytes pc = .ok (.invokestatic i, 3)) (hq1 : pc + 3 = q1) (w1 : (Cond.methodLink own i y).before a0 Z = true) (w2 : (Cond.static y).before a0 Z = true) (w3 : (Cond.initialized y.cls).before a0 Z = true) (w4 : (Cond.code y bytes' maxL' ret').before a0 Z = true) (hy : y.cls ≠ "java/lang/invoke/MethodHandle" ∧ y.cls ≠ "java/lang/invoke/VarHandle") (pd : parseMethodDescriptor y.desc = some ⟨ps, r'⟩)
    (C : Con l Z n0 y bytes' maxL' ret' rm as h ws' Q') (hst : st = List.reverseAux as rest) (hlen : as.length = ps.length) (hL : Ls.length = maxL) (hr : roomOk R rm maxL' rest k n = true) (hws : ∀ x ∈ ws', x ∈ ws ∨ h0.size ≤ x) (g : ∀ v h', Q' v h' → Keep h h' ws' → Wp wd p l e R s m args below meth c Z own nam bytes maxL ret n0 h0 ws Q I h' (k + rm.cells) (n + rm.slots) q1 Ls (psh v rest)) : Wp wd p l e R s m args below meth c Z own nam bytes maxL ret n0 h0 ws Q I h k n pc Ls st := by
  subst hq1
  exact  fun E T L vm0 B X N eT => by
    obtain ⟨r1, r2, r3, r4⟩ := roomOk_spec hr
    subst hst
    obtain ⟨v, vm, ⟨T1, L1, k1, n1⟩, -, X1, ⟨Lc, hQ, l1, y1, z1⟩, st1⟩ := Jvm.LawKit.callS X E.1 (bO E B) (mvT (bZ E B) w1) (mvT (bZ E B) w2) (mvT (bZ E B) w3) (mvT (bZ E B) w4) hy (backOf (Q := fun v h1 L => Q' v h1 ∧ Pmt h ws' L ∧ Keep h h1 ws') (C (oldOf E X N eT) (fun x hx => n0Of E (hws x hx)) []) (bZ E B) w4 w3 r1 r2) (g := mkF m pc Ls.toArray (List.reverseAux as rest)) rfl (by rw [E.2.2.1, ← hL]; simp) (argsL := as) (rest := rest) (lenOf pd hlen) (rev_eq as rest) (by show 2 * 0 + _ ≤ _; omega) (hb E.2.1 hd) (fun _ _ => ⟨rfl, eT, r3, r4⟩)
    dsimp only [Pt.U, Pt.locs, Pt.cells, Pt.slots] at X1 l1 y1 z1 st1 hQ
    subst l1 y1 z1
    obtain ⟨s2, o, hs, r⟩ := g v _ hQ.1 hQ.2.2 E T1 _ vm0 (bG B hQ.2.2.1) X1 (N.app (pmtOf E X eT hws hQ.2.1)) rfl
    exact ⟨s2, o, st1 _ (by rw [psh_eq]; exact hs), r⟩
theorem invokespecial {q1 : Nat} (hd : decode bytes pc = .ok (.invokespecial i, 3)) (hq1 : pc + 3 = q1) (hy1 : y.name = "<init>") (w1 : (Cond.methodLink own i y).before a0 Z = true) (w2 : (Cond.instanceMethod y).before a0 Z = true) (w3 : (Cond.initialized y.cls).before a0 Z = true) (w4 : (Cond.code y bytes' maxL' none).before a0 Z = true) (hy : y.cls ≠ "java/lang/invoke/MethodHandle" ∧ y.cls ≠ "java/lang/invoke/VarHandle") (pd : parseMethodDescriptor y.desc = some ⟨ps, r'⟩)
    (C : Con l Z n0 y bytes' maxL' none rm (.ref a :: as) h ws' Q') (hst : st = List.reverseAux as (.ref a :: rest)) (hlen : as.length = ps.length) (hL : Ls.length = maxL) (hr : roomOk R rm maxL' rest k n = true) (hws : ∀ x ∈ ws', x ∈ ws ∨ h0.size ≤ x) (g : ∀ v h', Q' v h' → Keep h h' ws' → Wp wd p l e R s m args below meth c Z own nam bytes maxL ret n0 h0 ws Q I h' (k + rm.cells) (n + rm.slots) q1 Ls (psh v rest)) : Wp wd p l e R s m args below meth c Z own nam bytes maxL ret n0 h0 ws Q I h k n pc Ls st := by
  subst hq1
  exact  fun E T L vm0 B X N eT => by
    obtain ⟨r1, r2, r3, r4⟩ := roomOk_spec hr
    subst hst
    obtain ⟨v, vm, ⟨T1, L1, k1, n1⟩, -, X1, ⟨Lc, hQ, l1, y1, z1⟩, st1⟩ := X.specialBack E.1 hy1 (bO E B) (mvT (bZ E B) w1) (mvT (bZ E B) w2) (mvT (bZ E B) w4) hy (backOf (Q := fun v h1 L => Q' v h1 ∧ Pmt h ws' L ∧ Keep h h1 ws') (C (oldOf E X N eT) (fun x hx => n0Of E (hws x hx)) []) (bZ E B) w4 w3 r1 r2) (g := mkF m pc Ls.toArray (List.reverseAux as (.ref a :: rest))) rfl (by rw [E.2.2.1, ← hL]; simp) (Steps.refl _) (a := a) (argsL := as) (rest := rest) (lenOf pd hlen) (rev_eq as _) (by show 2 * 0 + _ ≤ _; omega) (hb E.2.1 hd) (fun _ _ => ⟨rfl, eT, r3, r4⟩)
    dsimp only [Pt.U, Pt.locs, Pt.cells, Pt.slots] at X1 l1 y1 z1 st1 hQ
    subst l1 y1 z1
    obtain ⟨s2, o, hs, r⟩ := g v _ hQ.1 hQ.2.2 E T1 _ vm0 (bG B hQ.2.2.1) X1 (N.app (pmtOf E X eT hws hQ.2.1)) rfl
    exact ⟨s2, o, st1.trans (by rw [psh_eq]; exact hs), r⟩
theorem invokevirtual {q1 : Nat} {z : MethodName} {D : String} (hd : decode bytes pc = .ok (.invokevirtual i, 3)) (hq1 : pc + 3 = q1) (w1 : (Cond.methodLink own i y).before a0 Z = true) (w2 : (Cond.declares y).before a0 Z = true) (nf : ∀ vm0, Z.Warmed39 vm0 → NotFace (s.setVm vm0) y) (w3 : (Cond.selects D y z).before a0 Z = true) (w4 : (Cond.instanceMethod z).before a0 Z = true) (w5 : (Cond.initialized z.cls).before a0 Z = true) (w6 : (Cond.code z bytes' maxL' ret').before a0 Z = true) (hy : y.cls ≠ "java/lang/invoke/MethodHandle" ∧ y.cls ≠ "java/lang/invoke/VarHandle") (pd : parseMethodDescriptor y.desc = some ⟨ps, r'⟩)
    (X0 : Exa Z h a D) (C : Con l Z n0 z bytes' maxL' ret' rm (.ref a :: as) h ws' Q') (hst : st = List.reverseAux as (.ref a :: rest)) (hlen : as.length = ps.length) (hL : Ls.length = maxL) (hr : roomOk R rm maxL' rest k n = true) (hws : ∀ x ∈ ws', x ∈ ws ∨ h0.size ≤ x) (g : ∀ v h', Q' v h' → Keep h h' ws' → Wp wd p l e R s m args below meth c Z own nam bytes maxL ret n0 h0 ws Q I h' (k + rm.cells) (n + rm.slots) q1 Ls (psh v rest)) : Wp wd p l e R s m args below meth c Z own nam bytes maxL ret n0 h0 ws Q I h k n pc Ls st := by
  subst hq1
  exact  fun E T L vm0 B X N eT => by
    obtain ⟨r1, r2, r3, r4⟩ := roomOk_spec hr
    subst hst
    obtain ⟨cq, kq, qa, qb, qc⟩ := isOf (bZ E B) eT X0
    obtain ⟨v, vm, ⟨T1, L1, k1, n1⟩, -, X1, ⟨Lc, hQ, l1, y1, z1⟩, st1⟩ := X.virtualBack E.1 (bO E B) (mvT (bZ E B) w1) (mvT (bZ E B) w2) (nf vm0 (bZ E B)) (mvT (bZ E B) w3) (mvT (bZ E B) w4) hy (backOf (Q := fun v h1 L => Q' v h1 ∧ Pmt h ws' L ∧ Keep h h1 ws') (C (oldOf E X N eT) (fun x hx => n0Of E (hws x hx)) []) (bZ E B) w6 w5 r1 r2) qa qc (g := mkF m pc Ls.toArray (List.reverseAux as (.ref a :: rest))) rfl (by rw [E.2.2.1, ← hL]; simp) (Steps.refl _) (argsL := as) (rest := rest) (lenOf pd hlen) (rev_eq as _) (by show 2 * 0 + _ ≤ _; omega) (hb E.2.1 hd) (fun _ _ => ⟨rfl, eT, r3, r4⟩)
    dsimp only [Pt.U, Pt.locs, Pt.cells, Pt.slots] at X1 l1 y1 z1 st1 hQ
    subst l1 y1 z1
    obtain ⟨s2, o, hs, r⟩ := g v _ hQ.1 hQ.2.2 E T1 _ vm0 (bG B hQ.2.2.1) X1 (N.app (pmtOf E X eT hws hQ.2.1)) rfl
    exact ⟨s2, o, st1.trans (by rw [psh_eq]; exact hs), r⟩
/-- the method that the entry names is the one that is run -/
theorem invokevirt {q1 : Nat} (hd : decode bytes pc = .ok (.invokevirtual i, 3)) (hq1 : pc + 3 = q1) (w1 : (Cond.methodLink own i y).before a0 Z = true) (w2 : (Cond.declares y).before a0 Z = true) {D : String} (w3 : (Cond.selects D y y).before a0 Z = true) (w4 : (Cond.instanceMethod y).before a0 Z = true) (w5 : (Cond.initialized y.cls).before a0 Z = true) (w6 : (Cond.code y bytes' maxL' ret').before a0 Z = true) (hy : y.cls ≠ "java/lang/invoke/MethodHandle" ∧ y.cls ≠ "java/lang/invoke/VarHandle") (pd : parseMethodDescriptor y.desc = some ⟨ps, r'⟩)
    (X0 : Exa Z h a D) (C : Con l Z n0 y bytes' maxL' ret' rm (.ref a :: as) h ws' Q') (hst : st = List.reverseAux as (.ref a :: rest)) (hlen : as.length = ps.length) (hL : Ls.length = maxL) (hr : roomOk R rm maxL' rest k n = true) (hws : ∀ x ∈ ws', x ∈ ws ∨ h0.size ≤ x) (g : ∀ v h', Q' v h' → Keep h h' ws' → Wp wd p l e R s m args below meth c Z own nam bytes maxL ret n0 h0 ws Q I h' (k + rm.cells) (n + rm.slots) q1 Ls (psh v rest)) : Wp wd p l e R s m args below meth c Z own nam bytes maxL ret n0 h0 ws Q I h k n pc Ls st := by
  subst hq1
  exact  invokevirtual hd rfl w1 w2 (fun vm0 hz => notFace_of_selects (args := #[]) (mvT (s := s.setVm vm0) hz w3)) w3 w4 w5 w6 hy pd X0 C hst hlen hL hr hws g
end Calls
/-! ### wide: constants are interned -/
section Wide
theorem sameNil {s T : State} {L : List Loc} {k n : Nat} (q : s.sameButNew T L k n) (e : T.heap = s.heap) : s.sameButNew T [] k n :=
  ⟨q.1, q.2.1, q.2.2.1, q.2.2.2.1, q.2.2.2.2.1, fun a c ha => ⟨c, by rw [e]; exact ha, rfl, rfl, fun _ _ => rfl⟩⟩
/-- ldc of a String constant whose text this run has not interned yet, ahead of the body's first write -/
theorem ldcLit {q1 : Nat} {i nn : Nat} {text : String} {Ts : List String} {vs : List Value} {z : Int32} (hd : decode bytes pc = .ok (.ldc i, 2)) (hq1 : pc + 2 = q1) (w : (Cond.stringLink own i text).before a0 Z = true) (wS : ∀ a ∈ Bundle.stringAtoms, a.before a0 Z = true) (hI : ∀ vm, I vm → IB Z vm Ts) (hnot : text ∉ Ts) (hh : Jvm.Lit.constHeld Z own i) (hcw : Jvm.Lit.compactW.before a0 Z = true)
    (ht : (∀ c ∈ text.toList, c.toNat < 256) ∧ text.toList.map (fun c => Value.int (Jvm.Lit.byteI c.toNat.toUInt16)) = vs) (hz : ¬ z < 0) (hl : z.toNatClampNeg = vs.length) (hn : 4 * text.toList.length ≤ nn) (hbig : nn ≤ 536870912) (hc : k + 2 ≤ R.cells) (hl' : n + (nn + 4) ≤ R.slots)
    (g : ∀ (a : Addr) (h' : Heap) (b : Addr) (kk : ClassId), Ext h0 h' → Exa Z h' a "java/lang/String" → Fld Z h' a "java/lang/String" "coder" "B" (.int 0) → Fld Z h' a "java/lang/String" "value" "[B" (.ref b) → Arv Z h' b kk .byte z vs (.int 0) → a < h'.size → b < h'.size → Wp true p l e R s m args below meth c Z own nam bytes maxL ret n0 h0 ws Q (fun vm => IB Z vm (text :: Ts) ∧ Lit (Z.setVm vm) own i a) h' (k + 2) (n + (nn + 4)) q1 Ls (.ref a :: st)) : Wp true p l e R s m args below meth c Z own nam bytes maxL ret n0 h0 ws Q I h0 k n pc Ls st := by
  subst hq1
  exact  fun E T L vm0 B X N eT => by
    have eh : s.heap = h0 := E.2.2.2.2.2.2.2.2.1
    have X' : Stand p l e R (s.setVm vm0) m args below meth c T [] k n := ⟨X.admits, X.cas, X.clock, X.frames, X.room, X.hears, X.method, X.code, X.here, X.tail, X.warmed, X.limits, X.bytes, sameNil X.same (by show T.heap = s.heap; rw [eT, eh])⟩
    obtain ⟨a, T', h', k1, b, kk, r1, r2, r3, r4, r5, r6, r7, r8, r9, r10, r11, r12, r13, r14, r15, r16⟩ := ldcSVL (s := s) X' E.1 B.2.1 (bO (wd := true) E B) w wS eT B.1 (Nat.le_refl _) (fun _ q => nomatch q) (fun b cl hb => by rw [eh]; exact E.2.2.2.2.2.2.2.2.2.1.2.2 b cl hb) (hI _ B.2.2) hnot hh hcw ht hz hl (g := mkF m pc Ls.toArray st) rfl (hb E.2.1 hd) hn hbig hc hl'
    obtain ⟨s2, o, hs, r⟩ := g a h' b kk r3 r8 r9 r10 r11 r12 r13 E T' [] T'.vm ⟨⟨r4.1, r4.2.mono r5⟩, r6, r14, r15⟩ r1 (Pmt.nil _ _) r2
    exact ⟨s2, o, r16 _ hs, r⟩
theorem ldcAgain {q1 : Nat} {i : Nat} {text : String} {a : Addr} (hd : decode bytes pc = .ok (.ldc i, 2)) (hq1 : pc + 2 = q1) (w : (Cond.stringLink own i text).before a0 Z = true) (hI : ∀ vm, I vm → Lit (Z.setVm vm) own i a) (g : Wp true p l e R s m args below meth c Z own nam bytes maxL ret n0 h0 ws Q I h k n q1 Ls (.ref a :: st)) : Wp true p l e R s m args below meth c Z own nam bytes maxL ret n0 h0 ws Q I h k n pc Ls st := by
  subst hq1
  exact  step g fun E T L t vm0 B X _ hr => Jvm.RoadKit.ldcAgain (s := s) X E.1 B.2.1 (bO (wd := true) E B) w (a := a) (hI _ B.2.2) (g := mkF m pc Ls.toArray st) rfl (hb E.2.1 hd) _ hr
/-- ldc of a String constant, of whose text nothing is said -/
theorem ldcAny {q1 : Nat} {i nn : Nat} {text : String} (hd : decode bytes pc = .ok (.ldc i, 2)) (hq1 : pc + 2 = q1) (w : (Cond.stringLink own i text).before a0 Z = true) (wS : ∀ a ∈ Bundle.stringAtoms, a.before a0 Z = true) (hn : 4 * text.toList.length ≤ nn) (hbig : nn ≤ 536870912) (hc : k + 2 ≤ R.cells) (hl' : n + (nn + 4) ≤ R.slots)
    (g : ∀ (a : Addr) (h' : Heap), Ext h h' → Wp true p l e R s m args below meth c Z own nam bytes maxL ret n0 h0 ws Q (fun _ => True) h' (k + 2) (n + (nn + 4)) q1 Ls (.ref a :: st)) : Wp true p l e R s m args below meth c Z own nam bytes maxL ret n0 h0 ws Q I h k n pc Ls st := by
  subst hq1
  exact  fun E T L vm0 B X N eT => by
    obtain ⟨a, T', h', k1, r1, r2, r3, r4, r5, r6, r7, r8⟩ := ldcS (s := s) X E.1 B.2.1 (bO (wd := true) E B) w wS eT B.1 (Nat.le_refl _) (g := mkF m pc Ls.toArray st) rfl (hb E.2.1 hd) hn hbig hc hl'
    obtain ⟨s2, o, hs, r⟩ := g a h' r3 E T' L T'.vm ⟨⟨r4.1, r4.2.mono r5⟩, r6, trivial⟩ r1 N r2
    exact ⟨s2, o, r8 _ hs, r⟩
variable {y : MethodName} {bytes' : ByteArray} {maxL' : Nat} {ret' : Option FieldType} {rm : Room} {as : List Value} {ws' : List Addr} {I' : Vm → Prop} {Q' : Option Value → Heap → Prop} {ps : List FieldType} {r' : Option FieldType} {i : Nat} {a : Addr}
theorem backJ {as' : Array Value} {len W' : Nat} {QL : Option Value → Heap → List Loc → Prop}
    (hM : MetFree l y (head1 [Cond.code y bytes' maxL' ret'] rm) (fun a U => a = as' ∧ Z.Warmed39 U.vm ∧ U.heap = h ∧ I' U.vm) (fun _ _ _ _ _ => True) (fun _ U o U' => ∃ v L, o = .returned v ∧ QL v U'.heap L ∧ ReturnedEndW U o U' L rm.cells rm.slots))
    (hZ : Z.Warmed39 s.vm) (wc : (Cond.code y bytes' maxL' ret').before a0 Z = true) (wz : (Cond.initialized y.cls).before a0 Z = true) (hf : rm.frames + 1 ≤ R.frames) (hl : W' + (maxL' + 11) + rm.locals ≤ R.locals) :
    BackS l R p e below s args y len W' (fun A a => a = as' ∧ A.U.heap = h ∧ I' A.U.vm ∧ A.cells + rm.cells ≤ R.cells ∧ A.slots + rm.slots ≤ R.slots)
      (fun A _ v B => ∃ L, QL v B.U.heap L ∧ B.locs = A.locs ++ L ∧ B.cells = A.cells + rm.cells ∧ B.slots = A.slots + rm.slots) :=
  BackS.of_freeW (bytes := bytes') (maxL := maxL') (ret := ret') (E := fun _ _ o t L k n => k = rm.cells ∧ n = rm.slots ∧ ∃ v, o = .returned v ∧ QL v t.heap L) hM hf hl
    (fun m meth c A a Y hp => have hU : Z.Warmed39 A.U.vm := wtrans hZ Y.warmed
      ⟨by show (Cond.and _ .tt).before a A.U = true; rw [Cond.before_and, mv hU wc]; rfl, mv hU wc, mv hU wz, hp.2.2.2.1, hp.2.2.2.2⟩)
    (fun m meth c A a g mk Y hp => ⟨hp.1, wtrans hZ Y.warmed, hp.2.1, hp.2.2.1⟩) (fun _ _ _ _ _ _ _ _ _ => trivial)
    (fun _ _ _ _ ⟨v, L, h1, h2, h3⟩ => ⟨L, _, _, h3, rfl, rfl, v, h1, h2⟩)
    (fun m meth c A a g mk v t L k n Y hp _ _ ⟨e1, e2, v', e3, e4⟩ => by cases e3; subst e1 e2; exact ⟨L, e4, rfl, rfl, rfl⟩)
/-- what is known of the tables stands under tables that are warmer in the narrow sense -/
def Stab (I I' : Vm → Prop) : Prop := ∀ (s : State) (vm vm' : Vm), (s.setVm vm).WarmedH vm' → I vm → I' vm'
theorem stabIB {Z : State} {Ts : List String} : Stab (fun vm => IB Z vm Ts) (fun vm => IB Z vm Ts) := fun s vm vm' hW ⟨more, e, q⟩ => ⟨more, by rw [hW.interned_eq]; exact e, q⟩
theorem stabT {I : Vm → Prop} : Stab I (fun _ => True) := fun _ _ _ _ _ => trivial
theorem rebase {Z s : State} {vm0 vm1 : Vm} {h : Heap} {U : State} (B : Base true I Z s vm0 h) (hS : (s.setVm vm0).Since U.vm U.heap.size) (hg : h.size ≤ U.heap.size) (hv : U.vm = vm1) : Base true (fun _ => True) Z s vm1 U.heap := by
  subst hv
  exact ⟨B.1.trans hS hg, State.Warmed39.trans (t := s.setVm vm0) B.2.1 hS.1, trivial⟩
theorem invokestaticW {q1 : Nat} (hd : decode bytes pc = .ok (.invokestatic i, 3)) (hq1 : pc + 3 = q1) (w1 : (Cond.methodLink own i y).before a0 Z = true) (w2 : (Cond.static y).before a0 Z = true) (w3 : (Cond.initialized y.cls).before a0 Z = true) (w4 : (Cond.code y bytes' maxL' ret').before a0 Z = true) (hy : y.cls ≠ "java/lang/invoke/MethodHandle" ∧ y.cls ≠ "java/lang/invoke/VarHandle") (pd : parseMethodDescriptor y.desc = some ⟨ps, r'⟩)
    (C : ConW l Z n0 y bytes' maxL' ret' rm as h ws' I' Q') (hst : st = List.reverseAux as rest) (hlen : as.length = ps.length) (hL : Ls.length = maxL) (hr : roomOk R rm maxL' rest k n = true) (hws : ∀ x ∈ ws', x ∈ ws ∨ h0.size ≤ x) (hSt : Stab I I') (g : ∀ v h', Q' v h' → Keep h h' ws' → Wp true p l e R s m args below meth c Z own nam bytes maxL ret n0 h0 ws Q (fun _ => True) h' (k + rm.cells) (n + rm.slots) q1 Ls (psh v rest)) : Wp true p l e R s m args below meth c Z own nam bytes maxL ret n0 h0 ws Q I h k n pc Ls st := by
  subst hq1
  exact  fun E T L vm0 B X N eT => by
    obtain ⟨r1, r2, r3, r4⟩ := roomOk_spec hr
    subst hst
    obtain ⟨v, vm, ⟨T1, L1, k1, n1⟩, -, X1, hS, hgr, ⟨Lc, hQ, l1, y1, z1⟩, st1⟩ := callSS X E.1 (bO E B) (mvT (bZ E B) w1) (mvT (bZ E B) w2) (mvT (bZ E B) w3) (mvT (bZ E B) w4) hy (backJ (QL := fun v h1 L => Q' v h1 ∧ Pmt h ws' L ∧ Keep h h1 ws') (C (oldOf E X N eT) (fun x hx => n0Of E (hws x hx)) []) (bZ E B) w4 w3 r1 r2) (g := mkF m pc Ls.toArray (List.reverseAux as rest)) rfl (by rw [E.2.2.1, ← hL]; simp) (argsL := as) (rest := rest) (lenOf pd hlen) (rev_eq as rest) (by show 2 * 0 + _ ≤ _; omega) (hb E.2.1 hd) (fun vm1 hw1 => ⟨rfl, eT, hSt s vm0 vm1 hw1 B.2.2, r3, r4⟩)
    dsimp only [Pt.U, Pt.locs, Pt.cells, Pt.slots] at X1 l1 y1 z1 st1 hQ hS hgr
    subst l1 y1 z1
    obtain ⟨s2, o, hs, r⟩ := g v _ hQ.1 hQ.2.2 E T1 _ T1.vm (rebase B hS (by rw [← eT]; exact hgr) rfl) X1 (N.app (pmtOf E X eT hws hQ.2.1)) rfl
    exact ⟨s2, o, st1.trans (by rw [psh_eq]; exact hs), r⟩
theorem invokespecialW {q1 : Nat} (hd : decode bytes pc = .ok (.invokespecial i, 3)) (hq1 : pc + 3 = q1) (hy1 : y.name = "<init>") (w1 : (Cond.methodLink own i y).before a0 Z = true) (w2 : (Cond.instanceMethod y).before a0 Z = true) (w3 : (Cond.initialized y.cls).before a0 Z = true) (w4 : (Cond.code y bytes' maxL' none).before a0 Z = true) (hy : y.cls ≠ "java/lang/invoke/MethodHandle" ∧ y.cls ≠ "java/lang/invoke/VarHandle") (pd : parseMethodDescriptor y.desc = some ⟨ps, r'⟩)
    (C : ConW l Z n0 y bytes' maxL' none rm (.ref a :: as) h ws' I' Q') (hst : st = List.reverseAux as (.ref a :: rest)) (hlen : as.length = ps.length) (hL : Ls.length = maxL) (hr : roomOk R rm maxL' rest k n = true) (hws : ∀ x ∈ ws', x ∈ ws ∨ h0.size ≤ x) (hSt : Stab I I') (g : ∀ v h', Q' v h' → Keep h h' ws' → Wp true p l e R s m args below meth c Z own nam bytes maxL ret n0 h0 ws Q (fun _ => True) h' (k + rm.cells) (n + rm.slots) q1 Ls (psh v rest)) : Wp true p l e R s m args below meth c Z own nam bytes maxL ret n0 h0 ws Q I h k n pc Ls st := by
  subst hq1
  exact  fun E T L vm0 B X N eT => by
    obtain ⟨r1, r2, r3, r4⟩ := roomOk_spec hr
    subst hst
    obtain ⟨v, vm, ⟨T1, L1, k1, n1⟩, -, X1, hS, hgr, ⟨Lc, hQ, l1, y1, z1⟩, st1⟩ := X.specialBackS E.1 hy1 (bO E B) (mvT (bZ E B) w1) (mvT (bZ E B) w2) (mvT (bZ E B) w4) hy (backJ (QL := fun v h1 L => Q' v h1 ∧ Pmt h ws' L ∧ Keep h h1 ws') (C (oldOf E X N eT) (fun x hx => n0Of E (hws x hx)) []) (bZ E B) w4 w3 r1 r2) (g := mkF m pc Ls.toArray (List.reverseAux as (.ref a :: rest))) rfl (by rw [E.2.2.1, ← hL]; simp) (Steps.refl _) (a := a) (argsL := as) (rest := rest) (lenOf pd hlen) (rev_eq as _) (by show 2 * 0 + _ ≤ _; omega) (hb E.2.1 hd) (fun vm1 hw1 => ⟨rfl, eT, hSt s vm0 vm1 hw1 B.2.2, r3, r4⟩)
    dsimp only [Pt.U, Pt.locs, Pt.cells, Pt.slots] at X1 l1 y1 z1 st1 hQ hS hgr
    subst l1 y1 z1
    obtain ⟨s2, o, hs, r⟩ := g v _ hQ.1 hQ.2.2 E T1 _ T1.vm (rebase B hS (by rw [← eT]; exact hgr) rfl) X1 (N.app (pmtOf E X eT hws hQ.2.1)) rfl
    exact ⟨s2, o, st1.trans (by rw [psh_eq]; exact hs), r⟩
end Wide
/-! the end -/
theorem ret_v (hd : decode bytes pc = .ok (.return_, 1)) (hret : ret = none) (hr : (Nat.ble k R.cells && Nat.ble n R.slots) = true) (hQ : Q none h) : Wp wd p l e R s m args below meth c Z own nam bytes maxL ret n0 h0 ws Q I h k n pc Ls [] := fun E T L vm0 B X N eT => by
  have hr' := Bool.and_eq_true_iff.mp hr
  obtain ⟨fs, hrr, hrun, hended, hW, hsame⟩ := X.leave (v := none) (fun _ => rfl) E.2.2.2.2.2.2.2.1
  refine ⟨_, _, ?_, hrun, hended, _, _, rfl, ⟨?_, N⟩, endOf E B ⟨_, rfl⟩ hW hsame eT (Nat.le_of_ble_eq_true hr'.1) (Nat.le_of_ble_eq_true hr'.2)⟩
  · exact X.returnOut E.1 (E.2.2.2.2.2.2.1.trans hret) (hb E.2.1 hd) hrr
  · show Q none T.heap
    rw [eT]; exact hQ
theorem ret_w {w : Value} {t : FieldType} {ii : Instr} (hd : decode bytes pc = .ok (ii, 1)) (hret : ret = some t) (hn : narrow t w = w)
    (hi : (ii = .ireturn ∧ (t = .int ∨ t = .boolean ∨ t = .byte ∨ t = .char ∨ t = .short) ∧ ∃ z, w = .int z) ∨ (ii = .lreturn ∧ t = .long ∧ ∃ z, w = .long z) ∨ (ii = .dreturn ∧ t = .double ∧ ∃ z, w = .double z) ∨ (ii = .freturn ∧ t = .float ∧ ∃ z, w = .float z) ∨ (ii = .areturn ∧ t.isReference = true ∧ w.isRef = true))
    (hr : (Nat.ble k R.cells && Nat.ble n R.slots) = true) (hQ : Q (some w) h) : Wp wd p l e R s m args below meth c Z own nam bytes maxL ret n0 h0 ws Q I h k n pc Ls (w :: rest) := fun E T L vm0 B X N eT => by
  have hr' := Bool.and_eq_true_iff.mp hr
  obtain ⟨fs, hrr, hrun, hended, hW, hsame⟩ := X.leave (v := some w) (fun h => by rw [E.2.2.2.2.2.2.1, hret] at h; cases h) E.2.2.2.2.2.2.2.1
  refine ⟨_, _, ?_, hrun, hended, _, _, rfl, ⟨?_, N⟩, endOf E B ⟨_, rfl⟩ hW hsame eT (Nat.le_of_ble_eq_true hr'.1) (Nat.le_of_ble_eq_true hr'.2)⟩
  · exact retOut X E.1 (E.2.2.2.2.2.2.1.trans hret) hn hi (hb E.2.1 hd) hrr
  · show Q _ T.heap
    rw [eT]; exact hQ
theorem ret_i {x : Int32} (hd : decode bytes pc = .ok (.ireturn, 1)) (hret : ret = some .int) (hr : (Nat.ble k R.cells && Nat.ble n R.slots) = true) (hQ : Q (some (.int x)) h) : Wp wd p l e R s m args below meth c Z own nam bytes maxL ret n0 h0 ws Q I h k n pc Ls (.int x :: rest) :=
  ret_w hd hret rfl (Or.inl ⟨rfl, Or.inl rfl, x, rfl⟩) hr hQ
theorem ret_l {x : Int64} (hd : decode bytes pc = .ok (.lreturn, 1)) (hret : ret = some .long) (hr : (Nat.ble k R.cells && Nat.ble n R.slots) = true) (hQ : Q (some (.long x)) h) : Wp wd p l e R s m args below meth c Z own nam bytes maxL ret n0 h0 ws Q I h k n pc Ls (.long x :: rest) :=
  ret_w hd hret rfl (Or.inr (Or.inl ⟨rfl, rfl, x, rfl⟩)) hr hQ
theorem ret_a {w : Value} {t : FieldType} (hd : decode bytes pc = .ok (.areturn, 1)) (hret : ret = some t) (ht : t.isReference = true) (hw : w.isRef = true) (hr : (Nat.ble k R.cells && Nat.ble n R.slots) = true) (hQ : Q (some w) h) : Wp wd p l e R s m args below meth c Z own nam bytes maxL ret n0 h0 ws Q I h k n pc Ls (w :: rest) :=
  ret_w hd hret (by cases t <;> first | (cases ht; done) | (cases w <;> first | rfl | (cases hw; done))) (Or.inr (Or.inr (Or.inr (Or.inr ⟨rfl, ht, hw⟩)))) hr hQ
theorem ret_n {x : Int32} {t : FieldType} (hd : decode bytes pc = .ok (.ireturn, 1)) (hret : ret = some t) (ht : t = .boolean ∨ t = .byte ∨ t = .char ∨ t = .short) (hr : (Nat.ble k R.cells && Nat.ble n R.slots) = true) (hQ : Q (some (.int (nar t x))) h) : Wp wd p l e R s m args below meth c Z own nam bytes maxL ret n0 h0 ws Q I h k n pc Ls (.int x :: rest) := fun E T L vm0 B X N eT => by
  have hr' := Bool.and_eq_true_iff.mp hr
  obtain ⟨fs, hrr, hrun, hended, hW, hsame⟩ := X.leave (v := some (.int (nar t x))) (fun h => by rw [E.2.2.2.2.2.2.1, hret] at h; cases h) E.2.2.2.2.2.2.2.1
  refine ⟨_, _, ?_, hrun, hended, _, _, rfl, ⟨?_, N⟩, endOf E B ⟨_, rfl⟩ hW hsame eT (Nat.le_of_ble_eq_true hr'.1) (Nat.le_of_ble_eq_true hr'.2)⟩
  · exact retN X E.1 (E.2.2.2.2.2.2.1.trans hret) ht (hb E.2.1 hd) hrr
  · show Q _ T.heap
    rw [eT]; exact hQ
end Walk
end Jvm.OwnWp
namespace Jvm.Pilot.@@N@@
open Jvm Jvm.ClassFile Sem Op Lib Jvm.Free Jvm.Stand Jvm.LawKit Jvm.RoadKit Jvm.OwnWp Bundle Jvm.Pilot.@@N@@.Jvm.D
theorem ww {Z : State} {a0 : Array Value} (hw : ∀ d ∈ tables_1, d.before a0 Z = true) (i : Nat) {d : Jvm.Cond} (h : tables_1[i]? = some d) : d.before a0 Z = true := hw d (List.mem_of_getElem? h)
theorem pd0 : parseMethodDescriptor "(C)Ljava/lang/String;" = some ⟨[.char], some (.object "java/lang/String")⟩ := by decide +kernel
theorem pd1 : parseMethodDescriptor "(C)Z" = some ⟨[.char], some .boolean⟩ := by decide +kernel
theorem pd2 : parseMethodDescriptor "(C)[B" = some ⟨[.char], some (.array .byte)⟩ := by decide +kernel
theorem pd3 : parseMethodDescriptor "([BB)V" = some ⟨[(.array .byte), .byte], none⟩ := by decide +kernel
theorem pd4 : parseMethodDescriptor "()V" = some ⟨[], none⟩ := by decide +kernel
theorem pd5 : parseMethodDescriptor "(Ljava/lang/String;Z)V" = some ⟨[(.object "java/lang/String"), .boolean], none⟩ := by decide +kernel
theorem pd6 : parseMethodDescriptor "(ILcom/example/reason_over_axioms/reasonoveraxioms/model/Role;I)Lcom/example/reason_over_axioms/reasonoveraxioms/reasoning/Tableau$Link;" = some ⟨[.int, (.object "com/example/reason_over_axioms/reasonoveraxioms/model/Role"), .int], some (.object "com/example/reason_over_axioms/reasonoveraxioms/reasoning/Tableau$Link")⟩ := by decide +kernel
theorem pd7 : parseMethodDescriptor "()Z" = some ⟨[], some .boolean⟩ := by decide +kernel
theorem pd8 : parseMethodDescriptor "()Ljava/lang/String;" = some ⟨[], some (.object "java/lang/String")⟩ := by decide +kernel
theorem pd9 : parseMethodDescriptor "(ILjava/lang/String;I)V" = some ⟨[.int, (.object "java/lang/String"), .int], none⟩ := by decide +kernel
theorem pd10 : parseMethodDescriptor "()I" = some ⟨[], some .int⟩ := by decide +kernel
theorem pd11 : parseMethodDescriptor "(Ljava/lang/Object;)Z" = some ⟨[(.object "java/lang/Object")], some .boolean⟩ := by decide +kernel
theorem pd12 : parseMethodDescriptor "([C)V" = some ⟨[(.array .char)], none⟩ := by decide +kernel
theorem pd13 : parseMethodDescriptor "([CIILjava/lang/Void;)V" = some ⟨[(.array .char), .int, .int, (.object "java/lang/Void")], none⟩ := by decide +kernel
theorem pd14 : parseMethodDescriptor "([CII)[B" = some ⟨[(.array .char), .int, .int], some (.array .byte)⟩ := by decide +kernel
theorem pd15 : parseMethodDescriptor "([CI[BII)I" = some ⟨[(.array .char), .int, (.array .byte), .int, .int], some .int⟩ := by decide +kernel
theorem pd16 : parseMethodDescriptor "([BI)B" = some ⟨[(.array .byte), .int], some .byte⟩ := by decide +kernel
theorem own_succ {j : Int32} {i : Nat} (h : j.toInt = (i : Int)) (hb : i < 2147483647) : (j + 1).toInt = ((i + 1 : Nat) : Int) := by
  have e : (1 : Int32).toInt = 1 := rfl
  rw [XT.add32 (by rw [h, e]; constructor <;> omega), h, e]; omega
theorem own_lt {x y : Int32} : x < y ↔ x.toInt < y.toInt := Int32.lt_iff_toInt_lt
theorem own_eq {x y : Int32} (h : x.toInt = y.toInt) : x = y := Int32.toInt_inj.mp h
theorem own_b8 (x : Int32) : nar .byte (x.toInt8.toInt32) = x.toInt8.toInt32 := by simp [nar]
theorem own_and255 (x : Int32) : ∃ n : Nat, (x &&& 255).toInt = (n : Int) ∧ n < 256 := by
  have h := c_mask x 255 8 (by decide) (by decide)
  refine ⟨(x &&& 255).toInt.toNat, ?_, ?_⟩ <;> omega
theorem own_c8 (x : Int32) : nar .char ((x &&& 255).toUInt32.toUInt16.toUInt32.toInt32) = x &&& 255 := by
  rw [i2c_mask]; exact i2c_mask x
theorem own_le255 (x : Int32) : ¬ (255 : Int32) < x &&& 255 := by
  obtain ⟨n, h1, h2⟩ := own_and255 x
  rw [own_lt, h1]; have : (255 : Int32).toInt = 255 := rfl; omega
theorem own_in1 {a : Addr} : ∀ {L : List Addr}, a ∈ a :: L := List.mem_cons_self
theorem d16_0 : decode jdk_42_method_3_code 0 = .ok (.aload_n 0, 1) := by decide +kernel
theorem d16_1 : decode jdk_42_method_3_code 1 = .ok (.aload_n 1, 1) := by decide +kernel
theorem d16_2 : decode jdk_42_method_3_code 2 = .ok (.iconst 0, 1) := by decide +kernel
theorem d16_3 : decode jdk_42_method_3_code 3 = .ok (.aload_n 1, 1) := by decide +kernel
theorem d16_4 : decode jdk_42_method_3_code 4 = .ok (.arraylength, 1) := by decide +kernel
theorem d16_5 : decode jdk_42_method_3_code 5 = .ok (.aconst_null, 1) := by decide +kernel
theorem d16_6 : decode jdk_42_method_3_code 6 = .ok (.invokespecial 27, 3) := by decide +kernel
theorem d16_9 : decode jdk_42_method_3_code 9 = .ok (.return_, 1) := by decide +kernel
theorem d17_0 : decode jdk_42_method_149_code 0 = .ok (.aload_n 0, 1) := by decide +kernel
theorem d17_1 : decode jdk_42_method_149_code 1 = .ok (.invokespecial 1, 3) := by decide +kernel
theorem d17_4 : decode jdk_42_method_149_code 4 = .ok (.iload_n 3, 1) := by decide +kernel
theorem d17_5 : decode jdk_42_method_149_code 5 = .ok (.ifCond .ne 22, 3) := by decide +kernel
theorem d17_8 : decode jdk_42_method_149_code 8 = .ok (.aload_n 0, 1) := by decide +kernel
theorem d17_9 : decode jdk_42_method_149_code 9 = .ok (.ldc 7, 2) := by decide +kernel
theorem d17_11 : decode jdk_42_method_149_code 11 = .ok (.getfield 9, 3) := by decide +kernel
theorem d17_14 : decode jdk_42_method_149_code 14 = .ok (.putfield 9, 3) := by decide +kernel
theorem d17_17 : decode jdk_42_method_149_code 17 = .ok (.aload_n 0, 1) := by decide +kernel
theorem d17_18 : decode jdk_42_method_149_code 18 = .ok (.ldc 7, 2) := by decide +kernel
theorem d17_20 : decode jdk_42_method_149_code 20 = .ok (.getfield 15, 3) := by decide +kernel
theorem d17_23 : decode jdk_42_method_149_code 23 = .ok (.putfield 15, 3) := by decide +kernel
theorem d17_26 : decode jdk_42_method_149_code 26 = .ok (.return_, 1) := by decide +kernel
theorem d17_27 : decode jdk_42_method_149_code 27 = .ok (.getstatic 38, 3) := by decide +kernel
theorem d17_30 : decode jdk_42_method_149_code 30 = .ok (.ifCond .eq 28, 3) := by decide +kernel
theorem d17_33 : decode jdk_42_method_149_code 33 = .ok (.aload_n 1, 1) := by decide +kernel
theorem d17_34 : decode jdk_42_method_149_code 34 = .ok (.iload_n 2, 1) := by decide +kernel
theorem d17_35 : decode jdk_42_method_149_code 35 = .ok (.iload_n 3, 1) := by decide +kernel
theorem d17_36 : decode jdk_42_method_149_code 36 = .ok (.invokestatic 177, 3) := by decide +kernel
theorem d17_39 : decode jdk_42_method_149_code 39 = .ok (.astore 5, 2) := by decide +kernel
theorem d17_41 : decode jdk_42_method_149_code 41 = .ok (.aload_n 0, 1) := by decide +kernel
theorem d17_42 : decode jdk_42_method_149_code 42 = .ok (.aload 5, 2) := by decide +kernel
theorem d17_44 : decode jdk_42_method_149_code 44 = .ok (.iload_n 3, 1) := by decide +kernel
theorem d17_45 : decode jdk_42_method_149_code 45 = .ok (.invokestatic 47, 3) := by decide +kernel
theorem d17_48 : decode jdk_42_method_149_code 48 = .ok (.putfield 15, 3) := by decide +kernel
theorem d17_51 : decode jdk_42_method_149_code 51 = .ok (.aload_n 0, 1) := by decide +kernel
theorem d17_52 : decode jdk_42_method_149_code 52 = .ok (.aload 5, 2) := by decide +kernel
theorem d17_54 : decode jdk_42_method_149_code 54 = .ok (.putfield 9, 3) := by decide +kernel
theorem d17_57 : decode jdk_42_method_149_code 57 = .ok (.return_, 1) := by decide +kernel
theorem d17_58 : decode jdk_42_method_149_code 58 = .ok (.aload_n 0, 1) := by decide +kernel
theorem d17_59 : decode jdk_42_method_149_code 59 = .ok (.iconst 1, 1) := by decide +kernel
theorem d17_60 : decode jdk_42_method_149_code 60 = .ok (.putfield 15, 3) := by decide +kernel
theorem d17_63 : decode jdk_42_method_149_code 63 = .ok (.aload_n 0, 1) := by decide +kernel
theorem d17_64 : decode jdk_42_method_149_code 64 = .ok (.aload_n 1, 1) := by decide +kernel
theorem d17_65 : decode jdk_42_method_149_code 65 = .ok (.iload_n 2, 1) := by decide +kernel
theorem d17_66 : decode jdk_42_method_149_code 66 = .ok (.iload_n 3, 1) := by decide +kernel
theorem d17_67 : decode jdk_42_method_149_code 67 = .ok (.invokestatic 180, 3) := by decide +kernel
theorem d17_70 : decode jdk_42_method_149_code 70 = .ok (.putfield 9, 3) := by decide +kernel
theorem d17_73 : decode jdk_42_method_149_code 73 = .ok (.return_, 1) := by decide +kernel
theorem d18_0 : decode jdk_52_method_16_code 0 = .ok (.iload_n 2, 1) := by decide +kernel
theorem d18_1 : decode jdk_52_method_16_code 1 = .ok (.newarray .byte, 2) := by decide +kernel
theorem d18_3 : decode jdk_52_method_16_code 3 = .ok (.astore_n 3, 1) := by decide +kernel
theorem d18_4 : decode jdk_52_method_16_code 4 = .ok (.aload_n 0, 1) := by decide +kernel
theorem d18_5 : decode jdk_52_method_16_code 5 = .ok (.iload_n 1, 1) := by decide +kernel
theorem d18_6 : decode jdk_52_method_16_code 6 = .ok (.aload_n 3, 1) := by decide +kernel
theorem d18_7 : decode jdk_52_method_16_code 7 = .ok (.iconst 0, 1) := by decide +kernel
theorem d18_8 : decode jdk_52_method_16_code 8 = .ok (.iload_n 2, 1) := by decide +kernel
theorem d18_9 : decode jdk_52_method_16_code 9 = .ok (.invokestatic 115, 3) := by decide +kernel
theorem d18_12 : decode jdk_52_method_16_code 12 = .ok (.istore 4, 2) := by decide +kernel
theorem d18_14 : decode jdk_52_method_16_code 14 = .ok (.iload 4, 2) := by decide +kernel
theorem d18_16 : decode jdk_52_method_16_code 16 = .ok (.iload_n 2, 1) := by decide +kernel
theorem d18_17 : decode jdk_52_method_16_code 17 = .ok (.if_icmp .eq 40, 3) := by decide +kernel
theorem d18_20 : decode jdk_52_method_16_code 20 = .ok (.aload_n 0, 1) := by decide +kernel
theorem d18_21 : decode jdk_52_method_16_code 21 = .ok (.iload_n 1, 1) := by decide +kernel
theorem d18_22 : decode jdk_52_method_16_code 22 = .ok (.iload_n 2, 1) := by decide +kernel
theorem d18_23 : decode jdk_52_method_16_code 23 = .ok (.invokestatic 119, 3) := by decide +kernel
theorem d18_26 : decode jdk_52_method_16_code 26 = .ok (.astore 5, 2) := by decide +kernel
theorem d18_28 : decode jdk_52_method_16_code 28 = .ok (.aload 5, 2) := by decide +kernel
theorem d18_30 : decode jdk_52_method_16_code 30 = .ok (.iload 4, 2) := by decide +kernel
theorem d18_32 : decode jdk_52_method_16_code 32 = .ok (.invokestatic 71, 3) := by decide +kernel
theorem d18_35 : decode jdk_52_method_16_code 35 = .ok (.sipush 255, 3) := by decide +kernel
theorem d18_38 : decode jdk_52_method_16_code 38 = .ok (.if_icmp .gt 16, 3) := by decide +kernel
theorem d18_41 : decode jdk_52_method_16_code 41 = .ok (.aload 5, 2) := by decide +kernel
theorem d18_43 : decode jdk_52_method_16_code 43 = .ok (.iconst 0, 1) := by decide +kernel
theorem d18_44 : decode jdk_52_method_16_code 44 = .ok (.aload_n 3, 1) := by decide +kernel
theorem d18_45 : decode jdk_52_method_16_code 45 = .ok (.iconst 0, 1) := by decide +kernel
theorem d18_46 : decode jdk_52_method_16_code 46 = .ok (.iload_n 2, 1) := by decide +kernel
theorem d18_47 : decode jdk_52_method_16_code 47 = .ok (.invokestatic 123, 3) := by decide +kernel
theorem d18_50 : decode jdk_52_method_16_code 50 = .ok (.iload_n 2, 1) := by decide +kernel
theorem d18_51 : decode jdk_52_method_16_code 51 = .ok (.if_icmp .eq 6, 3) := by decide +kernel
theorem d18_54 : decode jdk_52_method_16_code 54 = .ok (.aload 5, 2) := by decide +kernel
theorem d18_56 : decode jdk_52_method_16_code 56 = .ok (.areturn, 1) := by decide +kernel
theorem d18_57 : decode jdk_52_method_16_code 57 = .ok (.aload_n 3, 1) := by decide +kernel
theorem d18_58 : decode jdk_52_method_16_code 58 = .ok (.areturn, 1) := by decide +kernel
theorem d19_0 : decode jdk_52_method_21_code 0 = .ok (.iconst 0, 1) := by decide +kernel
theorem d19_1 : decode jdk_52_method_21_code 1 = .ok (.istore 5, 2) := by decide +kernel
theorem d19_3 : decode jdk_52_method_21_code 3 = .ok (.iload 5, 2) := by decide +kernel
theorem d19_5 : decode jdk_52_method_21_code 5 = .ok (.iload 4, 2) := by decide +kernel
theorem d19_7 : decode jdk_52_method_21_code 7 = .ok (.if_icmp .ge 37, 3) := by decide +kernel
theorem d19_10 : decode jdk_52_method_21_code 10 = .ok (.aload_n 0, 1) := by decide +kernel
theorem d19_11 : decode jdk_52_method_21_code 11 = .ok (.iload_n 1, 1) := by decide +kernel
theorem d19_12 : decode jdk_52_method_21_code 12 = .ok (.caload, 1) := by decide +kernel
theorem d19_13 : decode jdk_52_method_21_code 13 = .ok (.istore 6, 2) := by decide +kernel
theorem d19_15 : decode jdk_52_method_21_code 15 = .ok (.iload 6, 2) := by decide +kernel
theorem d19_17 : decode jdk_52_method_21_code 17 = .ok (.sipush 255, 3) := by decide +kernel
theorem d19_20 : decode jdk_52_method_21_code 20 = .ok (.if_icmp .le 6, 3) := by decide +kernel
theorem d19_23 : decode jdk_52_method_21_code 23 = .ok (.iload 5, 2) := by decide +kernel
theorem d19_25 : decode jdk_52_method_21_code 25 = .ok (.ireturn, 1) := by decide +kernel
theorem d19_26 : decode jdk_52_method_21_code 26 = .ok (.aload_n 2, 1) := by decide +kernel
theorem d19_27 : decode jdk_52_method_21_code 27 = .ok (.iload_n 3, 1) := by decide +kernel
theorem d19_28 : decode jdk_52_method_21_code 28 = .ok (.iload 6, 2) := by decide +kernel
theorem d19_30 : decode jdk_52_method_21_code 30 = .ok (.i2b, 1) := by decide +kernel
theorem d19_31 : decode jdk_52_method_21_code 31 = .ok (.bastore, 1) := by decide +kernel
theorem d19_32 : decode jdk_52_method_21_code 32 = .ok (.iinc 1 1, 3) := by decide +kernel
theorem d19_35 : decode jdk_52_method_21_code 35 = .ok (.iinc 3 1, 3) := by decide +kernel
theorem d19_38 : decode jdk_52_method_21_code 38 = .ok (.iinc 5 1, 3) := by decide +kernel
theorem d19_41 : decode jdk_52_method_21_code 41 = .ok (.goto (-38), 3) := by decide +kernel
theorem d19_44 : decode jdk_52_method_21_code 44 = .ok (.iload 4, 2) := by decide +kernel
theorem d19_46 : decode jdk_52_method_21_code 46 = .ok (.ireturn, 1) := by decide +kernel
theorem d20_0 : decode jdk_52_method_15_code 0 = .ok (.iload_n 1, 1) := by decide +kernel
theorem d20_1 : decode jdk_52_method_15_code 1 = .ok (.aload_n 0, 1) := by decide +kernel
theorem d20_2 : decode jdk_52_method_15_code 2 = .ok (.arraylength, 1) := by decide +kernel
theorem d20_3 : decode jdk_52_method_15_code 3 = .ok (.isub, 1) := by decide +kernel
theorem d20_4 : decode jdk_52_method_15_code 4 = .ok (.bipush 31, 2) := by decide +kernel
theorem d20_6 : decode jdk_52_method_15_code 6 = .ok (.iushr, 1) := by decide +kernel
theorem d20_7 : decode jdk_52_method_15_code 7 = .ok (.i2b, 1) := by decide +kernel
theorem d20_8 : decode jdk_52_method_15_code 8 = .ok (.ireturn, 1) := by decide +kernel
/-- chars of which none is above 255 -/
def Lat (cf : Nat → Int32) (len : Nat) : Prop := ∀ i, i < len → ¬ (255 : Int32) < cf i
set_option maxRecDepth 65536 in
set_option maxHeartbeats 40000000 in
theorem c_cm5 {l : Launch} {Z : State} {a0 : Array Value} (hw : ∀ d ∈ tables_1, d.before a0 Z = true) {n0 : Nat} {h0 : Heap} {vb db : Addr} {len : Nat} {lenI : Int32} {cf : Nat → Int32} (hlen : lenI.toInt = (len : Int)) (V : Ary Z h0 vb .char len (fun i => .int (cf i))) (B : Ary Z h0 db .byte len (fun _ => .int 0)) (hne : vb ≠ db) (hc : Lat cf len) : Con l Z n0 (⟨"java/lang/StringUTF16", "compress", "([CI[BII)I"⟩ : MethodName) jdk_52_method_21_code 7 (some .int) ({ frames := 0, cells := 0, slots := 0, locals := 0 } : Room) [.ref vb, .int 0, .ref db, .int 0, .int lenI] h0 [db] (fun v h' => v = some (.int lenI) ∧ Ary Z h' db .byte len (fun t => .int (cf t).toInt8.toInt32)) := by
  refine Con.of (Ls := [.val (.ref vb), .val (.int 0), .val (.ref db), .val (.int 0), .val (.int lenI), .unset, .unset]) (by decide +kernel) (fun m => by first | rfl | simp [entryFrame, mkF, argsToLocals, Value.category]) (fun p e s m below meth c => ?_)
  show Wp false p l e ({ frames := 0, cells := 0, slots := 0, locals := 0 } : Room) s m ([.ref vb, .int 0, .ref db, .int 0, .int lenI] : List Value).toArray below meth c Z "java/lang/StringUTF16" "compress" jdk_52_method_21_code 7 (some .int) n0 h0 [db] (fun v h' => v = some (.int lenI) ∧ Ary Z h' db .byte len (fun t => .int (cf t).toInt8.toInt32)) (fun _ => True) h0 0 0 0 [.val (.ref vb), .val (.int 0), .val (.ref db), .val (.int 0), .val (.int lenI), .unset, .unset] []
  have hb := V.bound
  have loop : ∀ (r i : Nat) (j : Int32) (h : Heap) (o6 : Slot), i + r = len → j.toInt = (i : Int) → oneB o6 = true → Ary Z h db .byte len (fun t => if t < i then .int (cf t).toInt8.toInt32 else .int 0) → Wp false p l e ({ frames := 0, cells := 0, slots := 0, locals := 0 } : Room) s m ([.ref vb, .int 0, .ref db, .int 0, .int lenI] : List Value).toArray below meth c Z "java/lang/StringUTF16" "compress" jdk_52_method_21_code 7 (some .int) n0 h0 [db] (fun v h' => v = some (.int lenI) ∧ Ary Z h' db .byte len (fun t => .int (cf t).toInt8.toInt32)) (fun _ => True) h 0 0 3 [.val (.ref vb), .val (.int j), .val (.ref db), .val (.int j), .val (.int lenI), .val (.int j), o6] [] := by
    intro r
    induction r with
    | zero =>
      intro i j h o6 hi hj ho A
      refine iload (q1 := 5) d19_3 rfl rfl ?_
      refine iload (q1 := 7) d19_5 rfl rfl ?_
      refine icmp_ge (q1 := 10) (q := 44) d19_7 rfl ⟨by decide, rfl⟩ (fun hc => ?_) (fun hc => ?_)
      · refine iload (q1 := 46) d19_44 rfl rfl ?_
        refine ret_i d19_46 rfl rfl ?_
        exact ⟨rfl, A.cong fun t ht => by simp [show t < i by omega]⟩
      · exact absurd hc (by rw [own_lt, hj, hlen]; omega)
    | succ r ih =>
      intro i j h o6 hi hj ho A
      refine iload (q1 := 5) d19_3 rfl rfl ?_
      refine iload (q1 := 7) d19_5 rfl rfl ?_
      refine icmp_ge (q1 := 10) (q := 44) d19_7 rfl ⟨by decide, rfl⟩ (fun hc => absurd (show j < lenI by rw [own_lt, hj, hlen]; omega) hc) (fun _ => ?_)
      refine kept fun K O => ?_
      refine aload_n (q1 := 11) d19_10 rfl rfl rfl ?_
      refine iload_n (q1 := 12) d19_11 rfl rfl ?_
      refine caload (q1 := 13) d19_12 rfl (V.keep K (ninS hne nin0)) hj (show i < len by omega) rfl ?_
      refine istore (q1 := 15) d19_13 rfl ho ?_
      simp only [List.set_cons_zero, List.set_cons_succ]
      refine iload (q1 := 17) d19_15 rfl rfl ?_
      refine sipush (q1 := 20) (v := 255) d19_17 rfl rfl ?_
      refine icmp_le (q1 := 23) (q := 26) d19_20 rfl ⟨by decide, rfl⟩ (fun _ => ?_) (fun hq => absurd hq (hc i (by omega)))
      refine aload_n (q1 := 27) d19_26 rfl rfl rfl ?_
      refine iload_n (q1 := 28) d19_27 rfl rfl ?_
      refine iload (q1 := 30) d19_28 rfl rfl ?_
      refine i2b (q1 := 31) d19_30 rfl ?_
      refine bastore (q1 := 32) d19_31 rfl (A) hj (show i < len by omega) (Or.inl (List.mem_singleton.mpr rfl)) (fun h31 W31 => ?_)
      refine iinc (q1 := 35) (v := 1) d19_32 rfl rfl rfl ?_
      simp only [List.set_cons_zero, List.set_cons_succ]
      refine iinc (q1 := 38) (v := 1) d19_35 rfl rfl rfl ?_
      simp only [List.set_cons_zero, List.set_cons_succ]
      refine iinc (q1 := 41) (v := 1) d19_38 rfl rfl rfl ?_
      simp only [List.set_cons_zero, List.set_cons_succ]
      refine goto (q := 3) d19_41 ⟨by decide, rfl⟩ ?_
      refine ih (i + 1) (j + 1) h31 _ (by omega) (own_succ hj (by omega)) rfl ((A.same W31).cong fun t ht => ?_)
      by_cases e : t = i
      · subst e; simp [own_b8]
      · by_cases e2 : t < i
        · simp [e, e2, show t < i + 1 by omega]
        · simp [e, e2, show ¬ t < i + 1 by omega]
  refine iconst (q1 := 1) (v := 0) d19_0 rfl rfl ?_
  refine istore (q1 := 3) d19_1 rfl rfl ?_
  simp only [List.set_cons_zero, List.set_cons_succ]
  exact loop len 0 0 h0 _ (by omega) rfl rfl (B.cong fun t ht => by simp)
set_option maxRecDepth 65536 in
set_option maxHeartbeats 40000000 in
theorem c_cm3 {l : Launch} {Z : State} {a0 : Array Value} (hw : ∀ d ∈ tables_1, d.before a0 Z = true) {n0 : Nat} {h0 : Heap} {vb : Addr} {len : Nat} {lenI : Int32} {cf : Nat → Int32} (hlen : lenI.toInt = (len : Int)) (hcap : len ≤ 4000) (V : Ary Z h0 vb .char len (fun i => .int (cf i))) (hc : Lat cf len) : Con l Z n0 (⟨"java/lang/StringUTF16", "compress", "([CII)[B"⟩ : MethodName) jdk_52_method_16_code 6 (some (.array .byte)) { frames := 1, cells := 1, slots := len, locals := 18 } [.ref vb, .int 0, .int lenI] h0 [] (fun v h' => v = some (.ref h0.size) ∧ Ary Z h' h0.size .byte len (fun t => .int (cf t).toInt8.toInt32)) := by
  refine Con.of (Ls := [.val (.ref vb), .val (.int 0), .val (.int lenI), .unset, .unset, .unset]) (by decide +kernel) (fun m => by first | rfl | simp [entryFrame, mkF, argsToLocals, Value.category]) (fun p e s m below meth c => ?_)
  show Wp false p l e ({ frames := 1, cells := 1, slots := len, locals := 18 }) s m ([.ref vb, .int 0, .int lenI] : List Value).toArray below meth c Z "java/lang/StringUTF16" "compress" jdk_52_method_16_code 6 (some (.array .byte)) n0 h0 [] (fun v h' => v = some (.ref h0.size) ∧ Ary Z h' h0.size .byte len (fun t => .int (cf t).toInt8.toInt32)) (fun _ => True) h0 0 0 0 [.val (.ref vb), .val (.int 0), .val (.int lenI), .unset, .unset, .unset] []
  refine iload_n (q1 := 1) d18_0 rfl rfl ?_
  refine newarray (q1 := 3) (len := len) (cap := len) d18_1 rfl (ww hw 15 rfl) hlen (Nat.le_refl _) (by omega) (Nat.le_refl _) (by show 0 + len ≤ len; omega) (fun S1 h1 E1 A1 => ?_)
  refine astore_n (q1 := 4) (jj := 3) d18_3 rfl rfl rfl rfl ?_
  simp only [List.set_cons_zero, List.set_cons_succ]
  refine aload_n (q1 := 5) d18_4 rfl rfl rfl ?_
  refine iload_n (q1 := 6) d18_5 rfl rfl ?_
  refine aload_n (q1 := 7) d18_6 rfl rfl rfl ?_
  refine iconst (q1 := 8) (v := 0) d18_7 rfl rfl ?_
  refine iload_n (q1 := 9) d18_8 rfl rfl ?_
  refine invokestatic (q1 := 12) d18_9 rfl (ww hw 100 rfl) (ww hw 101 rfl) (ww hw 98 rfl) (ww hw 102 rfl) (by decide) pd15 (c_cm5 hw hlen (V.ext E1) A1 (Nat.ne_of_lt V.lt) hc) rfl rfl rfl (by simp [roomOk, Value.category]) (allS (Or.inr S1) all0) (fun v h' q K => ?_)
  obtain ⟨rfl, A2⟩ := q
  refine istore (q1 := 14) d18_12 rfl rfl ?_
  simp only [List.set_cons_zero, List.set_cons_succ]
  refine iload (q1 := 16) d18_14 rfl rfl ?_
  refine iload_n (q1 := 17) d18_16 rfl rfl ?_
  refine icmp_eq (q1 := 20) (q := 57) d18_17 rfl ⟨by decide, rfl⟩ (fun _ => ?_) (fun hq => absurd rfl hq)
  refine aload_n (q1 := 58) d18_57 rfl rfl rfl ?_
  refine ret_a d18_58 rfl rfl rfl (by simp) ?_
  exact ⟨rfl, A2⟩
theorem own_cfl (z : Int32) : (((z - z).toUInt32 >>> ((31 : Int32) &&& 31).toUInt32).toInt32).toInt8.toInt32 = 0 := by
  rw [Int32.sub_self]; decide
set_option maxRecDepth 65536 in
set_option maxHeartbeats 40000000 in
theorem c_cfl {l : Launch} {Z : State} {a0 : Array Value} (hw : ∀ d ∈ tables_1, d.before a0 Z = true) {n0 : Nat} {h0 : Heap} {db : Addr} {len : Nat} {lenI : Int32} {f : Nat → Value} (hlen : lenI.toInt = (len : Int)) (A : Ary Z h0 db .byte len f) : Con l Z n0 (⟨"java/lang/StringUTF16", "coderFromArrayLen", "([BI)B"⟩ : MethodName) jdk_52_method_15_code 2 (some .byte) ({ frames := 0, cells := 0, slots := 0, locals := 0 } : Room) [.ref db, .int lenI] h0 [] (fun v h' => v = some (.int 0) ∧ h' = h0) := by
  refine Con.of (Ls := [.val (.ref db), .val (.int lenI)]) (by decide +kernel) (fun m => by first | rfl | simp [entryFrame, mkF, argsToLocals, Value.category]) (fun p e s m below meth c => ?_)
  show Wp false p l e ({ frames := 0, cells := 0, slots := 0, locals := 0 } : Room) s m ([.ref db, .int lenI] : List Value).toArray below meth c Z "java/lang/StringUTF16" "coderFromArrayLen" jdk_52_method_15_code 2 (some .byte) n0 h0 [] (fun v h' => v = some (.int 0) ∧ h' = h0) (fun _ => True) h0 0 0 0 [.val (.ref db), .val (.int lenI)] []
  refine iload_n (q1 := 1) d20_0 rfl rfl ?_
  refine aload_n (q1 := 2) d20_1 rfl rfl rfl ?_
  refine arraylength (q1 := 3) d20_2 rfl (A) hlen ?_
  refine isub (q1 := 4) d20_3 rfl ?_
  refine bipush (q1 := 6) (v := 31) d20_4 rfl rfl ?_
  refine iushr (q1 := 7) d20_6 rfl ?_
  refine i2b (q1 := 8) d20_7 rfl ?_
  refine ret_n (t := .byte) d20_8 rfl (by simp) rfl ?_
  refine ⟨?_, rfl⟩
  rw [own_cfl]; rfl
/-- a String as it was made of Latin-1 chars -/
def StrOf (Z : State) (h : Heap) (x : Addr) (len : Nat) (cf : Nat → Int32) (t : Addr) : Prop := Exa Z h x "java/lang/String" ∧ Fld Z h x "java/lang/String" "coder" "B" (.int 0) ∧ Fld Z h x "java/lang/String" "value" "[B" (.ref t) ∧ Ary Z h t .byte len (fun i => .int (cf i).toInt8.toInt32)
def Cmpct (Z : State) (z : Int32) : Prop := Sta Z Z.heap "java/lang/String" "COMPACT_STRINGS" "Z" (.int z) ∧ ¬ z = 0
set_option maxRecDepth 65536 in
set_option maxHeartbeats 40000000 in
theorem c_si4 {l : Launch} {Z : State} {a0 : Array Value} (hw : ∀ d ∈ tables_1, d.before a0 Z = true) {n0 : Nat} {h0 : Heap} {x vb : Addr} {len : Nat} {lenI z : Int32} {cf : Nat → Int32} {v0 c0 : Value} (hlen : lenI.toInt = (len : Int)) (hpos : 0 < len) (hcap : len ≤ 4000) (X : Exa Z h0 x "java/lang/String") (FV : Fld Z h0 x "java/lang/String" "value" "[B" v0) (FC : Fld Z h0 x "java/lang/String" "coder" "B" c0) (V : Ary Z h0 vb .char len (fun i => .int (cf i))) (hc : Lat cf len) (S : Cmpct Z z) : Con l Z n0 (⟨"java/lang/String", "<init>", "([CIILjava/lang/Void;)V"⟩ : MethodName) jdk_42_method_149_code 6 none { frames := 2, cells := 1, slots := len, locals := 35 } [.ref x, .ref vb, .int 0, .int lenI, .null] h0 [x] (fun v h' => v = none ∧ StrOf Z h' x len cf h0.size) := by
  refine Con.of (Ls := [.val (.ref x), .val (.ref vb), .val (.int 0), .val (.int lenI), .val .null, .unset]) (by decide +kernel) (fun m => by first | rfl | simp [entryFrame, mkF, argsToLocals, Value.category]) (fun p e s m below meth c => ?_)
  show Wp false p l e ({ frames := 2, cells := 1, slots := len, locals := 35 }) s m ([.ref x, .ref vb, .int 0, .int lenI, .null] : List Value).toArray below meth c Z "java/lang/String" "<init>" jdk_42_method_149_code 6 none n0 h0 [x] (fun v h' => v = none ∧ StrOf Z h' x len cf h0.size) (fun _ => True) h0 0 0 0 [.val (.ref x), .val (.ref vb), .val (.int 0), .val (.int lenI), .val .null, .unset] []
  refine aload_n (q1 := 1) d17_0 rfl rfl rfl ?_
  refine initObj (q1 := 4) d17_1 rfl (ww hw 20 rfl) (ww hw 21 rfl) (ww hw 22 rfl) rfl rfl ?_
  refine iload_n (q1 := 5) d17_4 rfl rfl ?_
  refine if_ne (q1 := 8) (q := 27) d17_5 rfl ⟨by decide, rfl⟩ (fun _ => ?_) (fun hq => absurd hq (by intro e; rw [e] at hlen; simp at hlen; omega))
  refine kept fun K O => ?_
  refine getstatic (q1 := 30) d17_27 rfl (ww hw 5 rfl) Via.refl (S.1.ext O.2) ?_
  refine if_eq (q1 := 33) (q := 58) d17_30 rfl ⟨by decide, rfl⟩ (fun hq => absurd hq S.2) (fun _ => ?_)
  refine aload_n (q1 := 34) d17_33 rfl rfl rfl ?_
  refine iload_n (q1 := 35) d17_34 rfl rfl ?_
  refine iload_n (q1 := 36) d17_35 rfl rfl ?_
  refine invokestatic (q1 := 39) d17_36 rfl (ww hw 96 rfl) (ww hw 97 rfl) (ww hw 98 rfl) (ww hw 99 rfl) (by decide) pd14 (c_cm3 hw hlen hcap V hc) rfl rfl rfl (by simp [roomOk, Value.category]) all0 (fun v h1 q K1 => ?_)
  obtain ⟨rfl, A1⟩ := q
  refine astore (q1 := 41) d17_39 rfl rfl rfl ?_
  simp only [List.set_cons_zero, List.set_cons_succ]
  refine aload_n (q1 := 42) d17_41 rfl rfl rfl ?_
  refine aload (q1 := 44) d17_42 rfl rfl rfl ?_
  refine iload_n (q1 := 45) d17_44 rfl rfl ?_
  refine invokestatic (q1 := 48) d17_45 rfl (ww hw 103 rfl) (ww hw 104 rfl) (ww hw 98 rfl) (ww hw 105 rfl) (by decide) pd16 (c_cfl hw hlen A1) rfl rfl rfl (by simp [roomOk, Value.category]) all0 (fun v h2 q K2 => ?_)
  obtain ⟨rfl, rfl⟩ := q
  have X1 := X.keep K1
  have FV1 := FV.keep K1 nin0
  have FC1 := FC.keep K1 nin0
  have hxt : h0.size ≠ x := Nat.ne_of_gt X.lt
  refine putfieldN (q1 := 51) d17_48 rfl (ww hw 25 rfl) Via.refl (FC1) (X1) (Or.inr ⟨(ww hw 26 rfl), rfl, rfl⟩) (ww hw 11 rfl) (ty := .byte) (by decide) rfl (fits_nar_byte _) (Or.inl (List.mem_singleton.mpr rfl)) (fun h48 W48 => ?_)
  refine aload_n (q1 := 52) d17_51 rfl rfl rfl ?_
  refine aload (q1 := 54) d17_52 rfl rfl rfl ?_
  refine putfield (q1 := 57) d17_54 rfl (ww hw 23 rfl) Via.refl (FV1.other W48 (Or.inr (slot_ne (Or.inr (ww hw 24 rfl)) (Or.inr (ww hw 26 rfl)) (by decide) (t := (.array .byte)) (t' := .byte) (by decide) (by decide)))) (X1.wr W48) (Or.inr ⟨(ww hw 24 rfl), rfl, rfl⟩) (ww hw 11 rfl) (ty := (.array .byte)) (by decide) rfl rfl (Or.inl (List.mem_singleton.mpr rfl)) (fun h54 W54 => ?_)
  refine ret_v d17_57 rfl (by simp) ?_
  refine ⟨rfl, (X1.wr W48).wr W54, ?_, ?_, ?_⟩
  · exact (FC1.same W48).other W54 (Or.inr (slot_ne (Or.inr (ww hw 26 rfl)) (Or.inr (ww hw 24 rfl)) (by decide) (t := .byte) (t' := (.array .byte)) (by decide) (by decide)))
  · exact (FV1.other W48 (Or.inr (slot_ne (Or.inr (ww hw 24 rfl)) (Or.inr (ww hw 26 rfl)) (by decide) (t := (.array .byte)) (t' := .byte) (by decide) (by decide)))).same W54
  · exact (A1.other W48 hxt).other W54 hxt
set_option maxRecDepth 65536 in
set_option maxHeartbeats 40000000 in
theorem c_si1 {l : Launch} {Z : State} {a0 : Array Value} (hw : ∀ d ∈ tables_1, d.before a0 Z = true) {n0 : Nat} {h0 : Heap} {x vb : Addr} {len : Nat} {lenI z : Int32} {cf : Nat → Int32} {v0 c0 : Value} (hlen : lenI.toInt = (len : Int)) (hpos : 0 < len) (hcap : len ≤ 4000) (X : Exa Z h0 x "java/lang/String") (FV : Fld Z h0 x "java/lang/String" "value" "[B" v0) (FC : Fld Z h0 x "java/lang/String" "coder" "B" c0) (V : Ary Z h0 vb .char len (fun i => .int (cf i))) (hc : Lat cf len) (S : Cmpct Z z) : Con l Z n0 (⟨"java/lang/String", "<init>", "([C)V"⟩ : MethodName) jdk_42_method_3_code 2 none { frames := 3, cells := 1, slots := len, locals := 52 } [.ref x, .ref vb] h0 [x] (fun v h' => v = none ∧ StrOf Z h' x len cf h0.size) := by
  refine Con.of (Ls := [.val (.ref x), .val (.ref vb)]) (by decide +kernel) (fun m => by first | rfl | simp [entryFrame, mkF, argsToLocals, Value.category]) (fun p e s m below meth c => ?_)
  show Wp false p l e ({ frames := 3, cells := 1, slots := len, locals := 52 }) s m ([.ref x, .ref vb] : List Value).toArray below meth c Z "java/lang/String" "<init>" jdk_42_method_3_code 2 none n0 h0 [x] (fun v h' => v = none ∧ StrOf Z h' x len cf h0.size) (fun _ => True) h0 0 0 0 [.val (.ref x), .val (.ref vb)] []
  refine aload_n (q1 := 1) d16_0 rfl rfl rfl ?_
  refine aload_n (q1 := 2) d16_1 rfl rfl rfl ?_
  refine iconst (q1 := 3) (v := 0) d16_2 rfl rfl ?_
  refine aload_n (q1 := 4) d16_3 rfl rfl rfl ?_
  refine arraylength (q1 := 5) d16_4 rfl (V) hlen ?_
  refine aconst_null (q1 := 6) d16_5 rfl ?_
  refine invokespecial (q1 := 9) d16_6 rfl rfl (ww hw 93 rfl) (ww hw 94 rfl) (ww hw 3 rfl) (ww hw 95 rfl) (by decide) pd13 (c_si4 hw hlen hpos hcap X FV FC V hc S) rfl rfl rfl (by simp [roomOk, Value.category]) (allS (Or.inl (List.mem_singleton.mpr rfl)) all0) (fun v h1 q K1 => ?_)
  obtain ⟨rfl, Q1⟩ := q
  refine ret_v d16_9 rfl (by simp) ?_
  exact ⟨rfl, Q1⟩
/-- what the case says of the constant "" -/
def LitOk (Z : State) (a0 : Array Value) : Prop := (∀ a ∈ Bundle.stringAtoms, a.before a0 Z = true) ∧ Jvm.Lit.constHeld Z "java/lang/String" 7 ∧ Jvm.Lit.compactW.before a0 Z = true
theorem own_arv0 {Z : State} {h : Heap} {b : Addr} {kk : ClassId} {d : Value} {f : Nat → Value} (A : Arv Z h b kk .byte 0 [] d) : Ary Z h b .byte 0 f := by
  obtain ⟨c, q, -, r, -⟩ := A
  exact ⟨c, q, r, by decide, fun i hi => absurd hi (Nat.not_lt_zero i)⟩
set_option maxRecDepth 65536 in
set_option maxHeartbeats 40000000 in
theorem c_si4e {l : Launch} {Z : State} {a0 : Array Value} (hw : ∀ d ∈ tables_1, d.before a0 Z = true) {n0 : Nat} {h0 : Heap} {x vb : Addr} {c0 : Value} {cf : Nat → Int32} (X : Exa Z h0 x "java/lang/String") (FV : Fld Z h0 x "java/lang/String" "value" "[B" .null) (FC : Fld Z h0 x "java/lang/String" "coder" "B" c0) (LO : LitOk Z a0) : ConW l Z n0 (⟨"java/lang/String", "<init>", "([CIILjava/lang/Void;)V"⟩ : MethodName) jdk_42_method_149_code 6 none ({ frames := 1, cells := 2, slots := 4, locals := 12 } : Room) [.ref x, .ref vb, .int 0, .int 0, .null] h0 [x] (fun vm => IB Z vm []) (fun v h' => v = none ∧ ∃ t, StrOf Z h' x 0 cf t) := by
  refine ConW.of (Ls := [.val (.ref x), .val (.ref vb), .val (.int 0), .val (.int 0), .val .null, .unset]) (by decide +kernel) (fun m => by first | rfl | simp [entryFrame, mkF, argsToLocals, Value.category]) (fun p e s m below meth c => ?_)
  show Wp true p l e ({ frames := 1, cells := 2, slots := 4, locals := 12 } : Room) s m ([.ref x, .ref vb, .int 0, .int 0, .null] : List Value).toArray below meth c Z "java/lang/String" "<init>" jdk_42_method_149_code 6 none n0 h0 [x] (fun v h' => v = none ∧ ∃ t, StrOf Z h' x 0 cf t) (fun vm => IB Z vm []) h0 0 0 0 [.val (.ref x), .val (.ref vb), .val (.int 0), .val (.int 0), .val .null, .unset] []
  refine aload_n (q1 := 1) d17_0 rfl rfl rfl ?_
  refine initObj (q1 := 4) d17_1 rfl (ww hw 20 rfl) (ww hw 21 rfl) (ww hw 22 rfl) rfl rfl ?_
  refine iload_n (q1 := 5) d17_4 rfl rfl ?_
  refine if_ne (q1 := 8) (q := 27) d17_5 rfl ⟨by decide, rfl⟩ (fun hq => absurd rfl hq) (fun _ => ?_)
  refine aload_n (q1 := 9) d17_8 rfl rfl rfl ?_
  refine ldcLit (q1 := 11) (nn := 0) (vs := []) (z := 0) (Ts := []) d17_9 rfl (ww hw 106 rfl) LO.1 (fun vm q => q) (by simp) LO.2.1 LO.2.2 ⟨by decide, by decide⟩ (by decide) rfl (by decide) (by decide) (by decide) (by decide) (fun a h1 b kk E1 XL FCL FVL AL la lb => ?_)
  have ne : a ≠ x := Fld.ne FVL (FV.ext E1) (by simp)
  have A1 : Ary Z h1 b .byte 0 (fun i => .int (cf i).toInt8.toInt32) := own_arv0 AL
  obtain ⟨cb, ab, -⟩ := AL
  have nb : x ≠ b := ne_arr (X.ext E1) (ww hw 11 rfl) ab
  refine getfield (q1 := 14) d17_11 rfl (ww hw 23 rfl) Via.refl (FVL) ?_
  refine putfield (q1 := 17) d17_14 rfl (ww hw 23 rfl) Via.refl (FV.ext E1) (X.ext E1) (Or.inr ⟨(ww hw 24 rfl), rfl, rfl⟩) (ww hw 11 rfl) (ty := (.array .byte)) (by decide) rfl rfl (Or.inl own_in1) (fun h2 W2 => ?_)
  refine aload_n (q1 := 18) d17_17 rfl rfl rfl ?_
  refine Jvm.OwnWp.ldcAgain (q1 := 20) d17_18 rfl (ww hw 106 rfl) (fun vm q => q.2) ?_
  refine getfield (q1 := 23) d17_20 rfl (ww hw 25 rfl) Via.refl (FCL.other W2 (Or.inl ne)) ?_
  refine putfieldN (q1 := 26) d17_23 rfl (ww hw 25 rfl) Via.refl ((FC.ext E1).other W2 (Or.inr (slot_ne (Or.inr (ww hw 26 rfl)) (Or.inr (ww hw 24 rfl)) (by decide) (t := .byte) (t' := (.array .byte)) (by decide) (by decide)))) ((X.ext E1).wr W2) (Or.inr ⟨(ww hw 26 rfl), rfl, rfl⟩) (ww hw 11 rfl) (ty := .byte) (by decide) rfl (fits_nar_byte _) (Or.inl own_in1) (fun h3 W3 => ?_)
  refine ret_v d17_26 rfl rfl ?_
  refine ⟨rfl, b, ((X.ext E1).wr W2).wr W3, ((FC.ext E1).other W2 (Or.inr (slot_ne (Or.inr (ww hw 26 rfl)) (Or.inr (ww hw 24 rfl)) (by decide) (t := .byte) (t' := (.array .byte)) (by decide) (by decide)))).same W3, ((FV.ext E1).same W2).other W3 (Or.inr (slot_ne (Or.inr (ww hw 24 rfl)) (Or.inr (ww hw 26 rfl)) (by decide) (t := (.array .byte)) (t' := .byte) (by decide) (by decide))), (A1.other W2 nb.symm).other W3 nb.symm⟩
set_option maxRecDepth 65536 in
set_option maxHeartbeats 40000000 in
theorem c_si1e {l : Launch} {Z : State} {a0 : Array Value} (hw : ∀ d ∈ tables_1, d.before a0 Z = true) {n0 : Nat} {h0 : Heap} {x vb : Addr} {c0 : Value} {cf : Nat → Int32} {f : Nat → Value} (X : Exa Z h0 x "java/lang/String") (FV : Fld Z h0 x "java/lang/String" "value" "[B" .null) (FC : Fld Z h0 x "java/lang/String" "coder" "B" c0) (V : Ary Z h0 vb .char 0 f) (LO : LitOk Z a0) : ConW l Z n0 (⟨"java/lang/String", "<init>", "([C)V"⟩ : MethodName) jdk_42_method_3_code 2 none ({ frames := 2, cells := 2, slots := 4, locals := 29 } : Room) [.ref x, .ref vb] h0 [x] (fun vm => IB Z vm []) (fun v h' => v = none ∧ ∃ t, StrOf Z h' x 0 cf t) := by
  refine ConW.of (Ls := [.val (.ref x), .val (.ref vb)]) (by decide +kernel) (fun m => by first | rfl | simp [entryFrame, mkF, argsToLocals, Value.category]) (fun p e s m below meth c => ?_)
  show Wp true p l e ({ frames := 2, cells := 2, slots := 4, locals := 29 } : Room) s m ([.ref x, .ref vb] : List Value).toArray below meth c Z "java/lang/String" "<init>" jdk_42_method_3_code 2 none n0 h0 [x] (fun v h' => v = none ∧ ∃ t, StrOf Z h' x 0 cf t) (fun vm => IB Z vm []) h0 0 0 0 [.val (.ref x), .val (.ref vb)] []
  refine aload_n (q1 := 1) d16_0 rfl rfl rfl ?_
  refine aload_n (q1 := 2) d16_1 rfl rfl rfl ?_
  refine iconst (q1 := 3) (v := 0) d16_2 rfl rfl ?_
  refine aload_n (q1 := 4) d16_3 rfl rfl rfl ?_
  refine arraylength (q1 := 5) (z := 0) d16_4 rfl (V) rfl ?_
  refine aconst_null (q1 := 6) d16_5 rfl ?_
  refine invokespecialW (q1 := 9) d16_6 rfl rfl (ww hw 93 rfl) (ww hw 94 rfl) (ww hw 3 rfl) (ww hw 95 rfl) (by decide) pd13 (c_si4e hw (cf := cf) X FV FC LO) rfl rfl rfl rfl (allS (Or.inl own_in1) all0) (stabIB) (fun v h1 q K1 => ?_)
  obtain ⟨rfl, Q1⟩ := q
  refine ret_v d16_9 rfl rfl ?_
  exact ⟨rfl, Q1⟩
theorem d1_0 : decode jdk_42_method_139_code 0 = .ok (.getstatic 38, 3) := by decide +kernel
theorem d1_3 : decode jdk_42_method_139_code 3 = .ok (.ifCond .eq 23, 3) := by decide +kernel
theorem d1_6 : decode jdk_42_method_139_code 6 = .ok (.iload_n 0, 1) := by decide +kernel
theorem d1_7 : decode jdk_42_method_139_code 7 = .ok (.invokestatic 1015, 3) := by decide +kernel
theorem d1_10 : decode jdk_42_method_139_code 10 = .ok (.ifCond .eq 16, 3) := by decide +kernel
theorem d1_13 : decode jdk_42_method_139_code 13 = .ok (.new 10, 3) := by decide +kernel
theorem d1_16 : decode jdk_42_method_139_code 16 = .ok (.dup, 1) := by decide +kernel
theorem d1_17 : decode jdk_42_method_139_code 17 = .ok (.iload_n 0, 1) := by decide +kernel
theorem d1_18 : decode jdk_42_method_139_code 18 = .ok (.invokestatic 1018, 3) := by decide +kernel
theorem d1_21 : decode jdk_42_method_139_code 21 = .ok (.iconst 0, 1) := by decide +kernel
theorem d1_22 : decode jdk_42_method_139_code 22 = .ok (.invokespecial 209, 3) := by decide +kernel
theorem d1_25 : decode jdk_42_method_139_code 25 = .ok (.areturn, 1) := by decide +kernel
theorem d1_26 : decode jdk_42_method_139_code 26 = .ok (.new 10, 3) := by decide +kernel
theorem d1_29 : decode jdk_42_method_139_code 29 = .ok (.dup, 1) := by decide +kernel
theorem d1_30 : decode jdk_42_method_139_code 30 = .ok (.iload_n 0, 1) := by decide +kernel
theorem d1_31 : decode jdk_42_method_139_code 31 = .ok (.invokestatic 1021, 3) := by decide +kernel
theorem d1_34 : decode jdk_42_method_139_code 34 = .ok (.iconst 1, 1) := by decide +kernel
theorem d1_35 : decode jdk_42_method_139_code 35 = .ok (.invokespecial 209, 3) := by decide +kernel
theorem d1_38 : decode jdk_42_method_139_code 38 = .ok (.areturn, 1) := by decide +kernel
theorem d2_0 : decode jdk_43_method_3_code 0 = .ok (.iload_n 0, 1) := by decide +kernel
theorem d2_1 : decode jdk_43_method_3_code 1 = .ok (.sipush 255, 3) := by decide +kernel
theorem d2_4 : decode jdk_43_method_3_code 4 = .ok (.if_icmp .gt 7, 3) := by decide +kernel
theorem d2_7 : decode jdk_43_method_3_code 7 = .ok (.iconst 1, 1) := by decide +kernel
theorem d2_8 : decode jdk_43_method_3_code 8 = .ok (.goto 4, 3) := by decide +kernel
theorem d2_11 : decode jdk_43_method_3_code 11 = .ok (.iconst 0, 1) := by decide +kernel
theorem d2_12 : decode jdk_43_method_3_code 12 = .ok (.ireturn, 1) := by decide +kernel
theorem d3_0 : decode jdk_43_method_46_code 0 = .ok (.iconst 1, 1) := by decide +kernel
theorem d3_1 : decode jdk_43_method_46_code 1 = .ok (.newarray .byte, 2) := by decide +kernel
theorem d3_3 : decode jdk_43_method_46_code 3 = .ok (.dup, 1) := by decide +kernel
theorem d3_4 : decode jdk_43_method_46_code 4 = .ok (.iconst 0, 1) := by decide +kernel
theorem d3_5 : decode jdk_43_method_46_code 5 = .ok (.iload_n 0, 1) := by decide +kernel
theorem d3_6 : decode jdk_43_method_46_code 6 = .ok (.i2b, 1) := by decide +kernel
theorem d3_7 : decode jdk_43_method_46_code 7 = .ok (.bastore, 1) := by decide +kernel
theorem d3_8 : decode jdk_43_method_46_code 8 = .ok (.areturn, 1) := by decide +kernel
theorem d4_0 : decode jdk_42_method_151_code 0 = .ok (.aload_n 0, 1) := by decide +kernel
theorem d4_1 : decode jdk_42_method_151_code 1 = .ok (.invokespecial 1, 3) := by decide +kernel
theorem d4_4 : decode jdk_42_method_151_code 4 = .ok (.aload_n 0, 1) := by decide +kernel
theorem d4_5 : decode jdk_42_method_151_code 5 = .ok (.aload_n 1, 1) := by decide +kernel
theorem d4_6 : decode jdk_42_method_151_code 6 = .ok (.putfield 9, 3) := by decide +kernel
theorem d4_9 : decode jdk_42_method_151_code 9 = .ok (.aload_n 0, 1) := by decide +kernel
theorem d4_10 : decode jdk_42_method_151_code 10 = .ok (.iload_n 2, 1) := by decide +kernel
theorem d4_11 : decode jdk_42_method_151_code 11 = .ok (.putfield 15, 3) := by decide +kernel
theorem d4_14 : decode jdk_42_method_151_code 14 = .ok (.return_, 1) := by decide +kernel
set_option maxRecDepth 65536 in
set_option maxHeartbeats 40000000 in
theorem c_cen {l : Launch} {Z : State} {a0 : Array Value} (hw : ∀ d ∈ tables_1, d.before a0 Z = true) {n0 : Nat} {h0 : Heap} {x : Int32} (hx : ¬ (255 : Int32) < x) : Con l Z n0 (⟨"java/lang/StringLatin1", "canEncode", "(C)Z"⟩ : MethodName) jdk_43_method_3_code 1 (some .boolean) ({ frames := 0, cells := 0, slots := 0, locals := 0 } : Room) [.int x] h0 [] (fun v h' => v = some (.int 1) ∧ h' = h0) := by
  refine Con.of (Ls := [.val (.int x)]) (by decide +kernel) (fun m => by first | rfl | simp [entryFrame, mkF, argsToLocals, Value.category]) (fun p e s m below meth c => ?_)
  show Wp false p l e ({ frames := 0, cells := 0, slots := 0, locals := 0 } : Room) s m ([.int x] : List Value).toArray below meth c Z "java/lang/StringLatin1" "canEncode" jdk_43_method_3_code 1 (some .boolean) n0 h0 [] (fun v h' => v = some (.int 1) ∧ h' = h0) (fun _ => True) h0 0 0 0 [.val (.int x)] []
  refine iload_n (q1 := 1) d2_0 rfl rfl ?_
  refine sipush (q1 := 4) (v := 255) d2_1 rfl rfl ?_
  refine icmp_gt (q1 := 7) (q := 11) d2_4 rfl ⟨by decide, rfl⟩ (fun hq => absurd hq hx) (fun _ => ?_)
  refine iconst (q1 := 8) (v := 1) d2_7 rfl rfl ?_
  refine goto (q := 12) d2_8 ⟨by decide, rfl⟩ ?_
  refine ret_n (t := .boolean) d2_12 rfl (by simp) rfl ⟨rfl, rfl⟩
set_option maxRecDepth 65536 in
set_option maxHeartbeats 40000000 in
theorem c_tby {l : Launch} {Z : State} {a0 : Array Value} (hw : ∀ d ∈ tables_1, d.before a0 Z = true) {n0 : Nat} {h0 : Heap} {x : Int32} : Con l Z n0 (⟨"java/lang/StringLatin1", "toBytes", "(C)[B"⟩ : MethodName) jdk_43_method_46_code 1 (some (.array .byte)) ({ frames := 0, cells := 1, slots := 1, locals := 0 } : Room) [.int x] h0 [] (fun v h' => v = some (.ref h0.size) ∧ Ary Z h' h0.size .byte 1 (fun _ => .int x.toInt8.toInt32)) := by
  refine Con.of (Ls := [.val (.int x)]) (by decide +kernel) (fun m => by first | rfl | simp [entryFrame, mkF, argsToLocals, Value.category]) (fun p e s m below meth c => ?_)
  show Wp false p l e ({ frames := 0, cells := 1, slots := 1, locals := 0 } : Room) s m ([.int x] : List Value).toArray below meth c Z "java/lang/StringLatin1" "toBytes" jdk_43_method_46_code 1 (some (.array .byte)) n0 h0 [] (fun v h' => v = some (.ref h0.size) ∧ Ary Z h' h0.size .byte 1 (fun _ => .int x.toInt8.toInt32)) (fun _ => True) h0 0 0 0 [.val (.int x)] []
  refine iconst (q1 := 1) (v := 1) d3_0 rfl rfl ?_
  refine newarray (q1 := 3) (len := 1) (cap := 1) d3_1 rfl (ww hw 15 rfl) rfl (by decide) (by decide) (by decide) (by decide) (fun S1 h1 E1 A1 => ?_)
  refine dup (q1 := 4) d3_3 rfl rfl ?_
  refine iconst (q1 := 5) (v := 0) d3_4 rfl rfl ?_
  refine iload_n (q1 := 6) d3_5 rfl rfl ?_
  refine i2b (q1 := 7) d3_6 rfl ?_
  refine bastore (q1 := 8) (i := 0) d3_7 rfl (A1) rfl (by decide) (Or.inr S1) (fun h7 W7 => ?_)
  refine ret_a d3_8 rfl rfl rfl rfl ?_
  exact ⟨rfl, (A1.same W7).cong fun t ht => by have e : t = 0 := (by omega); subst e; rw [if_pos rfl, own_b8]⟩
set_option maxRecDepth 65536 in
set_option maxHeartbeats 40000000 in
theorem c_sib {l : Launch} {Z : State} {a0 : Array Value} (hw : ∀ d ∈ tables_1, d.before a0 Z = true) {n0 : Nat} {h0 : Heap} {x t : Addr} {v0 c0 : Value} {len : Nat} {f : Nat → Value} (X : Exa Z h0 x "java/lang/String") (FV : Fld Z h0 x "java/lang/String" "value" "[B" v0) (FC : Fld Z h0 x "java/lang/String" "coder" "B" c0) (A : Ary Z h0 t .byte len f) (hxt : t ≠ x) : Con l Z n0 (⟨"java/lang/String", "<init>", "([BB)V"⟩ : MethodName) jdk_42_method_151_code 3 none ({ frames := 1, cells := 0, slots := 0, locals := 12 } : Room) [.ref x, .ref t, .int 0] h0 [x] (fun v h' => v = none ∧ Exa Z h' x "java/lang/String" ∧ Fld Z h' x "java/lang/String" "coder" "B" (.int 0) ∧ Fld Z h' x "java/lang/String" "value" "[B" (.ref t) ∧ Ary Z h' t .byte len f) := by
  refine Con.of (Ls := [.val (.ref x), .val (.ref t), .val (.int 0)]) (by decide +kernel) (fun m => by first | rfl | simp [entryFrame, mkF, argsToLocals, Value.category]) (fun p e s m below meth c => ?_)
  show Wp false p l e ({ frames := 1, cells := 0, slots := 0, locals := 12 } : Room) s m ([.ref x, .ref t, .int 0] : List Value).toArray below meth c Z "java/lang/String" "<init>" jdk_42_method_151_code 3 none n0 h0 [x] (fun v h' => v = none ∧ Exa Z h' x "java/lang/String" ∧ Fld Z h' x "java/lang/String" "coder" "B" (.int 0) ∧ Fld Z h' x "java/lang/String" "value" "[B" (.ref t) ∧ Ary Z h' t .byte len f) (fun _ => True) h0 0 0 0 [.val (.ref x), .val (.ref t), .val (.int 0)] []
  refine aload_n (q1 := 1) d4_0 rfl rfl rfl ?_
  refine initObj (q1 := 4) d4_1 rfl (ww hw 20 rfl) (ww hw 21 rfl) (ww hw 22 rfl) rfl rfl ?_
  refine aload_n (q1 := 5) d4_4 rfl rfl rfl ?_
  refine aload_n (q1 := 6) d4_5 rfl rfl rfl ?_
  refine putfield (q1 := 9) d4_6 rfl (ww hw 23 rfl) Via.refl (FV) (X) (Or.inr ⟨(ww hw 24 rfl), rfl, rfl⟩) (ww hw 11 rfl) (ty := (.array .byte)) (by decide) rfl rfl (Or.inl own_in1) (fun h6 W6 => ?_)
  refine aload_n (q1 := 10) d4_9 rfl rfl rfl ?_
  refine iload_n (q1 := 11) d4_10 rfl rfl ?_
  refine putfieldN (q1 := 14) d4_11 rfl (ww hw 25 rfl) Via.refl (FC.other W6 (Or.inr (slot_ne (Or.inr (ww hw 26 rfl)) (Or.inr (ww hw 24 rfl)) (by decide) (t := .byte) (t' := (.array .byte)) (by decide) (by decide)))) (X.wr W6) (Or.inr ⟨(ww hw 26 rfl), rfl, rfl⟩) (ww hw 11 rfl) (ty := .byte) (by decide) rfl (fits_nar_byte _) (Or.inl own_in1) (fun h11 W11 => ?_)
  refine ret_v d4_14 rfl rfl ?_
  exact ⟨rfl, (X.wr W6).wr W11, (FC.other W6 (Or.inr (slot_ne (Or.inr (ww hw 26 rfl)) (Or.inr (ww hw 24 rfl)) (by decide) (t := .byte) (t' := (.array .byte)) (by decide) (by decide)))).same W11, (FV.same W6).other W11 (Or.inr (slot_ne (Or.inr (ww hw 24 rfl)) (Or.inr (ww hw 26 rfl)) (by decide) (t := (.array .byte)) (t' := .byte) (by decide) (by decide))), (A.other W6 hxt).other W11 hxt⟩
set_option maxRecDepth 65536 in
set_option maxHeartbeats 40000000 in
theorem c_vof {l : Launch} {Z : State} {a0 : Array Value} (hw : ∀ d ∈ tables_1, d.before a0 Z = true) {n0 : Nat} {h0 : Heap} {x z : Int32} (hx : ¬ (255 : Int32) < x) (S : Cmpct Z z) : Con l Z n0 (⟨"java/lang/String", "valueOf", "(C)Ljava/lang/String;"⟩ : MethodName) jdk_42_method_139_code 1 (some (.object "java/lang/String")) ({ frames := 2, cells := 2, slots := 5, locals := 30 } : Room) [.int x] h0 [] (fun v h' => v = some (.ref h0.size) ∧ ∃ t, StrOf Z h' h0.size 1 (fun _ => x) t) := by
  refine Con.of (Ls := [.val (.int x)]) (by decide +kernel) (fun m => by first | rfl | simp [entryFrame, mkF, argsToLocals, Value.category]) (fun p e s m below meth c => ?_)
  show Wp false p l e ({ frames := 2, cells := 2, slots := 5, locals := 30 } : Room) s m ([.int x] : List Value).toArray below meth c Z "java/lang/String" "valueOf" jdk_42_method_139_code 1 (some (.object "java/lang/String")) n0 h0 [] (fun v h' => v = some (.ref h0.size) ∧ ∃ t, StrOf Z h' h0.size 1 (fun _ => x) t) (fun _ => True) h0 0 0 0 [.val (.int x)] []
  refine kept fun K O => ?_
  refine getstatic (q1 := 3) d1_0 rfl (ww hw 5 rfl) Via.refl (S.1.ext O.2) ?_
  refine if_eq (q1 := 6) (q := 26) d1_3 rfl ⟨by decide, rfl⟩ (fun hq => absurd hq S.2) (fun _ => ?_)
  refine iload_n (q1 := 7) d1_6 rfl rfl ?_
  refine invokestatic (q1 := 10) d1_7 rfl (ww hw 6 rfl) (ww hw 7 rfl) (ww hw 8 rfl) (ww hw 9 rfl) (by decide) pd1 (c_cen hw hx) rfl rfl rfl rfl all0 (fun v h7 q K7 => ?_)
  obtain ⟨rfl, rfl⟩ := q
  refine if_eq (q1 := 13) (q := 26) d1_10 rfl ⟨by decide, rfl⟩ (fun hq => absurd hq (by decide)) (fun _ => ?_)
  refine new (q1 := 16) d1_13 rfl (ww hw 10 rfl) (ww hw 11 rfl) (ww hw 3 rfl) (by decide) (by decide) (fun S13 h13 E13 X13 D13 U13 => ?_)
  refine dup (q1 := 17) d1_16 rfl rfl ?_
  refine iload_n (q1 := 18) d1_17 rfl rfl ?_
  refine invokestatic (q1 := 21) d1_18 rfl (ww hw 12 rfl) (ww hw 13 rfl) (ww hw 8 rfl) (ww hw 14 rfl) (by decide) pd2 (c_tby hw) rfl rfl rfl rfl all0 (fun v h18 q K18 => ?_)
  obtain ⟨rfl, A18⟩ := q
  refine iconst (q1 := 22) (v := 0) d1_21 rfl rfl ?_
  refine invokespecial (q1 := 25) d1_22 rfl rfl (ww hw 16 rfl) (ww hw 17 rfl) (ww hw 3 rfl) (ww hw 19 rfl) (by decide) pd3 (c_sib hw (X13.keep K18) ((D13 (Or.inr (ww hw 24 rfl)) (ty := .array .byte) (by decide)).keep K18 nin0) ((D13 (Or.inr (ww hw 26 rfl)) (ty := .byte) (by decide)).keep K18 nin0) A18 (Nat.ne_of_gt X13.lt)) rfl rfl rfl rfl (allS (Or.inr (Nat.le_refl _)) all0) (fun v h22 q K22 => ?_)
  obtain ⟨rfl, q1, q2, q3, q4⟩ := q
  refine ret_a d1_25 rfl rfl rfl rfl ⟨rfl, _, q1, q2, q3, q4⟩
theorem d6_0 : decode prog_13_method_2_code 0 = .ok (.aload_n 0, 1) := by decide +kernel
theorem d6_1 : decode prog_13_method_2_code 1 = .ok (.invokespecial 1, 3) := by decide +kernel
theorem d6_4 : decode prog_13_method_2_code 4 = .ok (.aload_n 0, 1) := by decide +kernel
theorem d6_5 : decode prog_13_method_2_code 5 = .ok (.aload_n 1, 1) := by decide +kernel
theorem d6_6 : decode prog_13_method_2_code 6 = .ok (.putfield 7, 3) := by decide +kernel
theorem d6_9 : decode prog_13_method_2_code 9 = .ok (.aload_n 0, 1) := by decide +kernel
theorem d6_10 : decode prog_13_method_2_code 10 = .ok (.iload_n 2, 1) := by decide +kernel
theorem d6_11 : decode prog_13_method_2_code 11 = .ok (.putfield 13, 3) := by decide +kernel
theorem d6_14 : decode prog_13_method_2_code 14 = .ok (.return_, 1) := by decide +kernel
theorem d7_0 : decode jdk_30_method_1_code 0 = .ok (.aload_n 0, 1) := by decide +kernel
theorem d7_1 : decode jdk_30_method_1_code 1 = .ok (.invokespecial 1, 3) := by decide +kernel
theorem d7_4 : decode jdk_30_method_1_code 4 = .ok (.return_, 1) := by decide +kernel
theorem d8_0 : decode prog_35_method_2_code 0 = .ok (.aload_n 1, 1) := by decide +kernel
theorem d8_1 : decode prog_35_method_2_code 1 = .ok (.invokevirtual 20, 3) := by decide +kernel
theorem d8_4 : decode prog_35_method_2_code 4 = .ok (.ifCond .eq 19, 3) := by decide +kernel
theorem d8_7 : decode prog_35_method_2_code 7 = .ok (.new 8, 3) := by decide +kernel
theorem d8_10 : decode prog_35_method_2_code 10 = .ok (.dup, 1) := by decide +kernel
theorem d8_11 : decode prog_35_method_2_code 11 = .ok (.iload_n 2, 1) := by decide +kernel
theorem d8_12 : decode prog_35_method_2_code 12 = .ok (.aload_n 1, 1) := by decide +kernel
theorem d8_13 : decode prog_35_method_2_code 13 = .ok (.invokevirtual 26, 3) := by decide +kernel
theorem d8_16 : decode prog_35_method_2_code 16 = .ok (.iload_n 0, 1) := by decide +kernel
theorem d8_17 : decode prog_35_method_2_code 17 = .ok (.invokespecial 30, 3) := by decide +kernel
theorem d8_20 : decode prog_35_method_2_code 20 = .ok (.goto 16, 3) := by decide +kernel
theorem d8_23 : decode prog_35_method_2_code 23 = .ok (.new 8, 3) := by decide +kernel
theorem d8_26 : decode prog_35_method_2_code 26 = .ok (.dup, 1) := by decide +kernel
theorem d8_27 : decode prog_35_method_2_code 27 = .ok (.iload_n 0, 1) := by decide +kernel
theorem d8_28 : decode prog_35_method_2_code 28 = .ok (.aload_n 1, 1) := by decide +kernel
theorem d8_29 : decode prog_35_method_2_code 29 = .ok (.invokevirtual 26, 3) := by decide +kernel
theorem d8_32 : decode prog_35_method_2_code 32 = .ok (.iload_n 2, 1) := by decide +kernel
theorem d8_33 : decode prog_35_method_2_code 33 = .ok (.invokespecial 30, 3) := by decide +kernel
theorem d8_36 : decode prog_35_method_2_code 36 = .ok (.areturn, 1) := by decide +kernel
theorem d9_0 : decode prog_13_method_8_code 0 = .ok (.aload_n 0, 1) := by decide +kernel
theorem d9_1 : decode prog_13_method_8_code 1 = .ok (.getfield 13, 3) := by decide +kernel
theorem d9_4 : decode prog_13_method_8_code 4 = .ok (.ireturn, 1) := by decide +kernel
theorem d10_0 : decode prog_13_method_7_code 0 = .ok (.aload_n 0, 1) := by decide +kernel
theorem d10_1 : decode prog_13_method_7_code 1 = .ok (.getfield 7, 3) := by decide +kernel
theorem d10_4 : decode prog_13_method_7_code 4 = .ok (.areturn, 1) := by decide +kernel
theorem d11_0 : decode prog_35_method_1_code 0 = .ok (.aload_n 0, 1) := by decide +kernel
theorem d11_1 : decode prog_35_method_1_code 1 = .ok (.invokespecial 1, 3) := by decide +kernel
theorem d11_4 : decode prog_35_method_1_code 4 = .ok (.aload_n 0, 1) := by decide +kernel
theorem d11_5 : decode prog_35_method_1_code 5 = .ok (.iload_n 1, 1) := by decide +kernel
theorem d11_6 : decode prog_35_method_1_code 6 = .ok (.putfield 7, 3) := by decide +kernel
theorem d11_9 : decode prog_35_method_1_code 9 = .ok (.aload_n 0, 1) := by decide +kernel
theorem d11_10 : decode prog_35_method_1_code 10 = .ok (.aload_n 2, 1) := by decide +kernel
theorem d11_11 : decode prog_35_method_1_code 11 = .ok (.putfield 13, 3) := by decide +kernel
theorem d11_14 : decode prog_35_method_1_code 14 = .ok (.aload_n 0, 1) := by decide +kernel
theorem d11_15 : decode prog_35_method_1_code 15 = .ok (.iload_n 3, 1) := by decide +kernel
theorem d11_16 : decode prog_35_method_1_code 16 = .ok (.putfield 17, 3) := by decide +kernel
theorem d11_19 : decode prog_35_method_1_code 19 = .ok (.return_, 1) := by decide +kernel
theorem d12_0 : decode prog_35_method_6_code 0 = .ok (.aload_n 0, 1) := by decide +kernel
theorem d12_1 : decode prog_35_method_6_code 1 = .ok (.getfield 7, 3) := by decide +kernel
theorem d12_4 : decode prog_35_method_6_code 4 = .ok (.ireturn, 1) := by decide +kernel
theorem d13_0 : decode prog_35_method_8_code 0 = .ok (.aload_n 0, 1) := by decide +kernel
theorem d13_1 : decode prog_35_method_8_code 1 = .ok (.getfield 17, 3) := by decide +kernel
theorem d13_4 : decode prog_35_method_8_code 4 = .ok (.ireturn, 1) := by decide +kernel
theorem d14_0 : decode prog_35_method_7_code 0 = .ok (.aload_n 0, 1) := by decide +kernel
theorem d14_1 : decode prog_35_method_7_code 1 = .ok (.getfield 13, 3) := by decide +kernel
theorem d14_4 : decode prog_35_method_7_code 4 = .ok (.areturn, 1) := by decide +kernel
theorem d15_0 : decode jdk_42_method_66_code 0 = .ok (.aload_n 0, 1) := by decide +kernel
theorem d15_1 : decode jdk_42_method_66_code 1 = .ok (.aload_n 1, 1) := by decide +kernel
theorem d15_2 : decode jdk_42_method_66_code 2 = .ok (.if_acmp .ne 5, 3) := by decide +kernel
theorem d15_5 : decode jdk_42_method_66_code 5 = .ok (.iconst 1, 1) := by decide +kernel
theorem d15_6 : decode jdk_42_method_66_code 6 = .ok (.ireturn, 1) := by decide +kernel
theorem d15_7 : decode jdk_42_method_66_code 7 = .ok (.aload_n 1, 1) := by decide +kernel
theorem d15_8 : decode jdk_42_method_66_code 8 = .ok (.instanceof 10, 3) := by decide +kernel
theorem d15_11 : decode jdk_42_method_66_code 11 = .ok (.ifCond .eq 43, 3) := by decide +kernel
theorem d15_14 : decode jdk_42_method_66_code 14 = .ok (.aload_n 1, 1) := by decide +kernel
theorem d15_15 : decode jdk_42_method_66_code 15 = .ok (.checkcast 10, 3) := by decide +kernel
theorem d15_18 : decode jdk_42_method_66_code 18 = .ok (.astore_n 2, 1) := by decide +kernel
theorem d15_19 : decode jdk_42_method_66_code 19 = .ok (.getstatic 38, 3) := by decide +kernel
theorem d15_22 : decode jdk_42_method_66_code 22 = .ok (.ifCond .eq 14, 3) := by decide +kernel
theorem d15_25 : decode jdk_42_method_66_code 25 = .ok (.aload_n 0, 1) := by decide +kernel
theorem d15_26 : decode jdk_42_method_66_code 26 = .ok (.getfield 15, 3) := by decide +kernel
theorem d15_29 : decode jdk_42_method_66_code 29 = .ok (.aload_n 2, 1) := by decide +kernel
theorem d15_30 : decode jdk_42_method_66_code 30 = .ok (.getfield 15, 3) := by decide +kernel
theorem d15_33 : decode jdk_42_method_66_code 33 = .ok (.if_icmp .ne 21, 3) := by decide +kernel
theorem d15_36 : decode jdk_42_method_66_code 36 = .ok (.aload_n 0, 1) := by decide +kernel
theorem d15_37 : decode jdk_42_method_66_code 37 = .ok (.getfield 9, 3) := by decide +kernel
theorem d15_40 : decode jdk_42_method_66_code 40 = .ok (.aload_n 2, 1) := by decide +kernel
theorem d15_41 : decode jdk_42_method_66_code 41 = .ok (.getfield 9, 3) := by decide +kernel
theorem d15_44 : decode jdk_42_method_66_code 44 = .ok (.invokestatic 541, 3) := by decide +kernel
theorem d15_47 : decode jdk_42_method_66_code 47 = .ok (.ifCond .eq 7, 3) := by decide +kernel
theorem d15_50 : decode jdk_42_method_66_code 50 = .ok (.iconst 1, 1) := by decide +kernel
theorem d15_51 : decode jdk_42_method_66_code 51 = .ok (.goto 4, 3) := by decide +kernel
theorem d15_54 : decode jdk_42_method_66_code 54 = .ok (.iconst 0, 1) := by decide +kernel
theorem d15_55 : decode jdk_42_method_66_code 55 = .ok (.ireturn, 1) := by decide +kernel
set_option maxRecDepth 65536 in
set_option maxHeartbeats 40000000 in
theorem c_rec {l : Launch} {Z : State} {a0 : Array Value} (hw : ∀ d ∈ tables_1, d.before a0 Z = true) {n0 : Nat} {h0 : Heap} {a : Addr} : Con l Z n0 (⟨"java/lang/Record", "<init>", "()V"⟩ : MethodName) jdk_30_method_1_code 1 none ({ frames := 1, cells := 0, slots := 0, locals := 12 } : Room) [.ref a] h0 [] (fun v h' => v = none ∧ h' = h0) := by
  refine Con.of (Ls := [.val (.ref a)]) (by decide +kernel) (fun m => by first | rfl | simp [entryFrame, mkF, argsToLocals, Value.category]) (fun p e s m below meth c => ?_)
  show Wp false p l e ({ frames := 1, cells := 0, slots := 0, locals := 12 } : Room) s m ([.ref a] : List Value).toArray below meth c Z "java/lang/Record" "<init>" jdk_30_method_1_code 1 none n0 h0 [] (fun v h' => v = none ∧ h' = h0) (fun _ => True) h0 0 0 0 [.val (.ref a)] []
  refine aload_n (q1 := 1) d7_0 rfl rfl rfl ?_
  refine initObj (q1 := 4) d7_1 rfl (ww hw 38 rfl) (ww hw 21 rfl) (ww hw 22 rfl) rfl rfl ?_
  refine ret_v d7_4 rfl rfl ⟨rfl, rfl⟩
def RoleIs (Z : State) (h : Heap) (r nm : Addr) (inv : Int32) : Prop := Exa Z h r "com/example/reason_over_axioms/reasonoveraxioms/model/Role" ∧ Fld Z h r "com/example/reason_over_axioms/reasonoveraxioms/model/Role" "name" "Ljava/lang/String;" (.ref nm) ∧ Fld Z h r "com/example/reason_over_axioms/reasonoveraxioms/model/Role" "inverted" "Z" (.int inv)
set_option maxRecDepth 65536 in
set_option maxHeartbeats 40000000 in
theorem c_role {l : Launch} {Z : State} {a0 : Array Value} (hw : ∀ d ∈ tables_1, d.before a0 Z = true) {n0 : Nat} {h0 : Heap} {r nm : Addr} {inv : Int32} {u1 u2 : Value} (X : Exa Z h0 r "com/example/reason_over_axioms/reasonoveraxioms/model/Role") (F1 : Fld Z h0 r "com/example/reason_over_axioms/reasonoveraxioms/model/Role" "name" "Ljava/lang/String;" u1) (F2 : Fld Z h0 r "com/example/reason_over_axioms/reasonoveraxioms/model/Role" "inverted" "Z" u2) (hv : nar .boolean inv = inv) : Con l Z n0 (⟨"com/example/reason_over_axioms/reasonoveraxioms/model/Role", "<init>", "(Ljava/lang/String;Z)V"⟩ : MethodName) prog_13_method_2_code 3 none ({ frames := 2, cells := 0, slots := 0, locals := 24 } : Room) [.ref r, .ref nm, .int inv] h0 [r] (fun v h' => v = none ∧ RoleIs Z h' r nm inv) := by
  refine Con.of (Ls := [.val (.ref r), .val (.ref nm), .val (.int inv)]) (by decide +kernel) (fun m => by first | rfl | simp [entryFrame, mkF, argsToLocals, Value.category]) (fun p e s m below meth c => ?_)
  show Wp false p l e ({ frames := 2, cells := 0, slots := 0, locals := 24 } : Room) s m ([.ref r, .ref nm, .int inv] : List Value).toArray below meth c Z "com/example/reason_over_axioms/reasonoveraxioms/model/Role" "<init>" prog_13_method_2_code 3 none n0 h0 [r] (fun v h' => v = none ∧ RoleIs Z h' r nm inv) (fun _ => True) h0 0 0 0 [.val (.ref r), .val (.ref nm), .val (.int inv)] []
  refine aload_n (q1 := 1) d6_0 rfl rfl rfl ?_
  refine invokespecial (q1 := 4) d6_1 rfl rfl (ww hw 33 rfl) (ww hw 34 rfl) (ww hw 36 rfl) (ww hw 37 rfl) (by decide) pd4 (c_rec hw) rfl rfl rfl rfl all0 (fun v h1 q _ => ?_)
  obtain ⟨rfl, rfl⟩ := q
  refine aload_n (q1 := 5) d6_4 rfl rfl rfl ?_
  refine aload_n (q1 := 6) d6_5 rfl rfl rfl ?_
  refine putfield (q1 := 9) d6_6 rfl (ww hw 39 rfl) Via.refl (F1) (X) (Or.inr ⟨(ww hw 40 rfl), rfl, rfl⟩) (ww hw 28 rfl) (ty := (.object "java/lang/String")) (by decide) rfl rfl (Or.inl own_in1) (fun h6 W6 => ?_)
  refine aload_n (q1 := 10) d6_9 rfl rfl rfl ?_
  refine iload_n (q1 := 11) d6_10 rfl rfl ?_
  refine putfieldN (q1 := 14) d6_11 rfl (ww hw 41 rfl) Via.refl (F2.other W6 (Or.inr (slot_ne (Or.inr (ww hw 42 rfl)) (Or.inr (ww hw 40 rfl)) (by decide) (t := .boolean) (t' := (.object "java/lang/String")) (by decide) (by decide)))) (X.wr W6) (Or.inr ⟨(ww hw 42 rfl), rfl, rfl⟩) (ww hw 28 rfl) (ty := .boolean) (by decide) rfl (fits_nar_bool _) (Or.inl own_in1) (fun h11 W11 => ?_)
  refine ret_v d6_14 rfl rfl ?_
  have F3 := (F2.other W6 (Or.inr (slot_ne (Or.inr (ww hw 42 rfl)) (Or.inr (ww hw 40 rfl)) (by decide) (t := .boolean) (t' := (.object "java/lang/String")) (by decide) (by decide)))).same W11
  have e : narrow .boolean (.int inv) = .int inv := by show Value.int (nar .boolean inv) = _; rw [hv]
  rw [e] at F3
  exact ⟨rfl, (X.wr W6).wr W11, (F1.same W6).other W11 (Or.inr (slot_ne (Or.inr (ww hw 40 rfl)) (Or.inr (ww hw 42 rfl)) (by decide) (t := (.object "java/lang/String")) (t' := .boolean) (by decide) (by decide))), F3⟩
set_option maxRecDepth 65536 in
set_option maxHeartbeats 40000000 in
theorem c_rinv {l : Launch} {Z : State} {a0 : Array Value} (hw : ∀ d ∈ tables_1, d.before a0 Z = true) {n0 : Nat} {h0 : Heap} {r nm : Addr} {inv : Int32} (B : RoleIs Z h0 r nm inv) (hv : nar .boolean inv = inv) : Con l Z n0 (⟨"com/example/reason_over_axioms/reasonoveraxioms/model/Role", "inverted", "()Z"⟩ : MethodName) prog_13_method_8_code 1 (some .boolean) ({ frames := 0, cells := 0, slots := 0, locals := 0 } : Room) [.ref r] h0 [] (fun v h' => v = some (.int inv) ∧ h' = h0) := by
  refine Con.of (Ls := [.val (.ref r)]) (by decide +kernel) (fun m => by first | rfl | simp [entryFrame, mkF, argsToLocals, Value.category]) (fun p e s m below meth c => ?_)
  show Wp false p l e ({ frames := 0, cells := 0, slots := 0, locals := 0 } : Room) s m ([.ref r] : List Value).toArray below meth c Z "com/example/reason_over_axioms/reasonoveraxioms/model/Role" "inverted" prog_13_method_8_code 1 (some .boolean) n0 h0 [] (fun v h' => v = some (.int inv) ∧ h' = h0) (fun _ => True) h0 0 0 0 [.val (.ref r)] []
  refine aload_n (q1 := 1) d9_0 rfl rfl rfl ?_
  refine getfield (q1 := 4) d9_1 rfl (ww hw 41 rfl) Via.refl (B.2.2) ?_
  refine ret_n (t := .boolean) d9_4 rfl (by simp) rfl ?_
  rw [hv]; exact ⟨rfl, rfl⟩
set_option maxRecDepth 65536 in
set_option maxHeartbeats 40000000 in
theorem c_rnam {l : Launch} {Z : State} {a0 : Array Value} (hw : ∀ d ∈ tables_1, d.before a0 Z = true) {n0 : Nat} {h0 : Heap} {r nm : Addr} {inv : Int32} (B : RoleIs Z h0 r nm inv) : Con l Z n0 (⟨"com/example/reason_over_axioms/reasonoveraxioms/model/Role", "name", "()Ljava/lang/String;"⟩ : MethodName) prog_13_method_7_code 1 (some (.object "java/lang/String")) ({ frames := 0, cells := 0, slots := 0, locals := 0 } : Room) [.ref r] h0 [] (fun v h' => v = some (.ref nm) ∧ h' = h0) := by
  refine Con.of (Ls := [.val (.ref r)]) (by decide +kernel) (fun m => by first | rfl | simp [entryFrame, mkF, argsToLocals, Value.category]) (fun p e s m below meth c => ?_)
  show Wp false p l e ({ frames := 0, cells := 0, slots := 0, locals := 0 } : Room) s m ([.ref r] : List Value).toArray below meth c Z "com/example/reason_over_axioms/reasonoveraxioms/model/Role" "name" prog_13_method_7_code 1 (some (.object "java/lang/String")) n0 h0 [] (fun v h' => v = some (.ref nm) ∧ h' = h0) (fun _ => True) h0 0 0 0 [.val (.ref r)] []
  refine aload_n (q1 := 1) d10_0 rfl rfl rfl ?_
  refine getfield (q1 := 4) d10_1 rfl (ww hw 39 rfl) Via.refl (B.2.1) ?_
  refine ret_a d10_4 rfl rfl rfl rfl ⟨rfl, rfl⟩
def LinkIs (Z : State) (h : Heap) (a nm : Addr) (sb ob : Int32) : Prop := Exa Z h a "com/example/reason_over_axioms/reasonoveraxioms/reasoning/Tableau$Link" ∧ Fld Z h a "com/example/reason_over_axioms/reasonoveraxioms/reasoning/Tableau$Link" "subject" "I" (.int sb) ∧ Fld Z h a "com/example/reason_over_axioms/reasonoveraxioms/reasoning/Tableau$Link" "property" "Ljava/lang/String;" (.ref nm) ∧ Fld Z h a "com/example/reason_over_axioms/reasonoveraxioms/reasoning/Tableau$Link" "object" "I" (.int ob)
set_option maxRecDepth 65536 in
set_option maxHeartbeats 40000000 in
theorem c_li {l : Launch} {Z : State} {a0 : Array Value} (hw : ∀ d ∈ tables_1, d.before a0 Z = true) {n0 : Nat} {h0 : Heap} {a nm : Addr} {sb ob : Int32} {u1 u2 u3 : Value} (X : Exa Z h0 a "com/example/reason_over_axioms/reasonoveraxioms/reasoning/Tableau$Link") (F1 : Fld Z h0 a "com/example/reason_over_axioms/reasonoveraxioms/reasoning/Tableau$Link" "subject" "I" u1) (F2 : Fld Z h0 a "com/example/reason_over_axioms/reasonoveraxioms/reasoning/Tableau$Link" "property" "Ljava/lang/String;" u2) (F3 : Fld Z h0 a "com/example/reason_over_axioms/reasonoveraxioms/reasoning/Tableau$Link" "object" "I" u3) : Con l Z n0 (⟨"com/example/reason_over_axioms/reasonoveraxioms/reasoning/Tableau$Link", "<init>", "(ILjava/lang/String;I)V"⟩ : MethodName) prog_35_method_1_code 4 none ({ frames := 2, cells := 0, slots := 0, locals := 24 } : Room) [.ref a, .int sb, .ref nm, .int ob] h0 [a] (fun v h' => v = none ∧ LinkIs Z h' a nm sb ob) := by
  refine Con.of (Ls := [.val (.ref a), .val (.int sb), .val (.ref nm), .val (.int ob)]) (by decide +kernel) (fun m => by first | rfl | simp [entryFrame, mkF, argsToLocals, Value.category]) (fun p e s m below meth c => ?_)
  show Wp false p l e ({ frames := 2, cells := 0, slots := 0, locals := 24 } : Room) s m ([.ref a, .int sb, .ref nm, .int ob] : List Value).toArray below meth c Z "com/example/reason_over_axioms/reasonoveraxioms/reasoning/Tableau$Link" "<init>" prog_35_method_1_code 4 none n0 h0 [a] (fun v h' => v = none ∧ LinkIs Z h' a nm sb ob) (fun _ => True) h0 0 0 0 [.val (.ref a), .val (.int sb), .val (.ref nm), .val (.int ob)] []
  refine aload_n (q1 := 1) d11_0 rfl rfl rfl ?_
  refine invokespecial (q1 := 4) d11_1 rfl rfl (ww hw 62 rfl) (ww hw 34 rfl) (ww hw 36 rfl) (ww hw 37 rfl) (by decide) pd4 (c_rec hw) rfl rfl rfl rfl all0 (fun v h1 q _ => ?_)
  obtain ⟨rfl, rfl⟩ := q
  refine aload_n (q1 := 5) d11_4 rfl rfl rfl ?_
  refine iload_n (q1 := 6) d11_5 rfl rfl ?_
  refine putfield (q1 := 9) d11_6 rfl (ww hw 63 rfl) Via.refl (F1) (X) (Or.inr ⟨(ww hw 64 rfl), rfl, rfl⟩) (ww hw 53 rfl) (ty := .int) (by decide) rfl rfl (Or.inl own_in1) (fun h6 W6 => ?_)
  have f2 := F2.other W6 (Or.inr (slot_ne (Or.inr (ww hw 66 rfl)) (Or.inr (ww hw 64 rfl)) (by decide) (t := (.object "java/lang/String")) (t' := .int) (by decide) (by decide)))
  have f3 := F3.other W6 (Or.inr (slot_ne (Or.inr (ww hw 68 rfl)) (Or.inr (ww hw 64 rfl)) (by decide) (t := .int) (t' := .int) (by decide) (by decide)))
  refine aload_n (q1 := 10) d11_9 rfl rfl rfl ?_
  refine aload_n (q1 := 11) d11_10 rfl rfl rfl ?_
  refine putfield (q1 := 14) d11_11 rfl (ww hw 65 rfl) Via.refl (f2) (X.wr W6) (Or.inr ⟨(ww hw 66 rfl), rfl, rfl⟩) (ww hw 53 rfl) (ty := (.object "java/lang/String")) (by decide) rfl rfl (Or.inl own_in1) (fun h11 W11 => ?_)
  refine aload_n (q1 := 15) d11_14 rfl rfl rfl ?_
  refine iload_n (q1 := 16) d11_15 rfl rfl ?_
  refine putfield (q1 := 19) d11_16 rfl (ww hw 67 rfl) Via.refl (f3.other W11 (Or.inr (slot_ne (Or.inr (ww hw 68 rfl)) (Or.inr (ww hw 66 rfl)) (by decide) (t := .int) (t' := (.object "java/lang/String")) (by decide) (by decide)))) ((X.wr W6).wr W11) (Or.inr ⟨(ww hw 68 rfl), rfl, rfl⟩) (ww hw 53 rfl) (ty := .int) (by decide) rfl rfl (Or.inl own_in1) (fun h16 W16 => ?_)
  refine ret_v d11_19 rfl rfl ?_
  exact ⟨rfl, ((X.wr W6).wr W11).wr W16, ((F1.same W6).other W11 (Or.inr (slot_ne (Or.inr (ww hw 64 rfl)) (Or.inr (ww hw 66 rfl)) (by decide) (t := .int) (t' := (.object "java/lang/String")) (by decide) (by decide)))).other W16 (Or.inr (slot_ne (Or.inr (ww hw 64 rfl)) (Or.inr (ww hw 68 rfl)) (by decide) (t := .int) (t' := .int) (by decide) (by decide))), (f2.same W11).other W16 (Or.inr (slot_ne (Or.inr (ww hw 66 rfl)) (Or.inr (ww hw 68 rfl)) (by decide) (t := (.object "java/lang/String")) (t' := .int) (by decide) (by decide))), (f3.other W11 (Or.inr (slot_ne (Or.inr (ww hw 68 rfl)) (Or.inr (ww hw 66 rfl)) (by decide) (t := .int) (t' := (.object "java/lang/String")) (by decide) (by decide)))).same W16⟩
set_option maxRecDepth 65536 in
set_option maxHeartbeats 40000000 in
theorem c_of {l : Launch} {Z : State} {a0 : Array Value} (hw : ∀ d ∈ tables_1, d.before a0 Z = true) {n0 : Nat} {h0 : Heap} {r nm : Addr} {inv sb ob : Int32} (B : RoleIs Z h0 r nm inv) (hv : nar .boolean inv = inv) : Con l Z n0 (⟨"com/example/reason_over_axioms/reasonoveraxioms/reasoning/Tableau$Link", "of", "(ILcom/example/reason_over_axioms/reasonoveraxioms/model/Role;I)Lcom/example/reason_over_axioms/reasonoveraxioms/reasoning/Tableau$Link;"⟩ : MethodName) prog_35_method_2_code 3 (some (.object "com/example/reason_over_axioms/reasonoveraxioms/reasoning/Tableau$Link")) ({ frames := 3, cells := 1, slots := 3, locals := 45 } : Room) [.int sb, .ref r, .int ob] h0 [] (fun v h' => v = some (.ref h0.size) ∧ LinkIs Z h' h0.size nm (if inv = 0 then sb else ob) (if inv = 0 then ob else sb)) := by
  refine Con.of (Ls := [.val (.int sb), .val (.ref r), .val (.int ob)]) (by decide +kernel) (fun m => by first | rfl | simp [entryFrame, mkF, argsToLocals, Value.category]) (fun p e s m below meth c => ?_)
  show Wp false p l e ({ frames := 3, cells := 1, slots := 3, locals := 45 } : Room) s m ([.int sb, .ref r, .int ob] : List Value).toArray below meth c Z "com/example/reason_over_axioms/reasonoveraxioms/reasoning/Tableau$Link" "of" prog_35_method_2_code 3 (some (.object "com/example/reason_over_axioms/reasonoveraxioms/reasoning/Tableau$Link")) n0 h0 [] (fun v h' => v = some (.ref h0.size) ∧ LinkIs Z h' h0.size nm (if inv = 0 then sb else ob) (if inv = 0 then ob else sb)) (fun _ => True) h0 0 0 0 [.val (.int sb), .val (.ref r), .val (.int ob)] []
  refine aload_n (q1 := 1) d8_0 rfl rfl rfl ?_
  refine invokevirt (q1 := 4) d8_1 rfl (ww hw 47 rfl) (ww hw 48 rfl) (ww hw 50 rfl) (ww hw 49 rfl) (ww hw 29 rfl) (ww hw 51 rfl) (by decide) pd7 (B.1) (c_rinv hw B hv) rfl rfl rfl rfl all0 (fun v h1 q _ => ?_)
  obtain ⟨rfl, rfl⟩ := q
  refine if_eq (q1 := 7) (q := 23) d8_4 rfl ⟨by decide, rfl⟩ (fun hq => ?_) (fun hq => ?_)
  · refine new (q1 := 26) d8_23 rfl (ww hw 52 rfl) (ww hw 53 rfl) (ww hw 45 rfl) (by decide) (by decide) (fun S1 h2 E1 X1 D1 U1 => ?_)
    refine dup (q1 := 27) d8_26 rfl rfl ?_
    refine iload_n (q1 := 28) d8_27 rfl rfl ?_
    refine aload_n (q1 := 29) d8_28 rfl rfl rfl ?_
    have B1 : RoleIs Z h2 r nm inv := ⟨B.1.ext E1, B.2.1.ext E1, B.2.2.ext E1⟩
    refine invokevirt (q1 := 32) d8_29 rfl (ww hw 54 rfl) (ww hw 55 rfl) (ww hw 57 rfl) (ww hw 56 rfl) (ww hw 29 rfl) (ww hw 58 rfl) (by decide) pd8 (B1.1) (c_rnam hw B1) rfl rfl rfl rfl all0 (fun v h3 q _ => ?_)
    obtain ⟨rfl, rfl⟩ := q
    refine iload_n (q1 := 33) d8_32 rfl rfl ?_
    refine invokespecial (q1 := 36) d8_33 rfl rfl (ww hw 59 rfl) (ww hw 60 rfl) (ww hw 45 rfl) (ww hw 61 rfl) (by decide) pd9 (c_li hw X1 (D1 (Or.inr (ww hw 64 rfl)) (ty := .int) (by decide)) (D1 (Or.inr (ww hw 66 rfl)) (ty := .object "java/lang/String") (by decide)) (D1 (Or.inr (ww hw 68 rfl)) (ty := .int) (by decide))) rfl rfl rfl rfl (allS (Or.inr S1) all0) (fun v h4 q K4 => ?_)
    obtain ⟨rfl, L⟩ := q
    refine ret_a d8_36 rfl rfl rfl rfl ?_
    rw [if_pos hq, if_pos hq]; exact ⟨rfl, L⟩
  · refine new (q1 := 10) d8_7 rfl (ww hw 52 rfl) (ww hw 53 rfl) (ww hw 45 rfl) (by decide) (by decide) (fun S1 h2 E1 X1 D1 U1 => ?_)
    refine dup (q1 := 11) d8_10 rfl rfl ?_
    refine iload_n (q1 := 12) d8_11 rfl rfl ?_
    refine aload_n (q1 := 13) d8_12 rfl rfl rfl ?_
    have B1 : RoleIs Z h2 r nm inv := ⟨B.1.ext E1, B.2.1.ext E1, B.2.2.ext E1⟩
    refine invokevirt (q1 := 16) d8_13 rfl (ww hw 54 rfl) (ww hw 55 rfl) (ww hw 57 rfl) (ww hw 56 rfl) (ww hw 29 rfl) (ww hw 58 rfl) (by decide) pd8 (B1.1) (c_rnam hw B1) rfl rfl rfl rfl all0 (fun v h3 q _ => ?_)
    obtain ⟨rfl, rfl⟩ := q
    refine iload_n (q1 := 17) d8_16 rfl rfl ?_
    refine invokespecial (q1 := 20) d8_17 rfl rfl (ww hw 59 rfl) (ww hw 60 rfl) (ww hw 45 rfl) (ww hw 61 rfl) (by decide) pd9 (c_li hw X1 (D1 (Or.inr (ww hw 64 rfl)) (ty := .int) (by decide)) (D1 (Or.inr (ww hw 66 rfl)) (ty := .object "java/lang/String") (by decide)) (D1 (Or.inr (ww hw 68 rfl)) (ty := .int) (by decide))) rfl rfl rfl rfl (allS (Or.inr S1) all0) (fun v h4 q K4 => ?_)
    obtain ⟨rfl, L⟩ := q
    refine goto (q := 36) d8_20 ⟨by decide, rfl⟩ ?_
    refine ret_a d8_36 rfl rfl rfl rfl ?_
    rw [if_neg hq, if_neg hq]; exact ⟨rfl, L⟩
set_option maxRecDepth 65536 in
set_option maxHeartbeats 40000000 in
theorem c_ls {l : Launch} {Z : State} {a0 : Array Value} (hw : ∀ d ∈ tables_1, d.before a0 Z = true) {n0 : Nat} {h0 : Heap} {a nm : Addr} {sb ob : Int32} (B : LinkIs Z h0 a nm sb ob) : Con l Z n0 (⟨"com/example/reason_over_axioms/reasonoveraxioms/reasoning/Tableau$Link", "subject", "()I"⟩ : MethodName) prog_35_method_6_code 1 (some .int) ({ frames := 0, cells := 0, slots := 0, locals := 0 } : Room) [.ref a] h0 [] (fun v h' => v = some (.int sb) ∧ h' = h0) := by
  refine Con.of (Ls := [.val (.ref a)]) (by decide +kernel) (fun m => by first | rfl | simp [entryFrame, mkF, argsToLocals, Value.category]) (fun p e s m below meth c => ?_)
  show Wp false p l e ({ frames := 0, cells := 0, slots := 0, locals := 0 } : Room) s m ([.ref a] : List Value).toArray below meth c Z "com/example/reason_over_axioms/reasonoveraxioms/reasoning/Tableau$Link" "subject" prog_35_method_6_code 1 (some .int) n0 h0 [] (fun v h' => v = some (.int sb) ∧ h' = h0) (fun _ => True) h0 0 0 0 [.val (.ref a)] []
  refine aload_n (q1 := 1) d12_0 rfl rfl rfl ?_
  refine getfield (q1 := 4) d12_1 rfl (ww hw 63 rfl) Via.refl (B.2.1) ?_
  refine ret_i d12_4 rfl rfl ⟨rfl, rfl⟩
set_option maxRecDepth 65536 in
set_option maxHeartbeats 40000000 in
theorem c_lo {l : Launch} {Z : State} {a0 : Array Value} (hw : ∀ d ∈ tables_1, d.before a0 Z = true) {n0 : Nat} {h0 : Heap} {a nm : Addr} {sb ob : Int32} (B : LinkIs Z h0 a nm sb ob) : Con l Z n0 (⟨"com/example/reason_over_axioms/reasonoveraxioms/reasoning/Tableau$Link", "object", "()I"⟩ : MethodName) prog_35_method_8_code 1 (some .int) ({ frames := 0, cells := 0, slots := 0, locals := 0 } : Room) [.ref a] h0 [] (fun v h' => v = some (.int ob) ∧ h' = h0) := by
  refine Con.of (Ls := [.val (.ref a)]) (by decide +kernel) (fun m => by first | rfl | simp [entryFrame, mkF, argsToLocals, Value.category]) (fun p e s m below meth c => ?_)
  show Wp false p l e ({ frames := 0, cells := 0, slots := 0, locals := 0 } : Room) s m ([.ref a] : List Value).toArray below meth c Z "com/example/reason_over_axioms/reasonoveraxioms/reasoning/Tableau$Link" "object" prog_35_method_8_code 1 (some .int) n0 h0 [] (fun v h' => v = some (.int ob) ∧ h' = h0) (fun _ => True) h0 0 0 0 [.val (.ref a)] []
  refine aload_n (q1 := 1) d13_0 rfl rfl rfl ?_
  refine getfield (q1 := 4) d13_1 rfl (ww hw 67 rfl) Via.refl (B.2.2.2) ?_
  refine ret_i d13_4 rfl rfl ⟨rfl, rfl⟩
set_option maxRecDepth 65536 in
set_option maxHeartbeats 40000000 in
theorem c_lp {l : Launch} {Z : State} {a0 : Array Value} (hw : ∀ d ∈ tables_1, d.before a0 Z = true) {n0 : Nat} {h0 : Heap} {a nm : Addr} {sb ob : Int32} (B : LinkIs Z h0 a nm sb ob) : Con l Z n0 (⟨"com/example/reason_over_axioms/reasonoveraxioms/reasoning/Tableau$Link", "property", "()Ljava/lang/String;"⟩ : MethodName) prog_35_method_7_code 1 (some (.object "java/lang/String")) ({ frames := 0, cells := 0, slots := 0, locals := 0 } : Room) [.ref a] h0 [] (fun v h' => v = some (.ref nm) ∧ h' = h0) := by
  refine Con.of (Ls := [.val (.ref a)]) (by decide +kernel) (fun m => by first | rfl | simp [entryFrame, mkF, argsToLocals, Value.category]) (fun p e s m below meth c => ?_)
  show Wp false p l e ({ frames := 0, cells := 0, slots := 0, locals := 0 } : Room) s m ([.ref a] : List Value).toArray below meth c Z "com/example/reason_over_axioms/reasonoveraxioms/reasoning/Tableau$Link" "property" prog_35_method_7_code 1 (some (.object "java/lang/String")) n0 h0 [] (fun v h' => v = some (.ref nm) ∧ h' = h0) (fun _ => True) h0 0 0 0 [.val (.ref a)] []
  refine aload_n (q1 := 1) d14_0 rfl rfl rfl ?_
  refine getfield (q1 := 4) d14_1 rfl (ww hw 65 rfl) Via.refl (B.2.2.1) ?_
  refine ret_a d14_4 rfl rfl rfl rfl ⟨rfl, rfl⟩
set_option maxRecDepth 65536 in
set_option maxHeartbeats 40000000 in
theorem c_eqs {l : Launch} {Z : State} {a0 : Array Value} (hw : ∀ d ∈ tables_1, d.before a0 Z = true) {n0 : Nat} {h0 : Heap} {a : Addr} : Con l Z n0 (⟨"java/lang/String", "equals", "(Ljava/lang/Object;)Z"⟩ : MethodName) jdk_42_method_66_code 3 (some .boolean) ({ frames := 0, cells := 0, slots := 0, locals := 0 } : Room) [.ref a, .ref a] h0 [] (fun v h' => v = some (.int 1) ∧ h' = h0) := by
  refine Con.of (Ls := [.val (.ref a), .val (.ref a), .unset]) (by decide +kernel) (fun m => by first | rfl | simp [entryFrame, mkF, argsToLocals, Value.category]) (fun p e s m below meth c => ?_)
  show Wp false p l e ({ frames := 0, cells := 0, slots := 0, locals := 0 } : Room) s m ([.ref a, .ref a] : List Value).toArray below meth c Z "java/lang/String" "equals" jdk_42_method_66_code 3 (some .boolean) n0 h0 [] (fun v h' => v = some (.int 1) ∧ h' = h0) (fun _ => True) h0 0 0 0 [.val (.ref a), .val (.ref a), .unset] []
  refine aload_n (q1 := 1) d15_0 rfl rfl rfl ?_
  refine aload_n (q1 := 2) d15_1 rfl rfl rfl ?_
  refine acmp_ne (q1 := 5) (q := 7) d15_2 rfl ⟨by decide, rfl⟩ rfl rfl (fun hq => absurd rfl hq) (fun _ => ?_)
  refine iconst (q1 := 6) (v := 1) d15_5 rfl rfl ?_
  refine ret_n (t := .boolean) d15_6 rfl (by simp) rfl ⟨rfl, rfl⟩
theorem own_lit {Z : State} {a0 : Array Value} (LO : LitOk Z a0) : LitOk Z a0 := LO
set_option maxRecDepth 65536 in
set_option maxHeartbeats 40000000 in
theorem law {l : Launch} {Z : State} {a0 : Array Value} (hw : ∀ d ∈ tables_1, d.before a0 Z = true) {n0 : Nat} {h0 : Heap} {p1 p2 p3 p4 p5 z : Int32} (S : Cmpct Z z) (LO : LitOk Z a0) : ConW l Z n0 x code maxLocals ret room_1 [.int p1, .int p2, .int p3, .int p4, .int p5] h0 [] (fun vm => IB Z vm []) (fun v h' => v = some (.int 1)) := by
  refine ConW.of (Ls := [.val (.int p1), .val (.int p2), .val (.int p3), .val (.int p4), .val (.int p5), .unset, .unset, .unset, .unset, .unset, .unset, .unset, .unset]) (by decide +kernel) (fun m => by first | rfl | simp [entryFrame, mkF, argsToLocals, Value.category]) (fun p e s m below meth c => ?_)
  show Wp true p l e room_1 s m ([.int p1, .int p2, .int p3, .int p4, .int p5] : List Value).toArray below meth c Z "com/example/reason_over_axioms/reasonoveraxioms/reasoning/LinkOfPinLaw" "law" code maxLocals (some .boolean) n0 h0 [] (fun v h' => v = some (.int 1)) (fun vm => IB Z vm []) h0 0 0 0 [.val (.int p1), .val (.int p2), .val (.int p3), .val (.int p4), .val (.int p5), .unset, .unset, .unset, .unset, .unset, .unset, .unset, .unset] []
  have fin : ∀ (inv ln : Int32) (ca nm : Addr) (h : Heap), (inv = 0 ∨ inv = 1) → Exa Z h nm "java/lang/String" → Wp true p l e room_1 s m ([.int p1, .int p2, .int p3, .int p4, .int p5] : List Value).toArray below meth c Z "com/example/reason_over_axioms/reasonoveraxioms/reasoning/LinkOfPinLaw" "law" code maxLocals (some .boolean) n0 h0 [] (fun v h' => v = some (.int 1)) (fun _ => True) h 5 10 95 [.val (.int p1), .val (.int p2), .val (.int p3), .val (.int p4), .val (.int p5), .val (.int inv), .val (.int ln), .val (.ref ca), .val (.ref nm), .unset, .unset, .unset, .unset] [] := by
    intro inv ln ca nm h hinv XN
    have hv : nar .boolean inv = inv := by rcases hinv with rfl | rfl <;> decide
    refine new (q1 := 98) at_95 rfl (ww hw 27 rfl) (ww hw 28 rfl) (ww hw 29 rfl) (by decide) (by decide) (fun S95 h95 E95 X95 D95 U95 => ?_)
    refine dup (q1 := 99) at_98 rfl rfl ?_
    refine aload (q1 := 101) at_99 rfl rfl rfl ?_
    refine iload (q1 := 103) at_101 rfl rfl ?_
    refine invokespecial (q1 := 106) at_103 rfl rfl (ww hw 30 rfl) (ww hw 31 rfl) (ww hw 29 rfl) (ww hw 32 rfl) (by decide) pd5 (c_role hw X95 (D95 (Or.inr (ww hw 40 rfl)) (ty := .object "java/lang/String") (by decide)) (D95 (Or.inr (ww hw 42 rfl)) (ty := .boolean) (by decide)) hv) rfl rfl rfl rfl (allS (Or.inr S95) all0) (fun v h103 q K103 => ?_)
    obtain ⟨rfl, B⟩ := q
    have X1 := (XN.ext E95).keep K103
    refine astore (q1 := 108) at_106 rfl rfl rfl ?_
    simp only [List.set_cons_zero, List.set_cons_succ]
    refine iload_n (q1 := 109) at_108 rfl rfl ?_
    refine aload (q1 := 111) at_109 rfl rfl rfl ?_
    refine iload_n (q1 := 112) at_111 rfl rfl ?_
    refine invokestatic (q1 := 115) at_112 rfl (ww hw 43 rfl) (ww hw 44 rfl) (ww hw 45 rfl) (ww hw 46 rfl) (by decide) pd6 (c_of hw B hv) rfl rfl rfl rfl all0 (fun v h112 q K112 => ?_)
    obtain ⟨rfl, L⟩ := q
    have X2 := X1.keep K112
    refine astore (q1 := 117) at_115 rfl rfl rfl ?_
    simp only [List.set_cons_zero, List.set_cons_succ]
    refine iload (q1 := 119) at_117 rfl rfl ?_
    have rest : ∀ (es eo : Int32), es = (if inv = 0 then p1 else p2) → eo = (if inv = 0 then p2 else p1) → Wp true p l e room_1 s m ([.int p1, .int p2, .int p3, .int p4, .int p5] : List Value).toArray below meth c Z "com/example/reason_over_axioms/reasonoveraxioms/reasoning/LinkOfPinLaw" "law" code maxLocals (some .boolean) n0 h0 [] (fun v h' => v = some (.int 1)) (fun _ => True) h112 (5 + 1 + 0 + 1) (10 + 2 + 0 + 3) 141 [.val (.int p1), .val (.int p2), .val (.int p3), .val (.int p4), .val (.int p5), .val (.int inv), .val (.int ln), .val (.ref ca), .val (.ref nm), .val (.ref h.size), .val (.ref h103.size), .val (.int es), .val (.int eo)] [] := by
      intro es eo he1 he2
      refine aload (q1 := 143) at_141 rfl rfl rfl ?_
      refine invokevirt (q1 := 146) at_143 rfl (ww hw 69 rfl) (ww hw 70 rfl) (ww hw 72 rfl) (ww hw 71 rfl) (ww hw 45 rfl) (ww hw 73 rfl) (by decide) pd10 (L.1) (c_ls hw L) rfl rfl rfl rfl all0 (fun v h143 q _ => ?_)
      obtain ⟨rfl, rfl⟩ := q
      refine iload (q1 := 148) at_146 rfl rfl ?_
      refine icmp_ne (q1 := 151) (q := 178) at_148 rfl ⟨by decide, rfl⟩ (fun hq => absurd he1.symm hq) (fun _ => ?_)
      refine aload (q1 := 153) at_151 rfl rfl rfl ?_
      refine invokevirt (q1 := 156) at_153 rfl (ww hw 74 rfl) (ww hw 75 rfl) (ww hw 77 rfl) (ww hw 76 rfl) (ww hw 45 rfl) (ww hw 78 rfl) (by decide) pd10 (L.1) (c_lo hw L) rfl rfl rfl rfl all0 (fun v h153 q _ => ?_)
      obtain ⟨rfl, rfl⟩ := q
      refine iload (q1 := 158) at_156 rfl rfl ?_
      refine icmp_ne (q1 := 161) (q := 178) at_158 rfl ⟨by decide, rfl⟩ (fun hq => absurd he2.symm hq) (fun _ => ?_)
      refine aload (q1 := 163) at_161 rfl rfl rfl ?_
      refine invokevirt (q1 := 166) at_163 rfl (ww hw 79 rfl) (ww hw 80 rfl) (ww hw 82 rfl) (ww hw 81 rfl) (ww hw 45 rfl) (ww hw 83 rfl) (by decide) pd8 (L.1) (c_lp hw L) rfl rfl rfl rfl all0 (fun v h163 q _ => ?_)
      obtain ⟨rfl, rfl⟩ := q
      refine aload (q1 := 168) at_166 rfl rfl rfl ?_
      refine invokevirt (q1 := 171) at_168 rfl (ww hw 84 rfl) (ww hw 85 rfl) (ww hw 87 rfl) (ww hw 86 rfl) (ww hw 3 rfl) (ww hw 88 rfl) (by decide) pd11 (X2) (c_eqs hw) rfl rfl rfl rfl all0 (fun v h168 q _ => ?_)
      obtain ⟨rfl, rfl⟩ := q
      refine if_eq (q1 := 174) (q := 178) at_171 rfl ⟨by decide, rfl⟩ (fun hq => absurd hq (by decide)) (fun _ => ?_)
      refine iconst (q1 := 175) (v := 1) at_174 rfl rfl ?_
      refine goto (q := 179) at_175 ⟨by decide, rfl⟩ ?_
      refine ret_n (t := .boolean) at_179 rfl (by simp) rfl rfl
    refine if_eq (q1 := 122) (q := 126) at_119 rfl ⟨by decide, rfl⟩ (fun hq => ?_) (fun hq => ?_)
    · refine iload_n (q1 := 127) at_126 rfl rfl ?_
      refine istore (q1 := 129) at_127 rfl rfl ?_
      simp only [List.set_cons_zero, List.set_cons_succ]
      refine iload (q1 := 131) at_129 rfl rfl ?_
      refine if_eq (q1 := 134) (q := 138) at_131 rfl ⟨by decide, rfl⟩ (fun _ => ?_) (fun hq' => absurd hq hq')
      refine iload_n (q1 := 139) at_138 rfl rfl ?_
      refine istore (q1 := 141) at_139 rfl rfl ?_
      simp only [List.set_cons_zero, List.set_cons_succ]
      exact rest _ _ (by rw [if_pos hq]) (by rw [if_pos hq])
    · refine iload_n (q1 := 123) at_122 rfl rfl ?_
      refine goto (q := 127) at_123 ⟨by decide, rfl⟩ ?_
      refine istore (q1 := 129) at_127 rfl rfl ?_
      simp only [List.set_cons_zero, List.set_cons_succ]
      refine iload (q1 := 131) at_129 rfl rfl ?_
      refine if_eq (q1 := 134) (q := 138) at_131 rfl ⟨by decide, rfl⟩ (fun hq' => absurd hq' hq) (fun _ => ?_)
      refine iload_n (q1 := 135) at_134 rfl rfl ?_
      refine goto (q := 139) at_135 ⟨by decide, rfl⟩ ?_
      refine istore (q1 := 141) at_139 rfl rfl ?_
      simp only [List.set_cons_zero, List.set_cons_succ]
      exact rest _ _ (by rw [if_neg hq]) (by rw [if_neg hq])
  have main : ∀ inv : Int32, (inv = 0 ∨ inv = 1) → Wp true p l e room_1 s m ([.int p1, .int p2, .int p3, .int p4, .int p5] : List Value).toArray below meth c Z "com/example/reason_over_axioms/reasonoveraxioms/reasoning/LinkOfPinLaw" "law" code maxLocals (some .boolean) n0 h0 [] (fun v h' => v = some (.int 1)) (fun vm => IB Z vm []) h0 0 0 11 [.val (.int p1), .val (.int p2), .val (.int p3), .val (.int p4), .val (.int p5), .unset, .unset, .unset, .unset, .unset, .unset, .unset, .unset] [.int inv] := by
    intro inv hinv
    refine istore (q1 := 13) at_11 rfl rfl ?_
    simp only [List.set_cons_zero, List.set_cons_succ]
    refine iload_n (q1 := 14) at_13 rfl rfl ?_
    refine iconst (q1 := 15) (v := 1) at_14 rfl rfl ?_
    refine iushr (q1 := 16) at_15 rfl ?_
    refine iconst (q1 := 17) (v := 3) at_16 rfl rfl ?_
    refine iand (q1 := 18) at_17 rfl ?_
    refine istore (q1 := 20) at_18 rfl rfl ?_
    simp only [List.set_cons_zero, List.set_cons_succ]
    refine iconst (q1 := 21) (v := 2) at_20 rfl rfl ?_
    refine newarray (q1 := 23) (len := 2) (cap := 2) at_21 rfl (ww hw 0 rfl) rfl (by decide) (by decide) (by decide) (by decide) (fun S21 h21 E21 A21 => ?_)
    refine astore (q1 := 25) at_23 rfl rfl rfl ?_
    simp only [List.set_cons_zero, List.set_cons_succ]
    refine aload (q1 := 27) at_25 rfl rfl rfl ?_
    refine iconst (q1 := 28) (v := 0) at_27 rfl rfl ?_
    refine iload_n (q1 := 29) at_28 rfl rfl ?_
    refine sipush (q1 := 32) (v := 255) at_29 rfl rfl ?_
    refine iand (q1 := 33) at_32 rfl ?_
    refine i2c (q1 := 34) at_33 rfl ?_
    refine castore (q1 := 35) (i := 0) at_34 rfl (A21) rfl (by decide) (Or.inr S21) (fun h34 W34 => ?_)
    refine aload (q1 := 37) at_35 rfl rfl rfl ?_
    refine iconst (q1 := 38) (v := 1) at_37 rfl rfl ?_
    refine iload (q1 := 40) at_38 rfl rfl ?_
    refine sipush (q1 := 43) (v := 255) at_40 rfl rfl ?_
    refine iand (q1 := 44) at_43 rfl ?_
    refine i2c (q1 := 45) at_44 rfl ?_
    refine castore (q1 := 46) (i := 1) at_45 rfl (A21.same W34) rfl (by decide) (Or.inr S21) (fun h45 W45 => ?_)
    have V : Ary Z h45 h0.size .char 2 (fun i => .int (if i = 0 then p4 &&& 255 else p5 &&& 255)) := ((A21.same W34).same W45).cong (fun t ht => by
      have e : t = 0 ∨ t = 1 := (by omega)
      rcases e with rfl | rfl
      · simp only [if_pos]; rw [if_neg (by decide), own_c8]
      · rw [if_pos rfl, if_neg (by decide), own_c8])
    refine iload (q1 := 48) at_46 rfl rfl ?_
    refine if_ne (q1 := 51) (q := 66) at_48 rfl ⟨by decide, rfl⟩ (fun hl => ?_) (fun hl => ?_)
    · refine iload (q1 := 68) at_66 rfl rfl ?_
      refine iconst (q1 := 69) (v := 1) at_68 rfl rfl ?_
      refine icmp_ne (q1 := 72) (q := 84) at_69 rfl ⟨by decide, rfl⟩ (fun hl1 => ?_) (fun hl1 => ?_)
      · refine new (q1 := 87) at_84 rfl (ww hw 89 rfl) (ww hw 11 rfl) (ww hw 3 rfl) (by decide) (by decide) (fun S84 h84 E84 X84 D84 U84 => ?_)
        refine dup (q1 := 88) at_87 rfl rfl ?_
        refine aload (q1 := 90) at_88 rfl rfl rfl ?_
        refine invokespecial (q1 := 93) at_90 rfl rfl (ww hw 90 rfl) (ww hw 91 rfl) (ww hw 3 rfl) (ww hw 92 rfl) (by decide) pd12 (c_si1 hw (len := 2) (lenI := 2) rfl (by decide) (by decide) X84 (D84 (Or.inr (ww hw 24 rfl)) (ty := .array .byte) (by decide)) (D84 (Or.inr (ww hw 26 rfl)) (ty := .byte) (by decide)) (V.ext E84) (fun i _ => by by_cases e : i = 0 <;> simp only [e, if_true, if_false] <;> exact own_le255 _) S) rfl rfl rfl rfl (allS (Or.inr S84) all0) (fun v h90 q K90 => ?_)
        obtain ⟨rfl, XT, -, -, -⟩ := q
        refine astore (q1 := 95) at_93 rfl rfl rfl ?_
        simp only [List.set_cons_zero, List.set_cons_succ]
        refine more (k' := 5) (n' := 10) (by decide) (by decide) (wk (J := fun _ => True) (fun _ _ => trivial) ?_)
        exact fin _ _ _ _ _ hinv XT
      · refine aload (q1 := 74) at_72 rfl rfl rfl ?_
        refine iconst (q1 := 75) (v := 0) at_74 rfl rfl ?_
        refine caload (q1 := 76) (i := 0) at_75 rfl (V) rfl (by decide) rfl ?_
        refine invokestatic (q1 := 79) at_76 rfl (ww hw 1 rfl) (ww hw 2 rfl) (ww hw 3 rfl) (ww hw 4 rfl) (by decide) pd0 (c_vof hw (own_le255 p4) S) rfl rfl rfl rfl all0 (fun v h76 q K76 => ?_)
        obtain ⟨rfl, t, XT, -, -, -⟩ := q
        refine astore (q1 := 81) at_79 rfl rfl rfl ?_
        simp only [List.set_cons_zero, List.set_cons_succ]
        refine goto (q := 95) at_81 ⟨by decide, rfl⟩ ?_
        refine more (k' := 5) (n' := 10) (by decide) (by decide) (wk (J := fun _ => True) (fun _ _ => trivial) ?_)
        exact fin _ _ _ _ _ hinv XT
    · refine new (q1 := 54) at_51 rfl (ww hw 89 rfl) (ww hw 11 rfl) (ww hw 3 rfl) (by decide) (by decide) (fun S51 h51 E51 X51 D51 U51 => ?_)
      refine dup (q1 := 55) at_54 rfl rfl ?_
      refine iconst (q1 := 56) (v := 0) at_55 rfl rfl ?_
      refine newarray (q1 := 58) (len := 0) (cap := 0) at_56 rfl (ww hw 0 rfl) rfl (by decide) (by decide) (by decide) (by decide) (fun S56 h56 E56 A56 => ?_)
      have ne : h45.size ≠ h51.size := Nat.ne_of_lt X51.lt
      refine invokespecialW (q1 := 61) at_58 rfl rfl (ww hw 90 rfl) (ww hw 91 rfl) (ww hw 3 rfl) (ww hw 92 rfl) (by decide) pd12 (c_si1e hw (cf := fun _ => 0) (X51.ext E56) ((D51 (Or.inr (ww hw 24 rfl)) (ty := .array .byte) (by decide)).ext E56) ((D51 (Or.inr (ww hw 26 rfl)) (ty := .byte) (by decide)).ext E56) A56 LO) rfl rfl rfl rfl (allS (Or.inr S51) all0) (stabIB) (fun v h58 q K58 => ?_)
      obtain ⟨rfl, t, XT, -, -, -⟩ := q
      refine astore (q1 := 63) at_61 rfl rfl rfl ?_
      simp only [List.set_cons_zero, List.set_cons_succ]
      refine goto (q := 95) at_63 ⟨by decide, rfl⟩ ?_
      exact fin _ _ _ _ _ hinv XT
  refine iload_n (q1 := 1) at_0 rfl rfl ?_
  refine iconst (q1 := 2) (v := 1) at_1 rfl rfl ?_
  refine iand (q1 := 3) at_2 rfl ?_
  refine if_eq (q1 := 6) (q := 10) at_3 rfl ⟨by decide, rfl⟩ (fun _ => ?_) (fun _ => ?_)
  · refine iconst (q1 := 11) (v := 0) at_10 rfl rfl ?_
    exact main 0 (Or.inl rfl)
  · refine iconst (q1 := 7) (v := 1) at_6 rfl rfl ?_
    refine goto (q := 11) at_7 ⟨by decide, rfl⟩ ?_
    exact main 1 (Or.inr rfl)
set_option maxRecDepth 65536 in
set_option maxHeartbeats 40000000 in
theorem comes_1 {Post : Tables → Env → Array Value → State → Outcome → State → Prop} (hpost : ∀ tb e args s v u, (limb_1_1.after args s (.returned v) u = true ∧ limb_1_2.after args s (.returned v) u = true ∧ True) → ReturnedEndW s (.returned v) u (Jvm.fieldLocs frame_1_writes args s ++ Jvm.arrayLocs frame_1_arrays args s ++ Jvm.staticLocs frame_1_statics s) 24 1152 → Post tb e args s (.returned v) u) :
    ArmFor flags0 classFile x code maxLocals ret World_1 tables_1 room_1 Calls_1 rest_1 Pre_1 Post := by
  intro l hfl _ _ p e ha hc hk s m args below hf hA hF happ hP
  obtain ⟨hcalls, hrest, hpre⟩ := hP
  obtain ⟨-, -, -, hnamed, -, -, -, hat⟩ := (Spec.applies_iff hf).mp happ
  obtain ⟨hg, hn⟩ := and_e (Cond.before_iff.mp (show (Jvm.Cond.and given_1 narrow_1).before args s = true from hpre))
  obtain ⟨g1, g2⟩ := and_e hg
  obtain ⟨g3, g4⟩ := and_e g2
  obtain ⟨g5, g6⟩ := and_e g4
  obtain ⟨g7, g8⟩ := and_e g6
  obtain ⟨g9, g10⟩ := and_e g8
  obtain ⟨w0, w1, w2, w3, w4, rfl⟩ : ∃ w0 w1 w2 w3 w4 : Value, args = #[w0, w1, w2, w3, w4] := by
    have hs : args.size = 5 := by simpa [Cond.value, given_1] using g1
    obtain ⟨L⟩ := args
    match L, hs with
    | [w0, w1, w2, w3, w4], _ => exact ⟨w0, w1, w2, w3, w4, rfl⟩
  have hw := fun d (hd : d ∈ tables_1) => atoms_spec (ws := Jvm.Cond.code x code maxLocals ret :: tables_1) hat d (List.mem_cons_of_mem _ hd)
  have hfit : Fit s := fun {y c} hc i hi => by
    obtain ⟨ha, rfl⟩ := Array.getElem?_eq_some_iff.mp hc
    have q := List.all_eq_true.mp ((Array.all_eq_true_iff_forall_mem.mp hF) _ (Array.getElem_mem ha)) i (List.mem_range.mpr hi)
    simpa [Array.getElem?_eq_getElem hi] using q
  obtain ⟨hsets, hown0⟩ := atoms_of _ (rest_1_c_eq ▸ (show rest_1_c.before _ s = true from hrest))
  obtain ⟨i0, ei0⟩ := is_v g3
  obtain rfl : w0 = (.int i0) := Option.some.inj ei0
  obtain ⟨i1, ei1⟩ := is_v g5
  obtain rfl : w1 = (.int i1) := Option.some.inj ei1
  obtain ⟨i2, ei2⟩ := is_v g7
  obtain rfl : w2 = (.int i2) := Option.some.inj ei2
  obtain ⟨i3, ei3⟩ := is_v g9
  obtain rfl : w3 = (.int i3) := Option.some.inj ei3
  obtain ⟨i4, ei4⟩ := is_v g10
  obtain rfl : w4 = (.int i4) := Option.some.inj ei4
  obtain ⟨z, ez⟩ := is_v (Cond.before_iff.mp (hsets _ (List.mem_of_getElem? (i := 1) rfl)))
  have S : Cmpct s z := ⟨Sta.start ez (Or.inl (hsets _ (List.mem_of_getElem? (i := 0) rfl))), gotF (Cond.eq_ints ez (Term.int_eval (0))) (not_v (Cond.before_iff.mp (hsets _ (List.mem_of_getElem? (i := 2) rfl))))⟩
  have LO : LitOk s _ := ⟨fun d hd => by
      simp only [Bundle.stringAtoms, List.mem_cons, List.not_mem_nil, or_false] at hd
      rcases hd with rfl | rfl | rfl | rfl | rfl | rfl | rfl
      · exact (ww hw 3 rfl)
      · exact (ww hw 11 rfl)
      · exact (ww hw 15 rfl)
      · exact (ww hw 24 rfl)
      · exact (ww hw 26 rfl)
      · exact (ww hw 107 rfl)
      · exact (ww hw 108 rfl), hcalls.1 ("java/lang/String", 7) (List.mem_singleton.mpr rfl), hsets _ (List.mem_of_getElem? (i := 2) rfl)⟩
  obtain ⟨n, o, h1, h2, h3, _, L, rfl, ⟨rfl, N, -⟩, hq⟩ := law (l := l) hw (p1 := i0) (p2 := i1) (p3 := i2) (p4 := i3) (p5 := i4) S LO (Old.start s) all0 tables_1 p e ha hc hk s m _ below hf ((Spec.applies_iff_loose hf).mp happ).1 ⟨rfl, State.Warmed39.refl s, rfl, IB.start⟩ trivial
  refine ⟨n, _, h1, h2, h3, hpost _ _ _ _ _ _ ⟨Cond.after_iff.mpr rfl, Cond.after_iff.mpr (eq_i res_at (Term.int_eval (1)) rfl), trivial⟩ ⟨hq.1, hq.2.1, hq.2.2.1, (hq.2.2.2.sift fun y hy => Or.inr ((N y hy).elim (fun q => nomatch q) id)).mono (by decide) (by decide)⟩⟩
theorem main_1_1 : Claimed_1_1 := comes_1 fun _ _ _ _ _ _ h hF => ⟨h.1, hF⟩
theorem main_1_2 : Claimed_1_2 := comes_1 fun _ _ _ _ _ _ h hF => ⟨h.2.1, hF⟩
end Jvm.Pilot.@@N@@
namespace Jvm.Pilot.@@N@@
open Jvm Jvm.ClassFile Sem Op Lib Jvm.Free Jvm.Stand Jvm.Pilot.@@N@@.Jvm.D
/-! MADE BY PROGRAM (witnessworld.py) out of the Statement's table words and the real class files: 22 classes; the members and pool entries that the words name. The judged class is class 1, her method 1. -/
namespace start1
open Jvm.ClassFile
def u (s : String) : CpInfo := .utf8 (stringToUtf16 s)
/-- a pool by its gaps: so many unusable entries, then the entry; so many at the end -/
def gap : Nat → List CpInfo → List CpInfo
  | 0, r => r
  | n + 1, r => .unusable :: gap n r
def poolList (es : List (Nat × CpInfo)) (last : Nat) : List CpInfo := es.foldr (fun e r => gap e.1 (e.2 :: r)) (gap last [])
def pool (es : List (Nat × CpInfo)) (last : Nat) : Array CpInfo := ⟨poolList es last⟩
def fileOf (pool : Array CpInfo) (this : Nat) (attrs : Array Attribute := #[]) (ms : Array MethodInfo := #[]) (fl : Nat := 33) (sup : Nat := 0) (ifs : Array Nat := #[]) (fds : Array FieldInfo := #[]) : ClassFile where
  minorVersion := 0
  majorVersion := 65
  constantPool := pool
  accessFlags := fl
  thisClass := this
  superClass := sup
  interfaces := ifs
  fields := fds
  methods := ms
  attributes := attrs
def plain (name : String) (sup : Option ClassId) : Class where
  name := name
  kind := .ordinary
  loader := none
  accessFlags := 33
  super := sup
  interfaces := #[]
  cf := none
  fields := #[]
  methods := #[]
  instanceTypes := #[]
  staticTypes := #[]
  resolved := #[]
  callSites := []
  init := .initialized
  statics := none
  mirror := none

def pool0 : Array CpInfo := pool [(5, u "<init>"), (0, u "()V"), (1, .class_ 10), (1, u "java/lang/Object")] 113

def k0c0 : Code := { maxStack := 0, maxLocals := 1, code := object_method_1_code, exceptionTable := #[], attributes := #[] }
def k0m0 : Method := { name := "<init>", desc := "()V", sig := { parameters := [], returnType := none }, accessFlags := 1, code := some k0c0 }
/-- java/lang/Object -/
def k0 : Class := { plain "java/lang/Object" none with
  accessFlags := 33
  interfaces := #[]
  cf := some (fileOf pool0 8 #[] #[{ accessFlags := 1, nameIndex := 5, descriptorIndex := 6, attributes := #[] }] 33 0 #[] #[])
  fields := #[]
  methods := #[k0m0]
  instanceTypes := #[]
  staticTypes := #[]
  resolved := Array.replicate 124 none
  statics := none }

def pool1 : Array CpInfo := pool [(2, .class_ 4), (1, u "java/lang/Object"), (0, u "<init>"), (0, u "()V"), (0, .class_ 8), (0, u "java/lang/String"), (0, .methodref 7 10), (0, .nameAndType 5 11), (0, u "([C)V"), (0, .methodref 7 13), (0, .nameAndType 14 15), (0, u "valueOf"), (0, u "(C)Ljava/lang/String;"), (0, .class_ 17), (0, u "com/example/reason_over_axioms/reasonoveraxioms/model/Role"), (0, .methodref 16 19), (0, .nameAndType 5 20), (0, u "(Ljava/lang/String;Z)V"), (0, .methodref 22 23), (0, .class_ 24), (0, .nameAndType 25 26), (0, u "com/example/reason_over_axioms/reasonoveraxioms/reasoning/Tableau$Link"), (0, u "of"), (0, u "(ILcom/example/reason_over_axioms/reasonoveraxioms/model/Role;I)Lcom/example/reason_over_axioms/reasonoveraxioms/reasoning/Tableau$Link;"), (0, .methodref 22 28), (0, .nameAndType 29 30), (0, u "subject"), (0, u "()I"), (0, .methodref 22 32), (0, .nameAndType 33 30), (0, u "object"), (0, .methodref 22 35), (0, .nameAndType 36 37), (0, u "property"), (0, u "()Ljava/lang/String;"), (0, .methodref 7 39), (0, .nameAndType 40 41), (0, u "equals"), (0, u "(Ljava/lang/Object;)Z"), (0, .class_ 43), (0, u "com/example/reason_over_axioms/reasonoveraxioms/reasoning/LinkOfPinLaw"), (2, u "law"), (0, u "(IIIII)Z")] 9

def k1m0 : Method := { name := "<init>", desc := "()V", sig := { parameters := [], returnType := none }, accessFlags := 2, code := none }
def k1c1 : Code := { maxStack := 4, maxLocals := 13, code := code, exceptionTable := #[], attributes := #[] }
def k1m1 : Method := { name := "law", desc := "(IIIII)Z", sig := { parameters := [.int, .int, .int, .int, .int], returnType := some .boolean }, accessFlags := 9, code := some k1c1 }
/-- com/example/reason_over_axioms/reasonoveraxioms/reasoning/LinkOfPinLaw -/
def k1 : Class := { plain "com/example/reason_over_axioms/reasonoveraxioms/reasoning/LinkOfPinLaw" (some 0) with
  accessFlags := 49
  interfaces := #[]
  cf := some (fileOf pool1 42 #[] #[{ accessFlags := 2, nameIndex := 5, descriptorIndex := 6, attributes := #[] }, { accessFlags := 9, nameIndex := 46, descriptorIndex := 47, attributes := #[] }] 49 2 #[] #[])
  fields := #[]
  methods := #[k1m0, k1m1]
  instanceTypes := #[]
  staticTypes := #[]
  resolved := Array.replicate 57 none
  statics := none }

def pool2 : Array CpInfo := pool [(1, .class_ 2), (0, u "java/io/Serializable"), (0, .class_ 4), (0, u "java/lang/Object")] 2

/-- java/io/Serializable -/
def k2 : Class := { plain "java/io/Serializable" (some 0) with
  accessFlags := 1537
  interfaces := #[]
  cf := some (fileOf pool2 1 #[] #[] 1537 3 #[] #[])
  fields := #[]
  methods := #[]
  instanceTypes := #[]
  staticTypes := #[]
  resolved := Array.replicate 7 none
  statics := none }

def pool3 : Array CpInfo := pool [(1, .class_ 2), (0, u "java/lang/Comparable"), (0, .class_ 4), (0, u "java/lang/Object")] 7

/-- java/lang/Comparable -/
def k3 : Class := { plain "java/lang/Comparable" (some 0) with
  accessFlags := 1537
  interfaces := #[]
  cf := some (fileOf pool3 1 #[] #[] 1537 3 #[] #[])
  fields := #[]
  methods := #[]
  instanceTypes := #[]
  staticTypes := #[]
  resolved := Array.replicate 12 none
  statics := none }

def pool4 : Array CpInfo := pool [(2, .class_ 4), (1, u "java/lang/CharSequence"), (42, .class_ 48), (0, u "java/lang/CharSequence$1CodePointIterator"), (10, .class_ 60), (0, u "java/lang/CharSequence$1CharIterator"), (5, .class_ 67), (0, u "java/lang/Object")] 63

/-- java/lang/CharSequence -/
def k4 : Class := { plain "java/lang/CharSequence" (some 0) with
  accessFlags := 1537
  interfaces := #[]
  cf := some (fileOf pool4 2 #[.nestMembers #[47, 59]] #[] 1537 66 #[] #[])
  fields := #[]
  methods := #[]
  instanceTypes := #[]
  staticTypes := #[]
  resolved := Array.replicate 131 none
  statics := none }

def pool5 : Array CpInfo := pool [(1, .class_ 2), (0, u "java/lang/constant/Constable"), (0, .class_ 4), (0, u "java/lang/Object")] 6

/-- java/lang/constant/Constable -/
def k5 : Class := { plain "java/lang/constant/Constable" (some 0) with
  accessFlags := 1537
  interfaces := #[]
  cf := some (fileOf pool5 1 #[] #[] 1537 3 #[] #[])
  fields := #[]
  methods := #[]
  instanceTypes := #[]
  staticTypes := #[]
  resolved := Array.replicate 11 none
  statics := none }

def pool6 : Array CpInfo := pool [(1, .class_ 2), (0, u "java/lang/constant/ConstantDesc"), (0, .class_ 4), (0, u "java/lang/Object")] 32

/-- java/lang/constant/ConstantDesc -/
def k6 : Class := { plain "java/lang/constant/ConstantDesc" (some 0) with
  accessFlags := 1537
  interfaces := #[]
  cf := some (fileOf pool6 1 #[] #[] 1537 3 #[] #[])
  fields := #[]
  methods := #[]
  instanceTypes := #[]
  staticTypes := #[]
  resolved := Array.replicate 37 none
  statics := none }

def pool7 : Array CpInfo := pool [(1, .methodref 2 3), (0, .class_ 4), (0, .nameAndType 5 6), (0, u "java/lang/Object"), (0, u "<init>"), (0, u "()V"), (0, .string 8), (0, u ""), (0, .fieldref 10 11), (0, .class_ 12), (0, .nameAndType 13 14), (0, u "java/lang/String"), (0, u "value"), (0, u "[B"), (0, .fieldref 10 16), (0, .nameAndType 17 18), (0, u "coder"), (0, u "B"), (2, u "hash"), (0, u "I"), (2, u "hashIsZero"), (0, u "Z"), (0, .methodref 10 28), (0, .nameAndType 5 29), (0, u "([CIILjava/lang/Void;)V"), (8, .fieldref 10 39), (0, .nameAndType 40 26), (0, u "COMPACT_STRINGS"), (1, .class_ 44), (1, u "java/lang/StringUTF16"), (0, u "compress"), (1, .methodref 42 48), (0, .nameAndType 49 50), (0, u "coderFromArrayLen"), (0, u "([BI)B"), (2, u "toBytes"), (53, .class_ 109), (1, u "java/lang/StringLatin1"), (67, .methodref 42 178), (0, .nameAndType 45 179), (0, u "([CII)[B"), (29, .methodref 10 210), (0, .nameAndType 5 211), (0, u "([BB)V"), (157, u "(C)Z"), (173, u "equals"), (29, u "(Ljava/lang/Object;)Z"), (1, .class_ 576), (0, u "java/lang/CharSequence"), (22, u "CASE_INSENSITIVE_ORDER"), (0, u "Ljava/util/Comparator;"), (181, u "valueOf"), (0, u "(C)Ljava/lang/String;"), (226, u "([C)V"), (4, .methodref 107 1016), (0, .nameAndType 1017 369), (0, u "canEncode"), (0, .methodref 107 1019), (0, .nameAndType 53 1020), (0, u "(C)[B"), (80, u "serialPersistentFields"), (0, u "[Ljava/io/ObjectStreamField;"), (0, .class_ 1104), (0, u "java/lang/String$CaseInsensitiveComparator"), (1, .class_ 1107), (0, u "java/io/Serializable"), (0, .class_ 1109), (0, u "java/lang/Comparable"), (0, .class_ 1111), (0, u "java/lang/constant/Constable"), (0, .class_ 1113), (0, u "java/lang/constant/ConstantDesc"), (2, u "serialVersionUID"), (0, u "J"), (3, u "REPL"), (0, u "C"), (2, u "LATIN1"), (1, u "UTF16")] 323

def k7m0 : Method := { name := "<init>", desc := "()V", sig := { parameters := [], returnType := none }, accessFlags := 1, code := none }
def k7c1 : Code := { maxStack := 5, maxLocals := 2, code := jdk_42_method_3_code, exceptionTable := #[], attributes := #[] }
def k7m1 : Method := { name := "<init>", desc := "([C)V", sig := { parameters := [(.array .char)], returnType := none }, accessFlags := 1, code := some k7c1 }
def k7c2 : Code := { maxStack := 2, maxLocals := 3, code := jdk_42_method_66_code, exceptionTable := #[], attributes := #[] }
def k7m2 : Method := { name := "equals", desc := "(Ljava/lang/Object;)Z", sig := { parameters := [(.object "java/lang/Object")], returnType := some .boolean }, accessFlags := 1, code := some k7c2 }
def k7c3 : Code := { maxStack := 4, maxLocals := 1, code := jdk_42_method_139_code, exceptionTable := #[], attributes := #[] }
def k7m3 : Method := { name := "valueOf", desc := "(C)Ljava/lang/String;", sig := { parameters := [.char], returnType := some (.object "java/lang/String") }, accessFlags := 9, code := some k7c3 }
def k7c4 : Code := { maxStack := 4, maxLocals := 6, code := jdk_42_method_149_code, exceptionTable := #[], attributes := #[] }
def k7m4 : Method := { name := "<init>", desc := "([CIILjava/lang/Void;)V", sig := { parameters := [(.array .char), .int, .int, (.object "java/lang/Void")], returnType := none }, accessFlags := 2, code := some k7c4 }
def k7c5 : Code := { maxStack := 2, maxLocals := 3, code := jdk_42_method_151_code, exceptionTable := #[], attributes := #[] }
def k7m5 : Method := { name := "<init>", desc := "([BB)V", sig := { parameters := [(.array .byte), .byte], returnType := none }, accessFlags := 0, code := some k7c5 }
/-- java/lang/String -/
def k7 : Class := { plain "java/lang/String" (some 0) with
  accessFlags := 49
  interfaces := #[2, 3, 4, 5, 6]
  cf := some (fileOf pool7 10 #[.nestMembers #[1103]] #[{ accessFlags := 1, nameIndex := 5, descriptorIndex := 6, attributes := #[] }, { accessFlags := 1, nameIndex := 5, descriptorIndex := 1010, attributes := #[] }, { accessFlags := 1, nameIndex := 543, descriptorIndex := 573, attributes := #[] }, { accessFlags := 9, nameIndex := 782, descriptorIndex := 783, attributes := #[] }, { accessFlags := 2, nameIndex := 5, descriptorIndex := 29, attributes := #[] }, { accessFlags := 0, nameIndex := 5, descriptorIndex := 211, attributes := #[] }] 49 2 #[1106, 1108, 575, 1110, 1112] #[{ accessFlags := 18, nameIndex := 13, descriptorIndex := 14, attributes := #[] }, { accessFlags := 18, nameIndex := 17, descriptorIndex := 18, attributes := #[] }, { accessFlags := 2, nameIndex := 21, descriptorIndex := 22, attributes := #[] }, { accessFlags := 2, nameIndex := 25, descriptorIndex := 26, attributes := #[] }, { accessFlags := 26, nameIndex := 1116, descriptorIndex := 1117, attributes := #[] }, { accessFlags := 24, nameIndex := 40, descriptorIndex := 26, attributes := #[] }, { accessFlags := 26, nameIndex := 1101, descriptorIndex := 1102, attributes := #[] }, { accessFlags := 26, nameIndex := 1121, descriptorIndex := 1122, attributes := #[] }, { accessFlags := 25, nameIndex := 599, descriptorIndex := 600, attributes := #[] }, { accessFlags := 24, nameIndex := 1125, descriptorIndex := 18, attributes := #[] }, { accessFlags := 24, nameIndex := 1127, descriptorIndex := 18, attributes := #[] }])
  fields := #[{ name := "value", type := (.array .byte), accessFlags := 18, slot := 0, constantValue := 0 }, { name := "coder", type := .byte, accessFlags := 18, slot := 1, constantValue := 0 }, { name := "hash", type := .int, accessFlags := 2, slot := 2, constantValue := 0 }, { name := "hashIsZero", type := .boolean, accessFlags := 2, slot := 3, constantValue := 0 }, { name := "serialVersionUID", type := .long, accessFlags := 26, slot := 0, constantValue := 0 }, { name := "COMPACT_STRINGS", type := .boolean, accessFlags := 24, slot := 1, constantValue := 0 }, { name := "serialPersistentFields", type := (.array (.object "java/io/ObjectStreamField")), accessFlags := 26, slot := 2, constantValue := 0 }, { name := "REPL", type := .char, accessFlags := 26, slot := 3, constantValue := 0 }, { name := "CASE_INSENSITIVE_ORDER", type := (.object "java/util/Comparator"), accessFlags := 25, slot := 4, constantValue := 0 }, { name := "LATIN1", type := .byte, accessFlags := 24, slot := 5, constantValue := 0 }, { name := "UTF16", type := .byte, accessFlags := 24, slot := 6, constantValue := 0 }]
  methods := #[k7m0, k7m1, k7m2, k7m3, k7m4, k7m5]
  instanceTypes := #[(.array .byte), .byte, .int, .boolean]
  staticTypes := #[.long, .boolean, (.array (.object "java/io/ObjectStreamField")), .char, (.object "java/util/Comparator"), .byte, .byte]
  resolved := Array.replicate 1451 none
  statics := some 0 }

def pool8 : Array CpInfo := pool [(4, .class_ 6), (1, u "java/lang/Object"), (0, u "<init>"), (0, u "()V"), (5, .class_ 16), (1, u "java/lang/StringLatin1"), (73, u "canEncode"), (14, u "(C)Z"), (15, u "$assertionsDisabled"), (0, u "Z"), (98, .class_ 223), (1, u "java/lang/StringLatin1$LinesSpliterator"), (156, u "toBytes"), (1, u "(C)[B"), (7, .class_ 391), (0, u "java/lang/StringLatin1$CharsSpliterator")] 3

def k8m0 : Method := { name := "<init>", desc := "()V", sig := { parameters := [], returnType := none }, accessFlags := 0, code := none }
def k8c1 : Code := { maxStack := 2, maxLocals := 1, code := jdk_43_method_3_code, exceptionTable := #[], attributes := #[] }
def k8m1 : Method := { name := "canEncode", desc := "(C)Z", sig := { parameters := [.char], returnType := some .boolean }, accessFlags := 9, code := some k8c1 }
def k8c2 : Code := { maxStack := 4, maxLocals := 1, code := jdk_43_method_46_code, exceptionTable := #[], attributes := #[] }
def k8m2 : Method := { name := "toBytes", desc := "(C)[B", sig := { parameters := [.char], returnType := some (.array .byte) }, accessFlags := 9, code := some k8c2 }
/-- java/lang/StringLatin1 -/
def k8 : Class := { plain "java/lang/StringLatin1" (some 0) with
  accessFlags := 48
  interfaces := #[]
  cf := some (fileOf pool8 14 #[.nestMembers #[390, 221]] #[{ accessFlags := 0, nameIndex := 7, descriptorIndex := 8, attributes := #[] }, { accessFlags := 9, nameIndex := 90, descriptorIndex := 105, attributes := #[] }, { accessFlags := 9, nameIndex := 380, descriptorIndex := 382, attributes := #[] }] 48 4 #[] #[{ accessFlags := 4120, nameIndex := 121, descriptorIndex := 122, attributes := #[] }])
  fields := #[{ name := "$assertionsDisabled", type := .boolean, accessFlags := 4120, slot := 0, constantValue := 0 }]
  methods := #[k8m0, k8m1, k8m2]
  instanceTypes := #[]
  staticTypes := #[.boolean]
  resolved := Array.replicate 395 none
  statics := none }

def pool9 : Array CpInfo := pool [(1, .methodref 2 3), (0, .class_ 4), (0, .nameAndType 5 6), (0, u "java/lang/Object"), (0, u "<init>"), (0, u "()V"), (0, .class_ 8), (0, u "java/lang/Record")] 13

def k9c0 : Code := { maxStack := 1, maxLocals := 1, code := jdk_30_method_1_code, exceptionTable := #[], attributes := #[] }
def k9m0 : Method := { name := "<init>", desc := "()V", sig := { parameters := [], returnType := none }, accessFlags := 4, code := some k9c0 }
/-- java/lang/Record -/
def k9 : Class := { plain "java/lang/Record" (some 0) with
  accessFlags := 1057
  interfaces := #[]
  cf := some (fileOf pool9 7 #[] #[{ accessFlags := 4, nameIndex := 5, descriptorIndex := 6, attributes := #[] }] 1057 2 #[] #[])
  fields := #[]
  methods := #[k9m0]
  instanceTypes := #[]
  staticTypes := #[]
  resolved := Array.replicate 22 none
  statics := none }

def pool10 : Array CpInfo := pool [(1, .methodref 2 3), (0, .class_ 4), (0, .nameAndType 5 6), (0, u "java/lang/Record"), (0, u "<init>"), (0, u "()V"), (0, .fieldref 8 9), (0, .class_ 10), (0, .nameAndType 11 12), (0, u "com/example/reason_over_axioms/reasonoveraxioms/model/Role"), (0, u "name"), (0, u "Ljava/lang/String;"), (0, .fieldref 8 14), (0, .nameAndType 15 16), (0, u "inverted"), (0, u "Z"), (2, u "(Ljava/lang/String;Z)V"), (21, u "()Ljava/lang/String;"), (2, u "()Z")] 21

def k10c0 : Code := { maxStack := 2, maxLocals := 3, code := prog_13_method_2_code, exceptionTable := #[], attributes := #[] }
def k10m0 : Method := { name := "<init>", desc := "(Ljava/lang/String;Z)V", sig := { parameters := [(.object "java/lang/String"), .boolean], returnType := none }, accessFlags := 1, code := some k10c0 }
def k10c1 : Code := { maxStack := 1, maxLocals := 1, code := prog_13_method_7_code, exceptionTable := #[], attributes := #[] }
def k10m1 : Method := { name := "name", desc := "()Ljava/lang/String;", sig := { parameters := [], returnType := some (.object "java/lang/String") }, accessFlags := 1, code := some k10c1 }
def k10c2 : Code := { maxStack := 1, maxLocals := 1, code := prog_13_method_8_code, exceptionTable := #[], attributes := #[] }
def k10m2 : Method := { name := "inverted", desc := "()Z", sig := { parameters := [], returnType := some .boolean }, accessFlags := 1, code := some k10c2 }
/-- com/example/reason_over_axioms/reasonoveraxioms/model/Role -/
def k10 : Class := { plain "com/example/reason_over_axioms/reasonoveraxioms/model/Role" (some 9) with
  accessFlags := 49
  interfaces := #[]
  cf := some (fileOf pool10 8 #[] #[{ accessFlags := 1, nameIndex := 5, descriptorIndex := 19, attributes := #[] }, { accessFlags := 1, nameIndex := 11, descriptorIndex := 41, attributes := #[] }, { accessFlags := 1, nameIndex := 15, descriptorIndex := 44, attributes := #[] }] 49 2 #[] #[{ accessFlags := 18, nameIndex := 11, descriptorIndex := 12, attributes := #[] }, { accessFlags := 18, nameIndex := 15, descriptorIndex := 16, attributes := #[] }])
  fields := #[{ name := "name", type := (.object "java/lang/String"), accessFlags := 18, slot := 0, constantValue := 0 }, { name := "inverted", type := .boolean, accessFlags := 18, slot := 1, constantValue := 0 }]
  methods := #[k10m0, k10m1, k10m2]
  instanceTypes := #[(.object "java/lang/String"), .boolean]
  staticTypes := #[]
  resolved := Array.replicate 66 none
  statics := none }

def pool11 : Array CpInfo := pool [(1, .methodref 2 3), (0, .class_ 4), (0, .nameAndType 5 6), (0, u "java/lang/Record"), (0, u "<init>"), (0, u "()V"), (0, .fieldref 8 9), (0, .class_ 10), (0, .nameAndType 11 12), (0, u "com/example/reason_over_axioms/reasonoveraxioms/reasoning/Tableau$Link"), (0, u "subject"), (0, u "I"), (0, .fieldref 8 14), (0, .nameAndType 15 16), (0, u "property"), (0, u "Ljava/lang/String;"), (0, .fieldref 8 18), (0, .nameAndType 19 12), (0, u "object"), (0, .methodref 21 22), (0, .class_ 23), (0, .nameAndType 24 25), (0, u "com/example/reason_over_axioms/reasonoveraxioms/model/Role"), (0, u "inverted"), (0, u "()Z"), (0, .methodref 21 27), (0, .nameAndType 28 29), (0, u "name"), (0, u "()Ljava/lang/String;"), (0, .methodref 8 31), (0, .nameAndType 5 32), (0, u "(ILjava/lang/String;I)V"), (15, u "of"), (0, u "(ILcom/example/reason_over_axioms/reasonoveraxioms/model/Role;I)Lcom/example/reason_over_axioms/reasonoveraxioms/reasoning/Tableau$Link;"), (1, u "()I"), (4, .class_ 57), (0, u "com/example/reason_over_axioms/reasonoveraxioms/reasoning/Tableau")] 21

def k11c0 : Code := { maxStack := 2, maxLocals := 4, code := prog_35_method_1_code, exceptionTable := #[], attributes := #[] }
def k11m0 : Method := { name := "<init>", desc := "(ILjava/lang/String;I)V", sig := { parameters := [.int, (.object "java/lang/String"), .int], returnType := none }, accessFlags := 0, code := some k11c0 }
def k11c1 : Code := { maxStack := 5, maxLocals := 3, code := prog_35_method_2_code, exceptionTable := #[], attributes := #[] }
def k11m1 : Method := { name := "of", desc := "(ILcom/example/reason_over_axioms/reasonoveraxioms/model/Role;I)Lcom/example/reason_over_axioms/reasonoveraxioms/reasoning/Tableau$Link;", sig := { parameters := [.int, (.object "com/example/reason_over_axioms/reasonoveraxioms/model/Role"), .int], returnType := some (.object "com/example/reason_over_axioms/reasonoveraxioms/reasoning/Tableau$Link") }, accessFlags := 8, code := some k11c1 }
def k11c2 : Code := { maxStack := 1, maxLocals := 1, code := prog_35_method_6_code, exceptionTable := #[], attributes := #[] }
def k11m2 : Method := { name := "subject", desc := "()I", sig := { parameters := [], returnType := some .int }, accessFlags := 1, code := some k11c2 }
def k11c3 : Code := { maxStack := 1, maxLocals := 1, code := prog_35_method_7_code, exceptionTable := #[], attributes := #[] }
def k11m3 : Method := { name := "property", desc := "()Ljava/lang/String;", sig := { parameters := [], returnType := some (.object "java/lang/String") }, accessFlags := 1, code := some k11c3 }
def k11c4 : Code := { maxStack := 1, maxLocals := 1, code := prog_35_method_8_code, exceptionTable := #[], attributes := #[] }
def k11m4 : Method := { name := "object", desc := "()I", sig := { parameters := [], returnType := some .int }, accessFlags := 1, code := some k11c4 }
/-- com/example/reason_over_axioms/reasonoveraxioms/reasoning/Tableau$Link -/
def k11 : Class := { plain "com/example/reason_over_axioms/reasonoveraxioms/reasoning/Tableau$Link" (some 9) with
  accessFlags := 48
  interfaces := #[]
  cf := some (fileOf pool11 8 #[.nestHost 56] #[{ accessFlags := 0, nameIndex := 5, descriptorIndex := 32, attributes := #[] }, { accessFlags := 8, nameIndex := 48, descriptorIndex := 49, attributes := #[] }, { accessFlags := 1, nameIndex := 11, descriptorIndex := 51, attributes := #[] }, { accessFlags := 1, nameIndex := 15, descriptorIndex := 29, attributes := #[] }, { accessFlags := 1, nameIndex := 19, descriptorIndex := 51, attributes := #[] }] 48 2 #[] #[{ accessFlags := 18, nameIndex := 11, descriptorIndex := 12, attributes := #[] }, { accessFlags := 18, nameIndex := 15, descriptorIndex := 16, attributes := #[] }, { accessFlags := 18, nameIndex := 19, descriptorIndex := 12, attributes := #[] }])
  fields := #[{ name := "subject", type := .int, accessFlags := 18, slot := 0, constantValue := 0 }, { name := "property", type := (.object "java/lang/String"), accessFlags := 18, slot := 1, constantValue := 0 }, { name := "object", type := .int, accessFlags := 18, slot := 2, constantValue := 0 }]
  methods := #[k11m0, k11m1, k11m2, k11m3, k11m4]
  instanceTypes := #[.int, (.object "java/lang/String"), .int]
  staticTypes := #[]
  resolved := Array.replicate 79 none
  statics := none }

def pool12 : Array CpInfo := pool [(6, .class_ 8), (1, u "java/lang/Object"), (0, u "<init>"), (0, u "()V"), (1, .class_ 14), (1, u "java/lang/StringUTF16"), (31, u "$assertionsDisabled"), (0, u "Z"), (13, u "HI_BYTE_SHIFT"), (0, u "I"), (2, u "LO_BYTE_SHIFT"), (49, .methodref 12 116), (0, .nameAndType 117 118), (0, u "compress"), (0, u "([CI[BII)I"), (3, u "([CII)[B"), (138, u "coderFromArrayLen"), (0, u "([BI)B"), (106, .class_ 371), (1, u "java/lang/StringUTF16$LinesSpliterator"), (58, u "MAX_LENGTH"), (196, .class_ 628), (0, u "java/lang/StringUTF16$CodePointsSpliterator"), (0, .class_ 630), (0, u "java/lang/StringUTF16$CharsSpliterator")] 4

def k12m0 : Method := { name := "<init>", desc := "()V", sig := { parameters := [], returnType := none }, accessFlags := 0, code := none }
def k12c1 : Code := { maxStack := 2, maxLocals := 2, code := jdk_52_method_15_code, exceptionTable := #[], attributes := #[] }
def k12m1 : Method := { name := "coderFromArrayLen", desc := "([BI)B", sig := { parameters := [(.array .byte), .int], returnType := some .byte }, accessFlags := 8, code := some k12c1 }
def k12c2 : Code := { maxStack := 5, maxLocals := 6, code := jdk_52_method_16_code, exceptionTable := #[], attributes := #[] }
def k12m2 : Method := { name := "compress", desc := "([CII)[B", sig := { parameters := [(.array .char), .int, .int], returnType := some (.array .byte) }, accessFlags := 9, code := some k12c2 }
def k12c3 : Code := { maxStack := 3, maxLocals := 7, code := jdk_52_method_21_code, exceptionTable := #[], attributes := #[] }
def k12m3 : Method := { name := "compress", desc := "([CI[BII)I", sig := { parameters := [(.array .char), .int, (.array .byte), .int, .int], returnType := some .int }, accessFlags := 9, code := some k12c3 }
/-- java/lang/StringUTF16 -/
def k12 : Class := { plain "java/lang/StringUTF16" (some 0) with
  accessFlags := 48
  interfaces := #[]
  cf := some (fileOf pool12 12 #[.nestMembers #[627, 629, 369]] #[{ accessFlags := 0, nameIndex := 9, descriptorIndex := 10, attributes := #[] }, { accessFlags := 8, nameIndex := 261, descriptorIndex := 262, attributes := #[] }, { accessFlags := 9, nameIndex := 117, descriptorIndex := 122, attributes := #[] }, { accessFlags := 9, nameIndex := 117, descriptorIndex := 118, attributes := #[] }] 48 6 #[] #[{ accessFlags := 26, nameIndex := 61, descriptorIndex := 62, attributes := #[] }, { accessFlags := 26, nameIndex := 65, descriptorIndex := 62, attributes := #[] }, { accessFlags := 24, nameIndex := 430, descriptorIndex := 62, attributes := #[] }, { accessFlags := 4120, nameIndex := 46, descriptorIndex := 47, attributes := #[] }])
  fields := #[{ name := "HI_BYTE_SHIFT", type := .int, accessFlags := 26, slot := 0, constantValue := 0 }, { name := "LO_BYTE_SHIFT", type := .int, accessFlags := 26, slot := 1, constantValue := 0 }, { name := "MAX_LENGTH", type := .int, accessFlags := 24, slot := 2, constantValue := 0 }, { name := "$assertionsDisabled", type := .boolean, accessFlags := 4120, slot := 3, constantValue := 0 }]
  methods := #[k12m0, k12m1, k12m2, k12m3]
  instanceTypes := #[]
  staticTypes := #[.int, .int, .int, .boolean]
  resolved := Array.replicate 635 none
  statics := none }

def pool13 : Array CpInfo := pool [(2, .class_ 4), (1, u "java/lang/Object"), (0, u "<init>"), (0, u "()V"), (17, .class_ 26), (1, u "jdk/internal/util/Preconditions"), (28, .class_ 56), (0, u "jdk/internal/util/Preconditions$4"), (57, .class_ 115), (0, u "jdk/internal/util/Preconditions$1"), (7, u "SIOOBE_FORMATTER"), (0, u "Ljava/util/function/BiFunction;"), (0, .class_ 126), (0, u "jdk/internal/util/Preconditions$2"), (3, u "AIOOBE_FORMATTER"), (0, .class_ 132), (0, u "jdk/internal/util/Preconditions$3"), (3, u "IOOBE_FORMATTER")] 57

def k13m0 : Method := { name := "<init>", desc := "()V", sig := { parameters := [], returnType := none }, accessFlags := 1, code := none }
/-- jdk/internal/util/Preconditions -/
def k13 : Class := { plain "jdk/internal/util/Preconditions" (some 0) with
  accessFlags := 33
  interfaces := #[]
  cf := some (fileOf pool13 24 #[.nestMembers #[55, 131, 125, 114]] #[{ accessFlags := 1, nameIndex := 5, descriptorIndex := 6, attributes := #[] }] 33 2 #[] #[{ accessFlags := 25, nameIndex := 123, descriptorIndex := 124, attributes := #[] }, { accessFlags := 25, nameIndex := 130, descriptorIndex := 124, attributes := #[] }, { accessFlags := 25, nameIndex := 136, descriptorIndex := 124, attributes := #[] }])
  fields := #[{ name := "SIOOBE_FORMATTER", type := (.object "java/util/function/BiFunction"), accessFlags := 25, slot := 0, constantValue := 0 }, { name := "AIOOBE_FORMATTER", type := (.object "java/util/function/BiFunction"), accessFlags := 25, slot := 1, constantValue := 0 }, { name := "IOOBE_FORMATTER", type := (.object "java/util/function/BiFunction"), accessFlags := 25, slot := 2, constantValue := 0 }]
  methods := #[k13m0]
  instanceTypes := #[]
  staticTypes := #[(.object "java/util/function/BiFunction"), (.object "java/util/function/BiFunction"), (.object "java/util/function/BiFunction")]
  resolved := Array.replicate 194 none
  statics := some 1 }

def pool14 : Array CpInfo := pool [(9, u "<init>"), (6, .class_ 18), (1, u "java/lang/Object"), (0, u "()V"), (1, .class_ 23), (1, u "jdk/internal/util/ArraysSupport"), (0, u "LOG2_ARRAY_LONG_INDEX_SCALE"), (0, u "I"), (2, u "U"), (0, u "Ljdk/internal/misc/Unsafe;"), (8, u "BIG_ENDIAN"), (0, u "Z"), (8, u "LOG2_BYTE_BIT_SIZE"), (4, u "LOG2_ARRAY_INT_INDEX_SCALE"), (54, u "JLA"), (0, u "Ljdk/internal/access/JavaLangAccess;"), (11, u "LOG2_ARRAY_BOOLEAN_INDEX_SCALE"), (9, u "LOG2_ARRAY_BYTE_INDEX_SCALE"), (5, u "LOG2_ARRAY_CHAR_INDEX_SCALE"), (5, u "LOG2_ARRAY_SHORT_INDEX_SCALE"), (18, u "LOG2_ARRAY_FLOAT_INDEX_SCALE"), (24, u "LOG2_ARRAY_DOUBLE_INDEX_SCALE"), (89, u "T_BOOLEAN"), (2, u "T_CHAR"), (1, u "T_FLOAT"), (1, u "T_DOUBLE"), (1, u "T_BYTE"), (1, u "T_SHORT"), (1, u "T_INT"), (1, u "T_LONG"), (1, u "SOFT_MAX_ARRAY_LENGTH")] 83

def k14m0 : Method := { name := "<init>", desc := "()V", sig := { parameters := [], returnType := none }, accessFlags := 2, code := none }
/-- jdk/internal/util/ArraysSupport -/
def k14 : Class := { plain "jdk/internal/util/ArraysSupport" (some 0) with
  accessFlags := 33
  interfaces := #[]
  cf := some (fileOf pool14 21 #[] #[{ accessFlags := 2, nameIndex := 9, descriptorIndex := 19, attributes := #[] }] 33 16 #[] #[{ accessFlags := 24, nameIndex := 28, descriptorIndex := 29, attributes := #[] }, { accessFlags := 26, nameIndex := 38, descriptorIndex := 39, attributes := #[] }, { accessFlags := 25, nameIndex := 121, descriptorIndex := 25, attributes := #[] }, { accessFlags := 25, nameIndex := 131, descriptorIndex := 25, attributes := #[] }, { accessFlags := 25, nameIndex := 137, descriptorIndex := 25, attributes := #[] }, { accessFlags := 25, nameIndex := 143, descriptorIndex := 25, attributes := #[] }, { accessFlags := 25, nameIndex := 53, descriptorIndex := 25, attributes := #[] }, { accessFlags := 25, nameIndex := 24, descriptorIndex := 25, attributes := #[] }, { accessFlags := 25, nameIndex := 162, descriptorIndex := 25, attributes := #[] }, { accessFlags := 25, nameIndex := 187, descriptorIndex := 25, attributes := #[] }, { accessFlags := 26, nameIndex := 48, descriptorIndex := 25, attributes := #[] }, { accessFlags := 25, nameIndex := 277, descriptorIndex := 25, attributes := #[] }, { accessFlags := 25, nameIndex := 280, descriptorIndex := 25, attributes := #[] }, { accessFlags := 25, nameIndex := 282, descriptorIndex := 25, attributes := #[] }, { accessFlags := 25, nameIndex := 284, descriptorIndex := 25, attributes := #[] }, { accessFlags := 25, nameIndex := 286, descriptorIndex := 25, attributes := #[] }, { accessFlags := 25, nameIndex := 288, descriptorIndex := 25, attributes := #[] }, { accessFlags := 25, nameIndex := 290, descriptorIndex := 25, attributes := #[] }, { accessFlags := 25, nameIndex := 292, descriptorIndex := 25, attributes := #[] }, { accessFlags := 26, nameIndex := 108, descriptorIndex := 109, attributes := #[] }, { accessFlags := 25, nameIndex := 294, descriptorIndex := 25, attributes := #[] }])
  fields := #[{ name := "U", type := (.object "jdk/internal/misc/Unsafe"), accessFlags := 24, slot := 0, constantValue := 0 }, { name := "BIG_ENDIAN", type := .boolean, accessFlags := 26, slot := 1, constantValue := 0 }, { name := "LOG2_ARRAY_BOOLEAN_INDEX_SCALE", type := .int, accessFlags := 25, slot := 2, constantValue := 0 }, { name := "LOG2_ARRAY_BYTE_INDEX_SCALE", type := .int, accessFlags := 25, slot := 3, constantValue := 0 }, { name := "LOG2_ARRAY_CHAR_INDEX_SCALE", type := .int, accessFlags := 25, slot := 4, constantValue := 0 }, { name := "LOG2_ARRAY_SHORT_INDEX_SCALE", type := .int, accessFlags := 25, slot := 5, constantValue := 0 }, { name := "LOG2_ARRAY_INT_INDEX_SCALE", type := .int, accessFlags := 25, slot := 6, constantValue := 0 }, { name := "LOG2_ARRAY_LONG_INDEX_SCALE", type := .int, accessFlags := 25, slot := 7, constantValue := 0 }, { name := "LOG2_ARRAY_FLOAT_INDEX_SCALE", type := .int, accessFlags := 25, slot := 8, constantValue := 0 }, { name := "LOG2_ARRAY_DOUBLE_INDEX_SCALE", type := .int, accessFlags := 25, slot := 9, constantValue := 0 }, { name := "LOG2_BYTE_BIT_SIZE", type := .int, accessFlags := 26, slot := 10, constantValue := 0 }, { name := "T_BOOLEAN", type := .int, accessFlags := 25, slot := 11, constantValue := 0 }, { name := "T_CHAR", type := .int, accessFlags := 25, slot := 12, constantValue := 0 }, { name := "T_FLOAT", type := .int, accessFlags := 25, slot := 13, constantValue := 0 }, { name := "T_DOUBLE", type := .int, accessFlags := 25, slot := 14, constantValue := 0 }, { name := "T_BYTE", type := .int, accessFlags := 25, slot := 15, constantValue := 0 }, { name := "T_SHORT", type := .int, accessFlags := 25, slot := 16, constantValue := 0 }, { name := "T_INT", type := .int, accessFlags := 25, slot := 17, constantValue := 0 }, { name := "T_LONG", type := .int, accessFlags := 25, slot := 18, constantValue := 0 }, { name := "JLA", type := (.object "jdk/internal/access/JavaLangAccess"), accessFlags := 26, slot := 19, constantValue := 0 }, { name := "SOFT_MAX_ARRAY_LENGTH", type := .int, accessFlags := 25, slot := 20, constantValue := 0 }]
  methods := #[k14m0]
  instanceTypes := #[]
  staticTypes := #[(.object "jdk/internal/misc/Unsafe"), .boolean, .int, .int, .int, .int, .int, .int, .int, .int, .int, .int, .int, .int, .int, .int, .int, .int, .int, (.object "jdk/internal/access/JavaLangAccess"), .int]
  resolved := Array.replicate 378 none
  statics := none }

def pool15 : Array CpInfo := pool [(1, u "java/lang/Cloneable"), (0, .class_ 1), (0, u "java/lang/Object"), (0, .class_ 3)] 3

/-- java/lang/Cloneable -/
def k15 : Class := { plain "java/lang/Cloneable" (some 0) with
  accessFlags := 1537
  interfaces := #[]
  cf := some (fileOf pool15 2 #[] #[] 1537 4 #[] #[])
  fields := #[]
  methods := #[]
  instanceTypes := #[]
  staticTypes := #[]
  resolved := Array.replicate 8 none
  statics := none }

/-- the primitive byte -/
def k16 : Class := { plain "byte" none with kind := .primitive 'B', accessFlags := 0x411 }
/-- [B -/
def k17 : Class := { plain "[B" (some 0) with kind := .array 16 .byte, interfaces := #[15, 2], accessFlags := 1041 }

/-- the primitive char -/
def k18 : Class := { plain "char" none with kind := .primitive 'C', accessFlags := 0x411 }
/-- [C -/
def k19 : Class := { plain "[C" (some 0) with kind := .array 18 .char, interfaces := #[15, 2], accessFlags := 1041 }

/-- the primitive int -/
def k20 : Class := { plain "int" none with kind := .primitive 'I', accessFlags := 0x411 }
/-- [I -/
def k21 : Class := { plain "[I" (some 0) with kind := .array 20 .int, interfaces := #[15, 2], accessFlags := 1041 }

def heap : Heap := #[{ cls := 7, slots := #[.long 0, .int 1, .null, .int 0, .null, .int 0, .int 0], vm := .statics 7 },
  { cls := 13, slots := #[.null, .null, .null], vm := .statics 13 }]
def classes : Array Class := #[k0, k1, k2, k3, k4, k5, k6, k7, k8, k9, k10, k11, k12, k13, k14, k15, k16, k17, k18, k19, k20, k21]
def interned : List (Array UInt16 × Addr) := []
def slotsUsed : Nat := 10
def theMethod : MethodId := ⟨1, 1⟩
def args0 : Array Value := #[.int 5, .int 5, .int 5, .int 5, .int 5]
def aboutOver (below : List Frame) : State where
  vm := { classes := classes, interned := interned.toArray }
  heap := heap
  slotsUsed := slotsUsed
  threads := #[{ frames := .invoking theMethod args0 :: below }]
def below0 : List Frame := [.native { method := ⟨0, 0⟩, args := #[] }]
def about1 : State := aboutOver below0
def p0 : Program := .bare "" "" ""
def e0 : Env := launch0.env 0 0 0
theorem w_frames : about1.frames = Frame.invoking theMethod args0 :: below0 := rfl
set_option maxRecDepth 65536 in
theorem w_args : argsFit about1.vm theMethod args0 = true := by decide +kernel
set_option maxRecDepth 65536 in
theorem w_heap : heapFits about1 = true := by decide +kernel
set_option maxRecDepth 65536 in
theorem w_runnable : about1.curStatus? = some .runnable := by decide +kernel
set_option maxRecDepth 65536 in
theorem w_alone : about1.alone = true := by decide +kernel
set_option maxRecDepth 65536 in
theorem w_named : about1.methodNamed? x = some theMethod := by decide +kernel
set_option maxRecDepth 65536 in
theorem w_hears : about1.hears theMethod below0 = true := by decide +kernel
set_option maxRecDepth 65536 in
theorem w_ripe : about1.ripe theMethod args0 below0 = true := by decide +kernel
theorem w_running : about1.status = .running := rfl
set_option maxRecDepth 65536 in
theorem w_room : about1.hasRoom e0.platform room_1 = true :=
  launch0.hasRoom_least _ room_1 (by decide +kernel) (by decide +kernel) (by decide +kernel) (by decide +kernel) (by decide +kernel) (by decide +kernel)
theorem allAtoms_all (ts : List Jvm.Cond) (a : Array Jvm.Value) (st : Jvm.State) : (allAtoms ts).before a st = ts.all (fun c => c.before a st) := by
  induction ts with
  | nil => rfl
  | cons c t ih =>
    show (Jvm.Cond.and c (allAtoms t)).before a st = _
    rw [Jvm.Cond.before_and, ih, List.all_cons]
def words1 : List Jvm.Cond := Jvm.Cond.code x code maxLocals ret :: tables_1
/-- a 'code' word, met by the world's own term for the bytes: nothing is compared byte by byte -/
theorem code_word {y : MethodName} {bytes : ByteArray} {mx : Nat} {rt : Option FieldType} {a : Array Value} {s : State} {m : MethodId} {meth : Method} {c : Code} (h1 : s.methodNamed? y = some m) (h2 : s.vm.method? m = some meth) (h3 : meth.code = some c) (h4 : c.code = bytes)
    (h5 : (c.maxLocals == mx && c.exceptionTable.isEmpty && decide (c.maxStack ≤ mostOperands) && decide (meth.sig.returnType = rt) && !meth.locks && decide (parseMethodDescriptor y.desc = some meth.sig)) = true) : (Jvm.Cond.code y bytes mx rt).before a s = true := by
  simp only [Bool.and_eq_true, beq_iff_eq, Bool.not_eq_true', decide_eq_true_eq] at h5
  obtain ⟨⟨⟨⟨⟨g1, g2⟩, g3⟩, g4⟩, g5⟩, g6⟩ := h5
  simp [Cond.before, Cond.holds, Cond.value, h1, h2, h3, h4, g1, g2, g3, g4, g5, g6]
def isCode : Jvm.Cond → Bool
  | .code _ _ _ _ => true
  | _ => false
theorem all_split {L : List Jvm.Cond} {P : Jvm.Cond → Bool} (h1 : L.all (fun c => isCode c || P c) = true) (h2 : ∀ c ∈ L.filter isCode, P c = true) : L.all P = true := by
  refine List.all_eq_true.mpr fun c hc => ?_
  have h := List.all_eq_true.mp h1 c hc
  rcases Bool.eq_false_or_eq_true (isCode c) with hi | hi
  · exact h2 c (List.mem_filter.mpr ⟨hc, hi⟩)
  · simpa [hi] using h
set_option maxRecDepth 65536 in
theorem w_c0 : (Jvm.Cond.code x code maxLocals ret).before args0 about1 = true := code_word (m := ⟨1, 1⟩) (meth := k1m1) (c := k1c1) (by decide +kernel) rfl rfl rfl (by decide +kernel)
set_option maxRecDepth 65536 in
theorem w_c1 : (Jvm.Cond.code ({ cls := "java/lang/String", name := "valueOf", desc := "(C)Ljava/lang/String;" } : Jvm.MethodName) jdk_42_method_139_code (1 : Nat) (Option.some (Jvm.ClassFile.FieldType.object "java/lang/String"))).before args0 about1 = true := code_word (m := ⟨7, 3⟩) (meth := k7m3) (c := k7c3) (by decide +kernel) rfl rfl rfl (by decide +kernel)
set_option maxRecDepth 65536 in
theorem w_c2 : (Jvm.Cond.code ({ cls := "java/lang/StringLatin1", name := "canEncode", desc := "(C)Z" } : Jvm.MethodName) jdk_43_method_3_code (1 : Nat) (Option.some Jvm.ClassFile.FieldType.boolean)).before args0 about1 = true := code_word (m := ⟨8, 1⟩) (meth := k8m1) (c := k8c1) (by decide +kernel) rfl rfl rfl (by decide +kernel)
set_option maxRecDepth 65536 in
theorem w_c3 : (Jvm.Cond.code ({ cls := "java/lang/StringLatin1", name := "toBytes", desc := "(C)[B" } : Jvm.MethodName) jdk_43_method_46_code (1 : Nat) (Option.some (Jvm.ClassFile.FieldType.array Jvm.ClassFile.FieldType.byte))).before args0 about1 = true := code_word (m := ⟨8, 2⟩) (meth := k8m2) (c := k8c2) (by decide +kernel) rfl rfl rfl (by decide +kernel)
set_option maxRecDepth 65536 in
theorem w_c4 : (Jvm.Cond.code ({ cls := "java/lang/String", name := "<init>", desc := "([BB)V" } : Jvm.MethodName) jdk_42_method_151_code (3 : Nat) (Option.none : Option Jvm.ClassFile.FieldType)).before args0 about1 = true := code_word (m := ⟨7, 5⟩) (meth := k7m5) (c := k7c5) (by decide +kernel) rfl rfl rfl (by decide +kernel)
set_option maxRecDepth 65536 in
theorem w_c5 : (Jvm.Cond.code ({ cls := "java/lang/Object", name := "<init>", desc := "()V" } : Jvm.MethodName) object_method_1_code (1 : Nat) (Option.none : Option Jvm.ClassFile.FieldType)).before args0 about1 = true := code_word (m := ⟨0, 0⟩) (meth := k0m0) (c := k0c0) (by decide +kernel) rfl rfl rfl (by decide +kernel)
set_option maxRecDepth 65536 in
theorem w_c6 : (Jvm.Cond.code ({ cls := "com/example/reason_over_axioms/reasonoveraxioms/model/Role", name := "<init>", desc := "(Ljava/lang/String;Z)V" } : Jvm.MethodName) prog_13_method_2_code (3 : Nat) (Option.none : Option Jvm.ClassFile.FieldType)).before args0 about1 = true := code_word (m := ⟨10, 0⟩) (meth := k10m0) (c := k10c0) (by decide +kernel) rfl rfl rfl (by decide +kernel)
set_option maxRecDepth 65536 in
theorem w_c7 : (Jvm.Cond.code ({ cls := "java/lang/Record", name := "<init>", desc := "()V" } : Jvm.MethodName) jdk_30_method_1_code (1 : Nat) (Option.none : Option Jvm.ClassFile.FieldType)).before args0 about1 = true := code_word (m := ⟨9, 0⟩) (meth := k9m0) (c := k9c0) (by decide +kernel) rfl rfl rfl (by decide +kernel)
set_option maxRecDepth 65536 in
theorem w_c8 : (Jvm.Cond.code ({ cls := "com/example/reason_over_axioms/reasonoveraxioms/reasoning/Tableau$Link", name := "of", desc := "(ILcom/example/reason_over_axioms/reasonoveraxioms/model/Role;I)Lcom/example/reason_over_axioms/reasonoveraxioms/reasoning/Tableau$Link;" } : Jvm.MethodName) prog_35_method_2_code (3 : Nat) (Option.some (Jvm.ClassFile.FieldType.object "com/example/reason_over_axioms/reasonoveraxioms/reasoning/Tableau$Link"))).before args0 about1 = true := code_word (m := ⟨11, 1⟩) (meth := k11m1) (c := k11c1) (by decide +kernel) rfl rfl rfl (by decide +kernel)
set_option maxRecDepth 65536 in
theorem w_c9 : (Jvm.Cond.code ({ cls := "com/example/reason_over_axioms/reasonoveraxioms/model/Role", name := "inverted", desc := "()Z" } : Jvm.MethodName) prog_13_method_8_code (1 : Nat) (Option.some Jvm.ClassFile.FieldType.boolean)).before args0 about1 = true := code_word (m := ⟨10, 2⟩) (meth := k10m2) (c := k10c2) (by decide +kernel) rfl rfl rfl (by decide +kernel)
set_option maxRecDepth 65536 in
theorem w_c10 : (Jvm.Cond.code ({ cls := "com/example/reason_over_axioms/reasonoveraxioms/model/Role", name := "name", desc := "()Ljava/lang/String;" } : Jvm.MethodName) prog_13_method_7_code (1 : Nat) (Option.some (Jvm.ClassFile.FieldType.object "java/lang/String"))).before args0 about1 = true := code_word (m := ⟨10, 1⟩) (meth := k10m1) (c := k10c1) (by decide +kernel) rfl rfl rfl (by decide +kernel)
set_option maxRecDepth 65536 in
theorem w_c11 : (Jvm.Cond.code ({ cls := "com/example/reason_over_axioms/reasonoveraxioms/reasoning/Tableau$Link", name := "<init>", desc := "(ILjava/lang/String;I)V" } : Jvm.MethodName) prog_35_method_1_code (4 : Nat) (Option.none : Option Jvm.ClassFile.FieldType)).before args0 about1 = true := code_word (m := ⟨11, 0⟩) (meth := k11m0) (c := k11c0) (by decide +kernel) rfl rfl rfl (by decide +kernel)
set_option maxRecDepth 65536 in
theorem w_c12 : (Jvm.Cond.code ({ cls := "com/example/reason_over_axioms/reasonoveraxioms/reasoning/Tableau$Link", name := "subject", desc := "()I" } : Jvm.MethodName) prog_35_method_6_code (1 : Nat) (Option.some Jvm.ClassFile.FieldType.int)).before args0 about1 = true := code_word (m := ⟨11, 2⟩) (meth := k11m2) (c := k11c2) (by decide +kernel) rfl rfl rfl (by decide +kernel)
set_option maxRecDepth 65536 in
theorem w_c13 : (Jvm.Cond.code ({ cls := "com/example/reason_over_axioms/reasonoveraxioms/reasoning/Tableau$Link", name := "object", desc := "()I" } : Jvm.MethodName) prog_35_method_8_code (1 : Nat) (Option.some Jvm.ClassFile.FieldType.int)).before args0 about1 = true := code_word (m := ⟨11, 4⟩) (meth := k11m4) (c := k11c4) (by decide +kernel) rfl rfl rfl (by decide +kernel)
set_option maxRecDepth 65536 in
theorem w_c14 : (Jvm.Cond.code ({ cls := "com/example/reason_over_axioms/reasonoveraxioms/reasoning/Tableau$Link", name := "property", desc := "()Ljava/lang/String;" } : Jvm.MethodName) prog_35_method_7_code (1 : Nat) (Option.some (Jvm.ClassFile.FieldType.object "java/lang/String"))).before args0 about1 = true := code_word (m := ⟨11, 3⟩) (meth := k11m3) (c := k11c3) (by decide +kernel) rfl rfl rfl (by decide +kernel)
set_option maxRecDepth 65536 in
theorem w_c15 : (Jvm.Cond.code ({ cls := "java/lang/String", name := "equals", desc := "(Ljava/lang/Object;)Z" } : Jvm.MethodName) jdk_42_method_66_code (3 : Nat) (Option.some Jvm.ClassFile.FieldType.boolean)).before args0 about1 = true := code_word (m := ⟨7, 2⟩) (meth := k7m2) (c := k7c2) (by decide +kernel) rfl rfl rfl (by decide +kernel)
set_option maxRecDepth 65536 in
theorem w_c16 : (Jvm.Cond.code ({ cls := "java/lang/String", name := "<init>", desc := "([C)V" } : Jvm.MethodName) jdk_42_method_3_code (2 : Nat) (Option.none : Option Jvm.ClassFile.FieldType)).before args0 about1 = true := code_word (m := ⟨7, 1⟩) (meth := k7m1) (c := k7c1) (by decide +kernel) rfl rfl rfl (by decide +kernel)
set_option maxRecDepth 65536 in
theorem w_c17 : (Jvm.Cond.code ({ cls := "java/lang/String", name := "<init>", desc := "([CIILjava/lang/Void;)V" } : Jvm.MethodName) jdk_42_method_149_code (6 : Nat) (Option.none : Option Jvm.ClassFile.FieldType)).before args0 about1 = true := code_word (m := ⟨7, 4⟩) (meth := k7m4) (c := k7c4) (by decide +kernel) rfl rfl rfl (by decide +kernel)
set_option maxRecDepth 65536 in
theorem w_c18 : (Jvm.Cond.code ({ cls := "java/lang/StringUTF16", name := "compress", desc := "([CII)[B" } : Jvm.MethodName) jdk_52_method_16_code (6 : Nat) (Option.some (Jvm.ClassFile.FieldType.array Jvm.ClassFile.FieldType.byte))).before args0 about1 = true := code_word (m := ⟨12, 2⟩) (meth := k12m2) (c := k12c2) (by decide +kernel) rfl rfl rfl (by decide +kernel)
set_option maxRecDepth 65536 in
theorem w_c19 : (Jvm.Cond.code ({ cls := "java/lang/StringUTF16", name := "compress", desc := "([CI[BII)I" } : Jvm.MethodName) jdk_52_method_21_code (7 : Nat) (Option.some Jvm.ClassFile.FieldType.int)).before args0 about1 = true := code_word (m := ⟨12, 3⟩) (meth := k12m3) (c := k12c3) (by decide +kernel) rfl rfl rfl (by decide +kernel)
set_option maxRecDepth 65536 in
theorem w_c20 : (Jvm.Cond.code ({ cls := "java/lang/StringUTF16", name := "coderFromArrayLen", desc := "([BI)B" } : Jvm.MethodName) jdk_52_method_15_code (2 : Nat) (Option.some Jvm.ClassFile.FieldType.byte)).before args0 about1 = true := code_word (m := ⟨12, 1⟩) (meth := k12m1) (c := k12c1) (by decide +kernel) rfl rfl rfl (by decide +kernel)
def codes1 : List Jvm.Cond := [Jvm.Cond.code x code maxLocals ret, Jvm.Cond.code ({ cls := "java/lang/String", name := "valueOf", desc := "(C)Ljava/lang/String;" } : Jvm.MethodName) jdk_42_method_139_code (1 : Nat) (Option.some (Jvm.ClassFile.FieldType.object "java/lang/String")), Jvm.Cond.code ({ cls := "java/lang/StringLatin1", name := "canEncode", desc := "(C)Z" } : Jvm.MethodName) jdk_43_method_3_code (1 : Nat) (Option.some Jvm.ClassFile.FieldType.boolean), Jvm.Cond.code ({ cls := "java/lang/StringLatin1", name := "toBytes", desc := "(C)[B" } : Jvm.MethodName) jdk_43_method_46_code (1 : Nat) (Option.some (Jvm.ClassFile.FieldType.array Jvm.ClassFile.FieldType.byte)), Jvm.Cond.code ({ cls := "java/lang/String", name := "<init>", desc := "([BB)V" } : Jvm.MethodName) jdk_42_method_151_code (3 : Nat) (Option.none : Option Jvm.ClassFile.FieldType), Jvm.Cond.code ({ cls := "java/lang/Object", name := "<init>", desc := "()V" } : Jvm.MethodName) object_method_1_code (1 : Nat) (Option.none : Option Jvm.ClassFile.FieldType), Jvm.Cond.code ({ cls := "com/example/reason_over_axioms/reasonoveraxioms/model/Role", name := "<init>", desc := "(Ljava/lang/String;Z)V" } : Jvm.MethodName) prog_13_method_2_code (3 : Nat) (Option.none : Option Jvm.ClassFile.FieldType), Jvm.Cond.code ({ cls := "java/lang/Record", name := "<init>", desc := "()V" } : Jvm.MethodName) jdk_30_method_1_code (1 : Nat) (Option.none : Option Jvm.ClassFile.FieldType), Jvm.Cond.code ({ cls := "com/example/reason_over_axioms/reasonoveraxioms/reasoning/Tableau$Link", name := "of", desc := "(ILcom/example/reason_over_axioms/reasonoveraxioms/model/Role;I)Lcom/example/reason_over_axioms/reasonoveraxioms/reasoning/Tableau$Link;" } : Jvm.MethodName) prog_35_method_2_code (3 : Nat) (Option.some (Jvm.ClassFile.FieldType.object "com/example/reason_over_axioms/reasonoveraxioms/reasoning/Tableau$Link")), Jvm.Cond.code ({ cls := "com/example/reason_over_axioms/reasonoveraxioms/model/Role", name := "inverted", desc := "()Z" } : Jvm.MethodName) prog_13_method_8_code (1 : Nat) (Option.some Jvm.ClassFile.FieldType.boolean), Jvm.Cond.code ({ cls := "com/example/reason_over_axioms/reasonoveraxioms/model/Role", name := "name", desc := "()Ljava/lang/String;" } : Jvm.MethodName) prog_13_method_7_code (1 : Nat) (Option.some (Jvm.ClassFile.FieldType.object "java/lang/String")), Jvm.Cond.code ({ cls := "com/example/reason_over_axioms/reasonoveraxioms/reasoning/Tableau$Link", name := "<init>", desc := "(ILjava/lang/String;I)V" } : Jvm.MethodName) prog_35_method_1_code (4 : Nat) (Option.none : Option Jvm.ClassFile.FieldType), Jvm.Cond.code ({ cls := "com/example/reason_over_axioms/reasonoveraxioms/reasoning/Tableau$Link", name := "subject", desc := "()I" } : Jvm.MethodName) prog_35_method_6_code (1 : Nat) (Option.some Jvm.ClassFile.FieldType.int), Jvm.Cond.code ({ cls := "com/example/reason_over_axioms/reasonoveraxioms/reasoning/Tableau$Link", name := "object", desc := "()I" } : Jvm.MethodName) prog_35_method_8_code (1 : Nat) (Option.some Jvm.ClassFile.FieldType.int), Jvm.Cond.code ({ cls := "com/example/reason_over_axioms/reasonoveraxioms/reasoning/Tableau$Link", name := "property", desc := "()Ljava/lang/String;" } : Jvm.MethodName) prog_35_method_7_code (1 : Nat) (Option.some (Jvm.ClassFile.FieldType.object "java/lang/String")), Jvm.Cond.code ({ cls := "java/lang/String", name := "equals", desc := "(Ljava/lang/Object;)Z" } : Jvm.MethodName) jdk_42_method_66_code (3 : Nat) (Option.some Jvm.ClassFile.FieldType.boolean), Jvm.Cond.code ({ cls := "java/lang/String", name := "<init>", desc := "([C)V" } : Jvm.MethodName) jdk_42_method_3_code (2 : Nat) (Option.none : Option Jvm.ClassFile.FieldType), Jvm.Cond.code ({ cls := "java/lang/String", name := "<init>", desc := "([CIILjava/lang/Void;)V" } : Jvm.MethodName) jdk_42_method_149_code (6 : Nat) (Option.none : Option Jvm.ClassFile.FieldType), Jvm.Cond.code ({ cls := "java/lang/StringUTF16", name := "compress", desc := "([CII)[B" } : Jvm.MethodName) jdk_52_method_16_code (6 : Nat) (Option.some (Jvm.ClassFile.FieldType.array Jvm.ClassFile.FieldType.byte)), Jvm.Cond.code ({ cls := "java/lang/StringUTF16", name := "compress", desc := "([CI[BII)I" } : Jvm.MethodName) jdk_52_method_21_code (7 : Nat) (Option.some Jvm.ClassFile.FieldType.int), Jvm.Cond.code ({ cls := "java/lang/StringUTF16", name := "coderFromArrayLen", desc := "([BI)B" } : Jvm.MethodName) jdk_52_method_15_code (2 : Nat) (Option.some Jvm.ClassFile.FieldType.byte)]
set_option maxRecDepth 65536 in
theorem codes_eq : words1.filter isCode = codes1 := rfl
theorem w_codes : ∀ c ∈ words1.filter isCode, c.before args0 about1 = true := by
  rw [codes_eq]
  intro c hc
  simp only [codes1, List.mem_cons, List.not_mem_nil, or_false] at hc
  rcases hc with rfl | rfl | rfl | rfl | rfl | rfl | rfl | rfl | rfl | rfl | rfl | rfl | rfl | rfl | rfl | rfl | rfl | rfl | rfl | rfl | rfl
  · exact w_c0
  · exact w_c1
  · exact w_c2
  · exact w_c3
  · exact w_c4
  · exact w_c5
  · exact w_c6
  · exact w_c7
  · exact w_c8
  · exact w_c9
  · exact w_c10
  · exact w_c11
  · exact w_c12
  · exact w_c13
  · exact w_c14
  · exact w_c15
  · exact w_c16
  · exact w_c17
  · exact w_c18
  · exact w_c19
  · exact w_c20
set_option maxRecDepth 65536 in
theorem w_t1 : (words1.take 24).all (fun c => isCode c || c.before args0 about1) = true := by decide +kernel
set_option maxRecDepth 65536 in
theorem w_t2 : ((words1.drop 24).take 24).all (fun c => isCode c || c.before args0 about1) = true := by decide +kernel
set_option maxRecDepth 65536 in
theorem w_t3 : (((words1.drop 24).drop 24).take 24).all (fun c => isCode c || c.before args0 about1) = true := by decide +kernel
set_option maxRecDepth 65536 in
theorem w_t4 : ((((words1.drop 24).drop 24).drop 24).take 24).all (fun c => isCode c || c.before args0 about1) = true := by decide +kernel
set_option maxRecDepth 65536 in
theorem w_t5 : ((((words1.drop 24).drop 24).drop 24).drop 24).all (fun c => isCode c || c.before args0 about1) = true := by decide +kernel
theorem w_tables : (allAtoms (Jvm.Cond.code x code maxLocals ret :: tables_1)).before args0 about1 = true := by
  rw [allAtoms_all]
  show words1.all (fun c => c.before args0 about1) = true
  refine all_split ?_ w_codes
  rw [← List.take_append_drop 24 words1, List.all_append, w_t1, ← List.take_append_drop 24 (words1.drop 24), List.all_append, w_t2, ← List.take_append_drop 24 ((words1.drop 24).drop 24), List.all_append, w_t3, ← List.take_append_drop 24 (((words1.drop 24).drop 24).drop 24), List.all_append, w_t4, w_t5]
  rfl
set_option maxRecDepth 65536 in
theorem w_rest : rest_1_c.before args0 about1 = true := by decide +kernel
set_option maxRecDepth 65536 in
theorem w_case : (Jvm.Cond.and given_1 narrow_1).before args0 about1 = true := by decide +kernel
set_option maxRecDepth 65536 in
theorem w_consts : constsHeld consts_1 about1 := Jvm.Lit.constsHeldB_iff.mp (by decide +kernel)
theorem w_applies : (headSpec (Jvm.Cond.code x code maxLocals ret :: tables_1) room_1).applies x e0.platform about1 = true :=
  (Spec.applies_iff w_frames).mpr ⟨w_running, w_runnable, w_alone, w_named, w_hears, w_ripe, w_room, w_tables⟩
theorem atStart : AtStart classFile x code maxLocals ret World_1 tables_1 room_1 Calls_1 rest_1 Pre_1 launch0 p0 e0 about1 theMethod args0 below0 :=
  ⟨lists_1, trivial, launch0.admits_env _ _ _, launch0.least_env, fairChoices_fair.cas, fairChoices_fair.clock, w_frames, w_args, w_heap, w_applies, ⟨w_consts, trivial⟩, w_rest, w_case⟩
end start1
theorem witness_1 : WitnessClaimed_1 := ⟨start1.p0, start1.e0, start1.about1, start1.theMethod, start1.args0, start1.below0, start1.atStart⟩
end Jvm.Pilot.@@N@@
