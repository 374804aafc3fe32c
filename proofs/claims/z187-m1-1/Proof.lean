import JvmDerived
import JvmDerived.Pilot.@@N@@Statement
import JvmDerived.Pilot.@@N@@Code
set_option linter.unusedVariables false
set_option linter.unusedSimpArgs false
namespace Jvm.OwnWp
open Sem ClassFile Op Lib Jvm.Free Jvm.Stand Jvm.LawKit Jvm.RoadKit
set_option maxHeartbeats 1000000
/-! the walk of a body as a weakest precondition: own text over the library's laws -/
def EnvOk (p : Program) (s : State) (m : MethodId) (meth : Method) (c : Code) (Z : State) (own nam : String) (bytes : ByteArray) (maxL : Nat) (ret : Option FieldType) (n0 : Nat) (h0 : Heap) (ws : List Addr) : Prop :=
  p.tables.exec = Jvm.exec ∧ c.code = bytes ∧ c.maxLocals = maxL ∧ Z.Warmed39 s.vm ∧ s.vm.findClass own = some m.cls ∧ meth.name = nam ∧ meth.sig.returnType = ret ∧ meth.locks = false ∧ s.heap = h0 ∧ Old Z n0 h0 ∧ ∀ a ∈ ws, n0 ≤ a
/-- what may be written: the named objects and what is new -/
def Pmt (h0 : Heap) (ws : List Addr) (L : List Loc) : Prop := ∀ y ∈ L, y.base ∈ ws ∨ h0.size ≤ y.base
theorem Pmt.nil (h0 : Heap) (ws : List Addr) : Pmt h0 ws [] := fun _ q => nomatch q
theorem Pmt.app {h0 : Heap} {ws : List Addr} {L L' : List Loc} (N : Pmt h0 ws L) (N' : Pmt h0 ws L') : Pmt h0 ws (L ++ L') := fun y q => (List.mem_append.mp q).elim (N y) (N' y)
theorem Pmt.snoc {h0 : Heap} {ws : List Addr} {L : List Loc} {a : Addr} {sl : Nat} (N : Pmt h0 ws L) (q : a ∈ ws ∨ h0.size ≤ a) : Pmt h0 ws (L ++ [⟨a, sl⟩]) := N.app fun y hy => by cases List.mem_singleton.mp hy; exact q
theorem keep_of {s t : State} {h : Heap} {ws : List Addr} {L : List Loc} {k n : Nat} (q : s.sameButNew t L k n) (N : Pmt s.heap ws L) (e : t.heap = h) : Keep s.heap h ws := by
  subst e
  obtain ⟨-, q1, -, -, -, q2⟩ := q
  refine ⟨q1, fun x c hx hn => ?_, fun x c hx => ?_⟩
  · obtain ⟨c', r1, r2, r3, r4⟩ := q2 x c hx
    have e : c'.slots = c.slots := by
      apply Array.ext_getElem?
      intro i
      refine r4 i fun hm => ?_
      rcases N _ hm with u | u
      · exact hn u
      · exact absurd (Array.getElem?_eq_some_iff.mp hx).1 (Nat.not_lt.mpr u)
    rw [r1, r2, e]
  · obtain ⟨c', r1, r2, r3, r4⟩ := q2 x c hx
    exact ⟨c', r1, by rw [r2], by rw [r2], r3⟩
/-- the tables over which the walk stands: the start's own, or (wide) tables that have grown since by interned constants, of which I is known -/
def Base (wd : Bool) (I : Vm → Prop) (Z s : State) (vm0 : Vm) (h : Heap) : Prop :=
  match wd with
  | false => vm0 = s.vm
  | true => s.Since vm0 h.size ∧ Z.Warmed39 vm0 ∧ I vm0
def EndF (wd : Bool) (s : State) (o : Outcome) (t : State) (L : List Loc) (k n : Nat) : Prop :=
  match wd with
  | false => FrameEnd s o t L k n
  | true => ReturnedEndW s o t L k n
/-- what is known of the tables at the end -/
def EndI (wd : Bool) (J : Vm → Prop) (t : State) : Prop := wd = true → J t.vm
theorem EndF.same {wd : Bool} {s : State} {o : Outcome} {t : State} {L : List Loc} {k n : Nat} (h : EndF wd s o t L k n) : s.sameButNew { t with vm := s.vm } L k n := by
  cases wd
  · exact h.2.2
  · exact h.2.2.2
def Wp (wd : Bool) (p : Program) (l : Launch) (e : Env) (R : Room) (s : State) (m : MethodId) (args : Array Value) (below : List Frame) (meth : Method) (c : Code) (Z : State) (own nam : String) (bytes : ByteArray) (maxL : Nat) (ret : Option FieldType) (n0 : Nat) (h0 : Heap) (ws : List Addr) (Q : Option Value → Heap → Prop) (I : Vm → Prop) (h : Heap) (k n pc : Nat) (Ls : List Slot) (st : List Value) : Prop :=
  EnvOk p s m meth c Z own nam bytes maxL ret n0 h0 ws → ∀ (T : State) (L : List Loc) (vm0 : Vm), Base wd I Z s vm0 h → Stand p l e R (s.setVm vm0) m args below meth c T L k n → Pmt h0 ws L → T.heap = h →
    ∃ s₂ o, Steps p.tables e below (T.setTop (mkF m pc Ls.toArray st)) s₂ ∧ s₂.status = .running ∧ Ended s₂ below o ∧ ∃ v L', o = .returned v ∧ (Q v s₂.heap ∧ Pmt h0 ws L') ∧ EndF wd s o s₂ L' R.cells R.slots
/-- a method's contract, at one heap and with these arguments -/
def Con (l : Launch) (Z : State) (n0 : Nat) (y : MethodName) (bytes : ByteArray) (maxL : Nat) (ret : Option FieldType) (rm : Room) (as : List Value) (h0 : Heap) (ws : List Addr) (Q : Option Value → Heap → Prop) : Prop :=
  Old Z n0 h0 → (∀ a ∈ ws, n0 ≤ a) → ∀ wds, MetFree l y (head1 (Cond.code y bytes maxL ret :: wds) rm) (fun a U => a = as.toArray ∧ Z.Warmed39 U.vm ∧ U.heap = h0) (fun _ _ _ _ _ => True) (fun _ U o U' => ∃ v L, o = .returned v ∧ (Q v U'.heap ∧ Pmt h0 ws L ∧ Keep h0 U'.heap ws) ∧ FrameEnd U o U' L rm.cells rm.slots)
theorem Con.of {l : Launch} {Z : State} {n0 : Nat} {y : MethodName} {bytes : ByteArray} {maxL : Nat} {ret : Option FieldType} {rm : Room} {as : List Value} {h0 : Heap} {ws : List Addr} {Q : Option Value → Heap → Prop} {Ls : List Slot}
    (hpl : plainFor y = true) (hent : ∀ m, entryFrame m as.toArray maxL = mkF m 0 Ls.toArray [])
    (g : ∀ p e s m below meth c, Wp false p l e rm s m as.toArray below meth c Z y.cls y.name bytes maxL ret n0 h0 ws Q (fun _ => True) h0 0 0 0 Ls []) : Con l Z n0 y bytes maxL ret rm as h0 ws Q := by
  intro hO hws wds
  refine MetFree.of_bodySF hpl hisR ?_
  intro p e s m args below meth c s₁ Bd hml0 hP hK
  obtain ⟨rfl, hZ, hh⟩ := hP
  have X0 : Stand p l e rm s m as.toArray below meth c s₁ [] 0 0 := Stand.of_body Bd
  have e0 : s₁.heap = h0 := by rw [← hh, Bd.state]; rfl
  rw [hent]
  obtain ⟨s2, o, r1, r2, r3, v, L, r4, ⟨r5, r6⟩, r7⟩ := g p e s m below meth c ⟨Bd.exec, Bd.bytes, hml0, hZ, findClass_of_methodNamed Bd.named, (name_of_methodNamed Bd.named Bd.method).1, Bd.returns, Bd.notSynchronized, hh, hO, hws⟩ s₁ [] s.vm rfl X0 (Pmt.nil _ _) e0
  exact ⟨s2, o, r1, r2, r3, v, L, r4, ⟨r5, r6, by rw [← hh]; exact keep_of r7.2.2 (by rw [hh]; exact r6) rfl⟩, r7⟩
theorem Con.post {l : Launch} {Z : State} {n0 : Nat} {y : MethodName} {bytes : ByteArray} {maxL : Nat} {ret : Option FieldType} {rm : Room} {as : List Value} {h0 : Heap} {ws : List Addr} {Q Q' : Option Value → Heap → Prop}
    (c : Con l Z n0 y bytes maxL ret rm as h0 ws Q) (f : ∀ v h, Q v h → Q' v h) : Con l Z n0 y bytes maxL ret rm as h0 ws Q' := fun hO hws wds p e ha hc hk s m args below hf happ hP hK => by
  obtain ⟨a1, a2, a3, a4, a5, v, L, a6, ⟨a7, a8⟩, a9⟩ := c hO hws wds p e ha hc hk s m args below hf happ hP hK
  exact ⟨a1, a2, a3, a4, a5, v, L, a6, ⟨f _ _ a7, a8⟩, a9⟩
/-- the contract of a method that may intern constants -/
def ConW (l : Launch) (Z : State) (n0 : Nat) (y : MethodName) (bytes : ByteArray) (maxL : Nat) (ret : Option FieldType) (rm : Room) (as : List Value) (h0 : Heap) (ws : List Addr) (I : Vm → Prop) (Q : Option Value → Heap → Prop) : Prop :=
  Old Z n0 h0 → (∀ a ∈ ws, n0 ≤ a) → ∀ wds, MetFree l y (head1 (Cond.code y bytes maxL ret :: wds) rm) (fun a U => a = as.toArray ∧ Z.Warmed39 U.vm ∧ U.heap = h0 ∧ I U.vm) (fun _ _ _ _ _ => True) (fun _ U o U' => ∃ v L, o = .returned v ∧ (Q v U'.heap ∧ Pmt h0 ws L ∧ Keep h0 U'.heap ws) ∧ ReturnedEndW U o U' L rm.cells rm.slots)
theorem ConW.of {l : Launch} {Z : State} {n0 : Nat} {y : MethodName} {bytes : ByteArray} {maxL : Nat} {ret : Option FieldType} {rm : Room} {as : List Value} {h0 : Heap} {ws : List Addr} {I : Vm → Prop} {Q : Option Value → Heap → Prop} {Ls : List Slot}
    (hpl : plainFor y = true) (hent : ∀ m, entryFrame m as.toArray maxL = mkF m 0 Ls.toArray [])
    (g : ∀ p e s m below meth c, Wp true p l e rm s m as.toArray below meth c Z y.cls y.name bytes maxL ret n0 h0 ws Q I h0 0 0 0 Ls []) : ConW l Z n0 y bytes maxL ret rm as h0 ws I Q := by
  intro hO hws wds
  refine MetFree.of_bodySF hpl hisR ?_
  intro p e s m args below meth c s₁ Bd hml0 hP hK
  obtain ⟨rfl, hZ, hh, hI⟩ := hP
  have X0 : Stand p l e rm s m as.toArray below meth c s₁ [] 0 0 := Stand.of_body Bd
  have e0 : s₁.heap = h0 := by rw [← hh, Bd.state]; rfl
  rw [hent]
  obtain ⟨s2, o, r1, r2, r3, v, L, r4, ⟨r5, r6⟩, r7⟩ := g p e s m below meth c ⟨Bd.exec, Bd.bytes, hml0, hZ, findClass_of_methodNamed Bd.named, (name_of_methodNamed Bd.named Bd.method).1, Bd.returns, Bd.notSynchronized, hh, hO, hws⟩ s₁ [] s.vm ⟨(State.WarmedH.refl s).since _, hZ, hI⟩ X0 (Pmt.nil _ _) e0
  exact ⟨s2, o, r1, r2, r3, v, L, r4, ⟨r5, r6, by rw [← hh]; exact keep_of r7.2.2.2 (by rw [hh]; exact r6) rfl⟩, r7⟩
/-- what a call pushes -/
def psh : Option Value → List Value → List Value
  | none, r => r
  | some v, r => v :: r
theorem psh_eq (v : Option Value) (r : List Value) : v.toList ++ r = psh v r := by cases v <;> rfl
def oneB : Slot → Bool
  | .unset => true
  | .second => false
  | .val v => v.category == 1
def oneAt (Ls : List Slot) (j : Nat) : Bool := (Ls[j]?.map oneB).getD false
theorem oneAt_spec {Ls : List Slot} {j : Nat} (h : oneAt Ls j = true) : ∃ o, Ls.toArray[j]? = some o ∧ (o = .unset ∨ ∃ w, o = .val w ∧ w.category = 1) := by
  unfold oneAt at h
  cases q : Ls[j]? with
  | none => simp [q] at h
  | some o =>
    refine ⟨o, by simpa using q, ?_⟩
    cases o <;> simp [q, oneB] at h ⊢
    exact h
/-- two words, for a long -/
def twoAt (Ls : List Slot) (j : Nat) : Bool := (match Ls[j]? with | some .second => false | some _ => true | none => false) && (match Ls[j + 1]? with | some .second => true | some .unset => true | some (.val w) => w.category == 1 | none => false)
theorem two_store {Ls : List Slot} {j : Nat} {x : Int64} (h : twoAt Ls j = true) : storeLocals Ls.toArray j (.long x) = some ((Ls.set j (.val (.long x))).set (j + 1) .second).toArray := by
  unfold twoAt at h
  cases q : Ls[j]? with
  | none => simp [q] at h
  | some o =>
    cases r : Ls[j + 1]? with
    | none => simp [r] at h
    | some o' =>
      obtain ⟨b1, -⟩ := List.getElem?_eq_some_iff.mp q
      obtain ⟨b2, -⟩ := List.getElem?_eq_some_iff.mp r
      cases o with
      | second => simp [q] at h
      | unset => cases o' <;> simp_all [storeLocals, storeSelf, setAt, Value.category]
      | val w =>
        cases o' <;> by_cases hw : w.category = 2 <;> simp_all [storeLocals, storeSelf, setAt, Value.category]
        all_goals rw [List.set_comm _ _ (show j + 1 ≠ j by omega), List.set_set]
theorem one_store {Ls : List Slot} {j : Nat} {v : Value} (h : oneAt Ls j = true) (hv : v.category = 1) : storeLocals Ls.toArray j v = some (Ls.set j (.val v)).toArray := by
  obtain ⟨o, q1, q2⟩ := oneAt_spec h
  rw [XS.store1 q1 q2 hv]; simp
section Walk
variable {wd : Bool} {I : Vm → Prop} {vm0 : Vm} {p : Program} {l : Launch} {e : Env} {R : Room} {s : State} {m : MethodId} {args : Array Value} {below : List Frame} {meth : Method} {c : Code} {Z : State} {own nam : String} {bytes : ByteArray} {maxL : Nat} {ret : Option FieldType} {n0 : Nat} {h0 : Heap} {ws : List Addr} {Q : Option Value → Heap → Prop} {h : Heap} {k n pc : Nat} {Ls : List Slot} {st rest : List Value} {a0 : Array Value}
theorem bZ (E : EnvOk p s m meth c Z own nam bytes maxL ret n0 h0 ws) (B : Base wd I Z s vm0 h) : Z.Warmed39 (s.setVm vm0).vm := by
  cases wd
  · cases B; exact E.2.2.2.1
  · exact B.2.1
theorem bO (E : EnvOk p s m meth c Z own nam bytes maxL ret n0 h0 ws) (B : Base wd I Z s vm0 h) : (s.setVm vm0).vm.findClass own = some m.cls := by
  cases wd
  · cases B; exact E.2.2.2.2.1
  · show vm0.findClass own = _
    rw [B.1.1.alike.findClass]; exact E.2.2.2.2.1
theorem bG {h' : Heap} (B : Base wd I Z s vm0 h) (q : h.size ≤ h'.size) : Base wd I Z s vm0 h' := by
  cases wd
  · exact B
  · exact ⟨⟨B.1.1, B.1.2.mono q⟩, B.2⟩
theorem szOf (E : EnvOk p s m meth c Z own nam bytes maxL ret n0 h0 ws) {T : State} {L : List Loc} (X : Stand p l e R (s.setVm vm0) m args below meth c T L k n) (eT : T.heap = h) : h0.size ≤ h.size := by
  have q : s.heap.size ≤ T.heap.size := X.same.2.1
  rw [E.2.2.2.2.2.2.2.2.1] at q
  rw [← eT]; exact q
theorem keepOf (E : EnvOk p s m meth c Z own nam bytes maxL ret n0 h0 ws) {T : State} {L : List Loc} (X : Stand p l e R (s.setVm vm0) m args below meth c T L k n) (N : Pmt h0 ws L) (eT : T.heap = h) : Keep h0 h ws := by
  have q := E.2.2.2.2.2.2.2.2.1
  rw [← q]; exact keep_of (s := s.setVm vm0) X.same (by show Pmt s.heap ws L; rw [q]; exact N) eT
theorem endOf (E : EnvOk p s m meth c Z own nam bytes maxL ret n0 h0 ws) (B : Base wd I Z s vm0 h) {U : State} {L : List Loc} {o : Outcome} (hr : ∃ v, o = .returned v) (hW : (s.setVm vm0).WarmedH U.vm) (hs : (s.setVm vm0).sameButNew ({ U with vm := (s.setVm vm0).vm } : State) L k n) (hU : U.heap = h) (hk : k ≤ R.cells) (hn : n ≤ R.slots) : EndF wd s o U L R.cells R.slots := by
  cases wd
  · cases B; exact ⟨hr, hW, hs.mono hk hn⟩
  · obtain ⟨r1, r2, r3⟩ := B.1.ended hW (by rw [hU]; exact Nat.le_refl _) hs
    exact ⟨hr, r1, r2, r3.mono hk hn⟩
theorem n0Of (E : EnvOk p s m meth c Z own nam bytes maxL ret n0 h0 ws) {x : Addr} (q : x ∈ ws ∨ h0.size ≤ x) : n0 ≤ x := by
  obtain ⟨o1, o2⟩ := E.2.2.2.2.2.2.2.2.2.1
  rcases q with q | q
  · exact E.2.2.2.2.2.2.2.2.2.2 x q
  · have := o2.1; omega
theorem oldOf (E : EnvOk p s m meth c Z own nam bytes maxL ret n0 h0 ws) {T : State} {L : List Loc} (X : Stand p l e R (s.setVm vm0) m args below meth c T L k n) (N : Pmt h0 ws L) (eT : T.heap = h) : Old Z n0 h :=
  E.2.2.2.2.2.2.2.2.2.1.keep (keepOf E X N eT) E.2.2.2.2.2.2.2.2.2.2
theorem pmtOf (E : EnvOk p s m meth c Z own nam bytes maxL ret n0 h0 ws) {T : State} {L L' : List Loc} {ws' : List Addr} (X : Stand p l e R (s.setVm vm0) m args below meth c T L k n) (eT : T.heap = h) (hws : ∀ x ∈ ws', x ∈ ws ∨ h0.size ≤ x) (N' : Pmt h ws' L') : Pmt h0 ws L' := fun y hy => by
  rcases N' y hy with q | q
  · exact hws _ q
  · exact Or.inr (Nat.le_trans (szOf E X eT) q)
/-- what is kept since the body's start -/
theorem kept (g : Keep h0 h ws → Old Z n0 h → Wp wd p l e R s m args below meth c Z own nam bytes maxL ret n0 h0 ws Q I h k n pc Ls st) : Wp wd p l e R s m args below meth c Z own nam bytes maxL ret n0 h0 ws Q I h k n pc Ls st := fun E T L vm0 B X N eT => g (keepOf E X N eT) (oldOf E X N eT) E T L vm0 B X N eT
theorem step {pc' : Nat} {Ls' : List Slot} {st' : List Value} (g : Wp wd p l e R s m args below meth c Z own nam bytes maxL ret n0 h0 ws Q I h k n pc' Ls' st')
    (f : EnvOk p s m meth c Z own nam bytes maxL ret n0 h0 ws → ∀ (T : State) (L : List Loc) (t : State) (vm0 : Vm), Base wd I Z s vm0 h → Stand p l e R (s.setVm vm0) m args below meth c T L k n → T.heap = h → Steps p.tables e below (T.setTop (mkF m pc' Ls'.toArray st')) t → Steps p.tables e below (T.setTop (mkF m pc Ls.toArray st)) t) : Wp wd p l e R s m args below meth c Z own nam bytes maxL ret n0 h0 ws Q I h k n pc Ls st := fun E T L vm0 B X N eT => by
  obtain ⟨s2, o, hs, r⟩ := g E T L vm0 B X N eT
  exact ⟨s2, o, f E T L s2 vm0 B X eT hs, r⟩
/-- a law that hands back a new state -/
theorem lawS {pc' : Nat} {Ls' : List Slot} {st' : List Value}
    (f : EnvOk p s m meth c Z own nam bytes maxL ret n0 h0 ws → ∀ (T : State) (L : List Loc) (vm0 : Vm), Base wd I Z s vm0 h → Stand p l e R (s.setVm vm0) m args below meth c T L k n → Pmt h0 ws L → T.heap = h → ∃ (T' : State) (L' : List Loc) (h' : Heap) (k' n' : Nat), Stand p l e R (s.setVm vm0) m args below meth c T' L' k' n' ∧ Pmt h0 ws L' ∧ T'.heap = h' ∧ h.size ≤ h'.size ∧ (∀ t, Steps p.tables e below (T'.setTop (mkF m pc' Ls'.toArray st')) t → Steps p.tables e below (T.setTop (mkF m pc Ls.toArray st)) t) ∧ Wp wd p l e R s m args below meth c Z own nam bytes maxL ret n0 h0 ws Q I h' k' n' pc' Ls' st') : Wp wd p l e R s m args below meth c Z own nam bytes maxL ret n0 h0 ws Q I h k n pc Ls st := fun E T L vm0 B X N eT => by
  obtain ⟨T', L', h', k', n', X', N', e', gr, st', g⟩ := f E T L vm0 B X N eT
  obtain ⟨s2, o, hs, r⟩ := g E T' L' vm0 (bG B gr) X' N' e'
  exact ⟨s2, o, st' _ hs, r⟩
theorem more {k' n' : Nat} (hk : k ≤ k') (hn : n ≤ n') (g : Wp wd p l e R s m args below meth c Z own nam bytes maxL ret n0 h0 ws Q I h k' n' pc Ls st) : Wp wd p l e R s m args below meth c Z own nam bytes maxL ret n0 h0 ws Q I h k n pc Ls st := fun E T L vm0 B X N eT =>
  g E T L vm0 B (X.mono hk hn) N eT
theorem conv {Q' : Option Value → Heap → Prop} (g : Wp wd p l e R s m args below meth c Z own nam bytes maxL ret n0 h0 ws Q' I h k n pc Ls st) (f : ∀ v h, Q' v h → Q v h) : Wp wd p l e R s m args below meth c Z own nam bytes maxL ret n0 h0 ws Q I h k n pc Ls st := fun E T L vm0 B X N eT => by
  obtain ⟨s2, o, h1, h2, h3, v, L', h4, ⟨h5, h6⟩, h7⟩ := g E T L vm0 B X N eT
  exact ⟨s2, o, h1, h2, h3, v, L', h4, ⟨f _ _ h5, h6⟩, h7⟩
theorem wk {J : Vm → Prop} (hJ : ∀ vm, I vm → J vm) (g : Wp wd p l e R s m args below meth c Z own nam bytes maxL ret n0 h0 ws Q J h k n pc Ls st) : Wp wd p l e R s m args below meth c Z own nam bytes maxL ret n0 h0 ws Q I h k n pc Ls st := fun E T L vm0 B X N eT =>
  g E T L vm0 (by cases wd; exact B; exact ⟨B.1, B.2.1, hJ _ B.2.2⟩) X N eT

theorem iadd {q1 : Nat} {x y : Int32} (hd : decode bytes pc = .ok (.iadd, 1)) (hq1 : pc + 1 = q1) (g : Wp wd p l e R s m args below meth c Z own nam bytes maxL ret n0 h0 ws Q I h k n q1 Ls (.int (x + y) :: rest)) : Wp wd p l e R s m args below meth c Z own nam bytes maxL ret n0 h0 ws Q I h k n pc Ls (.int y :: .int x :: rest) := by
  subst hq1
  exact  step g fun E T L t vm0 B X _ hr => XS.iadd X.here E.1 rfl (hb E.2.1 hd) rfl hr

theorem isub {q1 : Nat} {x y : Int32} (hd : decode bytes pc = .ok (.isub, 1)) (hq1 : pc + 1 = q1) (g : Wp wd p l e R s m args below meth c Z own nam bytes maxL ret n0 h0 ws Q I h k n q1 Ls (.int (x - y) :: rest)) : Wp wd p l e R s m args below meth c Z own nam bytes maxL ret n0 h0 ws Q I h k n pc Ls (.int y :: .int x :: rest) := by
  subst hq1
  exact  step g fun E T L t vm0 B X _ hr => XS.isub X.here E.1 rfl (hb E.2.1 hd) rfl hr

theorem imul {q1 : Nat} {x y : Int32} (hd : decode bytes pc = .ok (.imul, 1)) (hq1 : pc + 1 = q1) (g : Wp wd p l e R s m args below meth c Z own nam bytes maxL ret n0 h0 ws Q I h k n q1 Ls (.int (x * y) :: rest)) : Wp wd p l e R s m args below meth c Z own nam bytes maxL ret n0 h0 ws Q I h k n pc Ls (.int y :: .int x :: rest) := by
  subst hq1
  exact  step g fun E T L t vm0 B X _ hr => XS.imul X.here E.1 rfl (hb E.2.1 hd) rfl hr

theorem iand {q1 : Nat} {x y : Int32} (hd : decode bytes pc = .ok (.iand, 1)) (hq1 : pc + 1 = q1) (g : Wp wd p l e R s m args below meth c Z own nam bytes maxL ret n0 h0 ws Q I h k n q1 Ls (.int (x &&& y) :: rest)) : Wp wd p l e R s m args below meth c Z own nam bytes maxL ret n0 h0 ws Q I h k n pc Ls (.int y :: .int x :: rest) := by
  subst hq1
  exact  step g fun E T L t vm0 B X _ hr => XS.iand X.here E.1 rfl (hb E.2.1 hd) rfl hr

theorem ior {q1 : Nat} {x y : Int32} (hd : decode bytes pc = .ok (.ior, 1)) (hq1 : pc + 1 = q1) (g : Wp wd p l e R s m args below meth c Z own nam bytes maxL ret n0 h0 ws Q I h k n q1 Ls (.int (x ||| y) :: rest)) : Wp wd p l e R s m args below meth c Z own nam bytes maxL ret n0 h0 ws Q I h k n pc Ls (.int y :: .int x :: rest) := by
  subst hq1
  exact  step g fun E T L t vm0 B X _ hr => XS.ior X.here E.1 rfl (hb E.2.1 hd) rfl hr

theorem ixor {q1 : Nat} {x y : Int32} (hd : decode bytes pc = .ok (.ixor, 1)) (hq1 : pc + 1 = q1) (g : Wp wd p l e R s m args below meth c Z own nam bytes maxL ret n0 h0 ws Q I h k n q1 Ls (.int (x ^^^ y) :: rest)) : Wp wd p l e R s m args below meth c Z own nam bytes maxL ret n0 h0 ws Q I h k n pc Ls (.int y :: .int x :: rest) := by
  subst hq1
  exact  step g fun E T L t vm0 B X _ hr => XS.ixor X.here E.1 rfl (hb E.2.1 hd) rfl hr

theorem ladd {q1 : Nat} {x y : Int64} (hd : decode bytes pc = .ok (.ladd, 1)) (hq1 : pc + 1 = q1) (g : Wp wd p l e R s m args below meth c Z own nam bytes maxL ret n0 h0 ws Q I h k n q1 Ls (.long (x + y) :: rest)) : Wp wd p l e R s m args below meth c Z own nam bytes maxL ret n0 h0 ws Q I h k n pc Ls (.long y :: .long x :: rest) := by
  subst hq1
  exact  step g fun E T L t vm0 B X _ hr => XS.ladd X.here E.1 rfl (hb E.2.1 hd) rfl hr

theorem lsub {q1 : Nat} {x y : Int64} (hd : decode bytes pc = .ok (.lsub, 1)) (hq1 : pc + 1 = q1) (g : Wp wd p l e R s m args below meth c Z own nam bytes maxL ret n0 h0 ws Q I h k n q1 Ls (.long (x - y) :: rest)) : Wp wd p l e R s m args below meth c Z own nam bytes maxL ret n0 h0 ws Q I h k n pc Ls (.long y :: .long x :: rest) := by
  subst hq1
  exact  step g fun E T L t vm0 B X _ hr => XS.lsub X.here E.1 rfl (hb E.2.1 hd) rfl hr

theorem lmul {q1 : Nat} {x y : Int64} (hd : decode bytes pc = .ok (.lmul, 1)) (hq1 : pc + 1 = q1) (g : Wp wd p l e R s m args below meth c Z own nam bytes maxL ret n0 h0 ws Q I h k n q1 Ls (.long (x * y) :: rest)) : Wp wd p l e R s m args below meth c Z own nam bytes maxL ret n0 h0 ws Q I h k n pc Ls (.long y :: .long x :: rest) := by
  subst hq1
  exact  step g fun E T L t vm0 B X _ hr => XS.lmul X.here E.1 rfl (hb E.2.1 hd) rfl hr

theorem land {q1 : Nat} {x y : Int64} (hd : decode bytes pc = .ok (.land, 1)) (hq1 : pc + 1 = q1) (g : Wp wd p l e R s m args below meth c Z own nam bytes maxL ret n0 h0 ws Q I h k n q1 Ls (.long (x &&& y) :: rest)) : Wp wd p l e R s m args below meth c Z own nam bytes maxL ret n0 h0 ws Q I h k n pc Ls (.long y :: .long x :: rest) := by
  subst hq1
  exact  step g fun E T L t vm0 B X _ hr => XS.land X.here E.1 rfl (hb E.2.1 hd) rfl hr

theorem lor {q1 : Nat} {x y : Int64} (hd : decode bytes pc = .ok (.lor, 1)) (hq1 : pc + 1 = q1) (g : Wp wd p l e R s m args below meth c Z own nam bytes maxL ret n0 h0 ws Q I h k n q1 Ls (.long (x ||| y) :: rest)) : Wp wd p l e R s m args below meth c Z own nam bytes maxL ret n0 h0 ws Q I h k n pc Ls (.long y :: .long x :: rest) := by
  subst hq1
  exact  step g fun E T L t vm0 B X _ hr => XS.lor X.here E.1 rfl (hb E.2.1 hd) rfl hr

theorem lxor {q1 : Nat} {x y : Int64} (hd : decode bytes pc = .ok (.lxor, 1)) (hq1 : pc + 1 = q1) (g : Wp wd p l e R s m args below meth c Z own nam bytes maxL ret n0 h0 ws Q I h k n q1 Ls (.long (x ^^^ y) :: rest)) : Wp wd p l e R s m args below meth c Z own nam bytes maxL ret n0 h0 ws Q I h k n pc Ls (.long y :: .long x :: rest) := by
  subst hq1
  exact  step g fun E T L t vm0 B X _ hr => XS.lxor X.here E.1 rfl (hb E.2.1 hd) rfl hr

theorem ishl {q1 : Nat} {x y : Int32} (hd : decode bytes pc = .ok (.ishl, 1)) (hq1 : pc + 1 = q1) (g : Wp wd p l e R s m args below meth c Z own nam bytes maxL ret n0 h0 ws Q I h k n q1 Ls (.int (x <<< (y &&& 31)) :: rest)) : Wp wd p l e R s m args below meth c Z own nam bytes maxL ret n0 h0 ws Q I h k n pc Ls (.int y :: .int x :: rest) := by
  subst hq1
  exact  step g fun E T L t vm0 B X _ hr => XS.ishl X.here E.1 rfl (hb E.2.1 hd) rfl hr

theorem ishr {q1 : Nat} {x y : Int32} (hd : decode bytes pc = .ok (.ishr, 1)) (hq1 : pc + 1 = q1) (g : Wp wd p l e R s m args below meth c Z own nam bytes maxL ret n0 h0 ws Q I h k n q1 Ls (.int (x >>> (y &&& 31)) :: rest)) : Wp wd p l e R s m args below meth c Z own nam bytes maxL ret n0 h0 ws Q I h k n pc Ls (.int y :: .int x :: rest) := by
  subst hq1
  exact  step g fun E T L t vm0 B X _ hr => XS.ishr X.here E.1 rfl (hb E.2.1 hd) rfl hr

theorem iushr {q1 : Nat} {x y : Int32} (hd : decode bytes pc = .ok (.iushr, 1)) (hq1 : pc + 1 = q1) (g : Wp wd p l e R s m args below meth c Z own nam bytes maxL ret n0 h0 ws Q I h k n q1 Ls (.int ((x.toUInt32 >>> (y &&& 31).toUInt32).toInt32) :: rest)) : Wp wd p l e R s m args below meth c Z own nam bytes maxL ret n0 h0 ws Q I h k n pc Ls (.int y :: .int x :: rest) := by
  subst hq1
  exact  step g fun E T L t vm0 B X _ hr => XS.iushr X.here E.1 rfl (hb E.2.1 hd) rfl hr

theorem lshl {q1 : Nat} {x : Int64} {y : Int32} (hd : decode bytes pc = .ok (.lshl, 1)) (hq1 : pc + 1 = q1) (g : Wp wd p l e R s m args below meth c Z own nam bytes maxL ret n0 h0 ws Q I h k n q1 Ls (.long (x <<< (y &&& 0x3f).toInt64) :: rest)) : Wp wd p l e R s m args below meth c Z own nam bytes maxL ret n0 h0 ws Q I h k n pc Ls (.int y :: .long x :: rest) := by
  subst hq1
  exact  step g fun E T L t vm0 B X _ hr => XS.lshl X.here E.1 rfl (hb E.2.1 hd) rfl hr

theorem lshr {q1 : Nat} {x : Int64} {y : Int32} (hd : decode bytes pc = .ok (.lshr, 1)) (hq1 : pc + 1 = q1) (g : Wp wd p l e R s m args below meth c Z own nam bytes maxL ret n0 h0 ws Q I h k n q1 Ls (.long (x >>> (y &&& 0x3f).toInt64) :: rest)) : Wp wd p l e R s m args below meth c Z own nam bytes maxL ret n0 h0 ws Q I h k n pc Ls (.int y :: .long x :: rest) := by
  subst hq1
  exact  step g fun E T L t vm0 B X _ hr => XS.lshr X.here E.1 rfl (hb E.2.1 hd) rfl hr

theorem lushr {q1 : Nat} {x : Int64} {y : Int32} (hd : decode bytes pc = .ok (.lushr, 1)) (hq1 : pc + 1 = q1) (g : Wp wd p l e R s m args below meth c Z own nam bytes maxL ret n0 h0 ws Q I h k n q1 Ls (.long ((x.toUInt64 >>> (y &&& 0x3f).toInt64.toUInt64).toInt64) :: rest)) : Wp wd p l e R s m args below meth c Z own nam bytes maxL ret n0 h0 ws Q I h k n pc Ls (.int y :: .long x :: rest) := by
  subst hq1
  exact  step g fun E T L t vm0 B X _ hr => XS.lushr X.here E.1 rfl (hb E.2.1 hd) rfl hr

theorem lcmp {q1 : Nat} {x y : Int64} (hd : decode bytes pc = .ok (.lcmp, 1)) (hq1 : pc + 1 = q1) (g : Wp wd p l e R s m args below meth c Z own nam bytes maxL ret n0 h0 ws Q I h k n q1 Ls (.int (lcmpW x y) :: rest)) : Wp wd p l e R s m args below meth c Z own nam bytes maxL ret n0 h0 ws Q I h k n pc Ls (.long y :: .long x :: rest) := by
  subst hq1
  exact  step g fun E T L t vm0 B X _ hr => XS.lcmp X.here E.1 rfl (hb E.2.1 hd) rfl hr

theorem idiv {q1 : Nat} {x y : Int32} (hd : decode bytes pc = .ok (.idiv, 1)) (hq1 : pc + 1 = q1) (hy : y ≠ 0) (g : Wp wd p l e R s m args below meth c Z own nam bytes maxL ret n0 h0 ws Q I h k n q1 Ls (.int (x / y) :: rest)) : Wp wd p l e R s m args below meth c Z own nam bytes maxL ret n0 h0 ws Q I h k n pc Ls (.int y :: .int x :: rest) := by
  subst hq1
  exact  step g fun E T L t vm0 B X _ hr => XS.idiv X.here E.1 rfl (hb E.2.1 hd) rfl hy hr

theorem ldiv {q1 : Nat} {x y : Int64} (hd : decode bytes pc = .ok (.ldiv, 1)) (hq1 : pc + 1 = q1) (hy : y ≠ 0) (g : Wp wd p l e R s m args below meth c Z own nam bytes maxL ret n0 h0 ws Q I h k n q1 Ls (.long (x / y) :: rest)) : Wp wd p l e R s m args below meth c Z own nam bytes maxL ret n0 h0 ws Q I h k n pc Ls (.long y :: .long x :: rest) := by
  subst hq1
  exact  step g fun E T L t vm0 B X _ hr => XS.ldiv X.here E.1 rfl (hb E.2.1 hd) rfl hy hr

theorem irem {q1 : Nat} {x y : Int32} (hd : decode bytes pc = .ok (.irem, 1)) (hq1 : pc + 1 = q1) (hy : y ≠ 0) (g : Wp wd p l e R s m args below meth c Z own nam bytes maxL ret n0 h0 ws Q I h k n q1 Ls (.int (x % y) :: rest)) : Wp wd p l e R s m args below meth c Z own nam bytes maxL ret n0 h0 ws Q I h k n pc Ls (.int y :: .int x :: rest) := by
  subst hq1
  exact  step g fun E T L t vm0 B X _ hr => iremM X E.1 rfl (hb E.2.1 hd) rfl hy hr

theorem ineg {q1 : Nat} {x : Int32} (hd : decode bytes pc = .ok (.ineg, 1)) (hq1 : pc + 1 = q1) (g : Wp wd p l e R s m args below meth c Z own nam bytes maxL ret n0 h0 ws Q I h k n q1 Ls (.int (-x) :: rest)) : Wp wd p l e R s m args below meth c Z own nam bytes maxL ret n0 h0 ws Q I h k n pc Ls (.int x :: rest) := by
  subst hq1
  exact  step g fun E T L t vm0 B X _ hr => XS.ineg X.here E.1 rfl (hb E.2.1 hd) rfl hr

theorem lneg {q1 : Nat} {x : Int64} (hd : decode bytes pc = .ok (.lneg, 1)) (hq1 : pc + 1 = q1) (g : Wp wd p l e R s m args below meth c Z own nam bytes maxL ret n0 h0 ws Q I h k n q1 Ls (.long (-x) :: rest)) : Wp wd p l e R s m args below meth c Z own nam bytes maxL ret n0 h0 ws Q I h k n pc Ls (.long x :: rest) := by
  subst hq1
  exact  step g fun E T L t vm0 B X _ hr => XS.lneg X.here E.1 rfl (hb E.2.1 hd) rfl hr

theorem i2l {q1 : Nat} {x : Int32} (hd : decode bytes pc = .ok (.i2l, 1)) (hq1 : pc + 1 = q1) (g : Wp wd p l e R s m args below meth c Z own nam bytes maxL ret n0 h0 ws Q I h k n q1 Ls (.long (x.toInt64) :: rest)) : Wp wd p l e R s m args below meth c Z own nam bytes maxL ret n0 h0 ws Q I h k n pc Ls (.int x :: rest) := by
  subst hq1
  exact  step g fun E T L t vm0 B X _ hr => XS.i2l X.here E.1 rfl (hb E.2.1 hd) rfl hr

theorem l2i {q1 : Nat} {x : Int64} (hd : decode bytes pc = .ok (.l2i, 1)) (hq1 : pc + 1 = q1) (g : Wp wd p l e R s m args below meth c Z own nam bytes maxL ret n0 h0 ws Q I h k n q1 Ls (.int (x.toInt32) :: rest)) : Wp wd p l e R s m args below meth c Z own nam bytes maxL ret n0 h0 ws Q I h k n pc Ls (.long x :: rest) := by
  subst hq1
  exact  step g fun E T L t vm0 B X _ hr => XS.l2i X.here E.1 rfl (hb E.2.1 hd) rfl hr

theorem i2b {q1 : Nat} {x : Int32} (hd : decode bytes pc = .ok (.i2b, 1)) (hq1 : pc + 1 = q1) (g : Wp wd p l e R s m args below meth c Z own nam bytes maxL ret n0 h0 ws Q I h k n q1 Ls (.int (x.toInt8.toInt32) :: rest)) : Wp wd p l e R s m args below meth c Z own nam bytes maxL ret n0 h0 ws Q I h k n pc Ls (.int x :: rest) := by
  subst hq1
  exact  step g fun E T L t vm0 B X _ hr => XS.i2b X.here E.1 rfl (hb E.2.1 hd) rfl hr

theorem i2s {q1 : Nat} {x : Int32} (hd : decode bytes pc = .ok (.i2s, 1)) (hq1 : pc + 1 = q1) (g : Wp wd p l e R s m args below meth c Z own nam bytes maxL ret n0 h0 ws Q I h k n q1 Ls (.int (x.toInt16.toInt32) :: rest)) : Wp wd p l e R s m args below meth c Z own nam bytes maxL ret n0 h0 ws Q I h k n pc Ls (.int x :: rest) := by
  subst hq1
  exact  step g fun E T L t vm0 B X _ hr => XS.i2s X.here E.1 rfl (hb E.2.1 hd) rfl hr

theorem i2c {q1 : Nat} {x : Int32} (hd : decode bytes pc = .ok (.i2c, 1)) (hq1 : pc + 1 = q1) (g : Wp wd p l e R s m args below meth c Z own nam bytes maxL ret n0 h0 ws Q I h k n q1 Ls (.int (x.toUInt32.toUInt16.toUInt32.toInt32) :: rest)) : Wp wd p l e R s m args below meth c Z own nam bytes maxL ret n0 h0 ws Q I h k n pc Ls (.int x :: rest) := by
  subst hq1
  exact  step g fun E T L t vm0 B X _ hr => XS.i2c X.here E.1 rfl (hb E.2.1 hd) rfl hr

theorem iconst {q1 : Nat} {i : Int} {v : Int32} (hd : decode bytes pc = .ok (.iconst i, 1)) (hq1 : pc + 1 = q1) (hv : Int32.ofInt i = v) (g : Wp wd p l e R s m args below meth c Z own nam bytes maxL ret n0 h0 ws Q I h k n q1 Ls (.int v :: st)) : Wp wd p l e R s m args below meth c Z own nam bytes maxL ret n0 h0 ws Q I h k n pc Ls st := by
  subst hq1
  exact  step g fun E T L t vm0 B X _ hr => XT.iconstV X.here E.1 rfl v (hb E.2.1 hd) hv hr

theorem bipush {q1 : Nat} {i : Int} {v : Int32} (hd : decode bytes pc = .ok (.bipush i, 2)) (hq1 : pc + 2 = q1) (hv : (Int8.ofInt i).toInt32 = v) (g : Wp wd p l e R s m args below meth c Z own nam bytes maxL ret n0 h0 ws Q I h k n q1 Ls (.int v :: st)) : Wp wd p l e R s m args below meth c Z own nam bytes maxL ret n0 h0 ws Q I h k n pc Ls st := by
  subst hq1
  exact  step g fun E T L t vm0 B X _ hr => XT.bipushV X.here E.1 rfl v (hb E.2.1 hd) hv hr

theorem sipush {q1 : Nat} {i : Int} {v : Int32} (hd : decode bytes pc = .ok (.sipush i, 3)) (hq1 : pc + 3 = q1) (hv : (Int16.ofInt i).toInt32 = v) (g : Wp wd p l e R s m args below meth c Z own nam bytes maxL ret n0 h0 ws Q I h k n q1 Ls (.int v :: st)) : Wp wd p l e R s m args below meth c Z own nam bytes maxL ret n0 h0 ws Q I h k n pc Ls st := by
  subst hq1
  exact  step g fun E T L t vm0 B X _ hr => XT.sipushV X.here E.1 rfl v (hb E.2.1 hd) hv hr

theorem lconst {q1 : Nat} {i : Fin 2} {v : Int64} (hd : decode bytes pc = .ok (.lconst i, 1)) (hq1 : pc + 1 = q1) (hv : Int64.ofNat i = v) (g : Wp wd p l e R s m args below meth c Z own nam bytes maxL ret n0 h0 ws Q I h k n q1 Ls (.long v :: st)) : Wp wd p l e R s m args below meth c Z own nam bytes maxL ret n0 h0 ws Q I h k n pc Ls st := by
  subst hq1
  exact  step g fun E T L t vm0 B X _ hr => XT.lconstV X.here E.1 rfl v (hb E.2.1 hd) hv hr

theorem aconst_null {q1 : Nat} (hd : decode bytes pc = .ok (.aconst_null, 1)) (hq1 : pc + 1 = q1) (g : Wp wd p l e R s m args below meth c Z own nam bytes maxL ret n0 h0 ws Q I h k n q1 Ls (.null :: st)) : Wp wd p l e R s m args below meth c Z own nam bytes maxL ret n0 h0 ws Q I h k n pc Ls st := by
  subst hq1
  exact  step g fun E T L t vm0 B X _ hr => XS.aconstNull X.here E.1 rfl (hb E.2.1 hd) hr

theorem ldcI {q1 : Nat} {i : Nat} {v : Int32} (hd : decode bytes pc = .ok (.ldc i, 2)) (hq1 : pc + 2 = q1) (w : (Cond.constant own i v).before a0 Z = true) (g : Wp wd p l e R s m args below meth c Z own nam bytes maxL ret n0 h0 ws Q I h k n q1 Ls (.int v :: st)) : Wp wd p l e R s m args below meth c Z own nam bytes maxL ret n0 h0 ws Q I h k n pc Ls st := by
  subst hq1
  exact  step g fun E T L t vm0 B X _ hr => X.ldcInt E.1 (bO E B) (mvT (bZ E B) w) (g := mkF m pc Ls.toArray st) rfl (hb E.2.1 hd) _ hr

theorem ldcwI {q1 : Nat} {i : Nat} {v : Int32} (hd : decode bytes pc = .ok (.ldc_w i, 3)) (hq1 : pc + 3 = q1) (w : (Cond.constant own i v).before a0 Z = true) (g : Wp wd p l e R s m args below meth c Z own nam bytes maxL ret n0 h0 ws Q I h k n q1 Ls (.int v :: st)) : Wp wd p l e R s m args below meth c Z own nam bytes maxL ret n0 h0 ws Q I h k n pc Ls st := by
  subst hq1
  exact  step g fun E T L t vm0 B X _ hr => X.ldcwInt E.1 (bO E B) (mvT (bZ E B) w) (g := mkF m pc Ls.toArray st) rfl (hb E.2.1 hd) _ hr

theorem ldc2J {q1 : Nat} {i : Nat} {v : Int64} (hd : decode bytes pc = .ok (.ldc2_w i, 3)) (hq1 : pc + 3 = q1) (w : (Cond.constantLong own i v).before a0 Z = true) (g : Wp wd p l e R s m args below meth c Z own nam bytes maxL ret n0 h0 ws Q I h k n q1 Ls (.long v :: st)) : Wp wd p l e R s m args below meth c Z own nam bytes maxL ret n0 h0 ws Q I h k n pc Ls st := by
  subst hq1
  exact  step g fun E T L t vm0 B X _ hr => X.ldc2Long E.1 (bO E B) (mvT (bZ E B) w) (g := mkF m pc Ls.toArray st) rfl (hb E.2.1 hd) _ hr

theorem iload {q1 : Nat} {j : Nat} {v : Int32} (hd : decode bytes pc = .ok (.iload j, 2)) (hq1 : pc + 2 = q1) (hl : Ls[j]? = some (.val (.int v))) (g : Wp wd p l e R s m args below meth c Z own nam bytes maxL ret n0 h0 ws Q I h k n q1 Ls ((.int v) :: st)) : Wp wd p l e R s m args below meth c Z own nam bytes maxL ret n0 h0 ws Q I h k n pc Ls st := by
  subst hq1
  exact  step g fun E T L t vm0 B X _ hr => XS.iload X.here E.1 rfl (hb E.2.1 hd) (by simpa using hl) hr

theorem iload_n {q1 : Nat} {j : Fin 4} {v : Int32} (hd : decode bytes pc = .ok (.iload_n j, 1)) (hq1 : pc + 1 = q1) (hl : Ls[j.val]? = some (.val (.int v))) (g : Wp wd p l e R s m args below meth c Z own nam bytes maxL ret n0 h0 ws Q I h k n q1 Ls ((.int v) :: st)) : Wp wd p l e R s m args below meth c Z own nam bytes maxL ret n0 h0 ws Q I h k n pc Ls st := by
  subst hq1
  exact  step g fun E T L t vm0 B X _ hr => XS.iloadN X.here E.1 rfl (hb E.2.1 hd) (by simpa using hl) hr

theorem lload {q1 : Nat} {j : Nat} {v : Int64} (hd : decode bytes pc = .ok (.lload j, 2)) (hq1 : pc + 2 = q1) (hl : Ls[j]? = some (.val (.long v))) (g : Wp wd p l e R s m args below meth c Z own nam bytes maxL ret n0 h0 ws Q I h k n q1 Ls ((.long v) :: st)) : Wp wd p l e R s m args below meth c Z own nam bytes maxL ret n0 h0 ws Q I h k n pc Ls st := by
  subst hq1
  exact  step g fun E T L t vm0 B X _ hr => XS.lload X.here E.1 rfl (hb E.2.1 hd) (by simpa using hl) hr

theorem lload_n {q1 : Nat} {j : Fin 4} {v : Int64} (hd : decode bytes pc = .ok (.lload_n j, 1)) (hq1 : pc + 1 = q1) (hl : Ls[j.val]? = some (.val (.long v))) (g : Wp wd p l e R s m args below meth c Z own nam bytes maxL ret n0 h0 ws Q I h k n q1 Ls ((.long v) :: st)) : Wp wd p l e R s m args below meth c Z own nam bytes maxL ret n0 h0 ws Q I h k n pc Ls st := by
  subst hq1
  exact  step g fun E T L t vm0 B X _ hr => XS.lloadN X.here E.1 rfl (hb E.2.1 hd) (by simpa using hl) hr

theorem aload {q1 : Nat} {j : Nat} {v : Value} (hd : decode bytes pc = .ok (.aload j, 2)) (hq1 : pc + 2 = q1) (hl : Ls[j]? = some (.val (v))) (hv : v.isRef = true) (g : Wp wd p l e R s m args below meth c Z own nam bytes maxL ret n0 h0 ws Q I h k n q1 Ls ((v) :: st)) : Wp wd p l e R s m args below meth c Z own nam bytes maxL ret n0 h0 ws Q I h k n pc Ls st := by
  subst hq1
  exact  step g fun E T L t vm0 B X _ hr => XS.aload X.here E.1 rfl (hb E.2.1 hd) (by simpa using hl) hv hr

theorem aload_n {q1 : Nat} {j : Fin 4} {v : Value} (hd : decode bytes pc = .ok (.aload_n j, 1)) (hq1 : pc + 1 = q1) (hl : Ls[j.val]? = some (.val (v))) (hv : v.isRef = true) (g : Wp wd p l e R s m args below meth c Z own nam bytes maxL ret n0 h0 ws Q I h k n q1 Ls ((v) :: st)) : Wp wd p l e R s m args below meth c Z own nam bytes maxL ret n0 h0 ws Q I h k n pc Ls st := by
  subst hq1
  exact  step g fun E T L t vm0 B X _ hr => XS.aloadN X.here E.1 rfl (hb E.2.1 hd) (by simpa using hl) hv hr

theorem istore {q1 : Nat} {j : Nat} {x : Int32} (hd : decode bytes pc = .ok (.istore j, 2)) (hq1 : pc + 2 = q1) (ho : oneAt Ls j = true) (g : Wp wd p l e R s m args below meth c Z own nam bytes maxL ret n0 h0 ws Q I h k n q1 (Ls.set j (.val (.int x))) rest) : Wp wd p l e R s m args below meth c Z own nam bytes maxL ret n0 h0 ws Q I h k n pc Ls (.int x :: rest) := by
  subst hq1
  exact  step g fun E T L t vm0 B X _ hr => XS.istore X.here E.1 rfl (hb E.2.1 hd) rfl (one_store ho rfl) hr

theorem istore_n {q1 : Nat} {j : Fin 4} {jj : Nat} {x : Int32} (hd : decode bytes pc = .ok (.istore_n j, 1)) (hq1 : pc + 1 = q1) (hj : j.val = jj) (ho : oneAt Ls jj = true) (g : Wp wd p l e R s m args below meth c Z own nam bytes maxL ret n0 h0 ws Q I h k n q1 (Ls.set jj (.val (.int x))) rest) : Wp wd p l e R s m args below meth c Z own nam bytes maxL ret n0 h0 ws Q I h k n pc Ls (.int x :: rest) := by
  subst hq1
  exact  step g fun E T L t vm0 B X _ hr => XS.istoreN X.here E.1 rfl (hb E.2.1 hd) rfl (by subst hj; exact one_store ho rfl) hr

theorem astore {q1 : Nat} {j : Nat} {x : Value} (hd : decode bytes pc = .ok (.astore j, 2)) (hq1 : pc + 2 = q1) (ho : oneAt Ls j = true) (hv : x.isRef = true) (g : Wp wd p l e R s m args below meth c Z own nam bytes maxL ret n0 h0 ws Q I h k n q1 (Ls.set j (.val x)) rest) : Wp wd p l e R s m args below meth c Z own nam bytes maxL ret n0 h0 ws Q I h k n pc Ls (x :: rest) := by
  subst hq1
  exact  step g fun E T L t vm0 B X _ hr => XS.astore X.here E.1 rfl (hb E.2.1 hd) rfl hv (one_store ho (XT.cat1 hv)) hr

theorem astore_n {q1 : Nat} {j : Fin 4} {jj : Nat} {x : Value} (hd : decode bytes pc = .ok (.astore_n j, 1)) (hq1 : pc + 1 = q1) (hj : j.val = jj) (ho : oneAt Ls jj = true) (hv : x.isRef = true) (g : Wp wd p l e R s m args below meth c Z own nam bytes maxL ret n0 h0 ws Q I h k n q1 (Ls.set jj (.val x)) rest) : Wp wd p l e R s m args below meth c Z own nam bytes maxL ret n0 h0 ws Q I h k n pc Ls (x :: rest) := by
  subst hq1
  exact  step g fun E T L t vm0 B X _ hr => XS.astoreN X.here E.1 rfl (hb E.2.1 hd) rfl hv (by subst hj; exact one_store ho (XT.cat1 hv)) hr

theorem lstore {q1 : Nat} {j jk : Nat} {x : Int64} (hd : decode bytes pc = .ok (.lstore j, 2)) (hq1 : pc + 2 = q1) (hjk : j + 1 = jk) (ho : twoAt Ls j = true) (g : Wp wd p l e R s m args below meth c Z own nam bytes maxL ret n0 h0 ws Q I h k n q1 ((Ls.set j (.val (.long x))).set jk .second) rest) : Wp wd p l e R s m args below meth c Z own nam bytes maxL ret n0 h0 ws Q I h k n pc Ls (.long x :: rest) := by
  subst hq1
  exact  step g fun E T L t vm0 B X _ hr => XS.lstore X.here E.1 rfl (hb E.2.1 hd) rfl (by subst hjk; exact two_store ho) hr

theorem lstore_n {q1 : Nat} {j : Fin 4} {jj jk : Nat} {x : Int64} (hd : decode bytes pc = .ok (.lstore_n j, 1)) (hq1 : pc + 1 = q1) (hj : j.val = jj) (hjk : jj + 1 = jk) (ho : twoAt Ls jj = true) (g : Wp wd p l e R s m args below meth c Z own nam bytes maxL ret n0 h0 ws Q I h k n q1 ((Ls.set jj (.val (.long x))).set jk .second) rest) : Wp wd p l e R s m args below meth c Z own nam bytes maxL ret n0 h0 ws Q I h k n pc Ls (.long x :: rest) := by
  subst hq1
  exact  step g fun E T L t vm0 B X _ hr => XS.lstoreN X.here E.1 rfl (hb E.2.1 hd) rfl (by subst hj; subst hjk; exact two_store ho) hr

theorem iinc {q1 : Nat} {j : Nat} {i : Int} {x v : Int32} (hd : decode bytes pc = .ok (.iinc j i, 3)) (hq1 : pc + 3 = q1) (hv : Int32.ofInt i = v) (hl : Ls[j]? = some (.val (.int x))) (g : Wp wd p l e R s m args below meth c Z own nam bytes maxL ret n0 h0 ws Q I h k n q1 (Ls.set j (.val (.int (x + v)))) st) : Wp wd p l e R s m args below meth c Z own nam bytes maxL ret n0 h0 ws Q I h k n pc Ls st := by
  subst hq1
  exact  step g fun E T L t vm0 B X _ hr => XT.iincV X.here E.1 rfl v (hb E.2.1 hd) hv (by simpa using hl) (one_store (by simp [oneAt, hl, oneB, Value.category]) rfl) hr

theorem dup {q1 : Nat} {x : Value} (hd : decode bytes pc = .ok (.dup, 1)) (hq1 : pc + 1 = q1) (hc : x.category = 1) (g : Wp wd p l e R s m args below meth c Z own nam bytes maxL ret n0 h0 ws Q I h k n q1 Ls (x :: x :: rest)) : Wp wd p l e R s m args below meth c Z own nam bytes maxL ret n0 h0 ws Q I h k n pc Ls (x :: rest) := by
  subst hq1
  exact  step g fun E T L t vm0 B X _ hr => XS.dup X.here E.1 rfl (hb E.2.1 hd) rfl hc hr

theorem pop {q1 : Nat} {x : Value} (hd : decode bytes pc = .ok (.pop, 1)) (hq1 : pc + 1 = q1) (hc : x.category = 1) (g : Wp wd p l e R s m args below meth c Z own nam bytes maxL ret n0 h0 ws Q I h k n q1 Ls rest) : Wp wd p l e R s m args below meth c Z own nam bytes maxL ret n0 h0 ws Q I h k n pc Ls (x :: rest) := by
  subst hq1
  exact  step g fun E T L t vm0 B X _ hr => XS.pop X.here E.1 rfl (hb E.2.1 hd) rfl hc hr

theorem dup_x1 {q1 : Nat} {x y : Value} (hd : decode bytes pc = .ok (.dup_x1, 1)) (hq1 : pc + 1 = q1) (hc : x.category = 1) (hc' : y.category = 1) (g : Wp wd p l e R s m args below meth c Z own nam bytes maxL ret n0 h0 ws Q I h k n q1 Ls (x :: y :: x :: rest)) : Wp wd p l e R s m args below meth c Z own nam bytes maxL ret n0 h0 ws Q I h k n pc Ls (x :: y :: rest) := by
  subst hq1
  exact  step g fun E T L t vm0 B X _ hr => XS.dupX1 X.here E.1 rfl (hb E.2.1 hd) rfl hc hc' hr

theorem dup2 {q1 : Nat} {x y : Value} (hd : decode bytes pc = .ok (.dup2, 1)) (hq1 : pc + 1 = q1) (hc : x.category = 1) (hc' : y.category = 1) (g : Wp wd p l e R s m args below meth c Z own nam bytes maxL ret n0 h0 ws Q I h k n q1 Ls (x :: y :: x :: y :: rest)) : Wp wd p l e R s m args below meth c Z own nam bytes maxL ret n0 h0 ws Q I h k n pc Ls (x :: y :: rest) := by
  subst hq1
  exact  step g fun E T L t vm0 B X _ hr => XT.dup2 X.here E.1 rfl (hb E.2.1 hd) rfl hc hc' hr

theorem dup2L {q1 : Nat} {x : Int64} (hd : decode bytes pc = .ok (.dup2, 1)) (hq1 : pc + 1 = q1) (g : Wp wd p l e R s m args below meth c Z own nam bytes maxL ret n0 h0 ws Q I h k n q1 Ls (.long x :: .long x :: rest)) : Wp wd p l e R s m args below meth c Z own nam bytes maxL ret n0 h0 ws Q I h k n pc Ls (.long x :: rest) := by
  subst hq1
  exact  step g fun E T L t vm0 B X _ hr => XT.dup2L X.here E.1 rfl (hb E.2.1 hd) rfl hr

theorem goto {o : Int} {q : Nat} (hd : decode bytes pc = .ok (.goto o, 3)) (hq : (0 ≤ (pc : Int) + o) ∧ ((pc : Int) + o).toNat = q) (g : Wp wd p l e R s m args below meth c Z own nam bytes maxL ret n0 h0 ws Q I h k n q Ls st) : Wp wd p l e R s m args below meth c Z own nam bytes maxL ret n0 h0 ws Q I h k n pc Ls st :=
  step g fun E T L t vm0 B X _ hr => XS.goto X.here E.1 rfl rfl (hb E.2.1 hd) hq.1 hq.2 hr

theorem if_eq {q1 : Nat} {o : Int} {q : Nat} {x : Int32} (hd : decode bytes pc = .ok (.ifCond .eq o, 3)) (hq1 : pc + 3 = q1) (hq : (0 ≤ (pc : Int) + o) ∧ ((pc : Int) + o).toNat = q) (gt : x = 0 → Wp wd p l e R s m args below meth c Z own nam bytes maxL ret n0 h0 ws Q I h k n q Ls rest) (gf : ¬ x = 0 → Wp wd p l e R s m args below meth c Z own nam bytes maxL ret n0 h0 ws Q I h k n q1 Ls rest) : Wp wd p l e R s m args below meth c Z own nam bytes maxL ret n0 h0 ws Q I h k n pc Ls (.int x :: rest) := by
  subst hq1
  by_cases hc : x = 0
  · exact step (gt hc) fun E T L t vm0 B X _ hr => XS.ifYes X.here E.1 rfl rfl (hb E.2.1 hd) rfl ((if0 _ _).trans (teq hc).1) hq.1 hq.2 hr
  · exact step (gf hc) fun E T L t vm0 B X _ hr => XS.ifNo X.here E.1 rfl (hb E.2.1 hd) rfl ((if0 _ _).trans (feq hc).1) hr

theorem icmp_eq {q1 : Nat} {o : Int} {q : Nat} {x y : Int32} (hd : decode bytes pc = .ok (.if_icmp .eq o, 3)) (hq1 : pc + 3 = q1) (hq : (0 ≤ (pc : Int) + o) ∧ ((pc : Int) + o).toNat = q) (gt : x = y → Wp wd p l e R s m args below meth c Z own nam bytes maxL ret n0 h0 ws Q I h k n q Ls rest) (gf : ¬ x = y → Wp wd p l e R s m args below meth c Z own nam bytes maxL ret n0 h0 ws Q I h k n q1 Ls rest) : Wp wd p l e R s m args below meth c Z own nam bytes maxL ret n0 h0 ws Q I h k n pc Ls (.int y :: .int x :: rest) := by
  subst hq1
  by_cases hc : x = y
  · exact step (gt hc) fun E T L t vm0 B X _ hr => XS.icmpYes X.here E.1 rfl rfl (hb E.2.1 hd) rfl (teq hc).1 hq.1 hq.2 hr
  · exact step (gf hc) fun E T L t vm0 B X _ hr => XS.icmpNo X.here E.1 rfl (hb E.2.1 hd) rfl (feq hc).1 hr

theorem if_ne {q1 : Nat} {o : Int} {q : Nat} {x : Int32} (hd : decode bytes pc = .ok (.ifCond .ne o, 3)) (hq1 : pc + 3 = q1) (hq : (0 ≤ (pc : Int) + o) ∧ ((pc : Int) + o).toNat = q) (gt : ¬ x = 0 → Wp wd p l e R s m args below meth c Z own nam bytes maxL ret n0 h0 ws Q I h k n q Ls rest) (gf : x = 0 → Wp wd p l e R s m args below meth c Z own nam bytes maxL ret n0 h0 ws Q I h k n q1 Ls rest) : Wp wd p l e R s m args below meth c Z own nam bytes maxL ret n0 h0 ws Q I h k n pc Ls (.int x :: rest) := by
  subst hq1
  by_cases hc : x = 0
  · exact step (gf hc) fun E T L t vm0 B X _ hr => XS.ifNo X.here E.1 rfl (hb E.2.1 hd) rfl ((if0 _ _).trans (teq hc).2) hr
  · exact step (gt hc) fun E T L t vm0 B X _ hr => XS.ifYes X.here E.1 rfl rfl (hb E.2.1 hd) rfl ((if0 _ _).trans (feq hc).2) hq.1 hq.2 hr

theorem icmp_ne {q1 : Nat} {o : Int} {q : Nat} {x y : Int32} (hd : decode bytes pc = .ok (.if_icmp .ne o, 3)) (hq1 : pc + 3 = q1) (hq : (0 ≤ (pc : Int) + o) ∧ ((pc : Int) + o).toNat = q) (gt : ¬ x = y → Wp wd p l e R s m args below meth c Z own nam bytes maxL ret n0 h0 ws Q I h k n q Ls rest) (gf : x = y → Wp wd p l e R s m args below meth c Z own nam bytes maxL ret n0 h0 ws Q I h k n q1 Ls rest) : Wp wd p l e R s m args below meth c Z own nam bytes maxL ret n0 h0 ws Q I h k n pc Ls (.int y :: .int x :: rest) := by
  subst hq1
  by_cases hc : x = y
  · exact step (gf hc) fun E T L t vm0 B X _ hr => XS.icmpNo X.here E.1 rfl (hb E.2.1 hd) rfl (teq hc).2 hr
  · exact step (gt hc) fun E T L t vm0 B X _ hr => XS.icmpYes X.here E.1 rfl rfl (hb E.2.1 hd) rfl (feq hc).2 hq.1 hq.2 hr

theorem if_lt {q1 : Nat} {o : Int} {q : Nat} {x : Int32} (hd : decode bytes pc = .ok (.ifCond .lt o, 3)) (hq1 : pc + 3 = q1) (hq : (0 ≤ (pc : Int) + o) ∧ ((pc : Int) + o).toNat = q) (gt : x < 0 → Wp wd p l e R s m args below meth c Z own nam bytes maxL ret n0 h0 ws Q I h k n q Ls rest) (gf : ¬ x < 0 → Wp wd p l e R s m args below meth c Z own nam bytes maxL ret n0 h0 ws Q I h k n q1 Ls rest) : Wp wd p l e R s m args below meth c Z own nam bytes maxL ret n0 h0 ws Q I h k n pc Ls (.int x :: rest) := by
  subst hq1
  by_cases hc : x < 0
  · exact step (gt hc) fun E T L t vm0 B X _ hr => XS.ifYes X.here E.1 rfl rfl (hb E.2.1 hd) rfl ((if0 _ _).trans (tlt hc).1) hq.1 hq.2 hr
  · exact step (gf hc) fun E T L t vm0 B X _ hr => XS.ifNo X.here E.1 rfl (hb E.2.1 hd) rfl ((if0 _ _).trans (flt hc).1) hr

theorem icmp_lt {q1 : Nat} {o : Int} {q : Nat} {x y : Int32} (hd : decode bytes pc = .ok (.if_icmp .lt o, 3)) (hq1 : pc + 3 = q1) (hq : (0 ≤ (pc : Int) + o) ∧ ((pc : Int) + o).toNat = q) (gt : x < y → Wp wd p l e R s m args below meth c Z own nam bytes maxL ret n0 h0 ws Q I h k n q Ls rest) (gf : ¬ x < y → Wp wd p l e R s m args below meth c Z own nam bytes maxL ret n0 h0 ws Q I h k n q1 Ls rest) : Wp wd p l e R s m args below meth c Z own nam bytes maxL ret n0 h0 ws Q I h k n pc Ls (.int y :: .int x :: rest) := by
  subst hq1
  by_cases hc : x < y
  · exact step (gt hc) fun E T L t vm0 B X _ hr => XS.icmpYes X.here E.1 rfl rfl (hb E.2.1 hd) rfl (tlt hc).1 hq.1 hq.2 hr
  · exact step (gf hc) fun E T L t vm0 B X _ hr => XS.icmpNo X.here E.1 rfl (hb E.2.1 hd) rfl (flt hc).1 hr

theorem if_ge {q1 : Nat} {o : Int} {q : Nat} {x : Int32} (hd : decode bytes pc = .ok (.ifCond .ge o, 3)) (hq1 : pc + 3 = q1) (hq : (0 ≤ (pc : Int) + o) ∧ ((pc : Int) + o).toNat = q) (gt : ¬ x < 0 → Wp wd p l e R s m args below meth c Z own nam bytes maxL ret n0 h0 ws Q I h k n q Ls rest) (gf : x < 0 → Wp wd p l e R s m args below meth c Z own nam bytes maxL ret n0 h0 ws Q I h k n q1 Ls rest) : Wp wd p l e R s m args below meth c Z own nam bytes maxL ret n0 h0 ws Q I h k n pc Ls (.int x :: rest) := by
  subst hq1
  by_cases hc : x < 0
  · exact step (gf hc) fun E T L t vm0 B X _ hr => XS.ifNo X.here E.1 rfl (hb E.2.1 hd) rfl ((if0 _ _).trans (tlt hc).2.1) hr
  · exact step (gt hc) fun E T L t vm0 B X _ hr => XS.ifYes X.here E.1 rfl rfl (hb E.2.1 hd) rfl ((if0 _ _).trans (flt hc).2.1) hq.1 hq.2 hr

theorem icmp_ge {q1 : Nat} {o : Int} {q : Nat} {x y : Int32} (hd : decode bytes pc = .ok (.if_icmp .ge o, 3)) (hq1 : pc + 3 = q1) (hq : (0 ≤ (pc : Int) + o) ∧ ((pc : Int) + o).toNat = q) (gt : ¬ x < y → Wp wd p l e R s m args below meth c Z own nam bytes maxL ret n0 h0 ws Q I h k n q Ls rest) (gf : x < y → Wp wd p l e R s m args below meth c Z own nam bytes maxL ret n0 h0 ws Q I h k n q1 Ls rest) : Wp wd p l e R s m args below meth c Z own nam bytes maxL ret n0 h0 ws Q I h k n pc Ls (.int y :: .int x :: rest) := by
  subst hq1
  by_cases hc : x < y
  · exact step (gf hc) fun E T L t vm0 B X _ hr => XS.icmpNo X.here E.1 rfl (hb E.2.1 hd) rfl (tlt hc).2.1 hr
  · exact step (gt hc) fun E T L t vm0 B X _ hr => XS.icmpYes X.here E.1 rfl rfl (hb E.2.1 hd) rfl (flt hc).2.1 hq.1 hq.2 hr

theorem if_gt {q1 : Nat} {o : Int} {q : Nat} {x : Int32} (hd : decode bytes pc = .ok (.ifCond .gt o, 3)) (hq1 : pc + 3 = q1) (hq : (0 ≤ (pc : Int) + o) ∧ ((pc : Int) + o).toNat = q) (gt : 0 < x → Wp wd p l e R s m args below meth c Z own nam bytes maxL ret n0 h0 ws Q I h k n q Ls rest) (gf : ¬ 0 < x → Wp wd p l e R s m args below meth c Z own nam bytes maxL ret n0 h0 ws Q I h k n q1 Ls rest) : Wp wd p l e R s m args below meth c Z own nam bytes maxL ret n0 h0 ws Q I h k n pc Ls (.int x :: rest) := by
  subst hq1
  by_cases hc : 0 < x
  · exact step (gt hc) fun E T L t vm0 B X _ hr => XS.ifYes X.here E.1 rfl rfl (hb E.2.1 hd) rfl ((if0 _ _).trans (tlt hc).2.2.1) hq.1 hq.2 hr
  · exact step (gf hc) fun E T L t vm0 B X _ hr => XS.ifNo X.here E.1 rfl (hb E.2.1 hd) rfl ((if0 _ _).trans (flt hc).2.2.1) hr

theorem icmp_gt {q1 : Nat} {o : Int} {q : Nat} {x y : Int32} (hd : decode bytes pc = .ok (.if_icmp .gt o, 3)) (hq1 : pc + 3 = q1) (hq : (0 ≤ (pc : Int) + o) ∧ ((pc : Int) + o).toNat = q) (gt : y < x → Wp wd p l e R s m args below meth c Z own nam bytes maxL ret n0 h0 ws Q I h k n q Ls rest) (gf : ¬ y < x → Wp wd p l e R s m args below meth c Z own nam bytes maxL ret n0 h0 ws Q I h k n q1 Ls rest) : Wp wd p l e R s m args below meth c Z own nam bytes maxL ret n0 h0 ws Q I h k n pc Ls (.int y :: .int x :: rest) := by
  subst hq1
  by_cases hc : y < x
  · exact step (gt hc) fun E T L t vm0 B X _ hr => XS.icmpYes X.here E.1 rfl rfl (hb E.2.1 hd) rfl (tlt hc).2.2.1 hq.1 hq.2 hr
  · exact step (gf hc) fun E T L t vm0 B X _ hr => XS.icmpNo X.here E.1 rfl (hb E.2.1 hd) rfl (flt hc).2.2.1 hr

theorem if_le {q1 : Nat} {o : Int} {q : Nat} {x : Int32} (hd : decode bytes pc = .ok (.ifCond .le o, 3)) (hq1 : pc + 3 = q1) (hq : (0 ≤ (pc : Int) + o) ∧ ((pc : Int) + o).toNat = q) (gt : ¬ 0 < x → Wp wd p l e R s m args below meth c Z own nam bytes maxL ret n0 h0 ws Q I h k n q Ls rest) (gf : 0 < x → Wp wd p l e R s m args below meth c Z own nam bytes maxL ret n0 h0 ws Q I h k n q1 Ls rest) : Wp wd p l e R s m args below meth c Z own nam bytes maxL ret n0 h0 ws Q I h k n pc Ls (.int x :: rest) := by
  subst hq1
  by_cases hc : 0 < x
  · exact step (gf hc) fun E T L t vm0 B X _ hr => XS.ifNo X.here E.1 rfl (hb E.2.1 hd) rfl ((if0 _ _).trans (tlt hc).2.2.2) hr
  · exact step (gt hc) fun E T L t vm0 B X _ hr => XS.ifYes X.here E.1 rfl rfl (hb E.2.1 hd) rfl ((if0 _ _).trans (flt hc).2.2.2) hq.1 hq.2 hr

theorem icmp_le {q1 : Nat} {o : Int} {q : Nat} {x y : Int32} (hd : decode bytes pc = .ok (.if_icmp .le o, 3)) (hq1 : pc + 3 = q1) (hq : (0 ≤ (pc : Int) + o) ∧ ((pc : Int) + o).toNat = q) (gt : ¬ y < x → Wp wd p l e R s m args below meth c Z own nam bytes maxL ret n0 h0 ws Q I h k n q Ls rest) (gf : y < x → Wp wd p l e R s m args below meth c Z own nam bytes maxL ret n0 h0 ws Q I h k n q1 Ls rest) : Wp wd p l e R s m args below meth c Z own nam bytes maxL ret n0 h0 ws Q I h k n pc Ls (.int y :: .int x :: rest) := by
  subst hq1
  by_cases hc : y < x
  · exact step (gf hc) fun E T L t vm0 B X _ hr => XS.icmpNo X.here E.1 rfl (hb E.2.1 hd) rfl (tlt hc).2.2.2 hr
  · exact step (gt hc) fun E T L t vm0 B X _ hr => XS.icmpYes X.here E.1 rfl rfl (hb E.2.1 hd) rfl (flt hc).2.2.2 hq.1 hq.2 hr

theorem ifnull {q1 : Nat} {o : Int} {q : Nat} {v : Value} (hd : decode bytes pc = .ok (.ifnull o, 3)) (hq1 : pc + 3 = q1) (hq : (0 ≤ (pc : Int) + o) ∧ ((pc : Int) + o).toNat = q) (hv : v.isRef = true) (gt : v = .null → Wp wd p l e R s m args below meth c Z own nam bytes maxL ret n0 h0 ws Q I h k n q Ls rest) (gf : ¬ v = .null → Wp wd p l e R s m args below meth c Z own nam bytes maxL ret n0 h0 ws Q I h k n q1 Ls rest) : Wp wd p l e R s m args below meth c Z own nam bytes maxL ret n0 h0 ws Q I h k n pc Ls (v :: rest) := by
  subst hq1
  by_cases hn : v = .null
  · exact step (gt hn) fun E T L t vm0 B X _ hr => XT.nullYes X.here E.1 rfl rfl (hb E.2.1 hd) rfl hn hq.1 hq.2 hr
  · exact step (gf hn) fun E T L t vm0 B X _ hr => XT.nullNo X.here E.1 rfl (hb E.2.1 hd) rfl hv hn hr

theorem ifnonnull {q1 : Nat} {o : Int} {q : Nat} {v : Value} (hd : decode bytes pc = .ok (.ifnonnull o, 3)) (hq1 : pc + 3 = q1) (hq : (0 ≤ (pc : Int) + o) ∧ ((pc : Int) + o).toNat = q) (hv : v.isRef = true) (gt : ¬ v = .null → Wp wd p l e R s m args below meth c Z own nam bytes maxL ret n0 h0 ws Q I h k n q Ls rest) (gf : v = .null → Wp wd p l e R s m args below meth c Z own nam bytes maxL ret n0 h0 ws Q I h k n q1 Ls rest) : Wp wd p l e R s m args below meth c Z own nam bytes maxL ret n0 h0 ws Q I h k n pc Ls (v :: rest) := by
  subst hq1
  by_cases hn : v = .null
  · exact step (gf hn) fun E T L t vm0 B X _ hr => XT.nonnullNo X.here E.1 rfl (hb E.2.1 hd) rfl hn hr
  · exact step (gt hn) fun E T L t vm0 B X _ hr => XT.nonnullYes X.here E.1 rfl rfl (hb E.2.1 hd) rfl hv hn hq.1 hq.2 hr

theorem acmp_eq {q1 : Nat} {o : Int} {q : Nat} {x y : Value} (hd : decode bytes pc = .ok (.if_acmp .eq o, 3)) (hq1 : pc + 3 = q1) (hq : (0 ≤ (pc : Int) + o) ∧ ((pc : Int) + o).toNat = q) (hx : x.isRef = true) (hy : y.isRef = true) (gt : x = y → Wp wd p l e R s m args below meth c Z own nam bytes maxL ret n0 h0 ws Q I h k n q Ls rest) (gf : ¬ x = y → Wp wd p l e R s m args below meth c Z own nam bytes maxL ret n0 h0 ws Q I h k n q1 Ls rest) : Wp wd p l e R s m args below meth c Z own nam bytes maxL ret n0 h0 ws Q I h k n pc Ls (y :: x :: rest) := by
  subst hq1
  by_cases hn : x = y
  · exact step (gt hn) fun E T L t vm0 B X _ hr => XT.acmpYes X.here E.1 rfl rfl (hb E.2.1 hd) rfl hx hy (XT.aa_eq_t hn) hq.1 hq.2 hr
  · exact step (gf hn) fun E T L t vm0 B X _ hr => XT.acmpNo X.here E.1 rfl (hb E.2.1 hd) rfl hx hy (XT.aa_eq_f hn) hr

theorem acmp_ne {q1 : Nat} {o : Int} {q : Nat} {x y : Value} (hd : decode bytes pc = .ok (.if_acmp .ne o, 3)) (hq1 : pc + 3 = q1) (hq : (0 ≤ (pc : Int) + o) ∧ ((pc : Int) + o).toNat = q) (hx : x.isRef = true) (hy : y.isRef = true) (gt : ¬ x = y → Wp wd p l e R s m args below meth c Z own nam bytes maxL ret n0 h0 ws Q I h k n q Ls rest) (gf : x = y → Wp wd p l e R s m args below meth c Z own nam bytes maxL ret n0 h0 ws Q I h k n q1 Ls rest) : Wp wd p l e R s m args below meth c Z own nam bytes maxL ret n0 h0 ws Q I h k n pc Ls (y :: x :: rest) := by
  subst hq1
  by_cases hn : x = y
  · exact step (gf hn) fun E T L t vm0 B X _ hr => XT.acmpNo X.here E.1 rfl (hb E.2.1 hd) rfl hx hy (XT.aa_ne_f hn) hr
  · exact step (gt hn) fun E T L t vm0 B X _ hr => XT.acmpYes X.here E.1 rfl rfl (hb E.2.1 hd) rfl hx hy (XT.aa_ne_t hn) hq.1 hq.2 hr

theorem getfield {q1 : Nat} {i : Nat} {R0 O f d : String} {a : Addr} {v : Value} (hd : decode bytes pc = .ok (.getfield i, 3)) (hq1 : pc + 3 = q1) (w : (Cond.fieldLink own i R0 f d).before a0 Z = true) (via : Via Z R0 O f d) (F : Fld Z h a O f d v) (g : Wp wd p l e R s m args below meth c Z own nam bytes maxL ret n0 h0 ws Q I h k n q1 Ls (v :: rest)) : Wp wd p l e R s m args below meth c Z own nam bytes maxL ret n0 h0 ws Q I h k n pc Ls (.ref a :: rest) := by
  subst hq1
  exact  lawS fun E T L vm0 B X N eT => by
    obtain ⟨T', X', e', st'⟩ := getF X E.1 (bZ E B) (bO E B) (host := "") (Or.inl w) via eT F (g := mkF m pc Ls.toArray (.ref a :: rest)) rfl rfl (hb E.2.1 hd)
    exact ⟨T', L, h, k, n, X', N, e', Nat.le_refl _, st', g⟩

theorem putfield {q1 : Nat} {i kk : Nat} {R0 O f d C : String} {ty : FieldType} {a : Addr} {v old : Value} (hd : decode bytes pc = .ok (.putfield i, 3)) (hq1 : pc + 3 = q1) (w : (Cond.fieldLink own i R0 f d).before a0 Z = true) (via : Via Z R0 O f d) (F : Fld Z h a O f d old) (X0 : Exa Z h a C) (Lw : (Cond.lays C O f d).before a0 Z = true ∨ ((Cond.laysFinal C O f d).before a0 Z = true ∧ own = O ∧ nam = "<init>")) (wi : (Cond.instantiable C kk).before a0 Z = true) (hty : parseFieldDescriptor d = some ty) (hn : narrow ty v = v) (hf : fits ty v = true) (ha : a ∈ ws ∨ h0.size ≤ a)
    (g : ∀ h', Wr h h' a (Jvm.RoadKit.slotOf Z O f d) v → Wp wd p l e R s m args below meth c Z own nam bytes maxL ret n0 h0 ws Q I h' k n q1 Ls rest) : Wp wd p l e R s m args below meth c Z own nam bytes maxL ret n0 h0 ws Q I h k n pc Ls (v :: .ref a :: rest) := by
  subst hq1
  exact  lawS fun E T L vm0 B X N eT => by
    obtain ⟨T', h', X', e', W', st'⟩ := putF X E.1 (bZ E B) (bO E B) (host := "") (Or.inl w) via eT F X0 (Lw.imp id fun q => ⟨q.1, q.2.1, E.2.2.2.2.2.1.trans q.2.2⟩) wi hty hn hf (g := mkF m pc Ls.toArray (v :: .ref a :: rest)) rfl rfl (hb E.2.1 hd)
    exact ⟨T', _, h', k, n, X', Pmt.snoc N ha, e', Nat.le_of_eq W'.size.symm, st', g h' W'⟩

theorem putfieldN {q1 : Nat} {i kk : Nat} {R0 O f d C : String} {ty : FieldType} {a : Addr} {v v' old : Value} (hd : decode bytes pc = .ok (.putfield i, 3)) (hq1 : pc + 3 = q1) (w : (Cond.fieldLink own i R0 f d).before a0 Z = true) (via : Via Z R0 O f d) (F : Fld Z h a O f d old) (X0 : Exa Z h a C) (Lw : (Cond.lays C O f d).before a0 Z = true ∨ ((Cond.laysFinal C O f d).before a0 Z = true ∧ own = O ∧ nam = "<init>")) (wi : (Cond.instantiable C kk).before a0 Z = true) (hty : parseFieldDescriptor d = some ty) (hn : narrow ty v = v') (hf : fits ty v' = true) (ha : a ∈ ws ∨ h0.size ≤ a)
    (g : ∀ h', Wr h h' a (Jvm.RoadKit.slotOf Z O f d) v' → Wp wd p l e R s m args below meth c Z own nam bytes maxL ret n0 h0 ws Q I h' k n q1 Ls rest) : Wp wd p l e R s m args below meth c Z own nam bytes maxL ret n0 h0 ws Q I h k n pc Ls (v :: .ref a :: rest) := by
  subst hq1
  exact  lawS fun E T L vm0 B X N eT => by
    obtain ⟨T', h', X', e', W', st'⟩ := putFN X E.1 (bZ E B) (bO E B) w via eT F X0 (Lw.imp id fun q => ⟨q.1, q.2.1, E.2.2.2.2.2.1.trans q.2.2⟩) wi hty hn hf (g := mkF m pc Ls.toArray (v :: .ref a :: rest)) rfl rfl (hb E.2.1 hd)
    exact ⟨T', _, h', k, n, X', Pmt.snoc N ha, e', Nat.le_of_eq W'.size.symm, st', g h' W'⟩

theorem getstatic {q1 : Nat} {i : Nat} {R0 O f d : String} {v : Value} (hd : decode bytes pc = .ok (.getstatic i, 3)) (hq1 : pc + 3 = q1) (w : (Cond.fieldLink own i R0 f d).before a0 Z = true) (via : Via Z R0 O f d) (F : Sta Z h O f d v) (g : Wp wd p l e R s m args below meth c Z own nam bytes maxL ret n0 h0 ws Q I h k n q1 Ls (v :: st)) : Wp wd p l e R s m args below meth c Z own nam bytes maxL ret n0 h0 ws Q I h k n pc Ls st := by
  subst hq1
  exact  lawS fun E T L vm0 B X N eT => by
    obtain ⟨T', X', e', st'⟩ := getS (host := "") X E.1 (bZ E B) (bO E B) w via eT F (g := mkF m pc Ls.toArray st) rfl (hb E.2.1 hd)
    exact ⟨T', L, h, k, n, X', N, e', Nat.le_refl _, st', g⟩

theorem checkcast {q1 : Nat} {i : Nat} {K : String} {a : Addr} (hd : decode bytes pc = .ok (.checkcast i, 3)) (hq1 : pc + 3 = q1) (w : (Cond.classLink own i K).before a0 Z = true) (II : Ins Z h a K true) (g : Wp wd p l e R s m args below meth c Z own nam bytes maxL ret n0 h0 ws Q I h k n q1 Ls (.ref a :: rest)) : Wp wd p l e R s m args below meth c Z own nam bytes maxL ret n0 h0 ws Q I h k n pc Ls (.ref a :: rest) := by
  subst hq1
  exact  lawS fun E T L vm0 B X N eT => by
    obtain ⟨T', X', e', st'⟩ := castY X E.1 (bZ E B) (bO E B) w eT II (g := mkF m pc Ls.toArray (.ref a :: rest)) rfl rfl (hb E.2.1 hd)
    exact ⟨T', L, h, k, n, X', N, e', Nat.le_refl _, st', g⟩

theorem instanceofY {q1 : Nat} {i : Nat} {K : String} {a : Addr} (hd : decode bytes pc = .ok (.instanceof i, 3)) (hq1 : pc + 3 = q1) (w : (Cond.classLink own i K).before a0 Z = true) (II : Ins Z h a K true) (g : Wp wd p l e R s m args below meth c Z own nam bytes maxL ret n0 h0 ws Q I h k n q1 Ls (.int 1 :: rest)) : Wp wd p l e R s m args below meth c Z own nam bytes maxL ret n0 h0 ws Q I h k n pc Ls (.ref a :: rest) := by
  subst hq1
  exact  lawS fun E T L vm0 B X N eT => by
    obtain ⟨T', X', e', st'⟩ := instY X E.1 (bZ E B) (bO E B) w eT II (g := mkF m pc Ls.toArray (.ref a :: rest)) rfl rfl (hb E.2.1 hd)
    exact ⟨T', L, h, k, n, X', N, e', Nat.le_refl _, st', g⟩

theorem new {q1 : Nat} {i sz : Nat} {C : String} (hd : decode bytes pc = .ok (.new i, 3)) (hq1 : pc + 3 = q1) (w : (Cond.classLink own i C).before a0 Z = true) (wi : (Cond.instantiable C sz).before a0 Z = true) (wz : (Cond.initialized C).before a0 Z = true) (hk : k + 1 ≤ R.cells) (hn : n + sz ≤ R.slots)
    (g : h0.size ≤ h.size → ∀ h', Ext h h' → Exa Z h' h.size C → (∀ {O nm d : String} {ty : FieldType}, Laid Z a0 C O nm d → parseFieldDescriptor d = some ty → Fld Z h' h.size O nm d (defaultValue ty)) → Unt h' h.size → Wp wd p l e R s m args below meth c Z own nam bytes maxL ret n0 h0 ws Q I h' (k + 1) (n + sz) q1 Ls (.ref h.size :: st)) : Wp wd p l e R s m args below meth c Z own nam bytes maxL ret n0 h0 ws Q I h k n pc Ls st := by
  subst hq1
  exact  lawS fun E T L vm0 B X N eT => by
    obtain ⟨T', h', X', e', E', A', D', U', st'⟩ := newO X E.1 (bZ E B) (bO E B) w wi wz eT (g := mkF m pc Ls.toArray st) rfl (hb E.2.1 hd) hk hn
    exact ⟨T', L, h', _, _, X', N, e', E'.1, st', g (szOf E X eT) h' E' A' D' U'⟩

/-- an array: its kind, length and values -/
def Ary (Z : State) (h : Heap) (a : Addr) (ty : FieldType) (len : Nat) (f : Nat → Value) : Prop := ∃ cl : Cell, Arr Z h a cl ty ∧ cl.slots.size = len ∧ len < 2 ^ 31 ∧ ∀ i, i < len → cl.slots[i]? = some (f i)
theorem Ary.lt {h : Heap} {a : Addr} {ty : FieldType} {len : Nat} {f : Nat → Value} (A : Ary Z h a ty len f) : a < h.size := by obtain ⟨c, q, -⟩ := A; exact q.lt
theorem Ary.ext {h h' : Heap} {a : Addr} {ty : FieldType} {len : Nat} {f : Nat → Value} (A : Ary Z h a ty len f) (E : Ext h h') : Ary Z h' a ty len f := by obtain ⟨c, q, r⟩ := A; exact ⟨c, q.ext E, r⟩
theorem Ary.other {h h' : Heap} {a b : Addr} {ty : FieldType} {len sl : Nat} {f : Nat → Value} {v : Value} (A : Ary Z h a ty len f) (W : Wr h h' b sl v) (q : a ≠ b) : Ary Z h' a ty len f := by obtain ⟨c, q', r⟩ := A; exact ⟨c, q'.other W q, r⟩
theorem Ary.keep {h h' : Heap} {a : Addr} {ty : FieldType} {len : Nat} {f : Nat → Value} {ws : List Addr} (A : Ary Z h a ty len f) (K : Keep h h' ws) (q : a ∉ ws) : Ary Z h' a ty len f := by obtain ⟨c, q', r⟩ := A; exact ⟨c, ⟨K.2.1 a c q'.1 q, q'.2⟩, r⟩
theorem Ary.same {h h' : Heap} {a : Addr} {ty : FieldType} {len j : Nat} {f : Nat → Value} {v : Value} (A : Ary Z h a ty len f) (W : Wr h h' a j v) : Ary Z h' a ty len (fun i => if i = j then v else f i) := by
  obtain ⟨c, q, r1, r2, r3⟩ := A
  refine ⟨_, q.same W, by rw [sz_set]; exact r1, r2, fun i hi => ?_⟩
  by_cases e : i = j
  · subst e; simp [Cell.setSlot, r1, hi]
  · simp only [e, if_false]; rw [← r3 i hi]; exact Array.getElem?_setIfInBounds_ne (Ne.symm e)
theorem Ary.cong {h : Heap} {a : Addr} {ty : FieldType} {len : Nat} {f f' : Nat → Value} (A : Ary Z h a ty len f) (q : ∀ i, i < len → f i = f' i) : Ary Z h a ty len f' := by obtain ⟨c, q', r1, r2, r3⟩ := A; exact ⟨c, q', r1, r2, fun i hi => by rw [← q i hi]; exact r3 i hi⟩
theorem Ary.bound {h : Heap} {a : Addr} {ty : FieldType} {len : Nat} {f : Nat → Value} (A : Ary Z h a ty len f) : len < 2 ^ 31 := by obtain ⟨c, q, r1, r2, r3⟩ := A; exact r2
theorem idx_ok {j : Int32} {i len : Nat} (hj : j.toInt = (i : Int)) (hi : i < len) {cl : Cell} (r : cl.slots.size = len) : ¬ (j < 0 ∨ cl.slots.size ≤ j.toNatClampNeg) ∧ j.toNatClampNeg = i := by
  have e : j.toNatClampNeg = i := by simp [Int32.toNatClampNeg, hj]
  refine ⟨fun q => ?_, e⟩
  rcases q with q | q
  · rw [Int32.lt_iff_toInt_lt, hj] at q; simp at q; omega
  · omega
theorem len_int {len : Nat} {z : Int32} (hz : z.toInt = (len : Int)) (hl : len < 2 ^ 31) : len.toInt32 = z := Int32.toInt_inj.mp (by rw [len_toInt hl, hz])
theorem arraylength {q1 : Nat} {a : Addr} {ty : FieldType} {len : Nat} {f : Nat → Value} {z : Int32} (hd : decode bytes pc = .ok (.arraylength, 1)) (hq1 : pc + 1 = q1) (A : Ary Z h a ty len f) (hz : z.toInt = (len : Int)) (g : Wp wd p l e R s m args below meth c Z own nam bytes maxL ret n0 h0 ws Q I h k n q1 Ls (.int z :: rest)) : Wp wd p l e R s m args below meth c Z own nam bytes maxL ret n0 h0 ws Q I h k n pc Ls (.ref a :: rest) := by
  subst hq1
  exact  step g fun E T L t vm0 B X eT hr => by
    obtain ⟨cl, q, r1, r2, r3⟩ := A
    refine X.arraylength E.1 (by rw [eT]; exact q.1) (State.isArrayOf_alike (bZ E B).alike q.2.1) (g := mkF m pc Ls.toArray (.ref a :: rest)) rfl rfl (hb E.2.1 hd) _ ?_
    rw [r1, len_int hz r2]; exact hr
/-- a fresh array -/
theorem newarray {q1 : Nat} {aty : ArrayType} {N : Int32} {len cap : Nat} (hd : decode bytes pc = .ok (.newarray aty, 2)) (hq1 : pc + 2 = q1) (w : (Cond.arrayClass (newarray.typeOf aty)).before a0 Z = true) (hN : N.toInt = (len : Int)) (hcap : len ≤ cap) (hb0 : cap * 8 ≤ 536870912) (hk : k + 1 ≤ R.cells) (hn : n + cap ≤ R.slots)
    (g : h0.size ≤ h.size → ∀ h', Ext h h' → Ary Z h' h.size (newarray.typeOf aty) len (fun _ => defaultValue (newarray.typeOf aty)) → Wp wd p l e R s m args below meth c Z own nam bytes maxL ret n0 h0 ws Q I h' (k + 1) (n + cap) q1 Ls (.ref h.size :: rest)) : Wp wd p l e R s m args below meth c Z own nam bytes maxL ret n0 h0 ws Q I h k n pc Ls (.int N :: rest) := by
  subst hq1
  exact  lawS fun E T L vm0 B X NN eT => by
    have hneg : ¬ N < 0 := by rw [Int32.lt_iff_toInt_lt, hN]; simp
    have hcl : N.toNatClampNeg = len := by simp [Int32.toNatClampNeg, hN]
    obtain ⟨T', h', cA, X', e', E', A', st'⟩ := newP X E.1 (bZ E B) w eT (g := mkF m pc Ls.toArray (.int N :: rest)) rfl (hb E.2.1 hd) rfl hneg (cap := cap) (by omega) hb0 hk hn
    refine ⟨T', L, h', _, _, X', NN, e', E'.1, st', g (szOf E X eT) h' E' ⟨_, A', by rw [sz_new, hcl], by omega, fun i hi => ?_⟩⟩
    simp [newA, hcl, hi]
/-- a fresh array of references, with what may lie in it -/
def AryR (Z : State) (h : Heap) (a : Addr) (C : String) (len : Nat) (f : Nat → Value) : Prop := ∃ cl : Cell, Arr Z h a cl (.object C) ∧ Ovr Z cl.cls C ∧ cl.slots.size = len ∧ len < 2 ^ 31 ∧ ∀ i, i < len → cl.slots[i]? = some (f i)
theorem AryR.ary {h : Heap} {a : Addr} {C : String} {len : Nat} {f : Nat → Value} (A : AryR Z h a C len f) : Ary Z h a (.object C) len f := by obtain ⟨c, q, -, r⟩ := A; exact ⟨c, q, r⟩
theorem AryR.lt {h : Heap} {a : Addr} {C : String} {len : Nat} {f : Nat → Value} (A : AryR Z h a C len f) : a < h.size := A.ary.lt
theorem AryR.ext {h h' : Heap} {a : Addr} {C : String} {len : Nat} {f : Nat → Value} (A : AryR Z h a C len f) (E : Ext h h') : AryR Z h' a C len f := by obtain ⟨c, q, r⟩ := A; exact ⟨c, q.ext E, r⟩
theorem AryR.other {h h' : Heap} {a b : Addr} {C : String} {len sl : Nat} {f : Nat → Value} {v : Value} (A : AryR Z h a C len f) (W : Wr h h' b sl v) (q : a ≠ b) : AryR Z h' a C len f := by obtain ⟨c, q', r⟩ := A; exact ⟨c, q'.other W q, r⟩
theorem AryR.keep {h h' : Heap} {a : Addr} {C : String} {len : Nat} {f : Nat → Value} {ws : List Addr} (A : AryR Z h a C len f) (K : Keep h h' ws) (q : a ∉ ws) : AryR Z h' a C len f := by obtain ⟨c, q', r⟩ := A; exact ⟨c, ⟨K.2.1 a c q'.1 q, q'.2⟩, r⟩
theorem AryR.same {h h' : Heap} {a : Addr} {C : String} {len j : Nat} {f : Nat → Value} {v : Value} (A : AryR Z h a C len f) (W : Wr h h' a j v) : AryR Z h' a C len (fun i => if i = j then v else f i) := by
  obtain ⟨c, q, o, r1, r2, r3⟩ := A
  refine ⟨_, q.same W, o, by rw [sz_set]; exact r1, r2, fun i hi => ?_⟩
  by_cases e : i = j
  · subst e; simp [Cell.setSlot, r1, hi]
  · simp only [e, if_false]; rw [← r3 i hi]; exact Array.getElem?_setIfInBounds_ne (Ne.symm e)
theorem AryR.cong {h : Heap} {a : Addr} {C : String} {len : Nat} {f f' : Nat → Value} (A : AryR Z h a C len f) (q : ∀ i, i < len → f i = f' i) : AryR Z h a C len f' := by obtain ⟨c, q', o, r1, r2, r3⟩ := A; exact ⟨c, q', o, r1, r2, fun i hi => by rw [← q i hi]; exact r3 i hi⟩
theorem anewarray {q1 : Nat} {i : Nat} {C : String} {N : Int32} {len cap : Nat} (hd : decode bytes pc = .ok (.anewarray i, 3)) (hq1 : pc + 3 = q1) (w1 : (Cond.classLink own i C).before a0 Z = true) (w2 : (Cond.arrayOver (.object C)).before a0 Z = true) (hN : N.toInt = (len : Int)) (hcap : len ≤ cap) (hb0 : cap * 8 ≤ 536870912) (hk : k + 1 ≤ R.cells) (hn : n + cap ≤ R.slots)
    (g : h0.size ≤ h.size → ∀ h', Ext h h' → AryR Z h' h.size C len (fun _ => .null) → Wp wd p l e R s m args below meth c Z own nam bytes maxL ret n0 h0 ws Q I h' (k + 1) (n + cap) q1 Ls (.ref h.size :: rest)) : Wp wd p l e R s m args below meth c Z own nam bytes maxL ret n0 h0 ws Q I h k n pc Ls (.int N :: rest) := by
  subst hq1
  exact  lawS fun E T L vm0 B X NN eT => by
    have hneg : ¬ N < 0 := by rw [Int32.lt_iff_toInt_lt, hN]; simp
    have hcl : N.toNatClampNeg = len := by simp [Int32.toNatClampNeg, hN]
    obtain ⟨T', h', cA, X', e', E', A', O', st'⟩ := newR X E.1 (bZ E B) (bO E B) w1 w2 eT (g := mkF m pc Ls.toArray (.int N :: rest)) rfl (hb E.2.1 hd) rfl hneg (cap := cap) (by omega) hb0 hk hn
    refine ⟨T', L, h', _, _, X', NN, e', E'.1, st', g (szOf E X eT) h' E' ⟨_, A', O', by rw [sz_new, hcl], by omega, fun i hi => ?_⟩⟩
    simp [newA, hcl, hi, defaultValue]

/-- a fresh array, with its class -/
theorem newarrayE {q1 : Nat} {aty : ArrayType} {N : Int32} {len cap : Nat} {ad : String} (hd : decode bytes pc = .ok (.newarray aty, 2)) (hq1 : pc + 2 = q1) (w : (Cond.arrayClass (newarray.typeOf aty)).before a0 Z = true) (hN : N.toInt = (len : Int)) (had : "[" ++ (newarray.typeOf aty).toString = ad) (hcap : len ≤ cap) (hb0 : cap * 8 ≤ 536870912) (hk : k + 1 ≤ R.cells) (hn : n + cap ≤ R.slots)
    (g : h0.size ≤ h.size → ∀ h', Ext h h' → Ary Z h' h.size (newarray.typeOf aty) len (fun _ => defaultValue (newarray.typeOf aty)) → Exa Z h' h.size ad → Wp wd p l e R s m args below meth c Z own nam bytes maxL ret n0 h0 ws Q I h' (k + 1) (n + cap) q1 Ls (.ref h.size :: rest)) : Wp wd p l e R s m args below meth c Z own nam bytes maxL ret n0 h0 ws Q I h k n pc Ls (.int N :: rest) := by
  subst hq1
  exact  lawS fun E T L vm0 B X NN eT => by
    have hneg : ¬ N < 0 := by rw [Int32.lt_iff_toInt_lt, hN]; simp
    have hcl : N.toNatClampNeg = len := by simp [Int32.toNatClampNeg, hN]
    obtain ⟨T', h', cA, X', e', E', A', E2, st'⟩ := newPE X E.1 (bZ E B) w eT (g := mkF m pc Ls.toArray (.int N :: rest)) rfl (hb E.2.1 hd) rfl hneg (cap := cap) (by omega) hb0 hk hn had
    refine ⟨T', L, h', _, _, X', NN, e', E'.1, st', g (szOf E X eT) h' E' ⟨_, A', by rw [sz_new, hcl], by omega, fun i hi => ?_⟩ E2⟩
    simp [newA, hcl, hi]
/-- the clone of an array -/
theorem cloneArr {q1 : Nat} {i len cap : Nat} {ad : String} {ty : FieldType} {f : Nat → Value} {a : Addr} (hd : decode bytes pc = .ok (.invokevirtual i, 3)) (hq1 : pc + 3 = q1) (w1 : (Cond.methodLink own i ⟨ad, "clone", "()Ljava/lang/Object;"⟩).before a0 Z = true) (w2 : (Cond.sameMethod ad "java/lang/Object" "clone" "()Ljava/lang/Object;").before a0 Z = true) (w3 : (Cond.native ⟨"java/lang/Object", "clone", "()Ljava/lang/Object;"⟩).before a0 Z = true)
    (w4 : (Cond.instanceMethod ⟨"java/lang/Object", "clone", "()Ljava/lang/Object;"⟩).before a0 Z = true) (w5 : (Cond.selects ad ⟨ad, "clone", "()Ljava/lang/Object;"⟩ ⟨"java/lang/Object", "clone", "()Ljava/lang/Object;"⟩).before a0 Z = true) (w6 : (Cond.castable ad "java/lang/Cloneable").before a0 Z = true)
    (A : Ary Z h a ty len f) (X0 : Exa Z h a ad) (hfit : ∀ j, j < len → fits ty (f j) = true) (hL : Ls.length = maxL) (hcap : len ≤ cap) (hr : (Nat.ble 1 R.frames && Nat.ble ((rest.map fun v => v.category).sum + 14) R.locals && Nat.ble (k + 1) R.cells && Nat.ble (n + cap) R.slots) = true)
    (g : h0.size ≤ h.size → ∀ h', Ext h h' → Ary Z h' h.size ty len f → Exa Z h' h.size ad → Wp wd p l e R s m args below meth c Z own nam bytes maxL ret n0 h0 ws Q I h' (k + 1) (n + cap) q1 Ls (.ref h.size :: rest)) : Wp wd p l e R s m args below meth c Z own nam bytes maxL ret n0 h0 ws Q I h k n pc Ls (.ref a :: rest) := by
  subst hq1
  exact  lawS fun E T L vm0 B X NN eT => by
    simp only [Bool.and_eq_true] at hr
    obtain ⟨cl, q, r1, r2, r3⟩ := A
    obtain ⟨T', h', X', e', E', A', E2, st'⟩ := cloneA X E.1 (bZ E B) (bO E B) w1 w2 w3 w4 w5 w6 eT q X0 (fitC_of q fun j hj v hv => by rw [r3 j (by omega)] at hv; cases hv; exact hfit j (by omega)) (g := mkF m pc Ls.toArray (.ref a :: rest)) rfl (by rw [E.2.2.1, ← hL]; simp) rfl (hb E.2.1 hd) (Nat.le_of_ble_eq_true hr.1.1.1) (W := (rest.map fun v => v.category).sum) (cap := cap) (by show 2 * 0 + _ ≤ _; omega) (Nat.le_of_ble_eq_true hr.1.1.2) (by omega) (Nat.le_of_ble_eq_true hr.1.2) (Nat.le_of_ble_eq_true hr.2)
    exact ⟨T', L, h', _, _, X', NN, e', E'.1, st', g (szOf E X eT) h' E' ⟨_, A', r1, r2, r3⟩ E2⟩
theorem Ary.arv {h : Heap} {a : Addr} {ty : FieldType} {len : Nat} {f : Nat → Value} {z : Int32} (A : Ary Z h a ty len f) (hz : z.toInt = (len : Int)) (hfit : ∀ j, j < len → fits ty (f j) = true) : ∃ kk, Arv Z h a kk ty z ((List.range len).map f) (defaultValue ty) := by
  obtain ⟨cl, q, r1, r2, r3⟩ := A
  have hcl : z.toNatClampNeg = len := by simp [Int32.toNatClampNeg, hz]
  have e : ∀ j, j < len → ((List.range len).map f).getD j (defaultValue ty) = f j := fun j hj => by simp [List.getD_eq_getElem?_getD, hj]
  exact ⟨_, cl, q, rfl, by rw [r1, hcl], by rw [Int32.lt_iff_toInt_lt, hz]; simp, fun j hj => by rw [e j (by omega)]; exact r3 j (by omega), fun j hj => by rw [e j (by omega)]; exact hfit j (by omega)⟩
/-- System.arraycopy of the first nn values into a new array; the body writes nothing old -/
theorem arraycopy0 {q1 : Nat} {i la lb nn : Nat} {ty : FieldType} {fa fb : Nat → Value} {a b : Addr} {za zb nI : Int32} (hd : decode bytes pc = .ok (.invokestatic i, 3)) (hq1 : pc + 3 = q1) (w1 : (Cond.methodLink own i Jvm.Stand.acN).before a0 Z = true) (w2 : (Cond.native Jvm.Stand.acN).before a0 Z = true) (w3 : (Cond.static Jvm.Stand.acN).before a0 Z = true) (w4 : (Cond.initialized "java/lang/System").before a0 Z = true)
    (A : Ary Z h a ty la fa) (B0 : Ary Z h b ty lb fb) (hty : refKind ty = false) (hza : za.toInt = (la : Int)) (hzb : zb.toInt = (lb : Int)) (hn : nI.toInt = (nn : Int)) (h1 : nn ≤ la) (h2 : nn ≤ lb) (hfa : ∀ j, j < la → fits ty (fa j) = true) (hfb : ∀ j, j < lb → fits ty (fb j) = true) (hws : ws = []) (hb0 : h0.size ≤ b) (hL : Ls.length = maxL)
    (hr : (Nat.ble 1 R.frames && Nat.ble ((rest.map fun v => v.category).sum + (nativeFrameWords "java/lang/System" "arraycopy" 5 + 11)) R.locals) = true)
    (g : ∀ h', Keep h h' [b] → Ary Z h' b ty lb (fun j => if j < nn then fa j else fb j) → Wp wd p l e R s m args below meth c Z own nam bytes maxL ret n0 h0 ws Q I h' k n q1 Ls rest) : Wp wd p l e R s m args below meth c Z own nam bytes maxL ret n0 h0 ws Q I h k n pc Ls (.int nI :: .int 0 :: .ref b :: .int 0 :: .ref a :: rest) := by
  subst hq1
  subst hws
  exact lawS fun E T L vm0 B X NN eT => by
    have hr' := Bool.and_eq_true_iff.mp hr
    obtain ⟨ka, Aa⟩ := A.arv hza hfa
    obtain ⟨kb, Ab⟩ := B0.arv hzb hfb
    have ca : za.toNatClampNeg = la := by simp [Int32.toNatClampNeg, hza]
    have cb : zb.toNatClampNeg = lb := by simp [Int32.toNatClampNeg, hzb]
    have cn : nI.toNatClampNeg = nn := by simp [Int32.toNatClampNeg, hn]
    have c0 : (0 : Int32).toNatClampNeg = 0 := rfl
    obtain ⟨T', h', L', X', e', N', K', A', st'⟩ := cpA X E.1 (bZ E B) (bO E B) w1 w2 w3 w4 eT Aa Ab (Or.inl ⟨rfl, hty⟩) (by decide) (by decide) (by rw [Int32.lt_iff_toInt_lt, hn]; simp) (by rw [c0, cn, ca]; omega) (by rw [c0, cn, cb]; omega) rfl (by rw [c0, cn]; simp; omega) (n0 := h0.size) (fun y hy => (NN y hy).elim (fun q => nomatch q) id) hb0 (g := mkF m pc Ls.toArray (.int nI :: .int 0 :: .ref b :: .int 0 :: .ref a :: rest)) rfl (by rw [E.2.2.1, ← hL]; simp) (rest := rest) rfl (hb E.2.1 hd) (Nat.le_of_ble_eq_true hr'.1) (W := (rest.map fun v => v.category).sum) (by show 2 * 0 + _ ≤ _; omega) (Nat.le_of_ble_eq_true hr'.2)
    refine ⟨T', L', h', k, n, X', fun y hy => Or.inr (N' y hy), e', K'.1, st', g h' K' ?_⟩
    obtain ⟨cl, q, -, s1, -, s2, -⟩ := A'
    refine ⟨cl, q, by rw [s1, cb], B0.bound, fun j hj => ?_⟩
    rw [s2 j (by rw [s1, cb]; exact hj), c0, cn]
    congr 1
    by_cases e : j < nn
    · simp [List.getD_eq_getElem?_getD, e, List.getElem?_append, show j < la by omega]
    · simp [List.getD_eq_getElem?_getD, e, List.getElem?_append, show nn + (j - nn) = j by omega, List.getElem?_range hj]
theorem ldcF {q1 : Nat} {i : Nat} {v : UInt32} (hd : decode bytes pc = .ok (.ldc i, 2)) (hq1 : pc + 2 = q1) (w : (Cond.constantFloat own i v).before a0 Z = true) (g : Wp wd p l e R s m args below meth c Z own nam bytes maxL ret n0 h0 ws Q I h k n q1 Ls (.float v :: st)) : Wp wd p l e R s m args below meth c Z own nam bytes maxL ret n0 h0 ws Q I h k n pc Ls st := by
  subst hq1
  exact  step g fun E T L t vm0 B X _ hr => X.ldcFloatC E.1 (bO E B) (mvT (bZ E B) w) (g := mkF m pc Ls.toArray st) rfl (hb E.2.1 hd) _ hr

theorem iaload {q1 : Nat} {a : Addr} {len i : Nat} {f : Nat → Value} {j : Int32} {v : Value} (hd : decode bytes pc = .ok (.iaload, 1)) (hq1 : pc + 1 = q1) (A : Ary Z h a .int len f) (hj : j.toInt = (i : Int)) (hi : i < len) (hv : f i = v) (g : Wp wd p l e R s m args below meth c Z own nam bytes maxL ret n0 h0 ws Q I h k n q1 Ls (v :: rest)) : Wp wd p l e R s m args below meth c Z own nam bytes maxL ret n0 h0 ws Q I h k n pc Ls (.int j :: .ref a :: rest) := by
  subst hq1
  exact  step g fun E T L t vm0 B X eT hr => by
    obtain ⟨cl, q, r1, r2, r3⟩ := A
    obtain ⟨b1, b2⟩ := idx_ok hj hi r1
    exact X.iaload E.1 (v := v) (by rw [eT]; exact q.1) (State.isArrayOf_alike (bZ E B).alike q.2.1) q.2.2 b1 (by rw [b2, r3 i hi, hv]) (g := mkF m pc Ls.toArray (.int j :: .ref a :: rest)) rfl rfl (hb E.2.1 hd) _ hr

theorem laload {q1 : Nat} {a : Addr} {len i : Nat} {f : Nat → Value} {j : Int32} {v : Value} (hd : decode bytes pc = .ok (.laload, 1)) (hq1 : pc + 1 = q1) (A : Ary Z h a .long len f) (hj : j.toInt = (i : Int)) (hi : i < len) (hv : f i = v) (g : Wp wd p l e R s m args below meth c Z own nam bytes maxL ret n0 h0 ws Q I h k n q1 Ls (v :: rest)) : Wp wd p l e R s m args below meth c Z own nam bytes maxL ret n0 h0 ws Q I h k n pc Ls (.int j :: .ref a :: rest) := by
  subst hq1
  exact  step g fun E T L t vm0 B X eT hr => by
    obtain ⟨cl, q, r1, r2, r3⟩ := A
    obtain ⟨b1, b2⟩ := idx_ok hj hi r1
    exact X.laload E.1 (v := v) (by rw [eT]; exact q.1) (State.isArrayOf_alike (bZ E B).alike q.2.1) q.2.2 b1 (by rw [b2, r3 i hi, hv]) (g := mkF m pc Ls.toArray (.int j :: .ref a :: rest)) rfl rfl (hb E.2.1 hd) _ hr

theorem caload {q1 : Nat} {a : Addr} {len i : Nat} {f : Nat → Value} {j : Int32} {v : Value} (hd : decode bytes pc = .ok (.caload, 1)) (hq1 : pc + 1 = q1) (A : Ary Z h a .char len f) (hj : j.toInt = (i : Int)) (hi : i < len) (hv : f i = v) (g : Wp wd p l e R s m args below meth c Z own nam bytes maxL ret n0 h0 ws Q I h k n q1 Ls (v :: rest)) : Wp wd p l e R s m args below meth c Z own nam bytes maxL ret n0 h0 ws Q I h k n pc Ls (.int j :: .ref a :: rest) := by
  subst hq1
  exact  step g fun E T L t vm0 B X eT hr => by
    obtain ⟨cl, q, r1, r2, r3⟩ := A
    obtain ⟨b1, b2⟩ := idx_ok hj hi r1
    exact X.caload E.1 (v := v) (by rw [eT]; exact q.1) (State.isArrayOf_alike (bZ E B).alike q.2.1) q.2.2 b1 (by rw [b2, r3 i hi, hv]) (g := mkF m pc Ls.toArray (.int j :: .ref a :: rest)) rfl rfl (hb E.2.1 hd) _ hr

theorem baload {q1 : Nat} {a : Addr} {len i : Nat} {f : Nat → Value} {j : Int32} {v : Value} (hd : decode bytes pc = .ok (.baload, 1)) (hq1 : pc + 1 = q1) (A : Ary Z h a .byte len f) (hj : j.toInt = (i : Int)) (hi : i < len) (hv : f i = v) (g : Wp wd p l e R s m args below meth c Z own nam bytes maxL ret n0 h0 ws Q I h k n q1 Ls (v :: rest)) : Wp wd p l e R s m args below meth c Z own nam bytes maxL ret n0 h0 ws Q I h k n pc Ls (.int j :: .ref a :: rest) := by
  subst hq1
  exact  step g fun E T L t vm0 B X eT hr => by
    obtain ⟨cl, q, r1, r2, r3⟩ := A
    obtain ⟨b1, b2⟩ := idx_ok hj hi r1
    exact X.baloadBytes E.1 (v := v) (by rw [eT]; exact q.1) (State.isArrayOf_alike (bZ E B).alike q.2.1) q.2.2 b1 (by rw [b2, r3 i hi, hv]) (g := mkF m pc Ls.toArray (.int j :: .ref a :: rest)) rfl rfl (hb E.2.1 hd) _ hr

theorem aaload {q1 : Nat} {a : Addr} {len i : Nat} {ty : FieldType} {f : Nat → Value} {j : Int32} {v : Value} (hd : decode bytes pc = .ok (.aaload, 1)) (hq1 : pc + 1 = q1) (A : Ary Z h a ty len f) (hty : ty.isReference = true) (hj : j.toInt = (i : Int)) (hi : i < len) (hv : f i = v) (g : Wp wd p l e R s m args below meth c Z own nam bytes maxL ret n0 h0 ws Q I h k n q1 Ls (v :: rest)) : Wp wd p l e R s m args below meth c Z own nam bytes maxL ret n0 h0 ws Q I h k n pc Ls (.int j :: .ref a :: rest) := by
  subst hq1
  exact  step g fun E T L t vm0 B X eT hr => by
    obtain ⟨cl, q, r1, r2, r3⟩ := A
    obtain ⟨b1, b2⟩ := idx_ok hj hi r1
    exact X.aaload E.1 (v := v) (by rw [eT]; exact q.1) (State.isArrayOf_alike (bZ E B).alike q.2.1) hty q.2.2 b1 (by rw [b2, r3 i hi, hv]) (g := mkF m pc Ls.toArray (.int j :: .ref a :: rest)) rfl rfl (hb E.2.1 hd) _ hr

theorem iastore {q1 : Nat} {a : Addr} {len i : Nat} {f : Nat → Value} {j : Int32} {x : Int32} (hd : decode bytes pc = .ok (.iastore, 1)) (hq1 : pc + 1 = q1) (A : Ary Z h a .int len f) (hj : j.toInt = (i : Int)) (hi : i < len) (ha : a ∈ ws ∨ h0.size ≤ a) (g : ∀ h', Wr h h' a i (.int x) → Wp wd p l e R s m args below meth c Z own nam bytes maxL ret n0 h0 ws Q I h' k n q1 Ls rest) : Wp wd p l e R s m args below meth c Z own nam bytes maxL ret n0 h0 ws Q I h k n pc Ls (.int x :: .int j :: .ref a :: rest) := by
  subst hq1
  exact  lawS fun E T L vm0 B X N eT => by
    obtain ⟨cl, q, r1, r2, r3⟩ := A
    obtain ⟨b1, b2⟩ := idx_ok hj hi r1
    obtain ⟨T', h', X', e', W', st'⟩ := stI X E.1 (bZ E B) eT q b1 (g := mkF m pc Ls.toArray (.int x :: .int j :: .ref a :: rest)) rfl rfl (hb E.2.1 hd)
    exact ⟨T', _, h', k, n, X', Pmt.snoc N ha, e', Nat.le_of_eq W'.size.symm, st', g h' (b2 ▸ W')⟩

theorem castore {q1 : Nat} {a : Addr} {len i : Nat} {f : Nat → Value} {j : Int32} {x : Int32} (hd : decode bytes pc = .ok (.castore, 1)) (hq1 : pc + 1 = q1) (A : Ary Z h a .char len f) (hj : j.toInt = (i : Int)) (hi : i < len) (ha : a ∈ ws ∨ h0.size ≤ a) (g : ∀ h', Wr h h' a i (.int (nar .char x)) → Wp wd p l e R s m args below meth c Z own nam bytes maxL ret n0 h0 ws Q I h' k n q1 Ls rest) : Wp wd p l e R s m args below meth c Z own nam bytes maxL ret n0 h0 ws Q I h k n pc Ls (.int x :: .int j :: .ref a :: rest) := by
  subst hq1
  exact  lawS fun E T L vm0 B X N eT => by
    obtain ⟨cl, q, r1, r2, r3⟩ := A
    obtain ⟨b1, b2⟩ := idx_ok hj hi r1
    obtain ⟨T', h', X', e', W', st'⟩ := stC X E.1 (bZ E B) eT q b1 (g := mkF m pc Ls.toArray (.int x :: .int j :: .ref a :: rest)) rfl rfl (hb E.2.1 hd)
    exact ⟨T', _, h', k, n, X', Pmt.snoc N ha, e', Nat.le_of_eq W'.size.symm, st', g h' (b2 ▸ W')⟩

theorem bastore {q1 : Nat} {a : Addr} {len i : Nat} {f : Nat → Value} {j : Int32} {x : Int32} (hd : decode bytes pc = .ok (.bastore, 1)) (hq1 : pc + 1 = q1) (A : Ary Z h a .byte len f) (hj : j.toInt = (i : Int)) (hi : i < len) (ha : a ∈ ws ∨ h0.size ≤ a) (g : ∀ h', Wr h h' a i (.int (nar .byte x)) → Wp wd p l e R s m args below meth c Z own nam bytes maxL ret n0 h0 ws Q I h' k n q1 Ls rest) : Wp wd p l e R s m args below meth c Z own nam bytes maxL ret n0 h0 ws Q I h k n pc Ls (.int x :: .int j :: .ref a :: rest) := by
  subst hq1
  exact  lawS fun E T L vm0 B X N eT => by
    obtain ⟨cl, q, r1, r2, r3⟩ := A
    obtain ⟨b1, b2⟩ := idx_ok hj hi r1
    obtain ⟨T', h', X', e', W', st'⟩ := stB X E.1 (bZ E B) eT q b1 (g := mkF m pc Ls.toArray (.int x :: .int j :: .ref a :: rest)) rfl rfl (hb E.2.1 hd)
    exact ⟨T', _, h', k, n, X', Pmt.snoc N ha, e', Nat.le_of_eq W'.size.symm, st', g h' (b2 ▸ W')⟩

theorem lastore {q1 : Nat} {a : Addr} {len i : Nat} {f : Nat → Value} {j : Int32} {x : Int64} (hd : decode bytes pc = .ok (.lastore, 1)) (hq1 : pc + 1 = q1) (A : Ary Z h a .long len f) (hj : j.toInt = (i : Int)) (hi : i < len) (ha : a ∈ ws ∨ h0.size ≤ a) (g : ∀ h', Wr h h' a i (.long x) → Wp wd p l e R s m args below meth c Z own nam bytes maxL ret n0 h0 ws Q I h' k n q1 Ls rest) : Wp wd p l e R s m args below meth c Z own nam bytes maxL ret n0 h0 ws Q I h k n pc Ls (.long x :: .int j :: .ref a :: rest) := by
  subst hq1
  exact  lawS fun E T L vm0 B X N eT => by
    obtain ⟨cl, q, r1, r2, r3⟩ := A
    obtain ⟨b1, b2⟩ := idx_ok hj hi r1
    obtain ⟨T', h', X', e', W', st'⟩ := stJ X E.1 (bZ E B) eT q b1 (g := mkF m pc Ls.toArray (.long x :: .int j :: .ref a :: rest)) rfl rfl (hb E.2.1 hd)
    exact ⟨T', _, h', k, n, X', Pmt.snoc N ha, e', Nat.le_of_eq W'.size.symm, st', g h' (b2 ▸ W')⟩

theorem aastore {q1 : Nat} {a : Addr} {C : String} {len i : Nat} {f : Nat → Value} {j : Int32} {v : Value} (hd : decode bytes pc = .ok (.aastore, 1)) (hq1 : pc + 1 = q1) (A : AryR Z h a C len f) (hj : j.toInt = (i : Int)) (hi : i < len) (ha : a ∈ ws ∨ h0.size ≤ a) (hS : v = .null ∨ ∃ y, v = .ref y ∧ Ins Z h y C true) (g : ∀ h', Wr h h' a i v → Wp wd p l e R s m args below meth c Z own nam bytes maxL ret n0 h0 ws Q I h' k n q1 Ls rest) : Wp wd p l e R s m args below meth c Z own nam bytes maxL ret n0 h0 ws Q I h k n pc Ls (v :: .int j :: .ref a :: rest) := by
  subst hq1
  exact  lawS fun E T L vm0 B X N eT => by
    obtain ⟨cl, q, o, r1, r2, r3⟩ := A
    obtain ⟨b1, b2⟩ := idx_ok hj hi r1
    have S : Sto Z h a v := by
      rcases hS with rfl | ⟨y, rfl, I⟩
      · exact Or.inl rfl
      · exact Sto.of q o I
    obtain ⟨T', h', X', e', W', st'⟩ := stR X E.1 (bZ E B) eT q b1 rfl S (g := mkF m pc Ls.toArray (v :: .int j :: .ref a :: rest)) rfl rfl (hb E.2.1 hd)
    exact ⟨T', _, h', k, n, X', Pmt.snoc N ha, e', Nat.le_of_eq W'.size.symm, st', g h' (b2 ▸ W')⟩

theorem initObj {q1 : Nat} {i : Nat} {a : Addr} (hd : decode bytes pc = .ok (.invokespecial i, 3)) (hq1 : pc + 3 = q1) (w1 : (Cond.methodLink own i Lib.objectInit).before a0 Z = true) (w2 : (Cond.instanceMethod Lib.objectInit).before a0 Z = true) (w3 : (Cond.code Lib.objectInit ⟨#[0xb1]⟩ 1 none).before a0 Z = true) (hL : Ls.length = maxL) (hr : (Nat.ble 1 R.frames && Nat.ble ((rest.map fun v => v.category).sum + 12) R.locals) = true) (g : Wp wd p l e R s m args below meth c Z own nam bytes maxL ret n0 h0 ws Q I h k n q1 Ls rest) : Wp wd p l e R s m args below meth c Z own nam bytes maxL ret n0 h0 ws Q I h k n pc Ls (.ref a :: rest) := by
  subst hq1
  exact  lawS fun E T L vm0 B X N eT => by
    have hr' := Bool.and_eq_true_iff.mp hr
    obtain ⟨T', X', e', st'⟩ := initO X E.1 (bZ E B) (bO E B) w1 w2 w3 eT (g := mkF m pc Ls.toArray (.ref a :: rest)) rfl (by rw [E.2.2.1, ← hL]; simp) rfl (hb E.2.1 hd) (Nat.le_of_ble_eq_true hr'.1) (W := (rest.map fun v => v.category).sum) (by show 2 * 0 + _ ≤ _; omega) (Nat.le_of_ble_eq_true hr'.2)
    exact ⟨T', L, h, k, n, X', N, e', Nat.le_refl _, st', g⟩

/-- the room that a call asks -/
def roomOk (R rm : Room) (maxL' : Nat) (rest : List Value) (k n : Nat) : Bool := Nat.ble (rm.frames + 1) R.frames && Nat.ble ((rest.map fun v => v.category).sum + (maxL' + 11) + rm.locals) R.locals && Nat.ble (k + rm.cells) R.cells && Nat.ble (n + rm.slots) R.slots
theorem roomOk_spec {R rm : Room} {maxL' k n : Nat} {rest : List Value} (h : roomOk R rm maxL' rest k n = true) : rm.frames + 1 ≤ R.frames ∧ (rest.map fun v => v.category).sum + (maxL' + 11) + rm.locals ≤ R.locals ∧ k + rm.cells ≤ R.cells ∧ n + rm.slots ≤ R.slots := by
  simp only [roomOk, Bool.and_eq_true] at h
  exact ⟨Nat.le_of_ble_eq_true h.1.1.1, Nat.le_of_ble_eq_true h.1.1.2, Nat.le_of_ble_eq_true h.1.2, Nat.le_of_ble_eq_true h.2⟩
theorem rev_eq (as r : List Value) : List.reverseAux as r = as.reverse ++ r := by simp [List.reverseAux_eq]
section Calls
variable {y : MethodName} {bytes' : ByteArray} {maxL' : Nat} {ret' : Option FieldType} {rm : Room} {as : List Value} {ws' : List Addr} {Q' : Option Value → Heap → Prop} {ps : List FieldType} {r' : Option FieldType} {i : Nat} {a : Addr}
theorem invokestatic {q1 : Nat} (hd : decode bytes pc = .ok (.invokestatic i, 3)) (hq1 : pc + 3 = q1) (w1 : (Cond.methodLink own i y).before a0 Z = true) (w2 : (Cond.static y).before a0 Z = true) (w3 : (Cond.initialized y.cls).before a0 Z = true) (w4 : (Cond.code y bytes' maxL' ret').before a0 Z = true) (hy : y.cls ≠ "java/lang/invoke/MethodHandle" ∧ y.cls ≠ "java/lang/invoke/VarHandle") (pd : parseMethodDescriptor y.desc = some ⟨ps, r'⟩)
    (C : Con l Z n0 y bytes' maxL' ret' rm as h ws' Q') (hst : st = List.reverseAux as rest) (hlen : as.length = ps.length) (hL : Ls.length = maxL) (hr : roomOk R rm maxL' rest k n = true) (hws : ∀ x ∈ ws', x ∈ ws ∨ h0.size ≤ x) (g : ∀ v h', Q' v h' → Keep h h' ws' → Wp wd p l e R s m args below meth c Z own nam bytes maxL ret n0 h0 ws Q I h' (k + rm.cells) (n + rm.slots) q1 Ls (psh v rest)) : Wp wd p l e R s m args below meth c Z own nam bytes maxL ret n0 h0 ws Q I h k n pc Ls st := by
  subst hq1
  exact  fun E T L vm0 B X N eT => by
    obtain ⟨r1, r2, r3, r4⟩ := roomOk_spec hr
    subst hst
    obtain ⟨v, vm, ⟨T1, L1, k1, n1⟩, -, X1, ⟨Lc, hQ, l1, y1, z1⟩, st1⟩ := Jvm.LawKit.callS X E.1 (bO E B) (mvT (bZ E B) w1) (mvT (bZ E B) w2) (mvT (bZ E B) w3) (mvT (bZ E B) w4) hy (backOf (Q := fun v h1 L => Q' v h1 ∧ Pmt h ws' L ∧ Keep h h1 ws') (C (oldOf E X N eT) (fun x hx => n0Of E (hws x hx)) []) (bZ E B) w4 w3 r1 r2) (g := mkF m pc Ls.toArray (List.reverseAux as rest)) rfl (by rw [E.2.2.1, ← hL]; simp) (argsL := as) (rest := rest) (lenOf pd hlen) (rev_eq as rest) (by show 2 * 0 + _ ≤ _; omega) (hb E.2.1 hd) (fun _ _ => ⟨rfl, eT, r3, r4⟩)
    dsimp only [Pt.U, Pt.locs, Pt.cells, Pt.slots] at X1 l1 y1 z1 st1 hQ
    subst l1 y1 z1
    obtain ⟨s2, o, hs, r⟩ := g v _ hQ.1 hQ.2.2 E T1 _ vm0 (bG B hQ.2.2.1) X1 (N.app (pmtOf E X eT hws hQ.2.1)) rfl
    exact ⟨s2, o, st1 _ (by rw [psh_eq]; exact hs), r⟩
theorem invokespecial {q1 : Nat} (hd : decode bytes pc = .ok (.invokespecial i, 3)) (hq1 : pc + 3 = q1) (hy1 : y.name = "<init>") (w1 : (Cond.methodLink own i y).before a0 Z = true) (w2 : (Cond.instanceMethod y).before a0 Z = true) (w3 : (Cond.initialized y.cls).before a0 Z = true) (w4 : (Cond.code y bytes' maxL' none).before a0 Z = true) (hy : y.cls ≠ "java/lang/invoke/MethodHandle" ∧ y.cls ≠ "java/lang/invoke/VarHandle") (pd : parseMethodDescriptor y.desc = some ⟨ps, r'⟩)
    (C : Con l Z n0 y bytes' maxL' none rm (.ref a :: as) h ws' Q') (hst : st = List.reverseAux as (.ref a :: rest)) (hlen : as.length = ps.length) (hL : Ls.length = maxL) (hr : roomOk R rm maxL' rest k n = true) (hws : ∀ x ∈ ws', x ∈ ws ∨ h0.size ≤ x) (g : ∀ v h', Q' v h' → Keep h h' ws' → Wp wd p l e R s m args below meth c Z own nam bytes maxL ret n0 h0 ws Q I h' (k + rm.cells) (n + rm.slots) q1 Ls (psh v rest)) : Wp wd p l e R s m args below meth c Z own nam bytes maxL ret n0 h0 ws Q I h k n pc Ls st := by
  subst hq1
  exact  fun E T L vm0 B X N eT => by
    obtain ⟨r1, r2, r3, r4⟩ := roomOk_spec hr
    subst hst
    obtain ⟨v, vm, ⟨T1, L1, k1, n1⟩, -, X1, ⟨Lc, hQ, l1, y1, z1⟩, st1⟩ := X.specialBack E.1 hy1 (bO E B) (mvT (bZ E B) w1) (mvT (bZ E B) w2) (mvT (bZ E B) w4) hy (backOf (Q := fun v h1 L => Q' v h1 ∧ Pmt h ws' L ∧ Keep h h1 ws') (C (oldOf E X N eT) (fun x hx => n0Of E (hws x hx)) []) (bZ E B) w4 w3 r1 r2) (g := mkF m pc Ls.toArray (List.reverseAux as (.ref a :: rest))) rfl (by rw [E.2.2.1, ← hL]; simp) (Steps.refl _) (a := a) (argsL := as) (rest := rest) (lenOf pd hlen) (rev_eq as _) (by show 2 * 0 + _ ≤ _; omega) (hb E.2.1 hd) (fun _ _ => ⟨rfl, eT, r3, r4⟩)
    dsimp only [Pt.U, Pt.locs, Pt.cells, Pt.slots] at X1 l1 y1 z1 st1 hQ
    subst l1 y1 z1
    obtain ⟨s2, o, hs, r⟩ := g v _ hQ.1 hQ.2.2 E T1 _ vm0 (bG B hQ.2.2.1) X1 (N.app (pmtOf E X eT hws hQ.2.1)) rfl
    exact ⟨s2, o, st1.trans (by rw [psh_eq]; exact hs), r⟩
theorem invokevirtual {q1 : Nat} {z : MethodName} {D : String} (hd : decode bytes pc = .ok (.invokevirtual i, 3)) (hq1 : pc + 3 = q1) (w1 : (Cond.methodLink own i y).before a0 Z = true) (w2 : (Cond.declares y).before a0 Z = true) (nf : ∀ vm0, Z.Warmed39 vm0 → NotFace (s.setVm vm0) y) (w3 : (Cond.selects D y z).before a0 Z = true) (w4 : (Cond.instanceMethod z).before a0 Z = true) (w5 : (Cond.initialized z.cls).before a0 Z = true) (w6 : (Cond.code z bytes' maxL' ret').before a0 Z = true) (hy : y.cls ≠ "java/lang/invoke/MethodHandle" ∧ y.cls ≠ "java/lang/invoke/VarHandle") (pd : parseMethodDescriptor y.desc = some ⟨ps, r'⟩)
    (X0 : Exa Z h a D) (C : Con l Z n0 z bytes' maxL' ret' rm (.ref a :: as) h ws' Q') (hst : st = List.reverseAux as (.ref a :: rest)) (hlen : as.length = ps.length) (hL : Ls.length = maxL) (hr : roomOk R rm maxL' rest k n = true) (hws : ∀ x ∈ ws', x ∈ ws ∨ h0.size ≤ x) (g : ∀ v h', Q' v h' → Keep h h' ws' → Wp wd p l e R s m args below meth c Z own nam bytes maxL ret n0 h0 ws Q I h' (k + rm.cells) (n + rm.slots) q1 Ls (psh v rest)) : Wp wd p l e R s m args below meth c Z own nam bytes maxL ret n0 h0 ws Q I h k n pc Ls st := by
  subst hq1
  exact  fun E T L vm0 B X N eT => by
    obtain ⟨r1, r2, r3, r4⟩ := roomOk_spec hr
    subst hst
    obtain ⟨cq, kq, qa, qb, qc⟩ := isOf (bZ E B) eT X0
    obtain ⟨v, vm, ⟨T1, L1, k1, n1⟩, -, X1, ⟨Lc, hQ, l1, y1, z1⟩, st1⟩ := X.virtualBack E.1 (bO E B) (mvT (bZ E B) w1) (mvT (bZ E B) w2) (nf vm0 (bZ E B)) (mvT (bZ E B) w3) (mvT (bZ E B) w4) hy (backOf (Q := fun v h1 L => Q' v h1 ∧ Pmt h ws' L ∧ Keep h h1 ws') (C (oldOf E X N eT) (fun x hx => n0Of E (hws x hx)) []) (bZ E B) w6 w5 r1 r2) qa qc (g := mkF m pc Ls.toArray (List.reverseAux as (.ref a :: rest))) rfl (by rw [E.2.2.1, ← hL]; simp) (Steps.refl _) (argsL := as) (rest := rest) (lenOf pd hlen) (rev_eq as _) (by show 2 * 0 + _ ≤ _; omega) (hb E.2.1 hd) (fun _ _ => ⟨rfl, eT, r3, r4⟩)
    dsimp only [Pt.U, Pt.locs, Pt.cells, Pt.slots] at X1 l1 y1 z1 st1 hQ
    subst l1 y1 z1
    obtain ⟨s2, o, hs, r⟩ := g v _ hQ.1 hQ.2.2 E T1 _ vm0 (bG B hQ.2.2.1) X1 (N.app (pmtOf E X eT hws hQ.2.1)) rfl
    exact ⟨s2, o, st1.trans (by rw [psh_eq]; exact hs), r⟩
/-- the method that the entry names is the one that is run -/
theorem invokevirt {q1 : Nat} (hd : decode bytes pc = .ok (.invokevirtual i, 3)) (hq1 : pc + 3 = q1) (w1 : (Cond.methodLink own i y).before a0 Z = true) (w2 : (Cond.declares y).before a0 Z = true) {D : String} (w3 : (Cond.selects D y y).before a0 Z = true) (w4 : (Cond.instanceMethod y).before a0 Z = true) (w5 : (Cond.initialized y.cls).before a0 Z = true) (w6 : (Cond.code y bytes' maxL' ret').before a0 Z = true) (hy : y.cls ≠ "java/lang/invoke/MethodHandle" ∧ y.cls ≠ "java/lang/invoke/VarHandle") (pd : parseMethodDescriptor y.desc = some ⟨ps, r'⟩)
    (X0 : Exa Z h a D) (C : Con l Z n0 y bytes' maxL' ret' rm (.ref a :: as) h ws' Q') (hst : st = List.reverseAux as (.ref a :: rest)) (hlen : as.length = ps.length) (hL : Ls.length = maxL) (hr : roomOk R rm maxL' rest k n = true) (hws : ∀ x ∈ ws', x ∈ ws ∨ h0.size ≤ x) (g : ∀ v h', Q' v h' → Keep h h' ws' → Wp wd p l e R s m args below meth c Z own nam bytes maxL ret n0 h0 ws Q I h' (k + rm.cells) (n + rm.slots) q1 Ls (psh v rest)) : Wp wd p l e R s m args below meth c Z own nam bytes maxL ret n0 h0 ws Q I h k n pc Ls st := by
  subst hq1
  exact  invokevirtual hd rfl w1 w2 (fun vm0 hz => notFace_of_selects (args := #[]) (mvT (s := s.setVm vm0) hz w3)) w3 w4 w5 w6 hy pd X0 C hst hlen hL hr hws g
/-- the entry names a method that a class above declares -/
theorem invokeup {q1 : Nat} {z : MethodName} {D owner : String} (hd : decode bytes pc = .ok (.invokevirtual i, 3)) (hq1 : pc + 3 = q1) (w1 : (Cond.methodLink own i y).before a0 Z = true) (w2 : (Cond.sameMethod y.cls owner y.name y.desc).before a0 Z = true) (w3 : (Cond.declares ⟨owner, y.name, y.desc⟩).before a0 Z = true) (ho : owner ≠ "java/lang/invoke/MethodHandle" ∧ owner ≠ "java/lang/invoke/VarHandle") (w4 : (Cond.selects D y z).before a0 Z = true) (w5 : (Cond.instanceMethod z).before a0 Z = true) (w6 : (Cond.initialized z.cls).before a0 Z = true) (w7 : (Cond.code z bytes' maxL' ret').before a0 Z = true) (pd : parseMethodDescriptor y.desc = some ⟨ps, r'⟩)
    (X0 : Exa Z h a D) (C : Con l Z n0 z bytes' maxL' ret' rm (.ref a :: as) h ws' Q') (hst : st = List.reverseAux as (.ref a :: rest)) (hlen : as.length = ps.length) (hL : Ls.length = maxL) (hr : roomOk R rm maxL' rest k n = true) (hws : ∀ x ∈ ws', x ∈ ws ∨ h0.size ≤ x) (g : ∀ v h', Q' v h' → Keep h h' ws' → Wp wd p l e R s m args below meth c Z own nam bytes maxL ret n0 h0 ws Q I h' (k + rm.cells) (n + rm.slots) q1 Ls (psh v rest)) : Wp wd p l e R s m args below meth c Z own nam bytes maxL ret n0 h0 ws Q I h k n pc Ls st := by
  subst hq1
  exact  fun E T L vm0 B X N eT => by
    obtain ⟨r1, r2, r3, r4⟩ := roomOk_spec hr
    subst hst
    obtain ⟨cq, kq, qa, qb, qc⟩ := isOf (bZ E B) eT X0
    obtain ⟨v, vm, ⟨T1, L1, k1, n1⟩, -, X1, ⟨Lc, hQ, l1, y1, z1⟩, st1⟩ := X.virtualBackUp E.1 (bO E B) (mvT (bZ E B) w1) (mvT (bZ E B) w2) (mvT (bZ E B) w3) ho (mvT (bZ E B) w4) (mvT (bZ E B) w5) (backOf (Q := fun v h1 L => Q' v h1 ∧ Pmt h ws' L ∧ Keep h h1 ws') (C (oldOf E X N eT) (fun x hx => n0Of E (hws x hx)) []) (bZ E B) w7 w6 r1 r2) qa qc (g := mkF m pc Ls.toArray (List.reverseAux as (.ref a :: rest))) rfl (by rw [E.2.2.1, ← hL]; simp) (Steps.refl _) (argsL := as) (rest := rest) (lenOf pd hlen) (rev_eq as _) (by show 2 * 0 + _ ≤ _; omega) (hb E.2.1 hd) (fun _ _ => ⟨rfl, eT, r3, r4⟩)
    dsimp only [Pt.U, Pt.locs, Pt.cells, Pt.slots] at X1 l1 y1 z1 st1 hQ
    subst l1 y1 z1
    obtain ⟨s2, o, hs, r⟩ := g v _ hQ.1 hQ.2.2 E T1 _ vm0 (bG B hQ.2.2.1) X1 (N.app (pmtOf E X eT hws hQ.2.1)) rfl
    exact ⟨s2, o, st1.trans (by rw [psh_eq]; exact hs), r⟩
theorem invokeface {q1 : Nat} {z : MethodName} {D : String} {cnt : Nat} (hd : decode bytes pc = .ok (.invokeinterface i cnt, 5)) (hq1 : pc + 5 = q1) (w1 : (Cond.methodLink own i y).before a0 Z = true) (w2 : (Cond.declares y).before a0 Z = true) (w3 : (Cond.interfaceMethod y.cls y.cls y.name y.desc).before a0 Z = true) (w4 : (Cond.selects D y z).before a0 Z = true) (w5 : (Cond.instanceMethod z).before a0 Z = true) (w5b : (Cond.publicMethod z).before a0 Z = true) (w5c : (Cond.unhidden D y.name y.desc).before a0 Z = true) (w5d : (Cond.castable D y.cls).before a0 Z = true) (w6 : (Cond.initialized z.cls).before a0 Z = true) (w7 : (Cond.code z bytes' maxL' ret').before a0 Z = true) (hy : y.cls ≠ "java/lang/invoke/MethodHandle" ∧ y.cls ≠ "java/lang/invoke/VarHandle") (hfc : ((Cond.interfaceMethod y.cls y.cls y.name y.desc).onTables && (Cond.interfaceMethod y.cls y.cls y.name y.desc).keepsFace) = true) (pd : parseMethodDescriptor y.desc = some ⟨ps, r'⟩)
    (X0 : Exa Z h a D) (C : Con l Z n0 z bytes' maxL' ret' rm (.ref a :: as) h ws' Q') (hst : st = List.reverseAux as (.ref a :: rest)) (hlen : as.length = ps.length) (hL : Ls.length = maxL) (hr : roomOk R rm maxL' rest k n = true) (hws : ∀ x ∈ ws', x ∈ ws ∨ h0.size ≤ x) (g : ∀ v h', Q' v h' → Keep h h' ws' → Wp wd p l e R s m args below meth c Z own nam bytes maxL ret n0 h0 ws Q I h' (k + rm.cells) (n + rm.slots) q1 Ls (psh v rest)) : Wp wd p l e R s m args below meth c Z own nam bytes maxL ret n0 h0 ws Q I h k n pc Ls st := by
  subst hq1
  exact  fun E T L vm0 B X N eT => by
    obtain ⟨r1, r2, r3, r4⟩ := roomOk_spec hr
    subst hst
    obtain ⟨cq, kq, qa, qb, qc⟩ := isOf (bZ E B) eT X0
    obtain ⟨v, vm, ⟨T1, L1, k1, n1⟩, -, X1, ⟨Lc, hQ, l1, y1, z1⟩, st1⟩ := X.interfaceBack E.1 (bO E B) (mvT (bZ E B) w1) (mvT (bZ E B) w2) (mvT (bZ E B) w3 hfc) (mvT (bZ E B) w4) (mvT (bZ E B) w5) (mvT (bZ E B) w5b) (mvT (bZ E B) w5c) (mvT (bZ E B) w5d) hy (backOf (Q := fun v h1 L => Q' v h1 ∧ Pmt h ws' L ∧ Keep h h1 ws') (C (oldOf E X N eT) (fun x hx => n0Of E (hws x hx)) []) (bZ E B) w7 w6 r1 r2) qa qb qc (g := mkF m pc Ls.toArray (List.reverseAux as (.ref a :: rest))) rfl (by rw [E.2.2.1, ← hL]; simp) (Steps.refl _) (argsL := as) (rest := rest) (lenOf pd hlen) (rev_eq as _) (by show 2 * 0 + _ ≤ _; omega) (hb E.2.1 hd) (fun _ _ => ⟨rfl, eT, r3, r4⟩)
    dsimp only [Pt.U, Pt.locs, Pt.cells, Pt.slots] at X1 l1 y1 z1 st1 hQ
    subst l1 y1 z1
    obtain ⟨s2, o, hs, r⟩ := g v _ hQ.1 hQ.2.2 E T1 _ vm0 (bG B hQ.2.2.1) X1 (N.app (pmtOf E X eT hws hQ.2.1)) rfl
    exact ⟨s2, o, st1.trans (by rw [psh_eq]; exact hs), r⟩
/-- a private method of the class at hand -/
theorem invokepriv {q1 : Nat} {D : String} {kk : Nat} (hd : decode bytes pc = .ok (.invokevirtual i, 3)) (hq1 : pc + 3 = q1) (w1 : (Cond.methodLink own i y).before a0 Z = true) (w2 : (Cond.instanceMethod y).before a0 Z = true) (w3 : (Cond.instantiable y.cls kk).before a0 Z = true) (w4 : (Cond.privateMethod y).before a0 Z = true) (w5 : (Cond.initialized y.cls).before a0 Z = true) (w6 : (Cond.code y bytes' maxL' ret').before a0 Z = true) (hy : y.cls ≠ "java/lang/invoke/MethodHandle" ∧ y.cls ≠ "java/lang/invoke/VarHandle") (pd : parseMethodDescriptor y.desc = some ⟨ps, r'⟩)
    (X0 : Exa Z h a D) (C : Con l Z n0 y bytes' maxL' ret' rm (.ref a :: as) h ws' Q') (hst : st = List.reverseAux as (.ref a :: rest)) (hlen : as.length = ps.length) (hL : Ls.length = maxL) (hr : roomOk R rm maxL' rest k n = true) (hws : ∀ x ∈ ws', x ∈ ws ∨ h0.size ≤ x) (g : ∀ v h', Q' v h' → Keep h h' ws' → Wp wd p l e R s m args below meth c Z own nam bytes maxL ret n0 h0 ws Q I h' (k + rm.cells) (n + rm.slots) q1 Ls (psh v rest)) : Wp wd p l e R s m args below meth c Z own nam bytes maxL ret n0 h0 ws Q I h k n pc Ls st := by
  subst hq1
  exact  fun E T L vm0 B X N eT => by
    obtain ⟨r1, r2, r3, r4⟩ := roomOk_spec hr
    subst hst
    obtain ⟨cq, q1, q2⟩ := X0.cell
    obtain ⟨ci, ki, i1, i2, -, i3, -⟩ := Cond.instantiable_spec (mvT (s := s.setVm vm0) (args := args) (bZ E B) w3)
    have hpv : (s.setVm vm0).PrivateAt y := Cond.privateMethod_at (mvP (bZ E B) w4 (args := #[]))
    have hsel : (Cond.selects y.cls y y).before args (s.setVm vm0) = true := selects_self_of_private i1 i2 (by simp only [Bool.or_eq_false_iff] at i3; exact i3.1) hpv (mvT (bZ E B) w2) hy
    obtain ⟨v, vm, ⟨T1, L1, k1, n1⟩, -, X1, ⟨Lc, hQ, l1, y1, z1⟩, st1⟩ := X.privateBack E.1 (bO E B) (mvT (bZ E B) w1) (mvT (bZ E B) w2) hsel hpv (mvT (bZ E B) w6) hy (backOf (Q := fun v h1 L => Q' v h1 ∧ Pmt h ws' L ∧ Keep h h1 ws') (C (oldOf E X N eT) (fun x hx => n0Of E (hws x hx)) []) (bZ E B) w6 w5 r1 r2) (g := mkF m pc Ls.toArray (List.reverseAux as (.ref a :: rest))) rfl (by rw [E.2.2.1, ← hL]; simp) (Steps.refl _) (a := a) (by rw [eT]; exact q1) q2 (argsL := as) (rest := rest) (lenOf pd hlen) (rev_eq as _) (by show 2 * 0 + _ ≤ _; omega) (hb E.2.1 hd) (fun _ _ => ⟨rfl, eT, r3, r4⟩)
    dsimp only [Pt.U, Pt.locs, Pt.cells, Pt.slots] at X1 l1 y1 z1 st1 hQ
    subst l1 y1 z1
    obtain ⟨s2, o, hs, r⟩ := g v _ hQ.1 hQ.2.2 E T1 _ vm0 (bG B hQ.2.2.1) X1 (N.app (pmtOf E X eT hws hQ.2.1)) rfl
    exact ⟨s2, o, st1.trans (by rw [psh_eq]; exact hs), r⟩
end Calls
/-! ### wide: constants are interned -/
section Wide
theorem sameNil {s T : State} {L : List Loc} {k n : Nat} (q : s.sameButNew T L k n) (e : T.heap = s.heap) : s.sameButNew T [] k n :=
  ⟨q.1, q.2.1, q.2.2.1, q.2.2.2.1, q.2.2.2.2.1, fun a c ha => ⟨c, by rw [e]; exact ha, rfl, rfl, fun _ _ => rfl⟩⟩
/-- ldc of a String constant whose text this run has not interned yet, ahead of the body's first write -/
theorem ldcLit {q1 : Nat} {i nn : Nat} {text : String} {Ts : List String} {vs : List Value} {z : Int32} (hd : decode bytes pc = .ok (.ldc i, 2)) (hq1 : pc + 2 = q1) (w : (Cond.stringLink own i text).before a0 Z = true) (wS : ∀ a ∈ Bundle.stringAtoms, a.before a0 Z = true) (hI : ∀ vm, I vm → IB Z vm Ts) (hnot : text ∉ Ts) (hh : Jvm.Lit.constHeld Z own i) (hcw : Jvm.Lit.compactW.before a0 Z = true)
    (ht : (∀ c ∈ text.toList, c.toNat < 256) ∧ text.toList.map (fun c => Value.int (Jvm.Lit.byteI c.toNat.toUInt16)) = vs) (hz : ¬ z < 0) (hl : z.toNatClampNeg = vs.length) (hn : 4 * text.toList.length ≤ nn) (hbig : nn ≤ 536870912) (hc : k + 2 ≤ R.cells) (hl' : n + (nn + 4) ≤ R.slots)
    (g : ∀ (a : Addr) (h' : Heap) (b : Addr) (kk : ClassId), Ext h0 h' → Exa Z h' a "java/lang/String" → Fld Z h' a "java/lang/String" "coder" "B" (.int 0) → Fld Z h' a "java/lang/String" "value" "[B" (.ref b) → Arv Z h' b kk .byte z vs (.int 0) → a < h'.size → b < h'.size → Wp true p l e R s m args below meth c Z own nam bytes maxL ret n0 h0 ws Q (fun vm => IB Z vm (text :: Ts) ∧ Lit (Z.setVm vm) own i a) h' (k + 2) (n + (nn + 4)) q1 Ls (.ref a :: st)) : Wp true p l e R s m args below meth c Z own nam bytes maxL ret n0 h0 ws Q I h0 k n pc Ls st := by
  subst hq1
  exact  fun E T L vm0 B X N eT => by
    have eh : s.heap = h0 := E.2.2.2.2.2.2.2.2.1
    have X' : Stand p l e R (s.setVm vm0) m args below meth c T [] k n := ⟨X.admits, X.cas, X.clock, X.frames, X.room, X.hears, X.method, X.code, X.here, X.tail, X.warmed, X.limits, X.bytes, sameNil X.same (by show T.heap = s.heap; rw [eT, eh])⟩
    obtain ⟨a, T', h', k1, b, kk, r1, r2, r3, r4, r5, r6, r7, r8, r9, r10, r11, r12, r13, r14, r15, r16⟩ := ldcSVL (s := s) X' E.1 B.2.1 (bO (wd := true) E B) w wS eT B.1 (Nat.le_refl _) (fun _ q => nomatch q) (fun b cl hb => by rw [eh]; exact E.2.2.2.2.2.2.2.2.2.1.2.2 b cl hb) (hI _ B.2.2) hnot hh hcw ht hz hl (g := mkF m pc Ls.toArray st) rfl (hb E.2.1 hd) hn hbig hc hl'
    obtain ⟨s2, o, hs, r⟩ := g a h' b kk r3 r8 r9 r10 r11 r12 r13 E T' [] T'.vm ⟨⟨r4.1, r4.2.mono r5⟩, r6, r14, r15⟩ r1 (Pmt.nil _ _) r2
    exact ⟨s2, o, r16 _ hs, r⟩
theorem ldcAgain {q1 : Nat} {i : Nat} {text : String} {a : Addr} (hd : decode bytes pc = .ok (.ldc i, 2)) (hq1 : pc + 2 = q1) (w : (Cond.stringLink own i text).before a0 Z = true) (hI : ∀ vm, I vm → Lit (Z.setVm vm) own i a) (g : Wp true p l e R s m args below meth c Z own nam bytes maxL ret n0 h0 ws Q I h k n q1 Ls (.ref a :: st)) : Wp true p l e R s m args below meth c Z own nam bytes maxL ret n0 h0 ws Q I h k n pc Ls st := by
  subst hq1
  exact  step g fun E T L t vm0 B X _ hr => Jvm.RoadKit.ldcAgain (s := s) X E.1 B.2.1 (bO (wd := true) E B) w (a := a) (hI _ B.2.2) (g := mkF m pc Ls.toArray st) rfl (hb E.2.1 hd) _ hr
/-- ldc of a String constant, of whose text nothing is said -/
theorem ldcAny {q1 : Nat} {i nn : Nat} {text : String} (hd : decode bytes pc = .ok (.ldc i, 2)) (hq1 : pc + 2 = q1) (w : (Cond.stringLink own i text).before a0 Z = true) (wS : ∀ a ∈ Bundle.stringAtoms, a.before a0 Z = true) (hn : 4 * text.toList.length ≤ nn) (hbig : nn ≤ 536870912) (hc : k + 2 ≤ R.cells) (hl' : n + (nn + 4) ≤ R.slots)
    (g : ∀ (a : Addr) (h' : Heap), Ext h h' → Wp true p l e R s m args below meth c Z own nam bytes maxL ret n0 h0 ws Q (fun _ => True) h' (k + 2) (n + (nn + 4)) q1 Ls (.ref a :: st)) : Wp true p l e R s m args below meth c Z own nam bytes maxL ret n0 h0 ws Q I h k n pc Ls st := by
  subst hq1
  exact  fun E T L vm0 B X N eT => by
    obtain ⟨a, T', h', k1, r1, r2, r3, r4, r5, r6, r7, r8⟩ := ldcS (s := s) X E.1 B.2.1 (bO (wd := true) E B) w wS eT B.1 (Nat.le_refl _) (g := mkF m pc Ls.toArray st) rfl (hb E.2.1 hd) hn hbig hc hl'
    obtain ⟨s2, o, hs, r⟩ := g a h' r3 E T' L T'.vm ⟨⟨r4.1, r4.2.mono r5⟩, r6, trivial⟩ r1 N r2
    exact ⟨s2, o, r8 _ hs, r⟩
variable {y : MethodName} {bytes' : ByteArray} {maxL' : Nat} {ret' : Option FieldType} {rm : Room} {as : List Value} {ws' : List Addr} {I' : Vm → Prop} {Q' : Option Value → Heap → Prop} {ps : List FieldType} {r' : Option FieldType} {i : Nat} {a : Addr}
theorem backJ {as' : Array Value} {len W' : Nat} {QL : Option Value → Heap → List Loc → Prop}
    (hM : MetFree l y (head1 [Cond.code y bytes' maxL' ret'] rm) (fun a U => a = as' ∧ Z.Warmed39 U.vm ∧ U.heap = h ∧ I' U.vm) (fun _ _ _ _ _ => True) (fun _ U o U' => ∃ v L, o = .returned v ∧ QL v U'.heap L ∧ ReturnedEndW U o U' L rm.cells rm.slots))
    (hZ : Z.Warmed39 s.vm) (wc : (Cond.code y bytes' maxL' ret').before a0 Z = true) (wz : (Cond.initialized y.cls).before a0 Z = true) (hf : rm.frames + 1 ≤ R.frames) (hl : W' + (maxL' + 11) + rm.locals ≤ R.locals) :
    BackS l R p e below s args y len W' (fun A a => a = as' ∧ A.U.heap = h ∧ I' A.U.vm ∧ A.cells + rm.cells ≤ R.cells ∧ A.slots + rm.slots ≤ R.slots)
      (fun A _ v B => ∃ L, QL v B.U.heap L ∧ B.locs = A.locs ++ L ∧ B.cells = A.cells + rm.cells ∧ B.slots = A.slots + rm.slots) :=
  BackS.of_freeW (bytes := bytes') (maxL := maxL') (ret := ret') (E := fun _ _ o t L k n => k = rm.cells ∧ n = rm.slots ∧ ∃ v, o = .returned v ∧ QL v t.heap L) hM hf hl
    (fun m meth c A a Y hp => have hU : Z.Warmed39 A.U.vm := wtrans hZ Y.warmed
      ⟨by show (Cond.and _ .tt).before a A.U = true; rw [Cond.before_and, mv hU wc]; rfl, mv hU wc, mv hU wz, hp.2.2.2.1, hp.2.2.2.2⟩)
    (fun m meth c A a g mk Y hp => ⟨hp.1, wtrans hZ Y.warmed, hp.2.1, hp.2.2.1⟩) (fun _ _ _ _ _ _ _ _ _ => trivial)
    (fun _ _ _ _ ⟨v, L, h1, h2, h3⟩ => ⟨L, _, _, h3, rfl, rfl, v, h1, h2⟩)
    (fun m meth c A a g mk v t L k n Y hp _ _ ⟨e1, e2, v', e3, e4⟩ => by cases e3; subst e1 e2; exact ⟨L, e4, rfl, rfl, rfl⟩)
/-- what is known of the tables stands under tables that are warmer in the narrow sense -/
def Stab (I I' : Vm → Prop) : Prop := ∀ (s : State) (vm vm' : Vm), (s.setVm vm).WarmedH vm' → I vm → I' vm'
theorem stabIB {Z : State} {Ts : List String} : Stab (fun vm => IB Z vm Ts) (fun vm => IB Z vm Ts) := fun s vm vm' hW ⟨more, e, q⟩ => ⟨more, by rw [hW.interned_eq]; exact e, q⟩
theorem stabT {I : Vm → Prop} : Stab I (fun _ => True) := fun _ _ _ _ _ => trivial
theorem rebase {Z s : State} {vm0 vm1 : Vm} {h : Heap} {U : State} (B : Base true I Z s vm0 h) (hS : (s.setVm vm0).Since U.vm U.heap.size) (hg : h.size ≤ U.heap.size) (hv : U.vm = vm1) : Base true (fun _ => True) Z s vm1 U.heap := by
  subst hv
  exact ⟨B.1.trans hS hg, State.Warmed39.trans (t := s.setVm vm0) B.2.1 hS.1, trivial⟩
theorem invokestaticW {q1 : Nat} (hd : decode bytes pc = .ok (.invokestatic i, 3)) (hq1 : pc + 3 = q1) (w1 : (Cond.methodLink own i y).before a0 Z = true) (w2 : (Cond.static y).before a0 Z = true) (w3 : (Cond.initialized y.cls).before a0 Z = true) (w4 : (Cond.code y bytes' maxL' ret').before a0 Z = true) (hy : y.cls ≠ "java/lang/invoke/MethodHandle" ∧ y.cls ≠ "java/lang/invoke/VarHandle") (pd : parseMethodDescriptor y.desc = some ⟨ps, r'⟩)
    (C : ConW l Z n0 y bytes' maxL' ret' rm as h ws' I' Q') (hst : st = List.reverseAux as rest) (hlen : as.length = ps.length) (hL : Ls.length = maxL) (hr : roomOk R rm maxL' rest k n = true) (hws : ∀ x ∈ ws', x ∈ ws ∨ h0.size ≤ x) (hSt : Stab I I') (g : ∀ v h', Q' v h' → Keep h h' ws' → Wp true p l e R s m args below meth c Z own nam bytes maxL ret n0 h0 ws Q (fun _ => True) h' (k + rm.cells) (n + rm.slots) q1 Ls (psh v rest)) : Wp true p l e R s m args below meth c Z own nam bytes maxL ret n0 h0 ws Q I h k n pc Ls st := by
  subst hq1
  exact  fun E T L vm0 B X N eT => by
    obtain ⟨r1, r2, r3, r4⟩ := roomOk_spec hr
    subst hst
    obtain ⟨v, vm, ⟨T1, L1, k1, n1⟩, -, X1, hS, hgr, ⟨Lc, hQ, l1, y1, z1⟩, st1⟩ := callSS X E.1 (bO E B) (mvT (bZ E B) w1) (mvT (bZ E B) w2) (mvT (bZ E B) w3) (mvT (bZ E B) w4) hy (backJ (QL := fun v h1 L => Q' v h1 ∧ Pmt h ws' L ∧ Keep h h1 ws') (C (oldOf E X N eT) (fun x hx => n0Of E (hws x hx)) []) (bZ E B) w4 w3 r1 r2) (g := mkF m pc Ls.toArray (List.reverseAux as rest)) rfl (by rw [E.2.2.1, ← hL]; simp) (argsL := as) (rest := rest) (lenOf pd hlen) (rev_eq as rest) (by show 2 * 0 + _ ≤ _; omega) (hb E.2.1 hd) (fun vm1 hw1 => ⟨rfl, eT, hSt s vm0 vm1 hw1 B.2.2, r3, r4⟩)
    dsimp only [Pt.U, Pt.locs, Pt.cells, Pt.slots] at X1 l1 y1 z1 st1 hQ hS hgr
    subst l1 y1 z1
    obtain ⟨s2, o, hs, r⟩ := g v _ hQ.1 hQ.2.2 E T1 _ T1.vm (rebase B hS (by rw [← eT]; exact hgr) rfl) X1 (N.app (pmtOf E X eT hws hQ.2.1)) rfl
    exact ⟨s2, o, st1.trans (by rw [psh_eq]; exact hs), r⟩
theorem invokespecialW {q1 : Nat} (hd : decode bytes pc = .ok (.invokespecial i, 3)) (hq1 : pc + 3 = q1) (hy1 : y.name = "<init>") (w1 : (Cond.methodLink own i y).before a0 Z = true) (w2 : (Cond.instanceMethod y).before a0 Z = true) (w3 : (Cond.initialized y.cls).before a0 Z = true) (w4 : (Cond.code y bytes' maxL' none).before a0 Z = true) (hy : y.cls ≠ "java/lang/invoke/MethodHandle" ∧ y.cls ≠ "java/lang/invoke/VarHandle") (pd : parseMethodDescriptor y.desc = some ⟨ps, r'⟩)
    (C : ConW l Z n0 y bytes' maxL' none rm (.ref a :: as) h ws' I' Q') (hst : st = List.reverseAux as (.ref a :: rest)) (hlen : as.length = ps.length) (hL : Ls.length = maxL) (hr : roomOk R rm maxL' rest k n = true) (hws : ∀ x ∈ ws', x ∈ ws ∨ h0.size ≤ x) (hSt : Stab I I') (g : ∀ v h', Q' v h' → Keep h h' ws' → Wp true p l e R s m args below meth c Z own nam bytes maxL ret n0 h0 ws Q (fun _ => True) h' (k + rm.cells) (n + rm.slots) q1 Ls (psh v rest)) : Wp true p l e R s m args below meth c Z own nam bytes maxL ret n0 h0 ws Q I h k n pc Ls st := by
  subst hq1
  exact  fun E T L vm0 B X N eT => by
    obtain ⟨r1, r2, r3, r4⟩ := roomOk_spec hr
    subst hst
    obtain ⟨v, vm, ⟨T1, L1, k1, n1⟩, -, X1, hS, hgr, ⟨Lc, hQ, l1, y1, z1⟩, st1⟩ := X.specialBackS E.1 hy1 (bO E B) (mvT (bZ E B) w1) (mvT (bZ E B) w2) (mvT (bZ E B) w4) hy (backJ (QL := fun v h1 L => Q' v h1 ∧ Pmt h ws' L ∧ Keep h h1 ws') (C (oldOf E X N eT) (fun x hx => n0Of E (hws x hx)) []) (bZ E B) w4 w3 r1 r2) (g := mkF m pc Ls.toArray (List.reverseAux as (.ref a :: rest))) rfl (by rw [E.2.2.1, ← hL]; simp) (Steps.refl _) (a := a) (argsL := as) (rest := rest) (lenOf pd hlen) (rev_eq as _) (by show 2 * 0 + _ ≤ _; omega) (hb E.2.1 hd) (fun vm1 hw1 => ⟨rfl, eT, hSt s vm0 vm1 hw1 B.2.2, r3, r4⟩)
    dsimp only [Pt.U, Pt.locs, Pt.cells, Pt.slots] at X1 l1 y1 z1 st1 hQ hS hgr
    subst l1 y1 z1
    obtain ⟨s2, o, hs, r⟩ := g v _ hQ.1 hQ.2.2 E T1 _ T1.vm (rebase B hS (by rw [← eT]; exact hgr) rfl) X1 (N.app (pmtOf E X eT hws hQ.2.1)) rfl
    exact ⟨s2, o, st1.trans (by rw [psh_eq]; exact hs), r⟩
end Wide
/-! the end -/
theorem ret_v (hd : decode bytes pc = .ok (.return_, 1)) (hret : ret = none) (hr : (Nat.ble k R.cells && Nat.ble n R.slots) = true) (hQ : Q none h) : Wp wd p l e R s m args below meth c Z own nam bytes maxL ret n0 h0 ws Q I h k n pc Ls [] := fun E T L vm0 B X N eT => by
  have hr' := Bool.and_eq_true_iff.mp hr
  obtain ⟨fs, hrr, hrun, hended, hW, hsame⟩ := X.leave (v := none) (fun _ => rfl) E.2.2.2.2.2.2.2.1
  refine ⟨_, _, ?_, hrun, hended, _, _, rfl, ⟨?_, N⟩, endOf E B ⟨_, rfl⟩ hW hsame eT (Nat.le_of_ble_eq_true hr'.1) (Nat.le_of_ble_eq_true hr'.2)⟩
  · exact X.returnOut E.1 (E.2.2.2.2.2.2.1.trans hret) (hb E.2.1 hd) hrr
  · show Q none T.heap
    rw [eT]; exact hQ
theorem ret_w {w : Value} {t : FieldType} {ii : Instr} (hd : decode bytes pc = .ok (ii, 1)) (hret : ret = some t) (hn : narrow t w = w)
    (hi : (ii = .ireturn ∧ (t = .int ∨ t = .boolean ∨ t = .byte ∨ t = .char ∨ t = .short) ∧ ∃ z, w = .int z) ∨ (ii = .lreturn ∧ t = .long ∧ ∃ z, w = .long z) ∨ (ii = .dreturn ∧ t = .double ∧ ∃ z, w = .double z) ∨ (ii = .freturn ∧ t = .float ∧ ∃ z, w = .float z) ∨ (ii = .areturn ∧ t.isReference = true ∧ w.isRef = true))
    (hr : (Nat.ble k R.cells && Nat.ble n R.slots) = true) (hQ : Q (some w) h) : Wp wd p l e R s m args below meth c Z own nam bytes maxL ret n0 h0 ws Q I h k n pc Ls (w :: rest) := fun E T L vm0 B X N eT => by
  have hr' := Bool.and_eq_true_iff.mp hr
  obtain ⟨fs, hrr, hrun, hended, hW, hsame⟩ := X.leave (v := some w) (fun h => by rw [E.2.2.2.2.2.2.1, hret] at h; cases h) E.2.2.2.2.2.2.2.1
  refine ⟨_, _, ?_, hrun, hended, _, _, rfl, ⟨?_, N⟩, endOf E B ⟨_, rfl⟩ hW hsame eT (Nat.le_of_ble_eq_true hr'.1) (Nat.le_of_ble_eq_true hr'.2)⟩
  · exact retOut X E.1 (E.2.2.2.2.2.2.1.trans hret) hn hi (hb E.2.1 hd) hrr
  · show Q _ T.heap
    rw [eT]; exact hQ
theorem ret_i {x : Int32} (hd : decode bytes pc = .ok (.ireturn, 1)) (hret : ret = some .int) (hr : (Nat.ble k R.cells && Nat.ble n R.slots) = true) (hQ : Q (some (.int x)) h) : Wp wd p l e R s m args below meth c Z own nam bytes maxL ret n0 h0 ws Q I h k n pc Ls (.int x :: rest) :=
  ret_w hd hret rfl (Or.inl ⟨rfl, Or.inl rfl, x, rfl⟩) hr hQ
theorem ret_l {x : Int64} (hd : decode bytes pc = .ok (.lreturn, 1)) (hret : ret = some .long) (hr : (Nat.ble k R.cells && Nat.ble n R.slots) = true) (hQ : Q (some (.long x)) h) : Wp wd p l e R s m args below meth c Z own nam bytes maxL ret n0 h0 ws Q I h k n pc Ls (.long x :: rest) :=
  ret_w hd hret rfl (Or.inr (Or.inl ⟨rfl, rfl, x, rfl⟩)) hr hQ
theorem ret_a {w : Value} {t : FieldType} (hd : decode bytes pc = .ok (.areturn, 1)) (hret : ret = some t) (ht : t.isReference = true) (hw : w.isRef = true) (hr : (Nat.ble k R.cells && Nat.ble n R.slots) = true) (hQ : Q (some w) h) : Wp wd p l e R s m args below meth c Z own nam bytes maxL ret n0 h0 ws Q I h k n pc Ls (w :: rest) :=
  ret_w hd hret (by cases t <;> first | (cases ht; done) | (cases w <;> first | rfl | (cases hw; done))) (Or.inr (Or.inr (Or.inr (Or.inr ⟨rfl, ht, hw⟩)))) hr hQ
theorem ret_n {x : Int32} {t : FieldType} (hd : decode bytes pc = .ok (.ireturn, 1)) (hret : ret = some t) (ht : t = .boolean ∨ t = .byte ∨ t = .char ∨ t = .short) (hr : (Nat.ble k R.cells && Nat.ble n R.slots) = true) (hQ : Q (some (.int (nar t x))) h) : Wp wd p l e R s m args below meth c Z own nam bytes maxL ret n0 h0 ws Q I h k n pc Ls (.int x :: rest) := fun E T L vm0 B X N eT => by
  have hr' := Bool.and_eq_true_iff.mp hr
  obtain ⟨fs, hrr, hrun, hended, hW, hsame⟩ := X.leave (v := some (.int (nar t x))) (fun h => by rw [E.2.2.2.2.2.2.1, hret] at h; cases h) E.2.2.2.2.2.2.2.1
  refine ⟨_, _, ?_, hrun, hended, _, _, rfl, ⟨?_, N⟩, endOf E B ⟨_, rfl⟩ hW hsame eT (Nat.le_of_ble_eq_true hr'.1) (Nat.le_of_ble_eq_true hr'.2)⟩
  · exact retN X E.1 (E.2.2.2.2.2.2.1.trans hret) ht (hb E.2.1 hd) hrr
  · show Q _ T.heap
    rw [eT]; exact hQ
end Walk
end Jvm.OwnWp
namespace Jvm.Pilot.@@N@@
open Jvm Jvm.ClassFile Sem Op Lib Jvm.Free Jvm.Stand Jvm.LawKit Jvm.RoadKit Jvm.OwnWp Bundle Jvm.Pilot.@@N@@.Jvm.D
theorem ww {Z : State} {a0 : Array Value} (hw : ∀ d ∈ tables_1, d.before a0 Z = true) (i : Nat) {d : Jvm.Cond} (h : tables_1[i]? = some d) : d.before a0 Z = true := hw d (List.mem_of_getElem? h)
theorem pd0 : parseMethodDescriptor "(Ljava/lang/String;)V" = some ⟨[(.object "java/lang/String")], none⟩ := by decide +kernel
theorem pd1 : parseMethodDescriptor "()V" = some ⟨[], none⟩ := by decide +kernel
theorem pd2 : parseMethodDescriptor "(I)V" = some ⟨[.int], none⟩ := by decide +kernel
theorem pd3 : parseMethodDescriptor "(I)I" = some ⟨[.int], some .int⟩ := by decide +kernel
theorem pd4 : parseMethodDescriptor "(Ljava/util/BitSet;)V" = some ⟨[(.object "java/util/BitSet")], none⟩ := by decide +kernel
theorem pd5 : parseMethodDescriptor "()I" = some ⟨[], some .int⟩ := by decide +kernel
theorem pd6 : parseMethodDescriptor "()[J" = some ⟨[], some (.array .long)⟩ := by decide +kernel
theorem pd7 : parseMethodDescriptor "([JI)[J" = some ⟨[(.array .long), .int], some (.array .long)⟩ := by decide +kernel
theorem pd8 : parseMethodDescriptor "(II)I" = some ⟨[.int, .int], some .int⟩ := by decide +kernel
theorem pd9 : parseMethodDescriptor "(Ljava/lang/Object;ILjava/lang/Object;II)V" = some ⟨[(.object "java/lang/Object"), .int, (.object "java/lang/Object"), .int, .int], none⟩ := by decide +kernel
theorem pd10 : parseMethodDescriptor "([J)Ljava/util/BitSet;" = some ⟨[(.array .long)], some (.object "java/util/BitSet")⟩ := by decide +kernel
theorem pd11 : parseMethodDescriptor "()Ljava/lang/Object;" = some ⟨[], some (.object "java/lang/Object")⟩ := by decide +kernel
theorem pd12 : parseMethodDescriptor "([J)V" = some ⟨[(.array .long)], none⟩ := by decide +kernel
theorem pd13 : parseMethodDescriptor "(J)I" = some ⟨[.long], some .int⟩ := by decide +kernel
theorem pd14 : parseMethodDescriptor "(Lcom/example/medway/medway/Node;)Z" = some ⟨[(.object "com/example/medway/medway/Node")], some .boolean⟩ := by decide +kernel
theorem pd15 : parseMethodDescriptor "(JJJJ)Z" = some ⟨[.long, .long, .long, .long], some .boolean⟩ := by decide +kernel
theorem own_succ {j : Int32} {i : Nat} (h : j.toInt = (i : Int)) (hb : i < 2147483647) : (j + 1).toInt = ((i + 1 : Nat) : Int) := by
  have e : (1 : Int32).toInt = 1 := rfl
  rw [XT.add32 (by rw [h, e]; constructor <;> omega), h, e]; omega
theorem own_lt {x y : Int32} : x < y ↔ x.toInt < y.toInt := Int32.lt_iff_toInt_lt
theorem own_eq {x y : Int32} (h : x.toInt = y.toInt) : x = y := Int32.toInt_inj.mp h
theorem own_b8 (x : Int32) : nar .byte (x.toInt8.toInt32) = x.toInt8.toInt32 := by simp [nar]
theorem own_and255 (x : Int32) : ∃ n : Nat, (x &&& 255).toInt = (n : Int) ∧ n < 256 := by
  have h := c_mask x 255 8 (by decide) (by decide)
  refine ⟨(x &&& 255).toInt.toNat, ?_, ?_⟩ <;> omega
theorem own_c8 (x : Int32) : nar .char ((x &&& 255).toUInt32.toUInt16.toUInt32.toInt32) = x &&& 255 := by
  rw [i2c_mask]; exact i2c_mask x
theorem own_le255 (x : Int32) : ¬ (255 : Int32) < x &&& 255 := by
  obtain ⟨n, h1, h2⟩ := own_and255 x
  rw [own_lt, h1]; have : (255 : Int32).toInt = 255 := rfl; omega
theorem own_in1 {a : Addr} : ∀ {L : List Addr}, a ∈ a :: L := List.mem_cons_self
theorem own_sta {s : State} {args : Array Value} {C n d : String} {ty : FieldType} {k : Int32} (hfit : Fit s) (w1 : (Cond.laysStatic C n d).before args s = true) (w2 : (Cond.initializedFor C n d).before args s = true) (w3 : (Cond.eq (.static C n d) (.int k)).before args s = true) (ht : parseFieldDescriptor d = some ty) (hty : ty = .int ∨ ty = .boolean ∨ ty = .byte ∨ ty = .char ∨ ty = .short) : Sta s s.heap C n d (.int k) := by
  obtain ⟨v, ev, hv⟩ := static_fit hfit w1 ht
  obtain ⟨x, rfl⟩ := fit_I hv hty
  have e : x = k := gotT (Cond.eq_ints ev (Term.int_eval k)) (Cond.before_iff.mp w3)
  subst e
  exact Sta.start ev (Or.inl w2)
def AOff (Z : State) : Prop := Sta Z Z.heap "java/util/BitSet" "$assertionsDisabled" "Z" (.int 1)
theorem d10_0 : decode jdk_92_method_1_code 0 = .ok (.iload_n 0, 1) := by decide +kernel
theorem d10_1 : decode jdk_92_method_1_code 1 = .ok (.bipush 6, 2) := by decide +kernel
theorem d10_3 : decode jdk_92_method_1_code 3 = .ok (.ishr, 1) := by decide +kernel
theorem d10_4 : decode jdk_92_method_1_code 4 = .ok (.ireturn, 1) := by decide +kernel
theorem d18_0 : decode jdk_92_method_2_code 0 = .ok (.getstatic 3, 3) := by decide +kernel
theorem d18_3 : decode jdk_92_method_2_code 3 = .ok (.ifCond .ne 34, 3) := by decide +kernel
theorem d18_6 : decode jdk_92_method_2_code 6 = .ok (.aload_n 0, 1) := by decide +kernel
theorem d18_7 : decode jdk_92_method_2_code 7 = .ok (.getfield 7, 3) := by decide +kernel
theorem d18_10 : decode jdk_92_method_2_code 10 = .ok (.ifCond .eq 27, 3) := by decide +kernel
theorem d18_13 : decode jdk_92_method_2_code 13 = .ok (.aload_n 0, 1) := by decide +kernel
theorem d18_14 : decode jdk_92_method_2_code 14 = .ok (.getfield 11, 3) := by decide +kernel
theorem d18_17 : decode jdk_92_method_2_code 17 = .ok (.aload_n 0, 1) := by decide +kernel
theorem d18_18 : decode jdk_92_method_2_code 18 = .ok (.getfield 7, 3) := by decide +kernel
theorem d18_21 : decode jdk_92_method_2_code 21 = .ok (.iconst 1, 1) := by decide +kernel
theorem d18_22 : decode jdk_92_method_2_code 22 = .ok (.isub, 1) := by decide +kernel
theorem d18_23 : decode jdk_92_method_2_code 23 = .ok (.laload, 1) := by decide +kernel
theorem d18_24 : decode jdk_92_method_2_code 24 = .ok (.lconst 0, 1) := by decide +kernel
theorem d18_25 : decode jdk_92_method_2_code 25 = .ok (.lcmp, 1) := by decide +kernel
theorem d18_26 : decode jdk_92_method_2_code 26 = .ok (.ifCond .ne 11, 3) := by decide +kernel
theorem d18_29 : decode jdk_92_method_2_code 29 = .ok (.new 15, 3) := by decide +kernel
theorem d18_32 : decode jdk_92_method_2_code 32 = .ok (.dup, 1) := by decide +kernel
theorem d18_33 : decode jdk_92_method_2_code 33 = .ok (.invokespecial 17, 3) := by decide +kernel
theorem d18_36 : decode jdk_92_method_2_code 36 = .ok (.athrow, 1) := by decide +kernel
theorem d18_37 : decode jdk_92_method_2_code 37 = .ok (.getstatic 3, 3) := by decide +kernel
theorem d18_40 : decode jdk_92_method_2_code 40 = .ok (.ifCond .ne 30, 3) := by decide +kernel
theorem d18_43 : decode jdk_92_method_2_code 43 = .ok (.aload_n 0, 1) := by decide +kernel
theorem d18_44 : decode jdk_92_method_2_code 44 = .ok (.getfield 7, 3) := by decide +kernel
theorem d18_47 : decode jdk_92_method_2_code 47 = .ok (.ifCond .lt 15, 3) := by decide +kernel
theorem d18_50 : decode jdk_92_method_2_code 50 = .ok (.aload_n 0, 1) := by decide +kernel
theorem d18_51 : decode jdk_92_method_2_code 51 = .ok (.getfield 7, 3) := by decide +kernel
theorem d18_54 : decode jdk_92_method_2_code 54 = .ok (.aload_n 0, 1) := by decide +kernel
theorem d18_55 : decode jdk_92_method_2_code 55 = .ok (.getfield 11, 3) := by decide +kernel
theorem d18_58 : decode jdk_92_method_2_code 58 = .ok (.arraylength, 1) := by decide +kernel
theorem d18_59 : decode jdk_92_method_2_code 59 = .ok (.if_icmp .le 11, 3) := by decide +kernel
theorem d18_62 : decode jdk_92_method_2_code 62 = .ok (.new 15, 3) := by decide +kernel
theorem d18_65 : decode jdk_92_method_2_code 65 = .ok (.dup, 1) := by decide +kernel
theorem d18_66 : decode jdk_92_method_2_code 66 = .ok (.invokespecial 17, 3) := by decide +kernel
theorem d18_69 : decode jdk_92_method_2_code 69 = .ok (.athrow, 1) := by decide +kernel
theorem d18_70 : decode jdk_92_method_2_code 70 = .ok (.getstatic 3, 3) := by decide +kernel
theorem d18_73 : decode jdk_92_method_2_code 73 = .ok (.ifCond .ne 37, 3) := by decide +kernel
theorem d18_76 : decode jdk_92_method_2_code 76 = .ok (.aload_n 0, 1) := by decide +kernel
theorem d18_77 : decode jdk_92_method_2_code 77 = .ok (.getfield 7, 3) := by decide +kernel
theorem d18_80 : decode jdk_92_method_2_code 80 = .ok (.aload_n 0, 1) := by decide +kernel
theorem d18_81 : decode jdk_92_method_2_code 81 = .ok (.getfield 11, 3) := by decide +kernel
theorem d18_84 : decode jdk_92_method_2_code 84 = .ok (.arraylength, 1) := by decide +kernel
theorem d18_85 : decode jdk_92_method_2_code 85 = .ok (.if_icmp .eq 25, 3) := by decide +kernel
theorem d18_88 : decode jdk_92_method_2_code 88 = .ok (.aload_n 0, 1) := by decide +kernel
theorem d18_89 : decode jdk_92_method_2_code 89 = .ok (.getfield 11, 3) := by decide +kernel
theorem d18_92 : decode jdk_92_method_2_code 92 = .ok (.aload_n 0, 1) := by decide +kernel
theorem d18_93 : decode jdk_92_method_2_code 93 = .ok (.getfield 7, 3) := by decide +kernel
theorem d18_96 : decode jdk_92_method_2_code 96 = .ok (.laload, 1) := by decide +kernel
theorem d18_97 : decode jdk_92_method_2_code 97 = .ok (.lconst 0, 1) := by decide +kernel
theorem d18_98 : decode jdk_92_method_2_code 98 = .ok (.lcmp, 1) := by decide +kernel
theorem d18_99 : decode jdk_92_method_2_code 99 = .ok (.ifCond .eq 11, 3) := by decide +kernel
theorem d18_102 : decode jdk_92_method_2_code 102 = .ok (.new 15, 3) := by decide +kernel
theorem d18_105 : decode jdk_92_method_2_code 105 = .ok (.dup, 1) := by decide +kernel
theorem d18_106 : decode jdk_92_method_2_code 106 = .ok (.invokespecial 17, 3) := by decide +kernel
theorem d18_109 : decode jdk_92_method_2_code 109 = .ok (.athrow, 1) := by decide +kernel
theorem d18_110 : decode jdk_92_method_2_code 110 = .ok (.return_, 1) := by decide +kernel
set_option maxRecDepth 65536 in
set_option maxHeartbeats 40000000 in
theorem c_bwi {l : Launch} {Z : State} {a0 : Array Value} (hw : ∀ d ∈ tables_1, d.before a0 Z = true) {n0 : Nat} {h0 : Heap} {i : Int32} : Con l Z n0 (⟨"java/util/BitSet", "wordIndex", "(I)I"⟩ : MethodName) jdk_92_method_1_code 1 (some .int) ({ frames := 0, cells := 0, slots := 0, locals := 0 } : Room) [.int i] h0 [] (fun v h' => v = some (.int (i >>> ((6 : Int32) &&& 31))) ∧ h' = h0) := by
  refine Con.of (Ls := [.val (.int i)]) (by decide +kernel) (fun m => by first | (simp [entryFrame, mkF, argsToLocals, Value.category]; done) | (rcases ref_cases hrw with rfl | ⟨b, rfl⟩ <;> rfl) | rfl) (fun p e s m below meth c => ?_)
  show Wp false p l e ({ frames := 0, cells := 0, slots := 0, locals := 0 } : Room) s m ([.int i] : List Value).toArray below meth c Z "java/util/BitSet" "wordIndex" jdk_92_method_1_code 1 (some .int) n0 h0 [] (fun v h' => v = some (.int (i >>> ((6 : Int32) &&& 31))) ∧ h' = h0) (fun _ => True) h0 0 0 0 [.val (.int i)] []
  refine iload_n (q1 := 1) d10_0 rfl rfl ?_
  refine bipush (q1 := 3) (v := 6) d10_1 rfl rfl ?_
  refine ishr (q1 := 4) d10_3 rfl ?_
  refine ret_i d10_4 rfl rfl ⟨rfl, rfl⟩
set_option maxRecDepth 65536 in
set_option maxHeartbeats 40000000 in
theorem c_bci {l : Launch} {Z : State} {a0 : Array Value} (hw : ∀ d ∈ tables_1, d.before a0 Z = true) {n0 : Nat} {h0 : Heap} {b : Addr} (S : AOff Z) : Con l Z n0 (⟨"java/util/BitSet", "checkInvariants", "()V"⟩ : MethodName) jdk_92_method_2_code 1 none ({ frames := 0, cells := 0, slots := 0, locals := 0 } : Room) [.ref b] h0 [] (fun v h' => v = none ∧ h' = h0) := by
  refine Con.of (Ls := [.val (.ref b)]) (by decide +kernel) (fun m => by first | (simp [entryFrame, mkF, argsToLocals, Value.category]; done) | (rcases ref_cases hrw with rfl | ⟨b, rfl⟩ <;> rfl) | rfl) (fun p e s m below meth c => ?_)
  show Wp false p l e ({ frames := 0, cells := 0, slots := 0, locals := 0 } : Room) s m ([.ref b] : List Value).toArray below meth c Z "java/util/BitSet" "checkInvariants" jdk_92_method_2_code 1 none n0 h0 [] (fun v h' => v = none ∧ h' = h0) (fun _ => True) h0 0 0 0 [.val (.ref b)] []
  refine kept fun K O => ?_
  refine getstatic (q1 := 3) d18_0 rfl (ww hw 141 rfl) Via.refl (S.ext O.2) ?_
  refine if_ne (q1 := 6) (q := 37) d18_3 rfl ⟨by decide, rfl⟩ (fun _ => ?_) (fun hq => absurd hq (by decide))
  refine getstatic (q1 := 40) d18_37 rfl (ww hw 141 rfl) Via.refl (S.ext O.2) ?_
  refine if_ne (q1 := 43) (q := 70) d18_40 rfl ⟨by decide, rfl⟩ (fun _ => ?_) (fun hq => absurd hq (by decide))
  refine getstatic (q1 := 73) d18_70 rfl (ww hw 141 rfl) Via.refl (S.ext O.2) ?_
  refine if_ne (q1 := 76) (q := 110) d18_73 rfl ⟨by decide, rfl⟩ (fun _ => ?_) (fun hq => absurd hq (by decide))
  refine ret_v d18_110 rfl rfl ⟨rfl, rfl⟩
theorem d9_0 : decode jdk_92_method_6_code 0 = .ok (.aload_n 0, 1) := by decide +kernel
theorem d9_1 : decode jdk_92_method_6_code 1 = .ok (.iload_n 1, 1) := by decide +kernel
theorem d9_2 : decode jdk_92_method_6_code 2 = .ok (.iconst 1, 1) := by decide +kernel
theorem d9_3 : decode jdk_92_method_6_code 3 = .ok (.isub, 1) := by decide +kernel
theorem d9_4 : decode jdk_92_method_6_code 4 = .ok (.invokestatic 52, 3) := by decide +kernel
theorem d9_7 : decode jdk_92_method_6_code 7 = .ok (.iconst 1, 1) := by decide +kernel
theorem d9_8 : decode jdk_92_method_6_code 8 = .ok (.iadd, 1) := by decide +kernel
theorem d9_9 : decode jdk_92_method_6_code 9 = .ok (.newarray .long, 2) := by decide +kernel
theorem d9_11 : decode jdk_92_method_6_code 11 = .ok (.putfield 11, 3) := by decide +kernel
theorem d9_14 : decode jdk_92_method_6_code 14 = .ok (.return_, 1) := by decide +kernel
theorem d8_0 : decode jdk_92_method_4_code 0 = .ok (.aload_n 0, 1) := by decide +kernel
theorem d8_1 : decode jdk_92_method_4_code 1 = .ok (.invokespecial 21, 3) := by decide +kernel
theorem d8_4 : decode jdk_92_method_4_code 4 = .ok (.aload_n 0, 1) := by decide +kernel
theorem d8_5 : decode jdk_92_method_4_code 5 = .ok (.iconst 0, 1) := by decide +kernel
theorem d8_6 : decode jdk_92_method_4_code 6 = .ok (.putfield 7, 3) := by decide +kernel
theorem d8_9 : decode jdk_92_method_4_code 9 = .ok (.aload_n 0, 1) := by decide +kernel
theorem d8_10 : decode jdk_92_method_4_code 10 = .ok (.iconst 0, 1) := by decide +kernel
theorem d8_11 : decode jdk_92_method_4_code 11 = .ok (.putfield 24, 3) := by decide +kernel
theorem d8_14 : decode jdk_92_method_4_code 14 = .ok (.aload_n 0, 1) := by decide +kernel
theorem d8_15 : decode jdk_92_method_4_code 15 = .ok (.bipush 64, 2) := by decide +kernel
theorem d8_17 : decode jdk_92_method_4_code 17 = .ok (.invokevirtual 27, 3) := by decide +kernel
theorem d8_20 : decode jdk_92_method_4_code 20 = .ok (.aload_n 0, 1) := by decide +kernel
theorem d8_21 : decode jdk_92_method_4_code 21 = .ok (.iconst 0, 1) := by decide +kernel
theorem d8_22 : decode jdk_92_method_4_code 22 = .ok (.putfield 24, 3) := by decide +kernel
theorem d8_25 : decode jdk_92_method_4_code 25 = .ok (.return_, 1) := by decide +kernel
theorem d17_0 : decode jdk_92_method_7_code 0 = .ok (.aload_n 0, 1) := by decide +kernel
theorem d17_1 : decode jdk_92_method_7_code 1 = .ok (.invokespecial 21, 3) := by decide +kernel
theorem d17_4 : decode jdk_92_method_7_code 4 = .ok (.aload_n 0, 1) := by decide +kernel
theorem d17_5 : decode jdk_92_method_7_code 5 = .ok (.iconst 0, 1) := by decide +kernel
theorem d17_6 : decode jdk_92_method_7_code 6 = .ok (.putfield 7, 3) := by decide +kernel
theorem d17_9 : decode jdk_92_method_7_code 9 = .ok (.aload_n 0, 1) := by decide +kernel
theorem d17_10 : decode jdk_92_method_7_code 10 = .ok (.iconst 0, 1) := by decide +kernel
theorem d17_11 : decode jdk_92_method_7_code 11 = .ok (.putfield 24, 3) := by decide +kernel
theorem d17_14 : decode jdk_92_method_7_code 14 = .ok (.aload_n 0, 1) := by decide +kernel
theorem d17_15 : decode jdk_92_method_7_code 15 = .ok (.aload_n 1, 1) := by decide +kernel
theorem d17_16 : decode jdk_92_method_7_code 16 = .ok (.putfield 11, 3) := by decide +kernel
theorem d17_19 : decode jdk_92_method_7_code 19 = .ok (.aload_n 0, 1) := by decide +kernel
theorem d17_20 : decode jdk_92_method_7_code 20 = .ok (.aload_n 1, 1) := by decide +kernel
theorem d17_21 : decode jdk_92_method_7_code 21 = .ok (.arraylength, 1) := by decide +kernel
theorem d17_22 : decode jdk_92_method_7_code 22 = .ok (.putfield 7, 3) := by decide +kernel
theorem d17_25 : decode jdk_92_method_7_code 25 = .ok (.aload_n 0, 1) := by decide +kernel
theorem d17_26 : decode jdk_92_method_7_code 26 = .ok (.invokevirtual 56, 3) := by decide +kernel
theorem d17_29 : decode jdk_92_method_7_code 29 = .ok (.return_, 1) := by decide +kernel
theorem d16_0 : decode jdk_92_method_8_code 0 = .ok (.aload_n 0, 1) := by decide +kernel
theorem d16_1 : decode jdk_92_method_8_code 1 = .ok (.arraylength, 1) := by decide +kernel
theorem d16_2 : decode jdk_92_method_8_code 2 = .ok (.istore_n 1, 1) := by decide +kernel
theorem d16_3 : decode jdk_92_method_8_code 3 = .ok (.iload_n 1, 1) := by decide +kernel
theorem d16_4 : decode jdk_92_method_8_code 4 = .ok (.ifCond .le 19, 3) := by decide +kernel
theorem d16_7 : decode jdk_92_method_8_code 7 = .ok (.aload_n 0, 1) := by decide +kernel
theorem d16_8 : decode jdk_92_method_8_code 8 = .ok (.iload_n 1, 1) := by decide +kernel
theorem d16_9 : decode jdk_92_method_8_code 9 = .ok (.iconst 1, 1) := by decide +kernel
theorem d16_10 : decode jdk_92_method_8_code 10 = .ok (.isub, 1) := by decide +kernel
theorem d16_11 : decode jdk_92_method_8_code 11 = .ok (.laload, 1) := by decide +kernel
theorem d16_12 : decode jdk_92_method_8_code 12 = .ok (.lconst 0, 1) := by decide +kernel
theorem d16_13 : decode jdk_92_method_8_code 13 = .ok (.lcmp, 1) := by decide +kernel
theorem d16_14 : decode jdk_92_method_8_code 14 = .ok (.ifCond .ne 9, 3) := by decide +kernel
theorem d16_17 : decode jdk_92_method_8_code 17 = .ok (.iinc 1 (-1), 3) := by decide +kernel
theorem d16_20 : decode jdk_92_method_8_code 20 = .ok (.goto (-17), 3) := by decide +kernel
theorem d16_23 : decode jdk_92_method_8_code 23 = .ok (.new 1, 3) := by decide +kernel
theorem d16_26 : decode jdk_92_method_8_code 26 = .ok (.dup, 1) := by decide +kernel
theorem d16_27 : decode jdk_92_method_8_code 27 = .ok (.aload_n 0, 1) := by decide +kernel
theorem d16_28 : decode jdk_92_method_8_code 28 = .ok (.iload_n 1, 1) := by decide +kernel
theorem d16_29 : decode jdk_92_method_8_code 29 = .ok (.invokestatic 59, 3) := by decide +kernel
theorem d16_32 : decode jdk_92_method_8_code 32 = .ok (.invokespecial 65, 3) := by decide +kernel
theorem d16_35 : decode jdk_92_method_8_code 35 = .ok (.areturn, 1) := by decide +kernel
theorem d12_0 : decode jdk_92_method_35_code 0 = .ok (.iconst 0, 1) := by decide +kernel
theorem d12_1 : decode jdk_92_method_35_code 1 = .ok (.istore_n 1, 1) := by decide +kernel
theorem d12_2 : decode jdk_92_method_35_code 2 = .ok (.iconst 0, 1) := by decide +kernel
theorem d12_3 : decode jdk_92_method_35_code 3 = .ok (.istore_n 2, 1) := by decide +kernel
theorem d12_4 : decode jdk_92_method_35_code 4 = .ok (.iload_n 2, 1) := by decide +kernel
theorem d12_5 : decode jdk_92_method_35_code 5 = .ok (.aload_n 0, 1) := by decide +kernel
theorem d12_6 : decode jdk_92_method_35_code 6 = .ok (.getfield 7, 3) := by decide +kernel
theorem d12_9 : decode jdk_92_method_35_code 9 = .ok (.if_icmp .ge 21, 3) := by decide +kernel
theorem d12_12 : decode jdk_92_method_35_code 12 = .ok (.iload_n 1, 1) := by decide +kernel
theorem d12_13 : decode jdk_92_method_35_code 13 = .ok (.aload_n 0, 1) := by decide +kernel
theorem d12_14 : decode jdk_92_method_35_code 14 = .ok (.getfield 11, 3) := by decide +kernel
theorem d12_17 : decode jdk_92_method_35_code 17 = .ok (.iload_n 2, 1) := by decide +kernel
theorem d12_18 : decode jdk_92_method_35_code 18 = .ok (.laload, 1) := by decide +kernel
theorem d12_19 : decode jdk_92_method_35_code 19 = .ok (.invokestatic 196, 3) := by decide +kernel
theorem d12_22 : decode jdk_92_method_35_code 22 = .ok (.iadd, 1) := by decide +kernel
theorem d12_23 : decode jdk_92_method_35_code 23 = .ok (.istore_n 1, 1) := by decide +kernel
theorem d12_24 : decode jdk_92_method_35_code 24 = .ok (.iinc 2 1, 3) := by decide +kernel
theorem d12_27 : decode jdk_92_method_35_code 27 = .ok (.goto (-23), 3) := by decide +kernel
theorem d12_30 : decode jdk_92_method_35_code 30 = .ok (.iload_n 1, 1) := by decide +kernel
theorem d12_31 : decode jdk_92_method_35_code 31 = .ok (.ireturn, 1) := by decide +kernel
theorem d13_0 : decode jdk_92_method_13_code 0 = .ok (.aload_n 0, 1) := by decide +kernel
theorem d13_1 : decode jdk_92_method_13_code 1 = .ok (.getfield 11, 3) := by decide +kernel
theorem d13_4 : decode jdk_92_method_13_code 4 = .ok (.aload_n 0, 1) := by decide +kernel
theorem d13_5 : decode jdk_92_method_13_code 5 = .ok (.getfield 7, 3) := by decide +kernel
theorem d13_8 : decode jdk_92_method_13_code 8 = .ok (.invokestatic 59, 3) := by decide +kernel
theorem d13_11 : decode jdk_92_method_13_code 11 = .ok (.areturn, 1) := by decide +kernel
theorem d14_0 : decode jdk_65_method_124_code 0 = .ok (.iload_n 1, 1) := by decide +kernel
theorem d14_1 : decode jdk_65_method_124_code 1 = .ok (.aload_n 0, 1) := by decide +kernel
theorem d14_2 : decode jdk_65_method_124_code 2 = .ok (.arraylength, 1) := by decide +kernel
theorem d14_3 : decode jdk_65_method_124_code 3 = .ok (.if_icmp .ne 11, 3) := by decide +kernel
theorem d14_6 : decode jdk_65_method_124_code 6 = .ok (.aload_n 0, 1) := by decide +kernel
theorem d14_7 : decode jdk_65_method_124_code 7 = .ok (.invokevirtual 319, 3) := by decide +kernel
theorem d14_10 : decode jdk_65_method_124_code 10 = .ok (.checkcast 320, 3) := by decide +kernel
theorem d14_13 : decode jdk_65_method_124_code 13 = .ok (.areturn, 1) := by decide +kernel
theorem d14_14 : decode jdk_65_method_124_code 14 = .ok (.iload_n 1, 1) := by decide +kernel
theorem d14_15 : decode jdk_65_method_124_code 15 = .ok (.newarray .long, 2) := by decide +kernel
theorem d14_17 : decode jdk_65_method_124_code 17 = .ok (.astore_n 2, 1) := by decide +kernel
theorem d14_18 : decode jdk_65_method_124_code 18 = .ok (.aload_n 0, 1) := by decide +kernel
theorem d14_19 : decode jdk_65_method_124_code 19 = .ok (.iconst 0, 1) := by decide +kernel
theorem d14_20 : decode jdk_65_method_124_code 20 = .ok (.aload_n 2, 1) := by decide +kernel
theorem d14_21 : decode jdk_65_method_124_code 21 = .ok (.iconst 0, 1) := by decide +kernel
theorem d14_22 : decode jdk_65_method_124_code 22 = .ok (.aload_n 0, 1) := by decide +kernel
theorem d14_23 : decode jdk_65_method_124_code 23 = .ok (.arraylength, 1) := by decide +kernel
theorem d14_24 : decode jdk_65_method_124_code 24 = .ok (.iload_n 1, 1) := by decide +kernel
theorem d14_25 : decode jdk_65_method_124_code 25 = .ok (.invokestatic 304, 3) := by decide +kernel
theorem d14_28 : decode jdk_65_method_124_code 28 = .ok (.invokestatic 150, 3) := by decide +kernel
theorem d14_31 : decode jdk_65_method_124_code 31 = .ok (.aload_n 2, 1) := by decide +kernel
theorem d14_32 : decode jdk_65_method_124_code 32 = .ok (.areturn, 1) := by decide +kernel
theorem d15_0 : decode jdk_29_method_69_code 0 = .ok (.iload_n 0, 1) := by decide +kernel
theorem d15_1 : decode jdk_29_method_69_code 1 = .ok (.iload_n 1, 1) := by decide +kernel
theorem d15_2 : decode jdk_29_method_69_code 2 = .ok (.if_icmp .gt 7, 3) := by decide +kernel
theorem d15_5 : decode jdk_29_method_69_code 5 = .ok (.iload_n 0, 1) := by decide +kernel
theorem d15_6 : decode jdk_29_method_69_code 6 = .ok (.goto 4, 3) := by decide +kernel
theorem d15_9 : decode jdk_29_method_69_code 9 = .ok (.iload_n 1, 1) := by decide +kernel
theorem d15_10 : decode jdk_29_method_69_code 10 = .ok (.ireturn, 1) := by decide +kernel
theorem d19_0 : decode jdk_35_method_50_code 0 = .ok (.lload_n 0, 1) := by decide +kernel
theorem d19_1 : decode jdk_35_method_50_code 1 = .ok (.lload_n 0, 1) := by decide +kernel
theorem d19_2 : decode jdk_35_method_50_code 2 = .ok (.iconst 1, 1) := by decide +kernel
theorem d19_3 : decode jdk_35_method_50_code 3 = .ok (.lushr, 1) := by decide +kernel
theorem d19_4 : decode jdk_35_method_50_code 4 = .ok (.ldc2_w 314, 3) := by decide +kernel
theorem d19_7 : decode jdk_35_method_50_code 7 = .ok (.land, 1) := by decide +kernel
theorem d19_8 : decode jdk_35_method_50_code 8 = .ok (.lsub, 1) := by decide +kernel
theorem d19_9 : decode jdk_35_method_50_code 9 = .ok (.lstore_n 0, 1) := by decide +kernel
theorem d19_10 : decode jdk_35_method_50_code 10 = .ok (.lload_n 0, 1) := by decide +kernel
theorem d19_11 : decode jdk_35_method_50_code 11 = .ok (.ldc2_w 316, 3) := by decide +kernel
theorem d19_14 : decode jdk_35_method_50_code 14 = .ok (.land, 1) := by decide +kernel
theorem d19_15 : decode jdk_35_method_50_code 15 = .ok (.lload_n 0, 1) := by decide +kernel
theorem d19_16 : decode jdk_35_method_50_code 16 = .ok (.iconst 2, 1) := by decide +kernel
theorem d19_17 : decode jdk_35_method_50_code 17 = .ok (.lushr, 1) := by decide +kernel
theorem d19_18 : decode jdk_35_method_50_code 18 = .ok (.ldc2_w 316, 3) := by decide +kernel
theorem d19_21 : decode jdk_35_method_50_code 21 = .ok (.land, 1) := by decide +kernel
theorem d19_22 : decode jdk_35_method_50_code 22 = .ok (.ladd, 1) := by decide +kernel
theorem d19_23 : decode jdk_35_method_50_code 23 = .ok (.lstore_n 0, 1) := by decide +kernel
theorem d19_24 : decode jdk_35_method_50_code 24 = .ok (.lload_n 0, 1) := by decide +kernel
theorem d19_25 : decode jdk_35_method_50_code 25 = .ok (.lload_n 0, 1) := by decide +kernel
theorem d19_26 : decode jdk_35_method_50_code 26 = .ok (.iconst 4, 1) := by decide +kernel
theorem d19_27 : decode jdk_35_method_50_code 27 = .ok (.lushr, 1) := by decide +kernel
theorem d19_28 : decode jdk_35_method_50_code 28 = .ok (.ladd, 1) := by decide +kernel
theorem d19_29 : decode jdk_35_method_50_code 29 = .ok (.ldc2_w 318, 3) := by decide +kernel
theorem d19_32 : decode jdk_35_method_50_code 32 = .ok (.land, 1) := by decide +kernel
theorem d19_33 : decode jdk_35_method_50_code 33 = .ok (.lstore_n 0, 1) := by decide +kernel
theorem d19_34 : decode jdk_35_method_50_code 34 = .ok (.lload_n 0, 1) := by decide +kernel
theorem d19_35 : decode jdk_35_method_50_code 35 = .ok (.lload_n 0, 1) := by decide +kernel
theorem d19_36 : decode jdk_35_method_50_code 36 = .ok (.bipush 8, 2) := by decide +kernel
theorem d19_38 : decode jdk_35_method_50_code 38 = .ok (.lushr, 1) := by decide +kernel
theorem d19_39 : decode jdk_35_method_50_code 39 = .ok (.ladd, 1) := by decide +kernel
theorem d19_40 : decode jdk_35_method_50_code 40 = .ok (.lstore_n 0, 1) := by decide +kernel
theorem d19_41 : decode jdk_35_method_50_code 41 = .ok (.lload_n 0, 1) := by decide +kernel
theorem d19_42 : decode jdk_35_method_50_code 42 = .ok (.lload_n 0, 1) := by decide +kernel
theorem d19_43 : decode jdk_35_method_50_code 43 = .ok (.bipush 16, 2) := by decide +kernel
theorem d19_45 : decode jdk_35_method_50_code 45 = .ok (.lushr, 1) := by decide +kernel
theorem d19_46 : decode jdk_35_method_50_code 46 = .ok (.ladd, 1) := by decide +kernel
theorem d19_47 : decode jdk_35_method_50_code 47 = .ok (.lstore_n 0, 1) := by decide +kernel
theorem d19_48 : decode jdk_35_method_50_code 48 = .ok (.lload_n 0, 1) := by decide +kernel
theorem d19_49 : decode jdk_35_method_50_code 49 = .ok (.lload_n 0, 1) := by decide +kernel
theorem d19_50 : decode jdk_35_method_50_code 50 = .ok (.bipush 32, 2) := by decide +kernel
theorem d19_52 : decode jdk_35_method_50_code 52 = .ok (.lushr, 1) := by decide +kernel
theorem d19_53 : decode jdk_35_method_50_code 53 = .ok (.ladd, 1) := by decide +kernel
theorem d19_54 : decode jdk_35_method_50_code 54 = .ok (.lstore_n 0, 1) := by decide +kernel
theorem d19_55 : decode jdk_35_method_50_code 55 = .ok (.lload_n 0, 1) := by decide +kernel
theorem d19_56 : decode jdk_35_method_50_code 56 = .ok (.l2i, 1) := by decide +kernel
theorem d19_57 : decode jdk_35_method_50_code 57 = .ok (.bipush 127, 2) := by decide +kernel
theorem d19_59 : decode jdk_35_method_50_code 59 = .ok (.iand, 1) := by decide +kernel
theorem d19_60 : decode jdk_35_method_50_code 60 = .ok (.ireturn, 1) := by decide +kernel
theorem d5_0 : decode jdk_22_method_1_code 0 = .ok (.aload_n 0, 1) := by decide +kernel
theorem d5_1 : decode jdk_22_method_1_code 1 = .ok (.invokespecial 1, 3) := by decide +kernel
theorem d5_4 : decode jdk_22_method_1_code 4 = .ok (.return_, 1) := by decide +kernel
theorem d4_0 : decode jdk_91_method_1_code 0 = .ok (.aload_n 0, 1) := by decide +kernel
theorem d4_1 : decode jdk_91_method_1_code 1 = .ok (.invokespecial 1, 3) := by decide +kernel
theorem d4_4 : decode jdk_91_method_1_code 4 = .ok (.return_, 1) := by decide +kernel
theorem d7_0 : decode jdk_71_method_1_code 0 = .ok (.aload_n 0, 1) := by decide +kernel
theorem d7_1 : decode jdk_71_method_1_code 1 = .ok (.invokespecial 1, 3) := by decide +kernel
theorem d7_4 : decode jdk_71_method_1_code 4 = .ok (.return_, 1) := by decide +kernel
theorem d6_0 : decode jdk_69_method_7_code 0 = .ok (.aload_n 0, 1) := by decide +kernel
theorem d6_1 : decode jdk_69_method_7_code 1 = .ok (.invokespecial 43, 3) := by decide +kernel
theorem d6_4 : decode jdk_69_method_7_code 4 = .ok (.aload_n 0, 1) := by decide +kernel
theorem d6_5 : decode jdk_69_method_7_code 5 = .ok (.ldc 92, 2) := by decide +kernel
theorem d6_7 : decode jdk_69_method_7_code 7 = .ok (.putfield 81, 3) := by decide +kernel
theorem d6_10 : decode jdk_69_method_7_code 10 = .ok (.return_, 1) := by decide +kernel
theorem d3_0 : decode jdk_93_method_1_code 0 = .ok (.aload_n 0, 1) := by decide +kernel
theorem d3_1 : decode jdk_93_method_1_code 1 = .ok (.invokespecial 1, 3) := by decide +kernel
theorem d3_4 : decode jdk_93_method_1_code 4 = .ok (.aload_n 0, 1) := by decide +kernel
theorem d3_5 : decode jdk_93_method_1_code 5 = .ok (.new 7, 3) := by decide +kernel
theorem d3_8 : decode jdk_93_method_1_code 8 = .ok (.dup, 1) := by decide +kernel
theorem d3_9 : decode jdk_93_method_1_code 9 = .ok (.invokespecial 9, 3) := by decide +kernel
theorem d3_12 : decode jdk_93_method_1_code 12 = .ok (.putfield 10, 3) := by decide +kernel
theorem d3_15 : decode jdk_93_method_1_code 15 = .ok (.return_, 1) := by decide +kernel
theorem d1_0 : decode prog_24_method_1_code 0 = .ok (.aload_n 0, 1) := by decide +kernel
theorem d1_1 : decode prog_24_method_1_code 1 = .ok (.invokespecial 1, 3) := by decide +kernel
theorem d1_4 : decode prog_24_method_1_code 4 = .ok (.aload_n 0, 1) := by decide +kernel
theorem d1_5 : decode prog_24_method_1_code 5 = .ok (.new 7, 3) := by decide +kernel
theorem d1_8 : decode prog_24_method_1_code 8 = .ok (.dup, 1) := by decide +kernel
theorem d1_9 : decode prog_24_method_1_code 9 = .ok (.invokespecial 9, 3) := by decide +kernel
theorem d1_12 : decode prog_24_method_1_code 12 = .ok (.putfield 10, 3) := by decide +kernel
theorem d1_15 : decode prog_24_method_1_code 15 = .ok (.aload_n 0, 1) := by decide +kernel
theorem d1_16 : decode prog_24_method_1_code 16 = .ok (.new 7, 3) := by decide +kernel
theorem d1_19 : decode prog_24_method_1_code 19 = .ok (.dup, 1) := by decide +kernel
theorem d1_20 : decode prog_24_method_1_code 20 = .ok (.invokespecial 9, 3) := by decide +kernel
theorem d1_23 : decode prog_24_method_1_code 23 = .ok (.putfield 16, 3) := by decide +kernel
theorem d1_26 : decode prog_24_method_1_code 26 = .ok (.aload_n 0, 1) := by decide +kernel
theorem d1_27 : decode prog_24_method_1_code 27 = .ok (.new 19, 3) := by decide +kernel
theorem d1_30 : decode prog_24_method_1_code 30 = .ok (.dup, 1) := by decide +kernel
theorem d1_31 : decode prog_24_method_1_code 31 = .ok (.invokespecial 21, 3) := by decide +kernel
theorem d1_34 : decode prog_24_method_1_code 34 = .ok (.putfield 22, 3) := by decide +kernel
theorem d1_37 : decode prog_24_method_1_code 37 = .ok (.aload_n 0, 1) := by decide +kernel
theorem d1_38 : decode prog_24_method_1_code 38 = .ok (.aload_n 1, 1) := by decide +kernel
theorem d1_39 : decode prog_24_method_1_code 39 = .ok (.putfield 26, 3) := by decide +kernel
theorem d1_42 : decode prog_24_method_1_code 42 = .ok (.aload_n 0, 1) := by decide +kernel
theorem d1_43 : decode prog_24_method_1_code 43 = .ok (.new 19, 3) := by decide +kernel
theorem d1_46 : decode prog_24_method_1_code 46 = .ok (.dup, 1) := by decide +kernel
theorem d1_47 : decode prog_24_method_1_code 47 = .ok (.invokespecial 21, 3) := by decide +kernel
theorem d1_50 : decode prog_24_method_1_code 50 = .ok (.invokevirtual 30, 3) := by decide +kernel
theorem d1_53 : decode prog_24_method_1_code 53 = .ok (.return_, 1) := by decide +kernel
theorem d11_0 : decode prog_24_method_4_code 0 = .ok (.aload_n 0, 1) := by decide +kernel
theorem d11_1 : decode prog_24_method_4_code 1 = .ok (.aload_n 1, 1) := by decide +kernel
theorem d11_2 : decode prog_24_method_4_code 2 = .ok (.putfield 34, 3) := by decide +kernel
theorem d11_5 : decode prog_24_method_4_code 5 = .ok (.aload_n 0, 1) := by decide +kernel
theorem d11_6 : decode prog_24_method_4_code 6 = .ok (.aload_n 1, 1) := by decide +kernel
theorem d11_7 : decode prog_24_method_4_code 7 = .ok (.invokevirtual 41, 3) := by decide +kernel
theorem d11_10 : decode prog_24_method_4_code 10 = .ok (.putfield 37, 3) := by decide +kernel
theorem d11_13 : decode prog_24_method_4_code 13 = .ok (.aload_n 0, 1) := by decide +kernel
theorem d11_14 : decode prog_24_method_4_code 14 = .ok (.aload_n 1, 1) := by decide +kernel
theorem d11_15 : decode prog_24_method_4_code 15 = .ok (.invokevirtual 45, 3) := by decide +kernel
theorem d11_18 : decode prog_24_method_4_code 18 = .ok (.putfield 49, 3) := by decide +kernel
theorem d11_21 : decode prog_24_method_4_code 21 = .ok (.return_, 1) := by decide +kernel
theorem d20_0 : decode prog_24_method_5_code 0 = .ok (.aload_n 0, 1) := by decide +kernel
theorem d20_1 : decode prog_24_method_5_code 1 = .ok (.getfield 37, 3) := by decide +kernel
theorem d20_4 : decode prog_24_method_5_code 4 = .ok (.aload_n 1, 1) := by decide +kernel
theorem d20_5 : decode prog_24_method_5_code 5 = .ok (.getfield 37, 3) := by decide +kernel
theorem d20_8 : decode prog_24_method_5_code 8 = .ok (.if_icmp .ge 16, 3) := by decide +kernel
theorem d20_11 : decode prog_24_method_5_code 11 = .ok (.aload_n 0, 1) := by decide +kernel
theorem d20_12 : decode prog_24_method_5_code 12 = .ok (.getfield 49, 3) := by decide +kernel
theorem d20_15 : decode prog_24_method_5_code 15 = .ok (.arraylength, 1) := by decide +kernel
theorem d20_16 : decode prog_24_method_5_code 16 = .ok (.aload_n 1, 1) := by decide +kernel
theorem d20_17 : decode prog_24_method_5_code 17 = .ok (.getfield 49, 3) := by decide +kernel
theorem d20_20 : decode prog_24_method_5_code 20 = .ok (.arraylength, 1) := by decide +kernel
theorem d20_21 : decode prog_24_method_5_code 21 = .ok (.if_icmp .le 5, 3) := by decide +kernel
theorem d20_24 : decode prog_24_method_5_code 24 = .ok (.iconst 0, 1) := by decide +kernel
theorem d20_25 : decode prog_24_method_5_code 25 = .ok (.ireturn, 1) := by decide +kernel
theorem d20_26 : decode prog_24_method_5_code 26 = .ok (.iconst 0, 1) := by decide +kernel
theorem d20_27 : decode prog_24_method_5_code 27 = .ok (.istore_n 2, 1) := by decide +kernel
theorem d20_28 : decode prog_24_method_5_code 28 = .ok (.iload_n 2, 1) := by decide +kernel
theorem d20_29 : decode prog_24_method_5_code 29 = .ok (.aload_n 0, 1) := by decide +kernel
theorem d20_30 : decode prog_24_method_5_code 30 = .ok (.getfield 49, 3) := by decide +kernel
theorem d20_33 : decode prog_24_method_5_code 33 = .ok (.arraylength, 1) := by decide +kernel
theorem d20_34 : decode prog_24_method_5_code 34 = .ok (.if_icmp .ge 33, 3) := by decide +kernel
theorem d20_37 : decode prog_24_method_5_code 37 = .ok (.aload_n 0, 1) := by decide +kernel
theorem d20_38 : decode prog_24_method_5_code 38 = .ok (.getfield 49, 3) := by decide +kernel
theorem d20_41 : decode prog_24_method_5_code 41 = .ok (.iload_n 2, 1) := by decide +kernel
theorem d20_42 : decode prog_24_method_5_code 42 = .ok (.laload, 1) := by decide +kernel
theorem d20_43 : decode prog_24_method_5_code 43 = .ok (.aload_n 1, 1) := by decide +kernel
theorem d20_44 : decode prog_24_method_5_code 44 = .ok (.getfield 49, 3) := by decide +kernel
theorem d20_47 : decode prog_24_method_5_code 47 = .ok (.iload_n 2, 1) := by decide +kernel
theorem d20_48 : decode prog_24_method_5_code 48 = .ok (.laload, 1) := by decide +kernel
theorem d20_49 : decode prog_24_method_5_code 49 = .ok (.ldc2_w 53, 3) := by decide +kernel
theorem d20_52 : decode prog_24_method_5_code 52 = .ok (.lxor, 1) := by decide +kernel
theorem d20_53 : decode prog_24_method_5_code 53 = .ok (.land, 1) := by decide +kernel
theorem d20_54 : decode prog_24_method_5_code 54 = .ok (.lconst 0, 1) := by decide +kernel
theorem d20_55 : decode prog_24_method_5_code 55 = .ok (.lcmp, 1) := by decide +kernel
theorem d20_56 : decode prog_24_method_5_code 56 = .ok (.ifCond .eq 5, 3) := by decide +kernel
theorem d20_59 : decode prog_24_method_5_code 59 = .ok (.iconst 0, 1) := by decide +kernel
theorem d20_60 : decode prog_24_method_5_code 60 = .ok (.ireturn, 1) := by decide +kernel
theorem d20_61 : decode prog_24_method_5_code 61 = .ok (.iinc 2 1, 3) := by decide +kernel
theorem d20_64 : decode prog_24_method_5_code 64 = .ok (.goto (-36), 3) := by decide +kernel
theorem d20_67 : decode prog_24_method_5_code 67 = .ok (.iconst 1, 1) := by decide +kernel
theorem d20_68 : decode prog_24_method_5_code 68 = .ok (.ireturn, 1) := by decide +kernel
theorem d21_0 : decode method_3_code 0 = .ok (.lload_n 0, 1) := by decide +kernel
theorem d21_1 : decode method_3_code 1 = .ok (.lload 4, 2) := by decide +kernel
theorem d21_3 : decode method_3_code 3 = .ok (.ldc2_w 36, 3) := by decide +kernel
theorem d21_6 : decode method_3_code 6 = .ok (.lxor, 1) := by decide +kernel
theorem d21_7 : decode method_3_code 7 = .ok (.land, 1) := by decide +kernel
theorem d21_8 : decode method_3_code 8 = .ok (.lconst 0, 1) := by decide +kernel
theorem d21_9 : decode method_3_code 9 = .ok (.lcmp, 1) := by decide +kernel
theorem d21_10 : decode method_3_code 10 = .ok (.ifCond .ne 20, 3) := by decide +kernel
theorem d21_13 : decode method_3_code 13 = .ok (.lload_n 2, 1) := by decide +kernel
theorem d21_14 : decode method_3_code 14 = .ok (.lload 6, 2) := by decide +kernel
theorem d21_16 : decode method_3_code 16 = .ok (.ldc2_w 36, 3) := by decide +kernel
theorem d21_19 : decode method_3_code 19 = .ok (.lxor, 1) := by decide +kernel
theorem d21_20 : decode method_3_code 20 = .ok (.land, 1) := by decide +kernel
theorem d21_21 : decode method_3_code 21 = .ok (.lconst 0, 1) := by decide +kernel
theorem d21_22 : decode method_3_code 22 = .ok (.lcmp, 1) := by decide +kernel
theorem d21_23 : decode method_3_code 23 = .ok (.ifCond .ne 7, 3) := by decide +kernel
theorem d21_26 : decode method_3_code 26 = .ok (.iconst 1, 1) := by decide +kernel
theorem d21_27 : decode method_3_code 27 = .ok (.goto 4, 3) := by decide +kernel
theorem d21_30 : decode method_3_code 30 = .ok (.iconst 0, 1) := by decide +kernel
theorem d21_31 : decode method_3_code 31 = .ok (.istore 8, 2) := by decide +kernel
theorem d21_33 : decode method_3_code 33 = .ok (.lload_n 0, 1) := by decide +kernel
theorem d21_34 : decode method_3_code 34 = .ok (.lload 4, 2) := by decide +kernel
theorem d21_36 : decode method_3_code 36 = .ok (.lcmp, 1) := by decide +kernel
theorem d21_37 : decode method_3_code 37 = .ok (.ifCond .ne 10, 3) := by decide +kernel
theorem d21_40 : decode method_3_code 40 = .ok (.lload_n 2, 1) := by decide +kernel
theorem d21_41 : decode method_3_code 41 = .ok (.lload 6, 2) := by decide +kernel
theorem d21_43 : decode method_3_code 43 = .ok (.lcmp, 1) := by decide +kernel
theorem d21_44 : decode method_3_code 44 = .ok (.ifCond .eq 7, 3) := by decide +kernel
theorem d21_47 : decode method_3_code 47 = .ok (.iconst 1, 1) := by decide +kernel
theorem d21_48 : decode method_3_code 48 = .ok (.goto 4, 3) := by decide +kernel
theorem d21_51 : decode method_3_code 51 = .ok (.iconst 0, 1) := by decide +kernel
theorem d21_52 : decode method_3_code 52 = .ok (.istore 9, 2) := by decide +kernel
theorem d21_54 : decode method_3_code 54 = .ok (.iload 8, 2) := by decide +kernel
theorem d21_56 : decode method_3_code 56 = .ok (.ifCond .eq 12, 3) := by decide +kernel
theorem d21_59 : decode method_3_code 59 = .ok (.iload 9, 2) := by decide +kernel
theorem d21_61 : decode method_3_code 61 = .ok (.ifCond .eq 7, 3) := by decide +kernel
theorem d21_64 : decode method_3_code 64 = .ok (.iconst 1, 1) := by decide +kernel
theorem d21_65 : decode method_3_code 65 = .ok (.goto 4, 3) := by decide +kernel
theorem d21_68 : decode method_3_code 68 = .ok (.iconst 0, 1) := by decide +kernel
theorem d21_69 : decode method_3_code 69 = .ok (.ireturn, 1) := by decide +kernel
/-- a field that is there, whatever it holds -/
def FldE (Z : State) (h : Heap) (a : Addr) (C n d : String) : Prop := ∃ v, Fld Z h a C n d v
theorem FldE.keep {Z : State} {h h' : Heap} {a : Addr} {C n d : String} {ws : List Addr} (F : FldE Z h a C n d) (K : Keep h h' ws) : FldE Z h' a C n d := by
  obtain ⟨v, cell, cf, k, i, f, h1, h2, h3, h4, h5, h6, h7⟩ := F
  obtain ⟨c', q1, q2, q3, q4⟩ := K.2.2 a cell h1
  have hi : f.slot < c'.slots.size := by rw [q4]; exact (Array.getElem?_eq_some_iff.mp h7).1
  exact ⟨c'.slots[f.slot], c', cf, k, i, f, q1, h2, h3, by rw [q3]; exact h4, by rw [q3]; exact h5, by rw [q2]; exact h6, Array.getElem?_eq_getElem hi⟩
theorem keepE {h h' : Heap} (E : Ext h h') : Keep h h' [] := (Keep.refl h []).ext E
def NdE (Z : State) (h : Heap) (a : Addr) : Prop := Exa Z h a "com/example/medway/medway/Node" ∧ FldE Z h a "com/example/medway/medway/Node" "juniors" "Ljava/util/Set;" ∧ FldE Z h a "com/example/medway/medway/Node" "seniors" "Ljava/util/Set;" ∧ FldE Z h a "com/example/medway/medway/Node" "direct" "Ljava/util/BitSet;" ∧ FldE Z h a "com/example/medway/medway/Node" "name" "Ljava/lang/String;" ∧ FldE Z h a "com/example/medway/medway/Node" "effective" "Ljava/util/BitSet;" ∧ FldE Z h a "com/example/medway/medway/Node" "size" "I" ∧ FldE Z h a "com/example/medway/medway/Node" "words" "[J"
theorem NdE.keep {Z : State} {h h' : Heap} {a : Addr} {ws : List Addr} (F : NdE Z h a) (K : Keep h h' ws) : NdE Z h' a := ⟨F.1.keep K, F.2.1.keep K, F.2.2.1.keep K, F.2.2.2.1.keep K, F.2.2.2.2.1.keep K, F.2.2.2.2.2.1.keep K, F.2.2.2.2.2.2.1.keep K, F.2.2.2.2.2.2.2.keep K⟩
def minI (a b : Int32) : Int32 := if b < a then b else a
set_option maxRecDepth 65536 in
set_option maxHeartbeats 40000000 in
theorem c_min {l : Launch} {Z : State} {a0 : Array Value} (hw : ∀ d ∈ tables_1, d.before a0 Z = true) {n0 : Nat} {h0 : Heap} {i j : Int32} : Con l Z n0 (⟨"java/lang/Math", "min", "(II)I"⟩ : MethodName) jdk_29_method_69_code 2 (some .int) ({ frames := 0, cells := 0, slots := 0, locals := 0 } : Room) [.int i, .int j] h0 [] (fun v h' => v = some (.int (minI i j)) ∧ h' = h0) := by
  refine Con.of (Ls := [.val (.int i), .val (.int j)]) (Jvm.Free.JP.mathPlain rfl (by decide +kernel)) (fun m => by first | (simp [entryFrame, mkF, argsToLocals, Value.category]; done) | (rcases ref_cases hrw with rfl | ⟨b, rfl⟩ <;> rfl) | rfl) (fun p e s m below meth c => ?_)
  show Wp false p l e ({ frames := 0, cells := 0, slots := 0, locals := 0 } : Room) s m ([.int i, .int j] : List Value).toArray below meth c Z "java/lang/Math" "min" jdk_29_method_69_code 2 (some .int) n0 h0 [] (fun v h' => v = some (.int (minI i j)) ∧ h' = h0) (fun _ => True) h0 0 0 0 [.val (.int i), .val (.int j)] []
  refine iload_n (q1 := 1) d15_0 rfl rfl ?_
  refine iload_n (q1 := 2) d15_1 rfl rfl ?_
  refine icmp_gt (q1 := 5) (q := 9) d15_2 rfl ⟨by decide, rfl⟩ (fun hq => ?_) (fun hq => ?_)
  · refine iload_n (q1 := 10) d15_9 rfl rfl ?_
    refine ret_i d15_10 rfl rfl ⟨by unfold minI; rw [if_pos hq], rfl⟩
  · refine iload_n (q1 := 6) d15_5 rfl rfl ?_
    refine goto (q := 10) d15_6 ⟨by decide, rfl⟩ ?_
    refine ret_i d15_10 rfl rfl ⟨by unfold minI; rw [if_neg hq], rfl⟩
set_option maxRecDepth 65536 in
set_option maxHeartbeats 40000000 in
theorem c_ac {l : Launch} {Z : State} {a0 : Array Value} (hw : ∀ d ∈ tables_1, d.before a0 Z = true) {n0 : Nat} {h0 : Heap} {a : Addr} : Con l Z n0 (⟨"java/util/AbstractCollection", "<init>", "()V"⟩ : MethodName) jdk_22_method_1_code 1 none ({ frames := 1, cells := 0, slots := 0, locals := 12 } : Room) [.ref a] h0 [] (fun v h' => v = none ∧ h' = h0) := by
  refine Con.of (Ls := [.val (.ref a)]) (by decide +kernel) (fun m => by first | (simp [entryFrame, mkF, argsToLocals, Value.category]; done) | (rcases ref_cases hrw with rfl | ⟨b, rfl⟩ <;> rfl) | rfl) (fun p e s m below meth c => ?_)
  show Wp false p l e ({ frames := 1, cells := 0, slots := 0, locals := 12 } : Room) s m ([.ref a] : List Value).toArray below meth c Z "java/util/AbstractCollection" "<init>" jdk_22_method_1_code 1 none n0 h0 [] (fun v h' => v = none ∧ h' = h0) (fun _ => True) h0 0 0 0 [.val (.ref a)] []
  refine aload_n (q1 := 1) d5_0 rfl rfl rfl ?_
  refine initObj (q1 := 4) d5_1 rfl (ww hw 35 rfl) (ww hw 15 rfl) (ww hw 16 rfl) rfl rfl ?_
  refine ret_v d5_4 rfl rfl ⟨rfl, rfl⟩
set_option maxRecDepth 65536 in
set_option maxHeartbeats 40000000 in
theorem c_as {l : Launch} {Z : State} {a0 : Array Value} (hw : ∀ d ∈ tables_1, d.before a0 Z = true) {n0 : Nat} {h0 : Heap} {a : Addr} : Con l Z n0 (⟨"java/util/AbstractSet", "<init>", "()V"⟩ : MethodName) jdk_91_method_1_code 1 none ({ frames := 2, cells := 0, slots := 0, locals := 24 } : Room) [.ref a] h0 [] (fun v h' => v = none ∧ h' = h0) := by
  refine Con.of (Ls := [.val (.ref a)]) (by decide +kernel) (fun m => by first | (simp [entryFrame, mkF, argsToLocals, Value.category]; done) | (rcases ref_cases hrw with rfl | ⟨b, rfl⟩ <;> rfl) | rfl) (fun p e s m below meth c => ?_)
  show Wp false p l e ({ frames := 2, cells := 0, slots := 0, locals := 24 } : Room) s m ([.ref a] : List Value).toArray below meth c Z "java/util/AbstractSet" "<init>" jdk_91_method_1_code 1 none n0 h0 [] (fun v h' => v = none ∧ h' = h0) (fun _ => True) h0 0 0 0 [.val (.ref a)] []
  refine aload_n (q1 := 1) d4_0 rfl rfl rfl ?_
  refine invokespecial (q1 := 4) d4_1 rfl rfl (ww hw 29 rfl) (ww hw 30 rfl) (ww hw 33 rfl) (ww hw 34 rfl) (by decide) pd1 (c_ac hw) rfl rfl rfl rfl all0 (fun v h1 q _ => ?_)
  obtain ⟨rfl, rfl⟩ := q
  refine ret_v d4_4 rfl rfl ⟨rfl, rfl⟩
set_option maxRecDepth 65536 in
set_option maxHeartbeats 40000000 in
theorem c_am {l : Launch} {Z : State} {a0 : Array Value} (hw : ∀ d ∈ tables_1, d.before a0 Z = true) {n0 : Nat} {h0 : Heap} {a : Addr} : Con l Z n0 (⟨"java/util/AbstractMap", "<init>", "()V"⟩ : MethodName) jdk_71_method_1_code 1 none ({ frames := 1, cells := 0, slots := 0, locals := 12 } : Room) [.ref a] h0 [] (fun v h' => v = none ∧ h' = h0) := by
  refine Con.of (Ls := [.val (.ref a)]) (by decide +kernel) (fun m => by first | (simp [entryFrame, mkF, argsToLocals, Value.category]; done) | (rcases ref_cases hrw with rfl | ⟨b, rfl⟩ <;> rfl) | rfl) (fun p e s m below meth c => ?_)
  show Wp false p l e ({ frames := 1, cells := 0, slots := 0, locals := 12 } : Room) s m ([.ref a] : List Value).toArray below meth c Z "java/util/AbstractMap" "<init>" jdk_71_method_1_code 1 none n0 h0 [] (fun v h' => v = none ∧ h' = h0) (fun _ => True) h0 0 0 0 [.val (.ref a)] []
  refine aload_n (q1 := 1) d7_0 rfl rfl rfl ?_
  refine initObj (q1 := 4) d7_1 rfl (ww hw 49 rfl) (ww hw 15 rfl) (ww hw 16 rfl) rfl rfl ?_
  refine ret_v d7_4 rfl rfl ⟨rfl, rfl⟩
set_option maxRecDepth 65536 in
set_option maxHeartbeats 40000000 in
theorem c_hm {l : Launch} {Z : State} {a0 : Array Value} (hw : ∀ d ∈ tables_1, d.before a0 Z = true) {n0 : Nat} {h0 : Heap} {a : Addr} {u1 : Value} (X : Exa Z h0 a "java/util/HashMap") (F : Fld Z h0 a "java/util/HashMap" "loadFactor" "F" u1) : Con l Z n0 (⟨"java/util/HashMap", "<init>", "()V"⟩ : MethodName) jdk_69_method_7_code 1 none ({ frames := 2, cells := 0, slots := 0, locals := 24 } : Room) [.ref a] h0 [a] (fun v h' => v = none) := by
  refine Con.of (Ls := [.val (.ref a)]) (by decide +kernel) (fun m => by first | (simp [entryFrame, mkF, argsToLocals, Value.category]; done) | (rcases ref_cases hrw with rfl | ⟨b, rfl⟩ <;> rfl) | rfl) (fun p e s m below meth c => ?_)
  show Wp false p l e ({ frames := 2, cells := 0, slots := 0, locals := 24 } : Room) s m ([.ref a] : List Value).toArray below meth c Z "java/util/HashMap" "<init>" jdk_69_method_7_code 1 none n0 h0 [a] (fun v h' => v = none) (fun _ => True) h0 0 0 0 [.val (.ref a)] []
  refine aload_n (q1 := 1) d6_0 rfl rfl rfl ?_
  refine invokespecial (q1 := 4) d6_1 rfl rfl (ww hw 43 rfl) (ww hw 44 rfl) (ww hw 47 rfl) (ww hw 48 rfl) (by decide) pd1 (c_am hw) rfl rfl rfl rfl all0 (fun v h1 q _ => ?_)
  obtain ⟨rfl, rfl⟩ := q
  refine aload_n (q1 := 5) d6_4 rfl rfl rfl ?_
  refine ldcF (q1 := 7) d6_5 rfl (ww hw 50 rfl) ?_
  refine putfield (q1 := 10) d6_7 rfl (ww hw 51 rfl) Via.refl (F) (X) (Or.inr ⟨(ww hw 52 rfl), rfl, rfl⟩) (ww hw 37 rfl) (ty := .float) (by decide) rfl rfl (Or.inl own_in1) (fun h7 W7 => ?_)
  refine ret_v d6_10 rfl rfl rfl
set_option maxRecDepth 65536 in
set_option maxHeartbeats 40000000 in
theorem c_hs {l : Launch} {Z : State} {a0 : Array Value} (hw : ∀ d ∈ tables_1, d.before a0 Z = true) {n0 : Nat} {h0 : Heap} {a : Addr} {u1 : Value} (X : Exa Z h0 a "java/util/HashSet") (F : Fld Z h0 a "java/util/HashSet" "map" "Ljava/util/HashMap;" u1) : Con l Z n0 (⟨"java/util/HashSet", "<init>", "()V"⟩ : MethodName) jdk_93_method_1_code 1 none ({ frames := 3, cells := 1, slots := 8, locals := 38 } : Room) [.ref a] h0 [a] (fun v h' => v = none) := by
  refine Con.of (Ls := [.val (.ref a)]) (by decide +kernel) (fun m => by first | (simp [entryFrame, mkF, argsToLocals, Value.category]; done) | (rcases ref_cases hrw with rfl | ⟨b, rfl⟩ <;> rfl) | rfl) (fun p e s m below meth c => ?_)
  show Wp false p l e ({ frames := 3, cells := 1, slots := 8, locals := 38 } : Room) s m ([.ref a] : List Value).toArray below meth c Z "java/util/HashSet" "<init>" jdk_93_method_1_code 1 none n0 h0 [a] (fun v h' => v = none) (fun _ => True) h0 0 0 0 [.val (.ref a)] []
  refine aload_n (q1 := 1) d3_0 rfl rfl rfl ?_
  refine invokespecial (q1 := 4) d3_1 rfl rfl (ww hw 23 rfl) (ww hw 24 rfl) (ww hw 27 rfl) (ww hw 28 rfl) (by decide) pd1 (c_as hw) rfl rfl rfl rfl all0 (fun v h1 q _ => ?_)
  obtain ⟨rfl, rfl⟩ := q
  refine aload_n (q1 := 5) d3_4 rfl rfl rfl ?_
  refine new (q1 := 8) d3_5 rfl (ww hw 36 rfl) (ww hw 37 rfl) (ww hw 38 rfl) (by decide) (by decide) (fun S5 h5 E5 X5 D5 U5 => ?_)
  refine Jvm.OwnWp.dup (q1 := 9) d3_8 rfl rfl ?_
  refine invokespecial (q1 := 12) d3_9 rfl rfl (ww hw 39 rfl) (ww hw 40 rfl) (ww hw 38 rfl) (ww hw 42 rfl) (by decide) pd1 (c_hm hw X5 (D5 (Or.inr (ww hw 52 rfl)) (ty := .float) (by decide))) rfl rfl rfl rfl (allS (Or.inr S5) all0) (fun v h9 q K9 => ?_)
  obtain rfl := q
  have ne : a ∉ [h1.size] := fun hm => absurd (List.mem_singleton.mp hm) (Nat.ne_of_lt X.lt)
  refine putfield (q1 := 15) d3_12 rfl (ww hw 53 rfl) Via.refl ((F.ext E5).keep K9 ne) ((X.ext E5).keep K9) (Or.inl (ww hw 54 rfl)) (ww hw 18 rfl) (ty := (.object "java/util/HashMap")) (by decide) rfl rfl (Or.inl own_in1) (fun h12 W12 => ?_)
  refine ret_v d3_15 rfl rfl rfl
def lg (g : Nat → Int64) : Nat → Value := fun i => .long (g i)
theorem lg_fits {g : Nat → Int64} {len : Nat} : ∀ j, j < len → fits .long (lg g j) = true := fun _ _ => rfl
/-- a long array of class [J -/
def LA (Z : State) (h : Heap) (t : Addr) (len : Nat) (g : Nat → Int64) : Prop := Ary Z h t .long len (lg g) ∧ Exa Z h t "[J"
theorem LA.ext {Z : State} {h h' : Heap} {t : Addr} {len : Nat} {g : Nat → Int64} (A : LA Z h t len g) (E : Ext h h') : LA Z h' t len g := ⟨A.1.ext E, A.2.ext E⟩
theorem LA.keep {Z : State} {h h' : Heap} {t : Addr} {len : Nat} {g : Nat → Int64} {ws : List Addr} (A : LA Z h t len g) (K : Keep h h' ws) (q : t ∉ ws) : LA Z h' t len g := ⟨A.1.keep K q, A.2.keep K⟩
theorem LA.other {Z : State} {h h' : Heap} {t a : Addr} {len sl : Nat} {g : Nat → Int64} {v : Value} (A : LA Z h t len g) (W : Wr h h' a sl v) (q : t ≠ a) : LA Z h' t len g := ⟨A.1.other W q, A.2.wr W⟩
set_option maxRecDepth 65536 in
set_option maxHeartbeats 40000000 in
theorem c_cp {l : Launch} {Z : State} {a0 : Array Value} (hw : ∀ d ∈ tables_1, d.before a0 Z = true) {n0 : Nat} {h0 : Heap} {t : Addr} {L n : Nat} {lI nI : Int32} {g : Nat → Int64} (A : LA Z h0 t L g) (hl : lI.toInt = (L : Int)) (hn : nI.toInt = (n : Int)) (hle : n ≤ L) (h2 : L ≤ 2) : Con l Z n0 (⟨"java/util/Arrays", "copyOf", "([JI)[J"⟩ : MethodName) jdk_65_method_124_code 3 (some (.array .long)) ({ frames := 1, cells := 1, slots := 2, locals := 34 } : Room) [.ref t, .int nI] h0 [] (fun v h' => v = some (.ref h0.size) ∧ LA Z h' h0.size n g) := by
  refine Con.of (Ls := [.val (.ref t), .val (.int nI), .unset]) (by decide +kernel) (fun m => by first | (simp [entryFrame, mkF, argsToLocals, Value.category]; done) | (rcases ref_cases hrw with rfl | ⟨b, rfl⟩ <;> rfl) | rfl) (fun p e s m below meth c => ?_)
  show Wp false p l e ({ frames := 1, cells := 1, slots := 2, locals := 34 } : Room) s m ([.ref t, .int nI] : List Value).toArray below meth c Z "java/util/Arrays" "copyOf" jdk_65_method_124_code 3 (some (.array .long)) n0 h0 [] (fun v h' => v = some (.ref h0.size) ∧ LA Z h' h0.size n g) (fun _ => True) h0 0 0 0 [.val (.ref t), .val (.int nI), .unset] []
  refine iload_n (q1 := 1) d14_0 rfl rfl ?_
  refine aload_n (q1 := 2) d14_1 rfl rfl rfl ?_
  refine arraylength (q1 := 3) d14_2 rfl (A.1) hl ?_
  refine icmp_ne (q1 := 6) (q := 14) d14_3 rfl ⟨by decide, rfl⟩ (fun hq => ?_) (fun hq => ?_)
  · refine iload_n (q1 := 15) d14_14 rfl rfl ?_
    refine newarrayE (q1 := 17) (len := n) (cap := 2) (ad := "[J") d14_15 rfl (ww hw 78 rfl) hn (by decide) (show n ≤ 2 by omega) (by decide) (by decide) (by decide) (fun S15 h15 E15 A15 X15 => ?_)
    refine astore_n (q1 := 18) (jj := 2) d14_17 rfl rfl rfl rfl ?_
    simp only [List.set_cons_zero, List.set_cons_succ]
    refine aload_n (q1 := 19) d14_18 rfl rfl rfl ?_
    refine iconst (q1 := 20) (v := 0) d14_19 rfl rfl ?_
    refine aload_n (q1 := 21) d14_20 rfl rfl rfl ?_
    refine iconst (q1 := 22) (v := 0) d14_21 rfl rfl ?_
    refine aload_n (q1 := 23) d14_22 rfl rfl rfl ?_
    refine arraylength (q1 := 24) d14_23 rfl (A.1.ext E15) hl ?_
    refine iload_n (q1 := 25) d14_24 rfl rfl ?_
    refine invokestatic (q1 := 28) d14_25 rfl (ww hw 108 rfl) (ww hw 109 rfl) (ww hw 110 rfl) (ww hw 111 rfl) (by decide) pd8 (c_min hw) rfl rfl rfl rfl all0 (fun v h1 q _ => ?_)
    obtain ⟨rfl, rfl⟩ := q
    have em : minI lI nI = nI := by
      unfold minI
      by_cases hc : nI < lI
      · rw [if_pos hc]
      · rw [if_neg hc]; exact own_eq (by rw [own_lt, hn, hl] at hc; rw [hn, hl]; omega)
    rw [em]
    refine arraycopy0 (q1 := 31) (za := lI) (zb := nI) (nn := n) d14_28 rfl (ww hw 112 rfl) (ww hw 115 rfl) (ww hw 113 rfl) (ww hw 114 rfl) (A.1.ext E15) (A15) rfl hl hn (hn) hle (Nat.le_refl _) (lg_fits) ((fun _ _ => rfl)) rfl ((Nat.le_refl _)) rfl rfl (fun h28 K28 A28 => ?_)
    refine aload_n (q1 := 32) d14_31 rfl rfl rfl ?_
    refine ret_a d14_32 rfl rfl rfl rfl ⟨rfl, A28.cong fun i hi => if_pos hi, X15.keep K28⟩
  · have e : n = L := by rw [← hq, hn] at hl; omega
    subst e
    refine aload_n (q1 := 7) d14_6 rfl rfl rfl ?_
    refine cloneArr (q1 := 10) (cap := 2) d14_7 rfl (ww hw 123 rfl) (ww hw 124 rfl) (ww hw 128 rfl) (ww hw 126 rfl) (ww hw 127 rfl) (ww hw 129 rfl) (A.1) (A.2) (lg_fits) rfl (show n ≤ 2 by omega) rfl (fun S7 h7 E7 A7 X7 => ?_)
    refine checkcast (q1 := 13) d14_10 rfl (ww hw 130 rfl) (Ins.self X7) ?_
    refine ret_a d14_13 rfl rfl rfl rfl ⟨rfl, A7, X7⟩
/-- a BitSet: its words and how many are in use -/
def BV (Z : State) (h : Heap) (b t : Addr) (L : Nat) (n : Int32) (g : Nat → Int64) : Prop := Exa Z h b "java/util/BitSet" ∧ Fld Z h b "java/util/BitSet" "words" "[J" (.ref t) ∧ Fld Z h b "java/util/BitSet" "wordsInUse" "I" (.int n) ∧ LA Z h t L g
theorem BV.keep {Z : State} {h h' : Heap} {b t : Addr} {L : Nat} {n : Int32} {g : Nat → Int64} {ws : List Addr} (B : BV Z h b t L n g) (K : Keep h h' ws) (q1 : b ∉ ws) (q2 : t ∉ ws) : BV Z h' b t L n g := ⟨B.1.keep K, B.2.1.keep K q1, B.2.2.1.keep K q1, B.2.2.2.keep K q2⟩
set_option maxRecDepth 65536 in
set_option maxHeartbeats 40000000 in
theorem c_iw {l : Launch} {Z : State} {a0 : Array Value} (hw : ∀ d ∈ tables_1, d.before a0 Z = true) {n0 : Nat} {h0 : Heap} {b : Addr} {u1 u2 u3 : Value} (X : Exa Z h0 b "java/util/BitSet") (F1 : Fld Z h0 b "java/util/BitSet" "words" "[J" u1) (F2 : Fld Z h0 b "java/util/BitSet" "wordsInUse" "I" u2) (F3 : Fld Z h0 b "java/util/BitSet" "sizeIsSticky" "Z" u3) : Con l Z n0 (⟨"java/util/BitSet", "initWords", "(I)V"⟩ : MethodName) jdk_92_method_6_code 2 none ({ frames := 1, cells := 1, slots := 1, locals := 13 } : Room) [.ref b, .int 64] h0 [b] (fun v h' => v = none ∧ Exa Z h' b "java/util/BitSet" ∧ Fld Z h' b "java/util/BitSet" "words" "[J" (.ref h0.size) ∧ Fld Z h' b "java/util/BitSet" "wordsInUse" "I" u2 ∧ Fld Z h' b "java/util/BitSet" "sizeIsSticky" "Z" u3 ∧ LA Z h' h0.size 1 (fun _ => 0)) := by
  refine Con.of (Ls := [.val (.ref b), .val (.int 64)]) (by decide +kernel) (fun m => by first | (simp [entryFrame, mkF, argsToLocals, Value.category]; done) | (rcases ref_cases hrw with rfl | ⟨b, rfl⟩ <;> rfl) | rfl) (fun p e s m below meth c => ?_)
  show Wp false p l e ({ frames := 1, cells := 1, slots := 1, locals := 13 } : Room) s m ([.ref b, .int 64] : List Value).toArray below meth c Z "java/util/BitSet" "initWords" jdk_92_method_6_code 2 none n0 h0 [b] (fun v h' => v = none ∧ Exa Z h' b "java/util/BitSet" ∧ Fld Z h' b "java/util/BitSet" "words" "[J" (.ref h0.size) ∧ Fld Z h' b "java/util/BitSet" "wordsInUse" "I" u2 ∧ Fld Z h' b "java/util/BitSet" "sizeIsSticky" "Z" u3 ∧ LA Z h' h0.size 1 (fun _ => 0)) (fun _ => True) h0 0 0 0 [.val (.ref b), .val (.int 64)] []
  refine aload_n (q1 := 1) d9_0 rfl rfl rfl ?_
  refine iload_n (q1 := 2) d9_1 rfl rfl ?_
  refine iconst (q1 := 3) (v := 1) d9_2 rfl rfl ?_
  refine isub (q1 := 4) d9_3 rfl ?_
  refine invokestatic (q1 := 7) d9_4 rfl (ww hw 75 rfl) (ww hw 76 rfl) (ww hw 61 rfl) (ww hw 77 rfl) (by decide) pd3 (c_bwi hw) rfl rfl rfl rfl all0 (fun v h1 q _ => ?_)
  obtain ⟨rfl, rfl⟩ := q
  refine iconst (q1 := 8) (v := 1) d9_7 rfl rfl ?_
  refine iadd (q1 := 9) d9_8 rfl ?_
  refine newarrayE (q1 := 11) (len := 1) (cap := 1) (ad := "[J") d9_9 rfl (ww hw 78 rfl) rfl (by decide) (by decide) (by decide) (by decide) (by decide) (fun S9 h9 E9 A9 X9 => ?_)
  refine putfield (q1 := 14) d9_11 rfl (ww hw 79 rfl) Via.refl (F1.ext E9) (X.ext E9) (Or.inl (ww hw 80 rfl)) (ww hw 60 rfl) (ty := (.array .long)) (by decide) rfl rfl (Or.inl own_in1) (fun h11 W11 => ?_)
  have A : LA Z h9 h1.size 1 (fun _ => 0) := ⟨A9, X9⟩
  refine ret_v d9_14 rfl rfl ⟨rfl, (X.ext E9).wr W11, (F1.ext E9).same W11, (F2.ext E9).other W11 (Or.inr (slot_ne (Or.inl (ww hw 67 rfl)) (Or.inl (ww hw 80 rfl)) (by decide) (t := .int) (t' := (.array .long)) (by decide) (by decide))), (F3.ext E9).other W11 (Or.inr (slot_ne (Or.inl (ww hw 69 rfl)) (Or.inl (ww hw 80 rfl)) (by decide) (t := .boolean) (t' := (.array .long)) (by decide) (by decide))), A.other W11 (Nat.ne_of_gt X.lt)⟩
set_option maxRecDepth 65536 in
set_option maxHeartbeats 40000000 in
theorem c_bi {l : Launch} {Z : State} {a0 : Array Value} (hw : ∀ d ∈ tables_1, d.before a0 Z = true) {n0 : Nat} {h0 : Heap} {b : Addr} {u1 u2 u3 : Value} (X : Exa Z h0 b "java/util/BitSet") (F1 : Fld Z h0 b "java/util/BitSet" "words" "[J" u1) (F2 : Fld Z h0 b "java/util/BitSet" "wordsInUse" "I" u2) (F3 : Fld Z h0 b "java/util/BitSet" "sizeIsSticky" "Z" u3) : Con l Z n0 (⟨"java/util/BitSet", "<init>", "()V"⟩ : MethodName) jdk_92_method_4_code 1 none ({ frames := 2, cells := 1, slots := 1, locals := 26 } : Room) [.ref b] h0 [b] (fun v h' => v = none ∧ BV Z h' b h0.size 1 0 (fun _ => 0)) := by
  refine Con.of (Ls := [.val (.ref b)]) (by decide +kernel) (fun m => by first | (simp [entryFrame, mkF, argsToLocals, Value.category]; done) | (rcases ref_cases hrw with rfl | ⟨b, rfl⟩ <;> rfl) | rfl) (fun p e s m below meth c => ?_)
  show Wp false p l e ({ frames := 2, cells := 1, slots := 1, locals := 26 } : Room) s m ([.ref b] : List Value).toArray below meth c Z "java/util/BitSet" "<init>" jdk_92_method_4_code 1 none n0 h0 [b] (fun v h' => v = none ∧ BV Z h' b h0.size 1 0 (fun _ => 0)) (fun _ => True) h0 0 0 0 [.val (.ref b)] []
  refine aload_n (q1 := 1) d8_0 rfl rfl rfl ?_
  refine initObj (q1 := 4) d8_1 rfl (ww hw 65 rfl) (ww hw 15 rfl) (ww hw 16 rfl) rfl rfl ?_
  refine aload_n (q1 := 5) d8_4 rfl rfl rfl ?_
  refine iconst (q1 := 6) (v := 0) d8_5 rfl rfl ?_
  refine putfield (q1 := 9) d8_6 rfl (ww hw 66 rfl) Via.refl (F2) (X) (Or.inl (ww hw 67 rfl)) (ww hw 60 rfl) (ty := .int) (by decide) rfl rfl (Or.inl own_in1) (fun h6 W6 => ?_)
  have f1 := F1.other W6 (Or.inr (slot_ne (Or.inl (ww hw 80 rfl)) (Or.inl (ww hw 67 rfl)) (by decide) (t := (.array .long)) (t' := .int) (by decide) (by decide)))
  have f3 := F3.other W6 (Or.inr (slot_ne (Or.inl (ww hw 69 rfl)) (Or.inl (ww hw 67 rfl)) (by decide) (t := .boolean) (t' := .int) (by decide) (by decide)))
  refine aload_n (q1 := 10) d8_9 rfl rfl rfl ?_
  refine iconst (q1 := 11) (v := 0) d8_10 rfl rfl ?_
  refine putfieldN (q1 := 14) d8_11 rfl (ww hw 68 rfl) Via.refl (f3) (X.wr W6) (Or.inl (ww hw 69 rfl)) (ww hw 60 rfl) (ty := .boolean) (by decide) rfl (fits_nar_bool _) (Or.inl own_in1) (fun h11 W11 => ?_)
  refine aload_n (q1 := 15) d8_14 rfl rfl rfl ?_
  refine bipush (q1 := 17) (v := 64) d8_15 rfl rfl ?_
  refine invokepriv (q1 := 20) d8_17 rfl (ww hw 70 rfl) (ww hw 71 rfl) (ww hw 60 rfl) (ww hw 72 rfl) (ww hw 61 rfl) (ww hw 74 rfl) (by decide) pd2 ((X.wr W6).wr W11) (c_iw hw ((X.wr W6).wr W11) (f1.other W11 (Or.inr (slot_ne (Or.inl (ww hw 80 rfl)) (Or.inl (ww hw 69 rfl)) (by decide) (t := (.array .long)) (t' := .boolean) (by decide) (by decide)))) ((F2.same W6).other W11 (Or.inr (slot_ne (Or.inl (ww hw 67 rfl)) (Or.inl (ww hw 69 rfl)) (by decide) (t := .int) (t' := .boolean) (by decide) (by decide)))) (f3.same W11)) rfl rfl rfl rfl (allS (Or.inl own_in1) all0) (fun v h1 q K => ?_)
  obtain ⟨rfl, X1, G1, G2, G3, A1⟩ := q
  refine aload_n (q1 := 21) d8_20 rfl rfl rfl ?_
  refine iconst (q1 := 22) (v := 0) d8_21 rfl rfl ?_
  refine putfieldN (q1 := 25) d8_22 rfl (ww hw 68 rfl) Via.refl (G3) (X1) (Or.inl (ww hw 69 rfl)) (ww hw 60 rfl) (ty := .boolean) (by decide) rfl (fits_nar_bool _) (Or.inl own_in1) (fun h22 W22 => ?_)
  have e1 : h11.size = h0.size := by rw [W11.size, W6.size]
  rw [e1] at G1 A1
  have ne : h0.size ≠ b := Nat.ne_of_gt X.lt
  refine ret_v d8_25 rfl rfl ⟨rfl, X1.wr W22, G1.other W22 (Or.inr (slot_ne (Or.inl (ww hw 80 rfl)) (Or.inl (ww hw 69 rfl)) (by decide) (t := (.array .long)) (t' := .boolean) (by decide) (by decide))), G2.other W22 (Or.inr (slot_ne (Or.inl (ww hw 67 rfl)) (Or.inl (ww hw 69 rfl)) (by decide) (t := .int) (t' := .boolean) (by decide) (by decide))), A1.other W22 ne⟩
set_option maxRecDepth 65536 in
set_option maxHeartbeats 40000000 in
theorem c_bj {l : Launch} {Z : State} {a0 : Array Value} (hw : ∀ d ∈ tables_1, d.before a0 Z = true) {n0 : Nat} {h0 : Heap} {b t : Addr} {L : Nat} {lI : Int32} {g : Nat → Int64} {u1 u2 u3 : Value} (S : AOff Z) (X : Exa Z h0 b "java/util/BitSet") (F1 : Fld Z h0 b "java/util/BitSet" "words" "[J" u1) (F2 : Fld Z h0 b "java/util/BitSet" "wordsInUse" "I" u2) (F3 : Fld Z h0 b "java/util/BitSet" "sizeIsSticky" "Z" u3) (A : LA Z h0 t L g) (hl : lI.toInt = (L : Int)) (ne : t ≠ b) : Con l Z n0 (⟨"java/util/BitSet", "<init>", "([J)V"⟩ : MethodName) jdk_92_method_7_code 2 none ({ frames := 1, cells := 0, slots := 0, locals := 12 } : Room) [.ref b, .ref t] h0 [b] (fun v h' => v = none ∧ BV Z h' b t L lI g) := by
  refine Con.of (Ls := [.val (.ref b), .val (.ref t)]) (by decide +kernel) (fun m => by first | (simp [entryFrame, mkF, argsToLocals, Value.category]; done) | (rcases ref_cases hrw with rfl | ⟨b, rfl⟩ <;> rfl) | rfl) (fun p e s m below meth c => ?_)
  show Wp false p l e ({ frames := 1, cells := 0, slots := 0, locals := 12 } : Room) s m ([.ref b, .ref t] : List Value).toArray below meth c Z "java/util/BitSet" "<init>" jdk_92_method_7_code 2 none n0 h0 [b] (fun v h' => v = none ∧ BV Z h' b t L lI g) (fun _ => True) h0 0 0 0 [.val (.ref b), .val (.ref t)] []
  refine aload_n (q1 := 1) d17_0 rfl rfl rfl ?_
  refine initObj (q1 := 4) d17_1 rfl (ww hw 65 rfl) (ww hw 15 rfl) (ww hw 16 rfl) rfl rfl ?_
  refine aload_n (q1 := 5) d17_4 rfl rfl rfl ?_
  refine iconst (q1 := 6) (v := 0) d17_5 rfl rfl ?_
  refine putfield (q1 := 9) d17_6 rfl (ww hw 66 rfl) Via.refl (F2) (X) (Or.inl (ww hw 67 rfl)) (ww hw 60 rfl) (ty := .int) (by decide) rfl rfl (Or.inl own_in1) (fun h6 W6 => ?_)
  have f1 := F1.other W6 (Or.inr (slot_ne (Or.inl (ww hw 80 rfl)) (Or.inl (ww hw 67 rfl)) (by decide) (t := (.array .long)) (t' := .int) (by decide) (by decide)))
  have f3 := F3.other W6 (Or.inr (slot_ne (Or.inl (ww hw 69 rfl)) (Or.inl (ww hw 67 rfl)) (by decide) (t := .boolean) (t' := .int) (by decide) (by decide)))
  refine aload_n (q1 := 10) d17_9 rfl rfl rfl ?_
  refine iconst (q1 := 11) (v := 0) d17_10 rfl rfl ?_
  refine putfieldN (q1 := 14) d17_11 rfl (ww hw 68 rfl) Via.refl (f3) (X.wr W6) (Or.inl (ww hw 69 rfl)) (ww hw 60 rfl) (ty := .boolean) (by decide) rfl (fits_nar_bool _) (Or.inl own_in1) (fun h11 W11 => ?_)
  have f1b := f1.other W11 (Or.inr (slot_ne (Or.inl (ww hw 80 rfl)) (Or.inl (ww hw 69 rfl)) (by decide) (t := (.array .long)) (t' := .boolean) (by decide) (by decide)))
  have f2b := (F2.same W6).other W11 (Or.inr (slot_ne (Or.inl (ww hw 67 rfl)) (Or.inl (ww hw 69 rfl)) (by decide) (t := .int) (t' := .boolean) (by decide) (by decide)))
  refine aload_n (q1 := 15) d17_14 rfl rfl rfl ?_
  refine aload_n (q1 := 16) d17_15 rfl rfl rfl ?_
  refine putfield (q1 := 19) d17_16 rfl (ww hw 79 rfl) Via.refl (f1b) ((X.wr W6).wr W11) (Or.inl (ww hw 80 rfl)) (ww hw 60 rfl) (ty := (.array .long)) (by decide) rfl rfl (Or.inl own_in1) (fun h16 W16 => ?_)
  have A1 := ((A.other W6 ne).other W11 ne).other W16 ne
  refine aload_n (q1 := 20) d17_19 rfl rfl rfl ?_
  refine aload_n (q1 := 21) d17_20 rfl rfl rfl ?_
  refine arraylength (q1 := 22) d17_21 rfl (A1.1) hl ?_
  refine putfield (q1 := 25) d17_22 rfl (ww hw 66 rfl) Via.refl (f2b.other W16 (Or.inr (slot_ne (Or.inl (ww hw 67 rfl)) (Or.inl (ww hw 80 rfl)) (by decide) (t := .int) (t' := (.array .long)) (by decide) (by decide)))) (((X.wr W6).wr W11).wr W16) (Or.inl (ww hw 67 rfl)) (ww hw 60 rfl) (ty := .int) (by decide) rfl rfl (Or.inl own_in1) (fun h22 W22 => ?_)
  have X2 := (((X.wr W6).wr W11).wr W16).wr W22
  refine aload_n (q1 := 26) d17_25 rfl rfl rfl ?_
  refine invokepriv (q1 := 29) d17_26 rfl (ww hw 136 rfl) (ww hw 137 rfl) (ww hw 60 rfl) (ww hw 138 rfl) (ww hw 61 rfl) (ww hw 140 rfl) (by decide) pd1 (X2) (c_bci hw S) rfl rfl rfl rfl all0 (fun v h1 q _ => ?_)
  obtain ⟨rfl, rfl⟩ := q
  refine ret_v d17_29 rfl rfl ⟨rfl, X2, (f1b.same W16).other W22 (Or.inr (slot_ne (Or.inl (ww hw 80 rfl)) (Or.inl (ww hw 67 rfl)) (by decide) (t := (.array .long)) (t' := .int) (by decide) (by decide))), (f2b.other W16 (Or.inr (slot_ne (Or.inl (ww hw 67 rfl)) (Or.inl (ww hw 80 rfl)) (by decide) (t := .int) (t' := (.array .long)) (by decide) (by decide)))).same W22, A1.other W22 ne⟩
def vn (x0 x1 : Int64) : Nat := if lcmpW x1 0 = 0 then (if lcmpW x0 0 = 0 then 0 else 1) else 2
def vI (x0 x1 : Int64) : Int32 := if lcmpW x1 0 = 0 then (if lcmpW x0 0 = 0 then 0 else 1) else 2
theorem vn_vI (x0 x1 : Int64) : (vI x0 x1).toInt = (vn x0 x1 : Int) := by
  unfold vI vn
  by_cases h1 : lcmpW x1 0 = 0
  · by_cases h2 : lcmpW x0 0 = 0
    · simp only [if_pos h1, if_pos h2]; rfl
    · simp only [if_pos h1, if_neg h2]; rfl
  · simp only [if_neg h1]; rfl
def g2 (x0 x1 : Int64) : Nat → Int64 := fun i => if i = 0 then x0 else x1
set_option maxRecDepth 65536 in
set_option maxHeartbeats 40000000 in
theorem c_vo {l : Launch} {Z : State} {a0 : Array Value} (hw : ∀ d ∈ tables_1, d.before a0 Z = true) {n0 : Nat} {h0 : Heap} {t : Addr} {x0 x1 : Int64} (S : AOff Z) (A : LA Z h0 t 2 (g2 x0 x1)) : Con l Z n0 (⟨"java/util/BitSet", "valueOf", "([J)Ljava/util/BitSet;"⟩ : MethodName) jdk_92_method_8_code 2 (some (.object "java/util/BitSet")) ({ frames := 2, cells := 2, slots := 5, locals := 50 } : Room) [.ref t] h0 [] (fun v h' => v = some (.ref h0.size) ∧ ∃ t', h0.size < t' ∧ BV Z h' h0.size t' (vn x0 x1) (vI x0 x1) (g2 x0 x1)) := by
  refine Con.of (Ls := [.val (.ref t), .unset]) (by decide +kernel) (fun m => by first | (simp [entryFrame, mkF, argsToLocals, Value.category]; done) | (rcases ref_cases hrw with rfl | ⟨b, rfl⟩ <;> rfl) | rfl) (fun p e s m below meth c => ?_)
  show Wp false p l e ({ frames := 2, cells := 2, slots := 5, locals := 50 } : Room) s m ([.ref t] : List Value).toArray below meth c Z "java/util/BitSet" "valueOf" jdk_92_method_8_code 2 (some (.object "java/util/BitSet")) n0 h0 [] (fun v h' => v = some (.ref h0.size) ∧ ∃ t', h0.size < t' ∧ BV Z h' h0.size t' (vn x0 x1) (vI x0 x1) (g2 x0 x1)) (fun _ => True) h0 0 0 0 [.val (.ref t), .unset] []
  have fin : ∀ z : Int32, z = vI x0 x1 → Wp false p l e ({ frames := 2, cells := 2, slots := 5, locals := 50 } : Room) s m ([.ref t] : List Value).toArray below meth c Z "java/util/BitSet" "valueOf" jdk_92_method_8_code 2 (some (.object "java/util/BitSet")) n0 h0 [] (fun v h' => v = some (.ref h0.size) ∧ ∃ t', h0.size < t' ∧ BV Z h' h0.size t' (vn x0 x1) (vI x0 x1) (g2 x0 x1)) (fun _ => True) h0 0 0 23 [.val (.ref t), .val (.int z)] [] := by
    intro z ez
    subst ez
    refine new (q1 := 26) d16_23 rfl (ww hw 122 rfl) (ww hw 60 rfl) (ww hw 61 rfl) (by decide) (by decide) (fun S23 h23 E23 X23 D23 U23 => ?_)
    refine Jvm.OwnWp.dup (q1 := 27) d16_26 rfl rfl ?_
    refine aload_n (q1 := 28) d16_27 rfl rfl rfl ?_
    refine iload_n (q1 := 29) d16_28 rfl rfl ?_
    have hv : vn x0 x1 ≤ 2 := by
      unfold vn
      split
      · split <;> omega
      · omega
    refine invokestatic (q1 := 32) d16_29 rfl (ww hw 104 rfl) (ww hw 105 rfl) (ww hw 106 rfl) (ww hw 107 rfl) (by decide) pd7 (c_cp hw (A.ext E23) (lI := 2) rfl (vn_vI x0 x1) hv (Nat.le_refl _)) rfl rfl rfl rfl all0 (fun v h29 q K29 => ?_)
    obtain ⟨rfl, A1⟩ := q
    have n0' : ∀ y : Addr, y ∉ ([] : List Addr) := fun _ q => nomatch q
    refine invokespecial (q1 := 35) d16_32 rfl rfl (ww hw 132 rfl) (ww hw 133 rfl) (ww hw 61 rfl) (ww hw 135 rfl) (by decide) pd12 (c_bj hw S (X23.keep K29) ((D23 (Or.inl (ww hw 80 rfl)) (ty := .array .long) (by decide)).keep K29 (n0' _)) ((D23 (Or.inl (ww hw 67 rfl)) (ty := .int) (by decide)).keep K29 (n0' _)) ((D23 (Or.inl (ww hw 69 rfl)) (ty := .boolean) (by decide)).keep K29 (n0' _)) A1 (vn_vI x0 x1) (Nat.ne_of_gt X23.lt)) rfl rfl rfl rfl (allS (Or.inr S23) all0) (fun v h32 q K32 => ?_)
    obtain ⟨rfl, B⟩ := q
    refine ret_a d16_35 rfl rfl rfl rfl ⟨rfl, _, X23.lt, B⟩
  refine aload_n (q1 := 1) d16_0 rfl rfl rfl ?_
  refine arraylength (q1 := 2) (z := 2) d16_1 rfl (A.1) rfl ?_
  refine istore_n (q1 := 3) (jj := 1) d16_2 rfl rfl rfl ?_
  simp only [List.set_cons_zero, List.set_cons_succ]
  refine iload_n (q1 := 4) d16_3 rfl rfl ?_
  refine if_le (q1 := 7) (q := 23) d16_4 rfl ⟨by decide, rfl⟩ (fun hq => absurd (by decide) hq) (fun _ => ?_)
  refine aload_n (q1 := 8) d16_7 rfl rfl rfl ?_
  refine iload_n (q1 := 9) d16_8 rfl rfl ?_
  refine iconst (q1 := 10) (v := 1) d16_9 rfl rfl ?_
  refine isub (q1 := 11) d16_10 rfl ?_
  refine laload (q1 := 12) (i := 1) d16_11 rfl (A.1) rfl (by decide) rfl ?_
  refine lconst (q1 := 13) (v := 0) d16_12 rfl rfl ?_
  refine lcmp (q1 := 14) d16_13 rfl ?_
  refine if_ne (q1 := 17) (q := 23) d16_14 rfl ⟨by decide, rfl⟩ (fun hq => ?_) (fun hq => ?_)
  · exact fin _ (if_neg hq).symm
  · refine iinc (q1 := 20) (v := (-1)) d16_17 rfl rfl rfl ?_
    simp only [List.set_cons_zero, List.set_cons_succ]
    refine goto (q := 3) d16_20 ⟨by decide, rfl⟩ ?_
    refine iload_n (q1 := 4) d16_3 rfl rfl ?_
    refine if_le (q1 := 7) (q := 23) d16_4 rfl ⟨by decide, rfl⟩ (fun hq => absurd (by decide) hq) (fun _ => ?_)
    refine aload_n (q1 := 8) d16_7 rfl rfl rfl ?_
    refine iload_n (q1 := 9) d16_8 rfl rfl ?_
    refine iconst (q1 := 10) (v := 1) d16_9 rfl rfl ?_
    refine isub (q1 := 11) d16_10 rfl ?_
    refine laload (q1 := 12) (i := 0) d16_11 rfl (A.1) rfl (by decide) rfl ?_
    refine lconst (q1 := 13) (v := 0) d16_12 rfl rfl ?_
    refine lcmp (q1 := 14) d16_13 rfl ?_
    refine if_ne (q1 := 17) (q := 23) d16_14 rfl ⟨by decide, rfl⟩ (fun hp => ?_) (fun hp => ?_)
    · exact fin _ ((if_pos hq).trans (if_neg hp)).symm
    · refine iinc (q1 := 20) (v := (-1)) d16_17 rfl rfl rfl ?_
      simp only [List.set_cons_zero, List.set_cons_succ]
      refine goto (q := 3) d16_20 ⟨by decide, rfl⟩ ?_
      refine iload_n (q1 := 4) d16_3 rfl rfl ?_
      refine if_le (q1 := 7) (q := 23) d16_4 rfl ⟨by decide, rfl⟩ (fun _ => ?_) (fun hr => absurd hr (by decide))
      exact fin _ ((if_pos hq).trans (if_pos hp)).symm
def us (x : Int64) (y : Int32) : Int64 := (x.toUInt64 >>> (y &&& 0x3f).toInt64.toUInt64).toInt64
def b1 (x : Int64) : Int64 := x - (us x 1 &&& 6148914691236517205)
def b2 (x : Int64) : Int64 := (x &&& 3689348814741910323) + (us x 2 &&& 3689348814741910323)
def b3 (x : Int64) : Int64 := (x + us x 4) &&& 1085102592571150095
def b4 (x : Int64) : Int64 := x + us x 8
def b5 (x : Int64) : Int64 := x + us x 16
def b6 (x : Int64) : Int64 := x + us x 32
def bcL (x : Int64) : Int32 := (b6 (b5 (b4 (b3 (b2 (b1 x)))))).toInt32 &&& 127
set_option maxRecDepth 65536 in
set_option maxHeartbeats 40000000 in
theorem c_bc {l : Launch} {Z : State} {a0 : Array Value} (hw : ∀ d ∈ tables_1, d.before a0 Z = true) {n0 : Nat} {h0 : Heap} {x : Int64} : Con l Z n0 (⟨"java/lang/Long", "bitCount", "(J)I"⟩ : MethodName) jdk_35_method_50_code 2 (some .int) ({ frames := 0, cells := 0, slots := 0, locals := 0 } : Room) [.long x] h0 [] (fun v h' => v = some (.int (bcL x)) ∧ h' = h0) := by
  refine Con.of (Ls := [.val (.long x), .second]) (by decide +kernel) (fun m => by first | (simp [entryFrame, mkF, argsToLocals, Value.category]; done) | (rcases ref_cases hrw with rfl | ⟨b, rfl⟩ <;> rfl) | rfl) (fun p e s m below meth c => ?_)
  show Wp false p l e ({ frames := 0, cells := 0, slots := 0, locals := 0 } : Room) s m ([.long x] : List Value).toArray below meth c Z "java/lang/Long" "bitCount" jdk_35_method_50_code 2 (some .int) n0 h0 [] (fun v h' => v = some (.int (bcL x)) ∧ h' = h0) (fun _ => True) h0 0 0 0 [.val (.long x), .second] []
  refine lload_n (q1 := 1) d19_0 rfl rfl ?_
  refine lload_n (q1 := 2) d19_1 rfl rfl ?_
  refine iconst (q1 := 3) (v := 1) d19_2 rfl rfl ?_
  refine lushr (q1 := 4) d19_3 rfl ?_
  refine ldc2J (q1 := 7) d19_4 rfl (ww hw 147 rfl) ?_
  refine land (q1 := 8) d19_7 rfl ?_
  refine lsub (q1 := 9) d19_8 rfl ?_
  refine lstore_n (q1 := 10) (jj := 0) (jk := 1) d19_9 rfl rfl rfl rfl ?_
  simp only [List.set_cons_zero, List.set_cons_succ]
  refine lload_n (q1 := 11) d19_10 rfl rfl ?_
  refine ldc2J (q1 := 14) d19_11 rfl (ww hw 148 rfl) ?_
  refine land (q1 := 15) d19_14 rfl ?_
  refine lload_n (q1 := 16) d19_15 rfl rfl ?_
  refine iconst (q1 := 17) (v := 2) d19_16 rfl rfl ?_
  refine lushr (q1 := 18) d19_17 rfl ?_
  refine ldc2J (q1 := 21) d19_18 rfl (ww hw 148 rfl) ?_
  refine land (q1 := 22) d19_21 rfl ?_
  refine ladd (q1 := 23) d19_22 rfl ?_
  refine lstore_n (q1 := 24) (jj := 0) (jk := 1) d19_23 rfl rfl rfl rfl ?_
  simp only [List.set_cons_zero, List.set_cons_succ]
  refine lload_n (q1 := 25) d19_24 rfl rfl ?_
  refine lload_n (q1 := 26) d19_25 rfl rfl ?_
  refine iconst (q1 := 27) (v := 4) d19_26 rfl rfl ?_
  refine lushr (q1 := 28) d19_27 rfl ?_
  refine ladd (q1 := 29) d19_28 rfl ?_
  refine ldc2J (q1 := 32) d19_29 rfl (ww hw 149 rfl) ?_
  refine land (q1 := 33) d19_32 rfl ?_
  refine lstore_n (q1 := 34) (jj := 0) (jk := 1) d19_33 rfl rfl rfl rfl ?_
  simp only [List.set_cons_zero, List.set_cons_succ]
  refine lload_n (q1 := 35) d19_34 rfl rfl ?_
  refine lload_n (q1 := 36) d19_35 rfl rfl ?_
  refine bipush (q1 := 38) (v := 8) d19_36 rfl rfl ?_
  refine lushr (q1 := 39) d19_38 rfl ?_
  refine ladd (q1 := 40) d19_39 rfl ?_
  refine lstore_n (q1 := 41) (jj := 0) (jk := 1) d19_40 rfl rfl rfl rfl ?_
  simp only [List.set_cons_zero, List.set_cons_succ]
  refine lload_n (q1 := 42) d19_41 rfl rfl ?_
  refine lload_n (q1 := 43) d19_42 rfl rfl ?_
  refine bipush (q1 := 45) (v := 16) d19_43 rfl rfl ?_
  refine lushr (q1 := 46) d19_45 rfl ?_
  refine ladd (q1 := 47) d19_46 rfl ?_
  refine lstore_n (q1 := 48) (jj := 0) (jk := 1) d19_47 rfl rfl rfl rfl ?_
  simp only [List.set_cons_zero, List.set_cons_succ]
  refine lload_n (q1 := 49) d19_48 rfl rfl ?_
  refine lload_n (q1 := 50) d19_49 rfl rfl ?_
  refine bipush (q1 := 52) (v := 32) d19_50 rfl rfl ?_
  refine lushr (q1 := 53) d19_52 rfl ?_
  refine ladd (q1 := 54) d19_53 rfl ?_
  refine lstore_n (q1 := 55) (jj := 0) (jk := 1) d19_54 rfl rfl rfl rfl ?_
  simp only [List.set_cons_zero, List.set_cons_succ]
  refine lload_n (q1 := 56) d19_55 rfl rfl ?_
  refine l2i (q1 := 57) d19_56 rfl ?_
  refine bipush (q1 := 59) (v := 127) d19_57 rfl rfl ?_
  refine iand (q1 := 60) d19_59 rfl ?_
  refine ret_i d19_60 rfl rfl ⟨rfl, rfl⟩
def cdI (n : Nat) (g : Nat → Int64) : Int32 := if n = 0 then 0 else if n = 1 then 0 + bcL (g 0) else 0 + bcL (g 0) + bcL (g 1)
set_option maxRecDepth 65536 in
set_option maxHeartbeats 40000000 in
theorem c_ca {l : Launch} {Z : State} {a0 : Array Value} (hw : ∀ d ∈ tables_1, d.before a0 Z = true) {n0 : Nat} {h0 : Heap} {b t : Addr} {L n : Nat} {nI : Int32} {g : Nat → Int64} (B : BV Z h0 b t L nI g) (hn : (n = 0 ∧ nI = 0) ∨ (n = 1 ∧ nI = 1) ∨ (n = 2 ∧ nI = 2)) (hl : n ≤ L) : Con l Z n0 (⟨"java/util/BitSet", "cardinality", "()I"⟩ : MethodName) jdk_92_method_35_code 3 (some .int) ({ frames := 1, cells := 0, slots := 0, locals := 14 } : Room) [.ref b] h0 [] (fun v h' => v = some (.int (cdI n g)) ∧ h' = h0) := by
  refine Con.of (Ls := [.val (.ref b), .unset, .unset]) (by decide +kernel) (fun m => by first | (simp [entryFrame, mkF, argsToLocals, Value.category]; done) | (rcases ref_cases hrw with rfl | ⟨b, rfl⟩ <;> rfl) | rfl) (fun p e s m below meth c => ?_)
  show Wp false p l e ({ frames := 1, cells := 0, slots := 0, locals := 14 } : Room) s m ([.ref b] : List Value).toArray below meth c Z "java/util/BitSet" "cardinality" jdk_92_method_35_code 3 (some .int) n0 h0 [] (fun v h' => v = some (.int (cdI n g)) ∧ h' = h0) (fun _ => True) h0 0 0 0 [.val (.ref b), .unset, .unset] []
  rcases hn with ⟨rfl, rfl⟩ | ⟨rfl, rfl⟩ | ⟨rfl, rfl⟩
  · refine iconst (q1 := 1) (v := 0) d12_0 rfl rfl ?_
    refine istore_n (q1 := 2) (jj := 1) d12_1 rfl rfl rfl ?_
    simp only [List.set_cons_zero, List.set_cons_succ]
    refine iconst (q1 := 3) (v := 0) d12_2 rfl rfl ?_
    refine istore_n (q1 := 4) (jj := 2) d12_3 rfl rfl rfl ?_
    simp only [List.set_cons_zero, List.set_cons_succ]
    refine iload_n (q1 := 5) d12_4 rfl rfl ?_
    refine aload_n (q1 := 6) d12_5 rfl rfl rfl ?_
    refine getfield (q1 := 9) d12_6 rfl (ww hw 66 rfl) Via.refl (B.2.2.1) ?_
    refine icmp_ge (q1 := 12) (q := 30) d12_9 rfl ⟨by decide, rfl⟩ (fun _ => ?_) (fun hq => absurd hq (by decide))
    refine iload_n (q1 := 31) d12_30 rfl rfl ?_
    refine ret_i d12_31 rfl rfl ⟨rfl, rfl⟩
  · refine iconst (q1 := 1) (v := 0) d12_0 rfl rfl ?_
    refine istore_n (q1 := 2) (jj := 1) d12_1 rfl rfl rfl ?_
    simp only [List.set_cons_zero, List.set_cons_succ]
    refine iconst (q1 := 3) (v := 0) d12_2 rfl rfl ?_
    refine istore_n (q1 := 4) (jj := 2) d12_3 rfl rfl rfl ?_
    simp only [List.set_cons_zero, List.set_cons_succ]
    refine iload_n (q1 := 5) d12_4 rfl rfl ?_
    refine aload_n (q1 := 6) d12_5 rfl rfl rfl ?_
    refine getfield (q1 := 9) d12_6 rfl (ww hw 66 rfl) Via.refl (B.2.2.1) ?_
    refine icmp_ge (q1 := 12) (q := 30) d12_9 rfl ⟨by decide, rfl⟩ (fun hq => absurd (by decide) hq) (fun _ => ?_)
    refine iload_n (q1 := 13) d12_12 rfl rfl ?_
    refine aload_n (q1 := 14) d12_13 rfl rfl rfl ?_
    refine getfield (q1 := 17) d12_14 rfl (ww hw 79 rfl) Via.refl (B.2.1) ?_
    refine iload_n (q1 := 18) d12_17 rfl rfl ?_
    refine laload (q1 := 19) (i := 0) d12_18 rfl (B.2.2.2.1) rfl (show 0 < L by omega) rfl ?_
    refine invokestatic (q1 := 22) d12_19 rfl (ww hw 143 rfl) (ww hw 144 rfl) (ww hw 145 rfl) (ww hw 146 rfl) (by decide) pd13 (c_bc hw) rfl rfl rfl rfl all0 (fun v h1 q _ => ?_)
    obtain ⟨rfl, rfl⟩ := q
    refine iadd (q1 := 23) d12_22 rfl ?_
    refine istore_n (q1 := 24) (jj := 1) d12_23 rfl rfl rfl ?_
    simp only [List.set_cons_zero, List.set_cons_succ]
    refine iinc (q1 := 27) (v := 1) d12_24 rfl rfl rfl ?_
    simp only [List.set_cons_zero, List.set_cons_succ]
    refine goto (q := 4) d12_27 ⟨by decide, rfl⟩ ?_
    refine iload_n (q1 := 5) d12_4 rfl rfl ?_
    refine aload_n (q1 := 6) d12_5 rfl rfl rfl ?_
    refine getfield (q1 := 9) d12_6 rfl (ww hw 66 rfl) Via.refl (B.2.2.1) ?_
    refine icmp_ge (q1 := 12) (q := 30) d12_9 rfl ⟨by decide, rfl⟩ (fun _ => ?_) (fun hq => absurd hq (by decide))
    refine iload_n (q1 := 31) d12_30 rfl rfl ?_
    refine ret_i d12_31 rfl rfl ⟨rfl, rfl⟩
  · refine iconst (q1 := 1) (v := 0) d12_0 rfl rfl ?_
    refine istore_n (q1 := 2) (jj := 1) d12_1 rfl rfl rfl ?_
    simp only [List.set_cons_zero, List.set_cons_succ]
    refine iconst (q1 := 3) (v := 0) d12_2 rfl rfl ?_
    refine istore_n (q1 := 4) (jj := 2) d12_3 rfl rfl rfl ?_
    simp only [List.set_cons_zero, List.set_cons_succ]
    refine iload_n (q1 := 5) d12_4 rfl rfl ?_
    refine aload_n (q1 := 6) d12_5 rfl rfl rfl ?_
    refine getfield (q1 := 9) d12_6 rfl (ww hw 66 rfl) Via.refl (B.2.2.1) ?_
    refine icmp_ge (q1 := 12) (q := 30) d12_9 rfl ⟨by decide, rfl⟩ (fun hq => absurd (by decide) hq) (fun _ => ?_)
    refine iload_n (q1 := 13) d12_12 rfl rfl ?_
    refine aload_n (q1 := 14) d12_13 rfl rfl rfl ?_
    refine getfield (q1 := 17) d12_14 rfl (ww hw 79 rfl) Via.refl (B.2.1) ?_
    refine iload_n (q1 := 18) d12_17 rfl rfl ?_
    refine laload (q1 := 19) (i := 0) d12_18 rfl (B.2.2.2.1) rfl (show 0 < L by omega) rfl ?_
    refine invokestatic (q1 := 22) d12_19 rfl (ww hw 143 rfl) (ww hw 144 rfl) (ww hw 145 rfl) (ww hw 146 rfl) (by decide) pd13 (c_bc hw) rfl rfl rfl rfl all0 (fun v h1 q _ => ?_)
    obtain ⟨rfl, rfl⟩ := q
    refine iadd (q1 := 23) d12_22 rfl ?_
    refine istore_n (q1 := 24) (jj := 1) d12_23 rfl rfl rfl ?_
    simp only [List.set_cons_zero, List.set_cons_succ]
    refine iinc (q1 := 27) (v := 1) d12_24 rfl rfl rfl ?_
    simp only [List.set_cons_zero, List.set_cons_succ]
    refine goto (q := 4) d12_27 ⟨by decide, rfl⟩ ?_
    refine iload_n (q1 := 5) d12_4 rfl rfl ?_
    refine aload_n (q1 := 6) d12_5 rfl rfl rfl ?_
    refine getfield (q1 := 9) d12_6 rfl (ww hw 66 rfl) Via.refl (B.2.2.1) ?_
    refine icmp_ge (q1 := 12) (q := 30) d12_9 rfl ⟨by decide, rfl⟩ (fun hq => absurd (by decide) hq) (fun _ => ?_)
    refine iload_n (q1 := 13) d12_12 rfl rfl ?_
    refine aload_n (q1 := 14) d12_13 rfl rfl rfl ?_
    refine getfield (q1 := 17) d12_14 rfl (ww hw 79 rfl) Via.refl (B.2.1) ?_
    refine iload_n (q1 := 18) d12_17 rfl rfl ?_
    refine laload (q1 := 19) (i := 1) d12_18 rfl (B.2.2.2.1) rfl (show 1 < L by omega) rfl ?_
    refine invokestatic (q1 := 22) d12_19 rfl (ww hw 143 rfl) (ww hw 144 rfl) (ww hw 145 rfl) (ww hw 146 rfl) (by decide) pd13 (c_bc hw) rfl rfl rfl rfl all0 (fun v h1 q _ => ?_)
    obtain ⟨rfl, rfl⟩ := q
    refine iadd (q1 := 23) d12_22 rfl ?_
    refine istore_n (q1 := 24) (jj := 1) d12_23 rfl rfl rfl ?_
    simp only [List.set_cons_zero, List.set_cons_succ]
    refine iinc (q1 := 27) (v := 1) d12_24 rfl rfl rfl ?_
    simp only [List.set_cons_zero, List.set_cons_succ]
    refine goto (q := 4) d12_27 ⟨by decide, rfl⟩ ?_
    refine iload_n (q1 := 5) d12_4 rfl rfl ?_
    refine aload_n (q1 := 6) d12_5 rfl rfl rfl ?_
    refine getfield (q1 := 9) d12_6 rfl (ww hw 66 rfl) Via.refl (B.2.2.1) ?_
    refine icmp_ge (q1 := 12) (q := 30) d12_9 rfl ⟨by decide, rfl⟩ (fun _ => ?_) (fun hq => absurd hq (by decide))
    refine iload_n (q1 := 31) d12_30 rfl rfl ?_
    refine ret_i d12_31 rfl rfl ⟨rfl, rfl⟩
set_option maxRecDepth 65536 in
set_option maxHeartbeats 40000000 in
theorem c_tl {l : Launch} {Z : State} {a0 : Array Value} (hw : ∀ d ∈ tables_1, d.before a0 Z = true) {n0 : Nat} {h0 : Heap} {b t : Addr} {L n : Nat} {lI nI : Int32} {g : Nat → Int64} (B : BV Z h0 b t L nI g) (hl : lI.toInt = (L : Int)) (hn : nI.toInt = (n : Int)) (hle : n ≤ L) (h2 : L ≤ 2) : Con l Z n0 (⟨"java/util/BitSet", "toLongArray", "()[J"⟩ : MethodName) jdk_92_method_13_code 1 (some (.array .long)) ({ frames := 2, cells := 1, slots := 2, locals := 48 } : Room) [.ref b] h0 [] (fun v h' => v = some (.ref h0.size) ∧ LA Z h' h0.size n g) := by
  refine Con.of (Ls := [.val (.ref b)]) (by decide +kernel) (fun m => by first | (simp [entryFrame, mkF, argsToLocals, Value.category]; done) | (rcases ref_cases hrw with rfl | ⟨b, rfl⟩ <;> rfl) | rfl) (fun p e s m below meth c => ?_)
  show Wp false p l e ({ frames := 2, cells := 1, slots := 2, locals := 48 } : Room) s m ([.ref b] : List Value).toArray below meth c Z "java/util/BitSet" "toLongArray" jdk_92_method_13_code 1 (some (.array .long)) n0 h0 [] (fun v h' => v = some (.ref h0.size) ∧ LA Z h' h0.size n g) (fun _ => True) h0 0 0 0 [.val (.ref b)] []
  refine aload_n (q1 := 1) d13_0 rfl rfl rfl ?_
  refine getfield (q1 := 4) d13_1 rfl (ww hw 79 rfl) Via.refl (B.2.1) ?_
  refine aload_n (q1 := 5) d13_4 rfl rfl rfl ?_
  refine getfield (q1 := 8) d13_5 rfl (ww hw 66 rfl) Via.refl (B.2.2.1) ?_
  refine invokestatic (q1 := 11) d13_8 rfl (ww hw 104 rfl) (ww hw 105 rfl) (ww hw 106 rfl) (ww hw 107 rfl) (by decide) pd7 (c_cp hw B.2.2.2 hl hn hle h2) rfl rfl rfl rfl all0 (fun v h1 q _ => ?_)
  obtain ⟨rfl, A⟩ := q
  refine ret_a d13_11 rfl rfl rfl rfl ⟨rfl, A⟩
def NdW (Z : State) (h : Heap) (a t : Addr) (n : Nat) (sz : Int32) (g : Nat → Int64) : Prop := Exa Z h a "com/example/medway/medway/Node" ∧ Fld Z h a "com/example/medway/medway/Node" "size" "I" (.int sz) ∧ Fld Z h a "com/example/medway/medway/Node" "words" "[J" (.ref t) ∧ LA Z h t n g
theorem NdW.keep {Z : State} {h h' : Heap} {a t : Addr} {n : Nat} {sz : Int32} {g : Nat → Int64} {ws : List Addr} (B : NdW Z h a t n sz g) (K : Keep h h' ws) (q1 : a ∉ ws) (q2 : t ∉ ws) : NdW Z h' a t n sz g := ⟨B.1.keep K, B.2.1.keep K q1, B.2.2.1.keep K q1, B.2.2.2.keep K q2⟩
set_option maxRecDepth 65536 in
set_option maxHeartbeats 40000000 in
theorem c_ho {l : Launch} {Z : State} {a0 : Array Value} (hw : ∀ d ∈ tables_1, d.before a0 Z = true) {n0 : Nat} {h0 : Heap} {a b t : Addr} {L n : Nat} {lI nI : Int32} {g : Nat → Int64} (N : NdE Z h0 a) (B : BV Z h0 b t L nI g) (hb : b ≠ a) (ht : t ≠ a) (hl : lI.toInt = (L : Int)) (hn : (n = 0 ∧ nI = 0) ∨ (n = 1 ∧ nI = 1) ∨ (n = 2 ∧ nI = 2)) (hle : n ≤ L) (h2 : L ≤ 2) : Con l Z n0 (⟨"com/example/medway/medway/Node", "hold", "(Ljava/util/BitSet;)V"⟩ : MethodName) prog_24_method_4_code 2 none ({ frames := 3, cells := 1, slots := 2, locals := 62 } : Room) [.ref a, .ref b] h0 [a] (fun v h' => v = none ∧ NdW Z h' a h0.size n (cdI n g) g) := by
  refine Con.of (Ls := [.val (.ref a), .val (.ref b)]) (by decide +kernel) (fun m => by first | (simp [entryFrame, mkF, argsToLocals, Value.category]; done) | (rcases ref_cases hrw with rfl | ⟨b, rfl⟩ <;> rfl) | rfl) (fun p e s m below meth c => ?_)
  show Wp false p l e ({ frames := 3, cells := 1, slots := 2, locals := 62 } : Room) s m ([.ref a, .ref b] : List Value).toArray below meth c Z "com/example/medway/medway/Node" "hold" prog_24_method_4_code 2 none n0 h0 [a] (fun v h' => v = none ∧ NdW Z h' a h0.size n (cdI n g) g) (fun _ => True) h0 0 0 0 [.val (.ref a), .val (.ref b)] []
  have hnI : nI.toInt = (n : Int) := by rcases hn with ⟨rfl, rfl⟩ | ⟨rfl, rfl⟩ | ⟨rfl, rfl⟩ <;> rfl
  obtain ⟨u1, F1⟩ := N.2.2.2.2.2.1
  obtain ⟨u2, F2⟩ := N.2.2.2.2.2.2.1
  obtain ⟨u3, F3⟩ := N.2.2.2.2.2.2.2
  have nb : ∀ {y : Addr}, y ≠ a → y ∉ [a] := fun hy hm => hy (List.mem_singleton.mp hm)
  have lt : @LT.lt Nat _ a h0.size := N.1.lt
  refine aload_n (q1 := 1) d11_0 rfl rfl rfl ?_
  refine aload_n (q1 := 2) d11_1 rfl rfl rfl ?_
  refine putfield (q1 := 5) d11_2 rfl (ww hw 90 rfl) Via.refl (F1) (N.1) (Or.inl (ww hw 91 rfl)) (ww hw 1 rfl) (ty := (.object "java/util/BitSet")) (by decide) rfl rfl (Or.inl own_in1) (fun h2 W2 => ?_)
  have B2 := B.keep (Keep.of_wr W2) (nb hb) (nb ht)
  refine aload_n (q1 := 6) d11_5 rfl rfl rfl ?_
  refine aload_n (q1 := 7) d11_6 rfl rfl rfl ?_
  refine invokevirt (q1 := 10) d11_7 rfl (ww hw 92 rfl) (ww hw 93 rfl) (ww hw 95 rfl) (ww hw 94 rfl) (ww hw 61 rfl) (ww hw 96 rfl) (by decide) pd5 (B2.1) (c_ca hw B2 hn hle) rfl rfl rfl rfl all0 (fun v h1 q _ => ?_)
  obtain ⟨rfl, rfl⟩ := q
  refine putfield (q1 := 13) d11_10 rfl (ww hw 97 rfl) Via.refl (F2.other W2 (Or.inr (slot_ne (Or.inl (ww hw 98 rfl)) (Or.inl (ww hw 91 rfl)) (by decide) (t := .int) (t' := (.object "java/util/BitSet")) (by decide) (by decide)))) (N.1.wr W2) (Or.inl (ww hw 98 rfl)) (ww hw 1 rfl) (ty := .int) (by decide) rfl rfl (Or.inl own_in1) (fun h10 W10 => ?_)
  have B10 := B2.keep (Keep.of_wr W10) (nb hb) (nb ht)
  refine aload_n (q1 := 14) d11_13 rfl rfl rfl ?_
  refine aload_n (q1 := 15) d11_14 rfl rfl rfl ?_
  refine invokevirt (q1 := 18) d11_15 rfl (ww hw 99 rfl) (ww hw 100 rfl) (ww hw 102 rfl) (ww hw 101 rfl) (ww hw 61 rfl) (ww hw 103 rfl) (by decide) pd6 (B10.1) (c_tl hw B10 hl hnI hle h2) rfl rfl rfl rfl all0 (fun v h15 q K15 => ?_)
  obtain ⟨rfl, A⟩ := q
  have n0' : ∀ y : Addr, y ∉ ([] : List Addr) := fun _ q => nomatch q
  have f3 := ((F3.other W2 (Or.inr (slot_ne (Or.inl (ww hw 117 rfl)) (Or.inl (ww hw 91 rfl)) (by decide) (t := (.array .long)) (t' := (.object "java/util/BitSet")) (by decide) (by decide)))).other W10 (Or.inr (slot_ne (Or.inl (ww hw 117 rfl)) (Or.inl (ww hw 98 rfl)) (by decide) (t := (.array .long)) (t' := .int) (by decide) (by decide)))).keep K15 (n0' _)
  have f2 := ((F2.other W2 (Or.inr (slot_ne (Or.inl (ww hw 98 rfl)) (Or.inl (ww hw 91 rfl)) (by decide) (t := .int) (t' := (.object "java/util/BitSet")) (by decide) (by decide)))).same W10).keep K15 (n0' _)
  have x2 := ((N.1.wr W2).wr W10).keep K15
  refine putfield (q1 := 21) d11_18 rfl (ww hw 116 rfl) Via.refl (f3) (x2) (Or.inl (ww hw 117 rfl)) (ww hw 1 rfl) (ty := (.array .long)) (by decide) rfl rfl (Or.inl own_in1) (fun h18 W18 => ?_)
  have e1 : h10.size = h0.size := by rw [W10.size, W2.size]
  rw [e1] at A W18
  refine ret_v d11_21 rfl rfl ⟨rfl, x2.wr W18, f2.other W18 (Or.inr (slot_ne (Or.inl (ww hw 98 rfl)) (Or.inl (ww hw 117 rfl)) (by decide) (t := .int) (t' := (.array .long)) (by decide) (by decide))), f3.same W18, A.other W18 (Nat.ne_of_gt lt)⟩
set_option maxRecDepth 65536 in
set_option maxHeartbeats 40000000 in
theorem c_ni {l : Launch} {Z : State} {a0 : Array Value} (hw : ∀ d ∈ tables_1, d.before a0 Z = true) {n0 : Nat} {h0 : Heap} {a nm : Addr} (N : NdE Z h0 a) : Con l Z n0 (⟨"com/example/medway/medway/Node", "<init>", "(Ljava/lang/String;)V"⟩ : MethodName) prog_24_method_1_code 2 none ({ frames := 4, cells := 9, slots := 28, locals := 75 } : Room) [.ref a, .ref nm] h0 [a] (fun v h' => v = none ∧ NdE Z h' a) := by
  refine Con.of (Ls := [.val (.ref a), .val (.ref nm)]) (by decide +kernel) (fun m => by first | (simp [entryFrame, mkF, argsToLocals, Value.category]; done) | (rcases ref_cases hrw with rfl | ⟨b, rfl⟩ <;> rfl) | rfl) (fun p e s m below meth c => ?_)
  show Wp false p l e ({ frames := 4, cells := 9, slots := 28, locals := 75 } : Room) s m ([.ref a, .ref nm] : List Value).toArray below meth c Z "com/example/medway/medway/Node" "<init>" prog_24_method_1_code 2 none n0 h0 [a] (fun v h' => v = none ∧ NdE Z h' a) (fun _ => True) h0 0 0 0 [.val (.ref a), .val (.ref nm)] []
  have lt : @LT.lt Nat _ a h0.size := N.1.lt
  refine aload_n (q1 := 1) d1_0 rfl rfl rfl ?_
  refine initObj (q1 := 4) d1_1 rfl (ww hw 14 rfl) (ww hw 15 rfl) (ww hw 16 rfl) rfl rfl ?_
  refine aload_n (q1 := 5) d1_4 rfl rfl rfl ?_
  refine new (q1 := 8) d1_5 rfl (ww hw 17 rfl) (ww hw 18 rfl) (ww hw 19 rfl) (by decide) (by decide) (fun S5 h5 E5 X5 D5 U5 => ?_)
  refine Jvm.OwnWp.dup (q1 := 9) d1_8 rfl rfl ?_
  refine invokespecial (q1 := 12) d1_9 rfl rfl (ww hw 20 rfl) (ww hw 21 rfl) (ww hw 19 rfl) (ww hw 22 rfl) (by decide) pd1 (c_hs hw X5 (D5 (Or.inl (ww hw 54 rfl)) (ty := .object "java/util/HashMap") (by decide))) rfl rfl rfl rfl (allS (Or.inr S5) all0) (fun v h9 q K9 => ?_)
  obtain rfl := q
  have N9 := (N.keep (keepE E5)).keep K9
  obtain ⟨u1, F1⟩ := N9.2.1
  refine putfield (q1 := 15) d1_12 rfl (ww hw 55 rfl) Via.refl (F1) (N9.1) (Or.inr ⟨(ww hw 56 rfl), rfl, rfl⟩) (ww hw 1 rfl) (ty := (.object "java/util/Set")) (by decide) rfl rfl (Or.inl own_in1) (fun h12 W12 => ?_)
  have N12 := N9.keep (Keep.of_wr W12)
  refine aload_n (q1 := 16) d1_15 rfl rfl rfl ?_
  refine new (q1 := 19) d1_16 rfl (ww hw 17 rfl) (ww hw 18 rfl) (ww hw 19 rfl) (by decide) (by decide) (fun S16 h16 E16 X16 D16 U16 => ?_)
  refine Jvm.OwnWp.dup (q1 := 20) d1_19 rfl rfl ?_
  refine invokespecial (q1 := 23) d1_20 rfl rfl (ww hw 20 rfl) (ww hw 21 rfl) (ww hw 19 rfl) (ww hw 22 rfl) (by decide) pd1 (c_hs hw X16 (D16 (Or.inl (ww hw 54 rfl)) (ty := .object "java/util/HashMap") (by decide))) rfl rfl rfl rfl (allS (Or.inr S16) all0) (fun v h20 q K20 => ?_)
  obtain rfl := q
  have N20 := (N12.keep (keepE E16)).keep K20
  obtain ⟨u2, F2⟩ := N20.2.2.1
  refine putfield (q1 := 26) d1_23 rfl (ww hw 57 rfl) Via.refl (F2) (N20.1) (Or.inr ⟨(ww hw 58 rfl), rfl, rfl⟩) (ww hw 1 rfl) (ty := (.object "java/util/Set")) (by decide) rfl rfl (Or.inl own_in1) (fun h23 W23 => ?_)
  have N23 := N20.keep (Keep.of_wr W23)
  refine aload_n (q1 := 27) d1_26 rfl rfl rfl ?_
  refine new (q1 := 30) d1_27 rfl (ww hw 59 rfl) (ww hw 60 rfl) (ww hw 61 rfl) (by decide) (by decide) (fun S27 h27 E27 X27 D27 U27 => ?_)
  refine Jvm.OwnWp.dup (q1 := 31) d1_30 rfl rfl ?_
  refine invokespecial (q1 := 34) d1_31 rfl rfl (ww hw 62 rfl) (ww hw 63 rfl) (ww hw 61 rfl) (ww hw 64 rfl) (by decide) pd1 (c_bi hw X27 (D27 (Or.inl (ww hw 80 rfl)) (ty := .array .long) (by decide)) (D27 (Or.inl (ww hw 67 rfl)) (ty := .int) (by decide)) (D27 (Or.inl (ww hw 69 rfl)) (ty := .boolean) (by decide))) rfl rfl rfl rfl (allS (Or.inr S27) all0) (fun v h31 q K31 => ?_)
  obtain ⟨rfl, -⟩ := q
  have N31 := (N23.keep (keepE E27)).keep K31
  obtain ⟨u3, F3⟩ := N31.2.2.2.1
  refine putfield (q1 := 37) d1_34 rfl (ww hw 81 rfl) Via.refl (F3) (N31.1) (Or.inl (ww hw 82 rfl)) (ww hw 1 rfl) (ty := (.object "java/util/BitSet")) (by decide) rfl rfl (Or.inl own_in1) (fun h34 W34 => ?_)
  have N34 := N31.keep (Keep.of_wr W34)
  obtain ⟨u4, F4⟩ := N34.2.2.2.2.1
  refine aload_n (q1 := 38) d1_37 rfl rfl rfl ?_
  refine aload_n (q1 := 39) d1_38 rfl rfl rfl ?_
  refine putfield (q1 := 42) d1_39 rfl (ww hw 83 rfl) Via.refl (F4) (N34.1) (Or.inr ⟨(ww hw 84 rfl), rfl, rfl⟩) (ww hw 1 rfl) (ty := (.object "java/lang/String")) (by decide) rfl rfl (Or.inl own_in1) (fun h39 W39 => ?_)
  have N39 := N34.keep (Keep.of_wr W39)
  refine aload_n (q1 := 43) d1_42 rfl rfl rfl ?_
  refine new (q1 := 46) d1_43 rfl (ww hw 59 rfl) (ww hw 60 rfl) (ww hw 61 rfl) (by decide) (by decide) (fun S43 h43 E43 X43 D43 U43 => ?_)
  have lt43 : @LT.lt Nat _ a h39.size := N39.1.lt
  have lt43b : @LT.lt Nat _ h39.size h43.size := X43.lt
  refine Jvm.OwnWp.dup (q1 := 47) d1_46 rfl rfl ?_
  refine invokespecial (q1 := 50) d1_47 rfl rfl (ww hw 62 rfl) (ww hw 63 rfl) (ww hw 61 rfl) (ww hw 64 rfl) (by decide) pd1 (c_bi hw X43 (D43 (Or.inl (ww hw 80 rfl)) (ty := .array .long) (by decide)) (D43 (Or.inl (ww hw 67 rfl)) (ty := .int) (by decide)) (D43 (Or.inl (ww hw 69 rfl)) (ty := .boolean) (by decide))) rfl rfl rfl rfl (allS (Or.inr S43) all0) (fun v h47 q K47 => ?_)
  obtain ⟨rfl, B⟩ := q
  have N47 := (N39.keep (keepE E43)).keep K47
  refine invokevirt (q1 := 53) d1_50 rfl (ww hw 85 rfl) (ww hw 86 rfl) (ww hw 88 rfl) (ww hw 87 rfl) (ww hw 2 rfl) (ww hw 89 rfl) (by decide) pd4 (N47.1) (c_ho hw N47 B (Nat.ne_of_gt lt43) (Nat.ne_of_gt (Nat.lt_trans lt43 lt43b)) (lI := 1) rfl (Or.inl ⟨rfl, rfl⟩) (by decide) (by decide)) rfl rfl rfl rfl (allS (Or.inl own_in1) all0) (fun v h50 q K50 => ?_)
  obtain ⟨rfl, -⟩ := q
  refine ret_v d1_53 rfl rfl ⟨rfl, N47.keep K50⟩
def sub1 (g g' : Nat → Int64) (i : Nat) : Prop := lcmpW (g i &&& (g' i ^^^ (-1))) 0 = 0
instance (g g' : Nat → Int64) (i : Nat) : Decidable (sub1 g g' i) := inferInstanceAs (Decidable (_ = _))
def hlI (sp sq : Int32) (n n' : Nat) (g g' : Nat → Int64) : Int32 := if sp < sq ∧ n ≤ n' ∧ ∀ i, i < n → sub1 g g' i then 1 else 0
set_option maxRecDepth 65536 in
set_option maxHeartbeats 40000000 in
theorem c_hlt {l : Launch} {Z : State} {a0 : Array Value} (hw : ∀ d ∈ tables_1, d.before a0 Z = true) {n0 : Nat} {h0 : Heap} {a t a' t' : Addr} {n n' : Nat} {sp sq nI nI' : Int32} {g g' : Nat → Int64} (N : NdW Z h0 a t n sp g) (N' : NdW Z h0 a' t' n' sq g') (hn : nI.toInt = (n : Int)) (hn' : nI'.toInt = (n' : Int)) (hlt : n < 2147483647) : Con l Z n0 (⟨"com/example/medway/medway/Node", "holdsLessThan", "(Lcom/example/medway/medway/Node;)Z"⟩ : MethodName) prog_24_method_5_code 3 (some .boolean) ({ frames := 0, cells := 0, slots := 0, locals := 0 } : Room) [.ref a, .ref a'] h0 [] (fun v h' => v = some (.int (hlI sp sq n n' g g')) ∧ h' = h0) := by
  refine Con.of (Ls := [.val (.ref a), .val (.ref a'), .unset]) (by decide +kernel) (fun m => by first | (simp [entryFrame, mkF, argsToLocals, Value.category]; done) | (rcases ref_cases hrw with rfl | ⟨b, rfl⟩ <;> rfl) | rfl) (fun p e s m below meth c => ?_)
  show Wp false p l e ({ frames := 0, cells := 0, slots := 0, locals := 0 } : Room) s m ([.ref a, .ref a'] : List Value).toArray below meth c Z "com/example/medway/medway/Node" "holdsLessThan" prog_24_method_5_code 3 (some .boolean) n0 h0 [] (fun v h' => v = some (.int (hlI sp sq n n' g g')) ∧ h' = h0) (fun _ => True) h0 0 0 0 [.val (.ref a), .val (.ref a'), .unset] []
  have no : ¬ (sp < sq ∧ n ≤ n' ∧ ∀ i, i < n → sub1 g g' i) → Wp false p l e ({ frames := 0, cells := 0, slots := 0, locals := 0 } : Room) s m ([.ref a, .ref a'] : List Value).toArray below meth c Z "com/example/medway/medway/Node" "holdsLessThan" prog_24_method_5_code 3 (some .boolean) n0 h0 [] (fun v h' => v = some (.int (hlI sp sq n n' g g')) ∧ h' = h0) (fun _ => True) h0 0 0 24 [.val (.ref a), .val (.ref a'), .unset] [] := by
    intro e
    refine iconst (q1 := 25) (v := 0) d20_24 rfl rfl ?_
    refine ret_n (t := .boolean) d20_25 rfl (by simp) rfl ⟨by unfold hlI; rw [if_neg e]; rfl, rfl⟩
  refine aload_n (q1 := 1) d20_0 rfl rfl rfl ?_
  refine getfield (q1 := 4) d20_1 rfl (ww hw 97 rfl) Via.refl (N.2.1) ?_
  refine aload_n (q1 := 5) d20_4 rfl rfl rfl ?_
  refine getfield (q1 := 8) d20_5 rfl (ww hw 97 rfl) Via.refl (N'.2.1) ?_
  refine icmp_ge (q1 := 11) (q := 24) d20_8 rfl ⟨by decide, rfl⟩ (fun hq => ?_) (fun h1 => ?_)
  · exact no fun q => hq q.1
  refine aload_n (q1 := 12) d20_11 rfl rfl rfl ?_
  refine getfield (q1 := 15) d20_12 rfl (ww hw 116 rfl) Via.refl (N.2.2.1) ?_
  refine arraylength (q1 := 16) d20_15 rfl (N.2.2.2.1) hn ?_
  refine aload_n (q1 := 17) d20_16 rfl rfl rfl ?_
  refine getfield (q1 := 20) d20_17 rfl (ww hw 116 rfl) Via.refl (N'.2.2.1) ?_
  refine arraylength (q1 := 21) d20_20 rfl (N'.2.2.2.1) hn' ?_
  refine icmp_le (q1 := 24) (q := 26) d20_21 rfl ⟨by decide, rfl⟩ (fun hq => ?_) (fun hq => ?_)
  · have hnn : n ≤ n' := by rw [own_lt, hn, hn'] at hq; omega
    have loop : ∀ (r i : Nat) (j : Int32) (sl : Slot), i + r = n → j.toInt = (i : Int) → (∀ q, q < i → sub1 g g' q) → Wp false p l e ({ frames := 0, cells := 0, slots := 0, locals := 0 } : Room) s m ([.ref a, .ref a'] : List Value).toArray below meth c Z "com/example/medway/medway/Node" "holdsLessThan" prog_24_method_5_code 3 (some .boolean) n0 h0 [] (fun v h' => v = some (.int (hlI sp sq n n' g g')) ∧ h' = h0) (fun _ => True) h0 0 0 28 [.val (.ref a), .val (.ref a'), .val (.int j)] [] := by
      intro r
      induction r with
      | zero =>
        intro i j sl hi hj hs
        refine iload_n (q1 := 29) d20_28 rfl rfl ?_
        refine aload_n (q1 := 30) d20_29 rfl rfl rfl ?_
        refine getfield (q1 := 33) d20_30 rfl (ww hw 116 rfl) Via.refl (N.2.2.1) ?_
        refine arraylength (q1 := 34) d20_33 rfl (N.2.2.2.1) hn ?_
        refine icmp_ge (q1 := 37) (q := 67) d20_34 rfl ⟨by decide, rfl⟩ (fun _ => ?_) (fun hc => absurd hc (by rw [own_lt, hj, hn]; omega))
        refine iconst (q1 := 68) (v := 1) d20_67 rfl rfl ?_
        refine ret_n (t := .boolean) d20_68 rfl (by simp) rfl ⟨by unfold hlI; rw [if_pos ⟨h1, hnn, fun q hq' => hs q (by omega)⟩]; rfl, rfl⟩
      | succ r ih =>
        intro i j sl hi hj hs
        refine iload_n (q1 := 29) d20_28 rfl rfl ?_
        refine aload_n (q1 := 30) d20_29 rfl rfl rfl ?_
        refine getfield (q1 := 33) d20_30 rfl (ww hw 116 rfl) Via.refl (N.2.2.1) ?_
        refine arraylength (q1 := 34) d20_33 rfl (N.2.2.2.1) hn ?_
        refine icmp_ge (q1 := 37) (q := 67) d20_34 rfl ⟨by decide, rfl⟩ (fun hc => absurd (show j < nI by rw [own_lt, hj, hn]; omega) hc) (fun _ => ?_)
        refine aload_n (q1 := 38) d20_37 rfl rfl rfl ?_
        refine getfield (q1 := 41) d20_38 rfl (ww hw 116 rfl) Via.refl (N.2.2.1) ?_
        refine iload_n (q1 := 42) d20_41 rfl rfl ?_
        refine laload (q1 := 43) d20_42 rfl (N.2.2.2.1) hj (show i < n by omega) rfl ?_
        refine aload_n (q1 := 44) d20_43 rfl rfl rfl ?_
        refine getfield (q1 := 47) d20_44 rfl (ww hw 116 rfl) Via.refl (N'.2.2.1) ?_
        refine iload_n (q1 := 48) d20_47 rfl rfl ?_
        refine laload (q1 := 49) d20_48 rfl (N'.2.2.2.1) hj (show i < n' by omega) rfl ?_
        refine ldc2J (q1 := 52) d20_49 rfl (ww hw 160 rfl) ?_
        refine lxor (q1 := 53) d20_52 rfl ?_
        refine land (q1 := 54) d20_53 rfl ?_
        refine lconst (q1 := 55) (v := 0) d20_54 rfl rfl ?_
        refine lcmp (q1 := 56) d20_55 rfl ?_
        refine if_eq (q1 := 59) (q := 61) d20_56 rfl ⟨by decide, rfl⟩ (fun hz => ?_) (fun hz => ?_)
        · refine iinc (q1 := 64) (v := 1) d20_61 rfl rfl rfl ?_
          simp only [List.set_cons_zero, List.set_cons_succ]
          refine goto (q := 28) d20_64 ⟨by decide, rfl⟩ ?_
          refine ih (i + 1) (j + 1) sl (by omega) (own_succ hj (by omega)) fun q hq' => ?_
          by_cases e : q = i
          · subst e; exact hz
          · exact hs q (by omega)
        · refine iconst (q1 := 60) (v := 0) d20_59 rfl rfl ?_
          refine ret_n (t := .boolean) d20_60 rfl (by simp) rfl ⟨by unfold hlI; rw [if_neg fun q => hz (q.2.2 i (by omega))]; rfl, rfl⟩
    refine iconst (q1 := 27) (v := 0) d20_26 rfl rfl ?_
    refine istore_n (q1 := 28) (jj := 2) d20_27 rfl rfl rfl ?_
    simp only [List.set_cons_zero, List.set_cons_succ]
    exact loop n 0 0 .unset (by omega) rfl fun q hq' => absurd hq' (Nat.not_lt_zero _)
  · exact no fun q => by
      have := q.2.1
      rw [own_lt, hn, hn'] at hq; omega
def ssI (x0 x1 y0 y1 : Int64) : Int32 := if (lcmpW (x0 &&& (y0 ^^^ (-1))) 0 = 0 ∧ lcmpW (x1 &&& (y1 ^^^ (-1))) 0 = 0) ∧ (¬ lcmpW x0 y0 = 0 ∨ ¬ lcmpW x1 y1 = 0) then 1 else 0
set_option maxRecDepth 65536 in
set_option maxHeartbeats 40000000 in
theorem c_ss {l : Launch} {Z : State} {a0 : Array Value} (hw : ∀ d ∈ tables_1, d.before a0 Z = true) {n0 : Nat} {h0 : Heap} {x0 x1 y0 y1 : Int64} : Con l Z n0 (⟨"com/example/medway/medway/NodeHoldsLessThanPinLaw", "strictSubset", "(JJJJ)Z"⟩ : MethodName) method_3_code 10 (some .boolean) ({ frames := 0, cells := 0, slots := 0, locals := 0 } : Room) [.long x0, .long x1, .long y0, .long y1] h0 [] (fun v h' => v = some (.int (ssI x0 x1 y0 y1)) ∧ h' = h0) := by
  refine Con.of (Ls := [.val (.long x0), .second, .val (.long x1), .second, .val (.long y0), .second, .val (.long y1), .second, .unset, .unset]) (by decide +kernel) (fun m => by first | (simp [entryFrame, mkF, argsToLocals, Value.category]; done) | (rcases ref_cases hrw with rfl | ⟨b, rfl⟩ <;> rfl) | rfl) (fun p e s m below meth c => ?_)
  show Wp false p l e ({ frames := 0, cells := 0, slots := 0, locals := 0 } : Room) s m ([.long x0, .long x1, .long y0, .long y1] : List Value).toArray below meth c Z "com/example/medway/medway/NodeHoldsLessThanPinLaw" "strictSubset" method_3_code 10 (some .boolean) n0 h0 [] (fun v h' => v = some (.int (ssI x0 x1 y0 y1)) ∧ h' = h0) (fun _ => True) h0 0 0 0 [.val (.long x0), .second, .val (.long x1), .second, .val (.long y0), .second, .val (.long y1), .second, .unset, .unset] []
  have fin : ∀ u d : Int32, (u = 0 ∨ u = 1) → (d = 0 ∨ d = 1) → (u = 1 ↔ (lcmpW (x0 &&& (y0 ^^^ (-1))) 0 = 0 ∧ lcmpW (x1 &&& (y1 ^^^ (-1))) 0 = 0)) → (d = 1 ↔ (¬ lcmpW x0 y0 = 0 ∨ ¬ lcmpW x1 y1 = 0)) → Wp false p l e ({ frames := 0, cells := 0, slots := 0, locals := 0 } : Room) s m ([.long x0, .long x1, .long y0, .long y1] : List Value).toArray below meth c Z "com/example/medway/medway/NodeHoldsLessThanPinLaw" "strictSubset" method_3_code 10 (some .boolean) n0 h0 [] (fun v h' => v = some (.int (ssI x0 x1 y0 y1)) ∧ h' = h0) (fun _ => True) h0 0 0 54 [.val (.long x0), .second, .val (.long x1), .second, .val (.long y0), .second, .val (.long y1), .second, .val (.int u), .val (.int d)] [] := by
    intro u d hu hd h1 h2
    refine iload (q1 := 56) d21_54 rfl rfl ?_
    refine if_eq (q1 := 59) (q := 68) d21_56 rfl ⟨by decide, rfl⟩ (fun hq => ?_) (fun hq => ?_)
    · refine iconst (q1 := 69) (v := 0) d21_68 rfl rfl ?_
      refine ret_n (t := .boolean) d21_69 rfl (by simp) rfl ⟨by unfold ssI; rw [if_neg fun q => absurd (h1.mpr q.1) (by rw [hq]; decide)]; rfl, rfl⟩
    · refine iload (q1 := 61) d21_59 rfl rfl ?_
      refine if_eq (q1 := 64) (q := 68) d21_61 rfl ⟨by decide, rfl⟩ (fun hq' => ?_) (fun hq' => ?_)
      · refine iconst (q1 := 69) (v := 0) d21_68 rfl rfl ?_
        refine ret_n (t := .boolean) d21_69 rfl (by simp) rfl ⟨by unfold ssI; rw [if_neg fun q => absurd (h2.mpr q.2) (by rw [hq']; decide)]; rfl, rfl⟩
      · refine iconst (q1 := 65) (v := 1) d21_64 rfl rfl ?_
        refine goto (q := 69) d21_65 ⟨by decide, rfl⟩ ?_
        refine ret_n (t := .boolean) d21_69 rfl (by simp) rfl ⟨by unfold ssI; rw [if_pos ⟨h1.mp (hu.resolve_left hq), h2.mp (hd.resolve_left hq')⟩]; rfl, rfl⟩
  have mid : ∀ u : Int32, (u = 0 ∨ u = 1) → (u = 1 ↔ (lcmpW (x0 &&& (y0 ^^^ (-1))) 0 = 0 ∧ lcmpW (x1 &&& (y1 ^^^ (-1))) 0 = 0)) → Wp false p l e ({ frames := 0, cells := 0, slots := 0, locals := 0 } : Room) s m ([.long x0, .long x1, .long y0, .long y1] : List Value).toArray below meth c Z "com/example/medway/medway/NodeHoldsLessThanPinLaw" "strictSubset" method_3_code 10 (some .boolean) n0 h0 [] (fun v h' => v = some (.int (ssI x0 x1 y0 y1)) ∧ h' = h0) (fun _ => True) h0 0 0 31 [.val (.long x0), .second, .val (.long x1), .second, .val (.long y0), .second, .val (.long y1), .second, .unset, .unset] [.int u] := by
    intro u hu h1
    refine istore (q1 := 33) d21_31 rfl rfl ?_
    simp only [List.set_cons_zero, List.set_cons_succ]
    refine lload_n (q1 := 34) d21_33 rfl rfl ?_
    refine lload (q1 := 36) d21_34 rfl rfl ?_
    refine lcmp (q1 := 37) d21_36 rfl ?_
    refine if_ne (q1 := 40) (q := 47) d21_37 rfl ⟨by decide, rfl⟩ (fun hq => ?_) (fun hq => ?_)
    · refine iconst (q1 := 48) (v := 1) d21_47 rfl rfl ?_
      refine goto (q := 52) d21_48 ⟨by decide, rfl⟩ ?_
      refine istore (q1 := 54) d21_52 rfl rfl ?_
      simp only [List.set_cons_zero, List.set_cons_succ]
      exact fin _ _ hu (Or.inr rfl) h1 ⟨fun _ => Or.inl hq, fun _ => rfl⟩
    · refine lload_n (q1 := 41) d21_40 rfl rfl ?_
      refine lload (q1 := 43) d21_41 rfl rfl ?_
      refine lcmp (q1 := 44) d21_43 rfl ?_
      refine if_eq (q1 := 47) (q := 51) d21_44 rfl ⟨by decide, rfl⟩ (fun hq' => ?_) (fun hq' => ?_)
      · refine iconst (q1 := 52) (v := 0) d21_51 rfl rfl ?_
        refine istore (q1 := 54) d21_52 rfl rfl ?_
        simp only [List.set_cons_zero, List.set_cons_succ]
        exact fin _ _ hu (Or.inl rfl) h1 ⟨fun e => absurd e (by decide), fun e => (e.elim (fun z => z hq) (fun z => z hq')).elim⟩
      · refine iconst (q1 := 48) (v := 1) d21_47 rfl rfl ?_
        refine goto (q := 52) d21_48 ⟨by decide, rfl⟩ ?_
        refine istore (q1 := 54) d21_52 rfl rfl ?_
        simp only [List.set_cons_zero, List.set_cons_succ]
        exact fin _ _ hu (Or.inr rfl) h1 ⟨fun _ => Or.inr hq', fun _ => rfl⟩
  refine lload_n (q1 := 1) d21_0 rfl rfl ?_
  refine lload (q1 := 3) d21_1 rfl rfl ?_
  refine ldc2J (q1 := 6) d21_3 rfl (ww hw 159 rfl) ?_
  refine lxor (q1 := 7) d21_6 rfl ?_
  refine land (q1 := 8) d21_7 rfl ?_
  refine lconst (q1 := 9) (v := 0) d21_8 rfl rfl ?_
  refine lcmp (q1 := 10) d21_9 rfl ?_
  refine if_ne (q1 := 13) (q := 30) d21_10 rfl ⟨by decide, rfl⟩ (fun hq => ?_) (fun hq => ?_)
  · refine iconst (q1 := 31) (v := 0) d21_30 rfl rfl ?_
    exact mid 0 (Or.inl rfl) ⟨fun e => absurd e (by decide), fun e => (hq e.1).elim⟩
  · refine lload_n (q1 := 14) d21_13 rfl rfl ?_
    refine lload (q1 := 16) d21_14 rfl rfl ?_
    refine ldc2J (q1 := 19) d21_16 rfl (ww hw 159 rfl) ?_
    refine lxor (q1 := 20) d21_19 rfl ?_
    refine land (q1 := 21) d21_20 rfl ?_
    refine lconst (q1 := 22) (v := 0) d21_21 rfl rfl ?_
    refine lcmp (q1 := 23) d21_22 rfl ?_
    refine if_ne (q1 := 26) (q := 30) d21_23 rfl ⟨by decide, rfl⟩ (fun hq' => ?_) (fun hq' => ?_)
    · refine iconst (q1 := 31) (v := 0) d21_30 rfl rfl ?_
      exact mid 0 (Or.inl rfl) ⟨fun e => absurd e (by decide), fun e => (hq' e.2).elim⟩
    · refine iconst (q1 := 27) (v := 1) d21_26 rfl rfl ?_
      refine goto (q := 31) d21_27 ⟨by decide, rfl⟩ ?_
      exact mid 1 (Or.inr rfl) ⟨fun _ => ⟨hq, hq'⟩, fun _ => rfl⟩
def p4 (d : Nat) : Nat := ((d - ((d / 2) &&& 5)) &&& 3) + (((d - ((d / 2) &&& 5)) / 4) &&& 3)
def m5 : Nat → Nat
  | 0 => 0
  | k + 1 => 16 * m5 k + 5
def m3 : Nat → Nat
  | 0 => 0
  | k + 1 => 16 * m3 k + 3
def m15 : Nat → Nat
  | 0 => 0
  | k + 1 => 256 * m15 k + 15
def Pn : Nat → Nat → Nat
  | 0, _ => 0
  | k + 1, X => 16 * Pn k (X / 16) + p4 (X % 16)
def Bn : Nat → Nat → Nat
  | 0, _ => 0
  | k + 1, X => 256 * Bn k (X / 16 / 16) + (p4 (X % 16) + p4 (X / 16 % 16))
def cnt : Nat → Nat → Nat
  | 0, _ => 0
  | k + 1, X => p4 (X % 16) + cnt k (X / 16)
theorem p4_fin : ∀ d, d < 16 → p4 d ≤ 4 ∧ (d / 2 &&& 5) ≤ d ∧ d - ((d / 2) &&& 5) < 16 := by decide
theorem p4_le (X : Nat) : p4 (X % 16) ≤ 4 := (p4_fin _ (Nat.mod_lt _ (by decide))).1
theorem and16 {A a M m : Nat} (ha : a < 16) (hm : m < 16) : (16 * A + a) &&& (16 * M + m) = 16 * (A &&& M) + (a &&& m) := by
  have e1 : ((16 * A + a) &&& (16 * M + m)) / 2 ^ 4 = A &&& M := by
    rw [Nat.and_div_two_pow]; congr 1 <;> omega
  have e2 : ((16 * A + a) &&& (16 * M + m)) % 2 ^ 4 = a &&& m := by
    rw [Nat.and_mod_two_pow]; congr 1 <;> omega
  have e3 := Nat.div_add_mod ((16 * A + a) &&& (16 * M + m)) (2 ^ 4)
  rw [e1, e2] at e3
  omega
theorem fin5 : ∀ t, t < 2 → ∀ d, d < 16 → (t * 8 + d / 2) &&& 5 = (d / 2) &&& 5 := by decide
theorem fin3 : ∀ t, t < 4 → ∀ d, d < 16 → (t * 4 + d / 4) &&& 3 = (d / 4) &&& 3 := by decide
def S1 (k X : Nat) : Nat := X - ((X / 2) &&& m5 k)
def S2 (k S : Nat) : Nat := (S &&& m3 k) + ((S / 4) &&& m3 k)
theorem S1_step (k Y d : Nat) (hd : d < 16) : S1 (k + 1) (16 * Y + d) = 16 * S1 k Y + (d - ((d / 2) &&& 5)) := by
  unfold S1
  have e : (16 * Y + d) / 2 = 16 * (Y / 2) + ((Y % 2) * 8 + d / 2) := by omega
  have e2 : m5 (k + 1) = 16 * m5 k + 5 := rfl
  rw [e, e2, and16 (by omega) (by decide), fin5 (Y % 2) (by omega) d hd]
  have l1 : (Y / 2) &&& m5 k ≤ Y / 2 := Nat.and_le_left
  have l2 := (p4_fin d hd).2.1
  omega
theorem S2_step (k T c : Nat) (hc : c < 16) : S2 (k + 1) (16 * T + c) = 16 * S2 k T + ((c &&& 3) + ((c / 4) &&& 3)) := by
  unfold S2
  have e : (16 * T + c) / 4 = 16 * (T / 4) + ((T % 4) * 4 + c / 4) := by omega
  have e2 : m3 (k + 1) = 16 * m3 k + 3 := rfl
  rw [e, e2, and16 hc (by decide), and16 (by omega) (by decide), fin3 (T % 4) (by omega) c hc]
  omega
theorem S_eq : ∀ k X, S2 k (S1 k X) = Pn k X
  | 0, X => by simp [S2, m3, Pn]
  | k + 1, X => by
    have hd : X % 16 < 16 := Nat.mod_lt _ (by decide)
    have e : X = 16 * (X / 16) + X % 16 := by omega
    have h := S1_step k (X / 16) (X % 16) hd
    rw [← e] at h
    rw [h, S2_step k _ _ (p4_fin _ hd).2.2, S_eq k]; rfl
theorem Pn_two (k X : Nat) : Pn (k + 2) X = 256 * Pn k (X / 16 / 16) + (16 * p4 (X / 16 % 16) + p4 (X % 16)) := by
  show 16 * (16 * Pn k (X / 16 / 16) + p4 (X / 16 % 16)) + p4 (X % 16) = _
  omega
theorem Pn_mod (k X : Nat) : Pn k X % 16 ≤ 4 := by
  cases k with
  | zero => simp [Pn]
  | succ k =>
    have := p4_le X
    show (16 * Pn k (X / 16) + p4 (X % 16)) % 16 ≤ 4
    omega
theorem and256 {A a M m : Nat} (ha : a < 256) (hm : m < 256) : (256 * A + a) &&& (256 * M + m) = 256 * (A &&& M) + (a &&& m) := by
  have e1 : ((256 * A + a) &&& (256 * M + m)) / 2 ^ 8 = A &&& M := by
    rw [Nat.and_div_two_pow]; congr 1 <;> omega
  have e2 : ((256 * A + a) &&& (256 * M + m)) % 2 ^ 8 = a &&& m := by
    rw [Nat.and_mod_two_pow]; congr 1 <;> omega
  have e3 := Nat.div_add_mod ((256 * A + a) &&& (256 * M + m)) (2 ^ 8)
  rw [e1, e2] at e3
  omega
theorem B_eq : ∀ k X, ((Pn (2 * k) X + Pn (2 * k) X / 16) &&& m15 k) = Bn k X
  | 0, X => by simp [m15, Bn]
  | k + 1, X => by
    have a1 := p4_le X
    have a2 := p4_le (X / 16)
    have a3 := Pn_mod (2 * k) (X / 16 / 16)
    have e : 2 * (k + 1) = 2 * k + 2 := by omega
    rw [e, Pn_two]
    have ih := B_eq k (X / 16 / 16)
    generalize Pn (2 * k) (X / 16 / 16) = T at *
    generalize hB : p4 (X / 16 % 16) = b at *
    generalize hA : p4 (X % 16) = a at *
    have e1 : 256 * T + (16 * b + a) + (256 * T + (16 * b + a)) / 16 = 256 * (T + T / 16) + (16 * (T % 16 + b) + (a + b)) := by omega
    have e2 : m15 (k + 1) = 256 * m15 k + (2 ^ 4 - 1) := rfl
    rw [e1, e2, and256 (by omega) (by decide), Nat.and_two_pow_sub_one_eq_mod, ih]
    show _ = 256 * Bn k (X / 16 / 16) + (p4 (X % 16) + p4 (X / 16 % 16))
    rw [hA, hB]
    omega
theorem p4_mono : ∀ a, a < 16 → ∀ b, b < 16 → a &&& b = a → p4 a ≤ p4 b ∧ (p4 a = p4 b → a = b) := by decide
theorem cnt_mono : ∀ k X Y, X &&& Y = X → cnt k X ≤ cnt k Y ∧ (X < 16 ^ k → Y < 16 ^ k → cnt k X = cnt k Y → X = Y)
  | 0, X, Y, h => ⟨Nat.le_refl _, fun h1 h2 _ => by simp at h1 h2; omega⟩
  | k + 1, X, Y, h => by
    have e1 : X / 16 &&& Y / 16 = X / 16 := by
      have := congrArg (· / 2 ^ 4) h
      simp only [Nat.and_div_two_pow] at this; exact this
    have e2 : X % 16 &&& Y % 16 = X % 16 := by
      have := congrArg (· % 2 ^ 4) h
      simp only [Nat.and_mod_two_pow] at this; exact this
    obtain ⟨i1, i2⟩ := cnt_mono k (X / 16) (Y / 16) e1
    obtain ⟨j1, j2⟩ := p4_mono (X % 16) (Nat.mod_lt _ (by decide)) (Y % 16) (Nat.mod_lt _ (by decide)) e2
    refine ⟨by show p4 (X % 16) + cnt k (X / 16) ≤ p4 (Y % 16) + cnt k (Y / 16); omega, fun h1 h2 h3 => ?_⟩
    have h3' : p4 (X % 16) + cnt k (X / 16) = p4 (Y % 16) + cnt k (Y / 16) := h3
    have a := j2 (by omega)
    have b := i2 (by rw [Nat.pow_succ] at h1; omega) (by rw [Nat.pow_succ] at h2; omega) (by omega)
    omega
theorem sum8b {c0 c1 c2 c3 c4 c5 c6 c7 : Nat} (h0 : c0 ≤ 8) (h1 : c1 ≤ 8) (h2 : c2 ≤ 8) (h3 : c3 ≤ 8) (h4 : c4 ≤ 8) (h5 : c5 ≤ 8) (h6 : c6 ≤ 8) (h7 : c7 ≤ 8) : c0 + c1 + c2 + c3 + c4 + c5 + c6 + c7 < 128 := by omega
theorem sum8 {c0 c1 c2 c3 c4 c5 c6 c7 W Q1 Q2 Q3 Q4 Q5 Q6 : Nat} (h0 : c0 ≤ 8) (h1 : c1 ≤ 8) (h2 : c2 ≤ 8) (h3 : c3 ≤ 8) (h4 : c4 ≤ 8) (h5 : c5 ≤ 8) (h6 : c6 ≤ 8) (h7 : c7 ≤ 8)
    (hW : W = 256 * Q1 + c0) (q1 : Q1 = 256 * Q2 + c1) (q2 : Q2 = 256 * Q3 + c2) (q3 : Q3 = 256 * Q4 + c3) (q4 : Q4 = 256 * Q5 + c4) (q5 : Q5 = 256 * Q6 + c5) (q6 : Q6 = 256 * c7 + c6) :
    W < 2 ^ 60 ∧ ((W + W / 256) + (W + W / 256) / 65536 + ((W + W / 256) + (W + W / 256) / 65536) / 4294967296) % 128 = c0 + c1 + c2 + c3 + c4 + c5 + c6 + c7 := by
  constructor
  · omega
  · have d1 : W / 256 = Q1 := by omega
    have d2 : (W + Q1) / 65536 = Q2 + Q3 := by omega
    have eU : W + Q1 + (Q2 + Q3) = 4294967296 * (Q4 + Q5 + Q6 + c7) + (65536 * (256 * (c3 + c4) + (c2 + c3)) + 65536 * (256 * (c5 + c6) + (c4 + c5)) + 256 * (c3 + c4) + (c2 + c3) + 256 * (c1 + c2) + (c0 + c1)) := by omega
    have d3 : (W + Q1 + (Q2 + Q3)) / 4294967296 = Q4 + Q5 + Q6 + c7 := by
      rw [eU, Nat.mul_add_div (by decide), Nat.div_eq_of_lt (by omega)]; omega
    rw [d1, d2, d3]
    have e1 : (W + Q1 + (Q2 + Q3) + (Q4 + Q5 + Q6 + c7)) % 128 = (c0 + c1 + c2 + c3 + c4 + c5 + c6 + c7) % 128 := by
      clear d1 d2 d3 eU; omega
    rw [e1]; exact Nat.mod_eq_of_lt (sum8b h0 h1 h2 h3 h4 h5 h6 h7)
def tn (x : Int64) : Nat := x.toBitVec.toNat
theorem N_sub (x y : Int64) : tn (x - y) = (2^64 - tn y + tn x) % 2^64 := by
  show (x.toBitVec - y.toBitVec).toNat = _
  rw [BitVec.toNat_sub]; rfl
theorem N_add (x y : Int64) : tn (x + y) = (tn x + tn y) % 2^64 := by
  show (x.toBitVec + y.toBitVec).toNat = _
  rw [BitVec.toNat_add]; rfl
theorem N_and (x y : Int64) : tn (x &&& y) = tn x &&& tn y := by
  show (x.toBitVec &&& y.toBitVec).toNat = _
  rw [BitVec.toNat_and]; rfl
theorem N_us (x : Int64) (y : Int32) (k : Nat) (h : (y &&& 0x3f).toInt64.toUInt64.toNat = k) (hk : k < 64) : tn (us x y) = tn x / 2^k := by
  show (x.toUInt64 >>> (y &&& 0x3f).toInt64.toUInt64).toNat = _
  rw [UInt64.toNat_shiftRight, h, Nat.mod_eq_of_lt hk, Nat.shiftRight_eq_div_pow]; rfl
theorem N_lt (x : Int64) : tn x < 2^64 := x.toBitVec.isLt

theorem N_b1 (x : Int64) : tn (b1 x) = S1 16 (tn x) := by
  unfold b1 S1
  have e : tn 6148914691236517205 = m5 16 := by decide
  rw [N_sub, N_and, N_us x 1 1 rfl (by decide), e]
  have l1 : (tn x / 2 ^ 1) &&& m5 16 ≤ tn x / 2 ^ 1 := Nat.and_le_left
  have l2 := N_lt x
  have e2 : (2 : Nat) ^ 1 = 2 := rfl
  rw [e2] at l1 ⊢
  generalize (tn x / 2) &&& m5 16 = z at *
  omega
theorem N_b2 (x : Int64) : tn (b2 x) = S2 16 (tn x) := by
  unfold b2 S2
  have e : tn 3689348814741910323 = m3 16 := by decide
  rw [N_add, N_and, N_and, N_us x 2 2 rfl (by decide), e]
  have l1 : tn x &&& m3 16 ≤ m3 16 := Nat.and_le_right
  have l2 : (tn x / 2 ^ 2) &&& m3 16 ≤ m3 16 := Nat.and_le_right
  have e3 : m3 16 = 3689348814741910323 := by decide
  exact Nat.mod_eq_of_lt (by omega)
theorem N_b3 (x : Int64) (h : tn x ≤ 2 * m3 16) : tn (b3 x) = ((tn x + tn x / 16) &&& m15 8) := by
  unfold b3
  have e : tn 1085102592571150095 = m15 8 := by decide
  have e3 : m3 16 = 3689348814741910323 := by decide
  rw [N_and, N_add, N_us x 4 4 rfl (by decide), e, Nat.mod_eq_of_lt (by omega)]
theorem N_b21 (x : Int64) : tn (b2 (b1 x)) = Pn 16 (tn x) ∧ tn (b2 (b1 x)) ≤ 2 * m3 16 := by
  have e := N_b2 (b1 x)
  refine ⟨by rw [e, N_b1]; exact S_eq 16 _, ?_⟩
  rw [e]; unfold S2
  have l1 : tn (b1 x) &&& m3 16 ≤ m3 16 := Nat.and_le_right
  have l2 : (tn (b1 x) / 4) &&& m3 16 ≤ m3 16 := Nat.and_le_right
  omega
theorem N_b321 (x : Int64) : tn (b3 (b2 (b1 x))) = Bn 8 (tn x) := by
  obtain ⟨h1, h2⟩ := N_b21 x
  rw [N_b3 _ h2, h1]; exact B_eq 8 _
theorem and127 (x : Int64) : (x.toInt32 &&& 127).toInt = ((tn x % 128 : Nat) : Int) := by
  have h : (x.toInt32 &&& 127).toBitVec.toNat = tn x % 128 := by
    show (x.toInt32.toBitVec &&& (127 : Int32).toBitVec).toNat = _
    rw [BitVec.toNat_and]
    have e1 : (127 : Int32).toBitVec.toNat = 2 ^ 7 - 1 := rfl
    have e2 : x.toInt32.toBitVec.toNat = tn x % 2 ^ 32 := by
      show (x.toBitVec.signExtend 32).toNat = _
      rw [BitVec.signExtend_eq_setWidth_of_le _ (by decide), BitVec.toNat_setWidth]; rfl
    rw [e1, Nat.and_two_pow_sub_one_eq_mod, e2]; omega
  show (x.toInt32 &&& 127).toBitVec.toInt = _
  rw [BitVec.toInt_eq_toNat_cond, h, if_pos (by omega)]
def cc (Y : Nat) : Nat := p4 (Y % 16) + p4 (Y / 16 % 16)
theorem cc_le (Y : Nat) : cc Y ≤ 8 := by
  have h1 := p4_le Y
  have h2 := p4_le (Y / 16)
  unfold cc; omega
theorem cnt_cc (k Y : Nat) : cnt (k + 2) Y = cc Y + cnt k (Y / 16 / 16) := by
  show p4 (Y % 16) + (p4 (Y / 16 % 16) + cnt k (Y / 16 / 16)) = _
  unfold cc; omega
theorem Bn_cc (k Y : Nat) : Bn (k + 1) Y = 256 * Bn k (Y / 16 / 16) + cc Y := rfl
theorem cnt16 (X W : Nat) (hW : W = Bn 8 X) : W < 2 ^ 60 ∧ ((W + W / 256) + (W + W / 256) / 65536 + ((W + W / 256) + (W + W / 256) / 65536) / 4294967296) % 128 = cnt 16 X := by
  have e : cnt 16 X = cc X + cc (X / 16 / 16) + cc (X / 16 / 16 / 16 / 16) + cc (X / 16 / 16 / 16 / 16 / 16 / 16) + cc (X / 16 / 16 / 16 / 16 / 16 / 16 / 16 / 16) + cc (X / 16 / 16 / 16 / 16 / 16 / 16 / 16 / 16 / 16 / 16) + cc (X / 16 / 16 / 16 / 16 / 16 / 16 / 16 / 16 / 16 / 16 / 16 / 16) + cc (X / 16 / 16 / 16 / 16 / 16 / 16 / 16 / 16 / 16 / 16 / 16 / 16 / 16 / 16) := by
    rw [cnt_cc 14, cnt_cc 12, cnt_cc 10, cnt_cc 8, cnt_cc 6, cnt_cc 4, cnt_cc 2, cnt_cc 0]
    simp only [cnt, Nat.add_zero, Nat.add_assoc]
  rw [e]
  refine sum8 (cc_le _) (cc_le _) (cc_le _) (cc_le _) (cc_le _) (cc_le _) (cc_le _) (cc_le _) (hW.trans (Bn_cc 7 X)) (Bn_cc 6 _) (Bn_cc 5 _) (Bn_cc 4 _) (Bn_cc 3 _) (Bn_cc 2 _) ((Bn_cc 1 _).trans ?_)
  rw [Bn_cc 0]; simp only [Bn, Nat.mul_zero, Nat.zero_add]
theorem bcL_eq (x : Int64) : (bcL x).toInt = (cnt 16 (tn x) : Int) := by
  unfold bcL
  rw [and127]
  have e := N_b321 x
  generalize b3 (b2 (b1 x)) = w at *
  obtain ⟨h1, h2⟩ := cnt16 (tn x) (tn w) e
  have e4 : tn (b4 w) = tn w + tn w / 256 := by
    unfold b4; rw [N_add, N_us w 8 8 rfl (by decide)]; exact Nat.mod_eq_of_lt (by omega)
  have e5 : tn (b5 (b4 w)) = tn (b4 w) + tn (b4 w) / 65536 := by
    unfold b5; rw [N_add, N_us _ 16 16 rfl (by decide)]; exact Nat.mod_eq_of_lt (by omega)
  have e6 : tn (b6 (b5 (b4 w))) = tn (b5 (b4 w)) + tn (b5 (b4 w)) / 4294967296 := by
    unfold b6; rw [N_add, N_us _ 32 32 rfl (by decide)]; exact Nat.mod_eq_of_lt (by omega)
  rw [e6, e5, e4, h2]

theorem lc0 {x y : Int64} : lcmpW x y = 0 ↔ x = y := by
  unfold lcmpW
  by_cases h : x > y
  · rw [if_pos h]
    exact ⟨fun e => absurd e (by decide), fun e => by subst e; exact absurd h (by simp)⟩
  · rw [if_neg h]
    by_cases e : x = y
    · simp [e]
    · rw [if_neg e]; exact ⟨fun q => absurd q (by decide), fun q => absurd q e⟩
theorem N_inj {x y : Int64} (h : tn x = tn y) : x = y := by
  have e : x.toBitVec = y.toBitVec := BitVec.eq_of_toNat_eq h
  exact Int64.toBitVec_inj.mp e
theorem sub_and {x y : Int64} (h : x &&& (y ^^^ (-1)) = 0) : x &&& y = x := by
  have h2 := congrArg Int64.toBitVec h
  rw [← Int64.toBitVec_inj]
  rw [Int64.toBitVec_and]
  rw [Int64.toBitVec_and, Int64.toBitVec_xor] at h2
  have e : (Int64.toBitVec (-1)) = BitVec.allOnes 64 := by decide
  rw [e, BitVec.xor_allOnes] at h2
  apply BitVec.eq_of_getLsbD_eq
  intro i hi
  have h3 := congrArg (fun b : BitVec 64 => b.getLsbD i) h2
  simp only [BitVec.getLsbD_and, BitVec.getLsbD_not, hi, decide_true, Bool.true_and] at h3
  rw [BitVec.getLsbD_and]
  have h4 : (Int64.toBitVec 0).getLsbD i = false := by
    have e0 : Int64.toBitVec 0 = 0#64 := by decide
    rw [e0]; simp
  rw [h4] at h3
  generalize x.toBitVec.getLsbD i = a at *
  generalize y.toBitVec.getLsbD i = b at *
  cases a <;> cases b <;> simp_all
theorem bc_sub {x y : Int64} (h : x &&& (y ^^^ (-1)) = 0) : (bcL x).toInt ≤ (bcL y).toInt ∧ ((bcL x).toInt = (bcL y).toInt → x = y) := by
  have e := congrArg tn (sub_and h)
  rw [N_and] at e
  obtain ⟨m1, m2⟩ := cnt_mono 16 _ _ e
  rw [bcL_eq, bcL_eq]
  refine ⟨by omega, fun q => N_inj (m2 ?_ ?_ (by omega))⟩
  · exact N_lt x
  · exact N_lt y
theorem p4c_le (k X : Nat) : cnt k X ≤ 4 * k := by
  induction k generalizing X with
  | zero => exact Nat.le_refl _
  | succ k ih =>
    have h1 := p4_le X
    have h2 := ih (X / 16)
    show p4 (X % 16) + cnt k (X / 16) ≤ _
    omega
theorem bc_rng (x : Int64) : 0 ≤ (bcL x).toInt ∧ (bcL x).toInt ≤ 64 := by
  rw [bcL_eq]; have := p4c_le 16 (tn x); omega
theorem cd_eq (x0 x1 : Int64) : (cdI (vn x0 x1) (g2 x0 x1)).toInt = (bcL x0).toInt + (bcL x1).toInt := by
  have z : (bcL 0).toInt = 0 := by decide +kernel
  have z0 : (0 : Int32).toInt = 0 := rfl
  have r0 := bc_rng x0
  have r1 := bc_rng x1
  have a0 : (0 + bcL x0).toInt = (bcL x0).toInt := by rw [XT.add32 (by rw [z0]; constructor <;> omega), z0]; omega
  unfold cdI vn
  by_cases h1 : x1 = 0
  · by_cases h0 : x0 = 0
    · simp only [if_pos (lc0.mpr h1), if_pos (lc0.mpr h0)]
      subst h0; subst h1; rw [z]; rfl
    · simp only [if_pos (lc0.mpr h1), if_neg (fun q => h0 (lc0.mp q))]
      subst h1; rw [z, if_neg (by decide), if_pos trivial]
      show (0 + bcL x0).toInt = _
      rw [a0]; omega
  · simp only [if_neg (fun q => h1 (lc0.mp q))]
    rw [if_neg (by decide), if_neg (by decide)]
    show (0 + bcL x0 + bcL x1).toInt = _
    rw [XT.add32 (by rw [a0]; constructor <;> omega), a0]
theorem vn_cases (x0 x1 : Int64) : (x1 ≠ 0 → vn x0 x1 = 2) ∧ (x0 ≠ 0 → 1 ≤ vn x0 x1) ∧ (vn x0 x1 = 2 → x1 ≠ 0) ∧ (1 ≤ vn x0 x1 → x0 ≠ 0 ∨ x1 ≠ 0) ∧ vn x0 x1 ≤ 2 := by
  unfold vn
  by_cases h1 : x1 = 0
  · by_cases h0 : x0 = 0
    · simp only [if_pos (lc0.mpr h1), if_pos (lc0.mpr h0)]
      exact ⟨fun q => absurd h1 q, fun q => absurd h0 q, fun q => absurd q (by decide), fun q => absurd q (by decide), by decide⟩
    · simp only [if_pos (lc0.mpr h1), if_neg (fun q => h0 (lc0.mp q))]
      exact ⟨fun q => absurd h1 q, fun q => by decide, fun q => absurd q (by decide), fun q => Or.inl h0, by decide⟩
  · simp only [if_neg (fun q => h1 (lc0.mp q))]
    exact ⟨fun _ => trivial, fun _ => by decide, fun _ => h1, fun _ => Or.inr h1, by decide⟩
theorem own_law (x0 x1 y0 y1 : Int64) : hlI (cdI (vn x0 x1) (g2 x0 x1)) (cdI (vn y0 y1) (g2 y0 y1)) (vn x0 x1) (vn y0 y1) (g2 x0 x1) (g2 y0 y1) = ssI x0 x1 y0 y1 := by
  obtain ⟨u1, u2, u3, u4, u5⟩ := vn_cases x0 x1
  obtain ⟨w1, w2, w3, w4, w5⟩ := vn_cases y0 y1
  have z : ∀ y : Int64, (0 : Int64) &&& y = 0 := fun y => by simp
  unfold ssI hlI
  by_cases s0 : x0 &&& (y0 ^^^ (-1)) = 0
  · by_cases s1 : x1 &&& (y1 ^^^ (-1)) = 0
    · obtain ⟨b1, b2⟩ := bc_sub s0
      obtain ⟨c1, c2⟩ := bc_sub s1
      by_cases e : x0 = y0 ∧ x1 = y1
      · obtain ⟨rfl, rfl⟩ := e
        rw [if_neg (fun q => absurd q.1 (by rw [own_lt]; omega)), if_neg (fun q => q.2.elim (fun r => r (lc0.mpr rfl)) (fun r => r (lc0.mpr rfl)))]
      · have hd : ¬ lcmpW x0 y0 = 0 ∨ ¬ lcmpW x1 y1 = 0 := by
          by_cases e0 : x0 = y0
          · exact Or.inr fun q => e ⟨e0, lc0.mp q⟩
          · exact Or.inl fun q => e0 (lc0.mp q)
        have hlt : (bcL x0).toInt + (bcL x1).toInt < (bcL y0).toInt + (bcL y1).toInt := by
          by_cases q0 : (bcL x0).toInt = (bcL y0).toInt
          · by_cases q1 : (bcL x1).toInt = (bcL y1).toInt
            · exact absurd ⟨b2 q0, c2 q1⟩ e
            · omega
          · omega
        have n0 : x0 ≠ 0 → y0 ≠ 0 := fun h hy => h (by have := sub_and s0; rw [hy] at this; rw [← this]; simp)
        have n1 : x1 ≠ 0 → y1 ≠ 0 := fun h hy => h (by have := sub_and s1; rw [hy] at this; rw [← this]; simp)
        have hle : vn x0 x1 ≤ vn y0 y1 := by
          by_cases h2 : vn x0 x1 = 2
          · have := w1 (n1 (u3 h2)); omega
          · by_cases h1 : 1 ≤ vn x0 x1
            · rcases u4 h1 with h | h
              · have := w2 (n0 h); omega
              · exact absurd (u1 h) h2
            · omega
        have hall : ∀ i, i < vn x0 x1 → sub1 (g2 x0 x1) (g2 y0 y1) i := fun i hi => by
          have hi2 : i = 0 ∨ i = 1 := by omega
          rcases hi2 with rfl | rfl
          · exact lc0.mpr s0
          · exact lc0.mpr s1
        rw [if_pos ⟨by rw [own_lt, cd_eq, cd_eq]; exact hlt, hle, hall⟩, if_pos ⟨⟨lc0.mpr s0, lc0.mpr s1⟩, hd⟩]
    · have hx : x1 ≠ 0 := fun h => s1 (by rw [h]; exact z _)
      rw [if_neg (fun q => s1 (lc0.mp (q.2.2 1 (by have := u1 hx; omega)))), if_neg (fun q => s1 (lc0.mp q.1.2))]
  · have hx : x0 ≠ 0 := fun h => s0 (by rw [h]; exact z _)
    rw [if_neg (fun q => s0 (lc0.mp (q.2.2 0 (by have := u2 hx; omega)))), if_neg (fun q => s0 (lc0.mp q.1.1))]
theorem own_SA {Z : State} {a0 : Array Value} (hw : ∀ d ∈ tables_1, d.before a0 Z = true) : ∀ d ∈ Bundle.stringAtoms, d.before a0 Z = true := fun d hd => by
  simp only [Bundle.stringAtoms, List.mem_cons, List.not_mem_nil, or_false] at hd
  rcases hd with rfl | rfl | rfl | rfl | rfl | rfl | rfl
  · exact (ww hw 4 rfl)
  · exact (ww hw 5 rfl)
  · exact (ww hw 6 rfl)
  · exact (ww hw 7 rfl)
  · exact (ww hw 8 rfl)
  · exact (ww hw 9 rfl)
  · exact (ww hw 10 rfl)
theorem nin1 {x y : Addr} (h : x ≠ y) : x ∉ [y] := fun hm => h (List.mem_singleton.mp hm)
theorem vn3 (x0 x1 : Int64) : (vn x0 x1 = 0 ∧ vI x0 x1 = 0) ∨ (vn x0 x1 = 1 ∧ vI x0 x1 = 1) ∨ (vn x0 x1 = 2 ∧ vI x0 x1 = 2) := by
  unfold vn vI
  by_cases h1 : lcmpW x1 0 = 0
  · by_cases h2 : lcmpW x0 0 = 0
    · simp [h1, h2]
    · simp [h1, h2]
  · simp [h1]
theorem vn_le (x0 x1 : Int64) : vn x0 x1 ≤ 2 := by rcases vn3 x0 x1 with h | h | h <;> omega
set_option maxRecDepth 65536 in
set_option maxHeartbeats 40000000 in
theorem law {l : Launch} {Z : State} {a0 : Array Value} (hw : ∀ d ∈ tables_1, d.before a0 Z = true) {n0 : Nat} {h0 : Heap} {p1 p2 p3 p4 : Int64} {p5 : Int32} (S : AOff Z) : ConW l Z n0 x code maxLocals ret room_1 [.long p1, .long p2, .long p3, .long p4, .int p5] h0 [] (fun _ => True) (fun v h' => v = some (.int 1)) := by
  refine ConW.of (Ls := [.val (.long p1), .second, .val (.long p2), .second, .val (.long p3), .second, .val (.long p4), .second, .val (.int p5), .unset, .unset, .unset, .unset, .unset, .unset, .unset, .unset, .unset, .unset, .unset, .unset, .unset]) (by decide +kernel) (fun m => by first | (simp [entryFrame, mkF, argsToLocals, Value.category, maxLocals]; done) | (rcases ref_cases hrw with rfl | ⟨b, rfl⟩ <;> rfl) | rfl) (fun p e s m below meth c => ?_)
  show Wp true p l e room_1 s m ([.long p1, .long p2, .long p3, .long p4, .int p5] : List Value).toArray below meth c Z "com/example/medway/medway/NodeHoldsLessThanPinLaw" "law" code maxLocals (some .boolean) n0 h0 [] (fun v h' => v = some (.int 1)) (fun _ => True) h0 0 0 0 [.val (.long p1), .second, .val (.long p2), .second, .val (.long p3), .second, .val (.long p4), .second, .val (.int p5), .unset, .unset, .unset, .unset, .unset, .unset, .unset, .unset, .unset, .unset, .unset, .unset, .unset] []
  have main : ∀ (m5 : Int32) (x0 x1 y0 y1 : Int64), Wp true p l e room_1 s m ([.long p1, .long p2, .long p3, .long p4, .int p5] : List Value).toArray below meth c Z "com/example/medway/medway/NodeHoldsLessThanPinLaw" "law" code maxLocals (some .boolean) n0 h0 [] (fun v h' => v = some (.int 1)) (fun _ => True) h0 0 0 74 [.val (.long p1), .second, .val (.long p2), .second, .val (.long p3), .second, .val (.long p4), .second, .val (.int p5), .val (.int m5), .val (.long x0), .second, .val (.long x1), .second, .val (.long y0), .second, .val (.long y1), .second, .unset, .unset, .unset, .unset] [] := by
    intro m5 x0 x1 y0 y1
    have SA := own_SA hw
    have n0' : ∀ y : Addr, y ∉ ([] : List Addr) := fun _ q => nomatch q
    refine new (q1 := 77) at_74 rfl (ww hw 0 rfl) (ww hw 1 rfl) (ww hw 2 rfl) (by decide) (by decide) (fun S74 h74 E74 X74 D74 U74 => ?_)
    have P74 : NdE Z h74 h0.size := ⟨X74, ⟨_, D74 (Or.inr (ww hw 56 rfl)) (ty := .object "java/util/Set") (by decide)⟩, ⟨_, D74 (Or.inr (ww hw 58 rfl)) (ty := .object "java/util/Set") (by decide)⟩, ⟨_, D74 (Or.inl (ww hw 82 rfl)) (ty := .object "java/util/BitSet") (by decide)⟩, ⟨_, D74 (Or.inr (ww hw 84 rfl)) (ty := .object "java/lang/String") (by decide)⟩, ⟨_, D74 (Or.inl (ww hw 91 rfl)) (ty := .object "java/util/BitSet") (by decide)⟩, ⟨_, D74 (Or.inl (ww hw 98 rfl)) (ty := .int) (by decide)⟩, ⟨_, D74 (Or.inl (ww hw 117 rfl)) (ty := .array .long) (by decide)⟩⟩
    refine Jvm.OwnWp.dup (q1 := 78) at_77 rfl rfl ?_
    refine ldcAny (q1 := 80) (nn := 4) at_78 rfl (ww hw 3 rfl) SA (by decide) (by decide) (by decide) (by decide) (fun s1 h78 E78 => ?_)
    refine invokespecial (q1 := 83) at_80 rfl rfl (ww hw 11 rfl) (ww hw 12 rfl) (ww hw 2 rfl) (ww hw 13 rfl) (by decide) pd0 (c_ni hw (P74.keep (keepE E78))) rfl rfl rfl rfl (allS (Or.inr S74) all0) (fun v h80 q K80 => ?_)
    obtain ⟨rfl, P80⟩ := q
    have lp : @LT.lt Nat _ h0.size h80.size := P80.1.lt
    refine astore (q1 := 85) at_83 rfl rfl rfl ?_
    simp only [List.set_cons_zero, List.set_cons_succ]
    refine new (q1 := 88) at_85 rfl (ww hw 0 rfl) (ww hw 1 rfl) (ww hw 2 rfl) (by decide) (by decide) (fun S85 h85 E85 X85 D85 U85 => ?_)
    have Q85 : NdE Z h85 h80.size := ⟨X85, ⟨_, D85 (Or.inr (ww hw 56 rfl)) (ty := .object "java/util/Set") (by decide)⟩, ⟨_, D85 (Or.inr (ww hw 58 rfl)) (ty := .object "java/util/Set") (by decide)⟩, ⟨_, D85 (Or.inl (ww hw 82 rfl)) (ty := .object "java/util/BitSet") (by decide)⟩, ⟨_, D85 (Or.inr (ww hw 84 rfl)) (ty := .object "java/lang/String") (by decide)⟩, ⟨_, D85 (Or.inl (ww hw 91 rfl)) (ty := .object "java/util/BitSet") (by decide)⟩, ⟨_, D85 (Or.inl (ww hw 98 rfl)) (ty := .int) (by decide)⟩, ⟨_, D85 (Or.inl (ww hw 117 rfl)) (ty := .array .long) (by decide)⟩⟩
    refine Jvm.OwnWp.dup (q1 := 89) at_88 rfl rfl ?_
    refine ldcAny (q1 := 91) (nn := 4) at_89 rfl (ww hw 118 rfl) SA (by decide) (by decide) (by decide) (by decide) (fun s2 h89 E89 => ?_)
    refine invokespecial (q1 := 94) at_91 rfl rfl (ww hw 11 rfl) (ww hw 12 rfl) (ww hw 2 rfl) (ww hw 13 rfl) (by decide) pd0 (c_ni hw (Q85.keep (keepE E89))) rfl rfl rfl rfl (allS (Or.inr S85) all0) (fun v h91 q K91 => ?_)
    obtain ⟨rfl, Q91⟩ := q
    have lq : @LT.lt Nat _ h80.size h91.size := Q91.1.lt
    have P91 := ((P80.keep (keepE E85)).keep (keepE E89)).keep K91
    refine astore (q1 := 96) at_94 rfl rfl rfl ?_
    simp only [List.set_cons_zero, List.set_cons_succ]
    refine aload (q1 := 98) at_96 rfl rfl rfl ?_
    refine iconst (q1 := 99) (v := 2) at_98 rfl rfl ?_
    refine newarrayE (q1 := 101) (len := 2) (cap := 2) (ad := "[J") at_99 rfl (ww hw 78 rfl) rfl (by decide) (by decide) (by decide) (by decide) (by decide) (fun S99 h99 E99 A99 X99 => ?_)
    refine Jvm.OwnWp.dup (q1 := 102) at_101 rfl rfl ?_
    refine iconst (q1 := 103) (v := 0) at_102 rfl rfl ?_
    refine lload (q1 := 105) at_103 rfl rfl ?_
    refine lastore (q1 := 106) (i := 0) at_105 rfl (A99) rfl (by decide) (Or.inr S99) (fun h105 W105 => ?_)
    refine Jvm.OwnWp.dup (q1 := 107) at_106 rfl rfl ?_
    refine iconst (q1 := 108) (v := 1) at_107 rfl rfl ?_
    refine lload (q1 := 110) at_108 rfl rfl ?_
    refine lastore (q1 := 111) (i := 1) at_110 rfl (A99.same W105) rfl (by decide) (Or.inr S99) (fun h110 W110 => ?_)
    have L1 : LA Z h110 h91.size 2 (g2 x0 x1) := ⟨((A99.same W105).same W110).cong (fun i hi => by
      have e : i = 0 ∨ i = 1 := (by omega)
      rcases e with rfl | rfl <;> rfl), (X99.wr W105).wr W110⟩
    have P110 := ((P91.keep (keepE E99)).keep (Keep.of_wr W105)).keep (Keep.of_wr W110)
    have Q110 := ((Q91.keep (keepE E99)).keep (Keep.of_wr W105)).keep (Keep.of_wr W110)
    have l99 : @LT.lt Nat _ h91.size h99.size := A99.lt
    have s110 : h110.size = h99.size := W110.size.trans W105.size
    refine invokestatic (q1 := 114) at_111 rfl (ww hw 119 rfl) (ww hw 120 rfl) (ww hw 61 rfl) (ww hw 121 rfl) (by decide) pd10 (c_vo hw S L1) rfl rfl rfl rfl all0 (fun v h111 q K111 => ?_)
    obtain ⟨rfl, t1, lt1, B1⟩ := q
    have l111 : @LT.lt Nat _ h110.size h111.size := B1.1.lt
    have P111 := P110.keep K111
    have Q111 := Q110.keep K111
    refine invokevirt (q1 := 117) at_114 rfl (ww hw 142 rfl) (ww hw 86 rfl) (ww hw 88 rfl) (ww hw 87 rfl) (ww hw 2 rfl) (ww hw 89 rfl) (by decide) pd4 (P111.1) (c_ho hw P111 B1 (Nat.ne_of_gt (show h0.size < h110.size by omega)) (Nat.ne_of_gt (Nat.lt_trans (show h0.size < h110.size by omega) lt1)) (vn_vI x0 x1) (vn3 x0 x1) (Nat.le_refl _) (vn_le x0 x1)) rfl rfl rfl rfl (allS (Or.inr (Nat.le_refl _)) all0) (fun v h114 q K114 => ?_)
    obtain ⟨rfl, PW⟩ := q
    have Q114 := Q111.keep K114
    have l114 : @LT.lt Nat _ h111.size h114.size := PW.2.2.2.1.lt
    refine aload (q1 := 119) at_117 rfl rfl rfl ?_
    refine iconst (q1 := 120) (v := 2) at_119 rfl rfl ?_
    refine newarrayE (q1 := 122) (len := 2) (cap := 2) (ad := "[J") at_120 rfl (ww hw 78 rfl) rfl (by decide) (by decide) (by decide) (by decide) (by decide) (fun S120 h120 E120 A120 X120 => ?_)
    refine Jvm.OwnWp.dup (q1 := 123) at_122 rfl rfl ?_
    refine iconst (q1 := 124) (v := 0) at_123 rfl rfl ?_
    refine lload (q1 := 126) at_124 rfl rfl ?_
    refine lastore (q1 := 127) (i := 0) at_126 rfl (A120) rfl (by decide) (Or.inr S120) (fun h126 W126 => ?_)
    refine Jvm.OwnWp.dup (q1 := 128) at_127 rfl rfl ?_
    refine iconst (q1 := 129) (v := 1) at_128 rfl rfl ?_
    refine lload (q1 := 131) at_129 rfl rfl ?_
    refine lastore (q1 := 132) (i := 1) at_131 rfl (A120.same W126) rfl (by decide) (Or.inr S120) (fun h131 W131 => ?_)
    have L2 : LA Z h131 h114.size 2 (g2 y0 y1) := ⟨((A120.same W126).same W131).cong (fun i hi => by
      have e : i = 0 ∨ i = 1 := (by omega)
      rcases e with rfl | rfl <;> rfl), (X120.wr W126).wr W131⟩
    have e1 : h0.size ≠ h114.size := Nat.ne_of_lt (by omega)
    have e2 : h111.size ≠ h114.size := Nat.ne_of_lt (by omega)
    have PW1 := ((PW.keep (keepE E120) (n0' _) (n0' _)).keep (Keep.of_wr W126) (nin1 e1) (nin1 e2)).keep (Keep.of_wr W131) (nin1 e1) (nin1 e2)
    have Q131 := ((Q114.keep (keepE E120)).keep (Keep.of_wr W126)).keep (Keep.of_wr W131)
    have l120 : @LT.lt Nat _ h114.size h120.size := A120.lt
    have s131 : h131.size = h120.size := W131.size.trans W126.size
    refine invokestatic (q1 := 135) at_132 rfl (ww hw 119 rfl) (ww hw 120 rfl) (ww hw 61 rfl) (ww hw 121 rfl) (by decide) pd10 (c_vo hw S L2) rfl rfl rfl rfl all0 (fun v h132 q K132 => ?_)
    obtain ⟨rfl, t2, lt2, B2⟩ := q
    have Q132 := Q131.keep K132
    have PW2 := PW1.keep K132 (n0' _) (n0' _)
    refine invokevirt (q1 := 138) at_135 rfl (ww hw 142 rfl) (ww hw 86 rfl) (ww hw 88 rfl) (ww hw 87 rfl) (ww hw 2 rfl) (ww hw 89 rfl) (by decide) pd4 (Q132.1) (c_ho hw Q132 B2 (Nat.ne_of_gt (show h80.size < h131.size by omega)) (Nat.ne_of_gt (Nat.lt_trans (show h80.size < h131.size by omega) lt2)) (vn_vI y0 y1) (vn3 y0 y1) (Nat.le_refl _) (vn_le y0 y1)) rfl rfl rfl rfl (allS (Or.inr (Nat.le_of_lt lp)) all0) (fun v h135 q K135 => ?_)
    obtain ⟨rfl, QW⟩ := q
    have PW3 := PW2.keep K135 (nin1 (Nat.ne_of_lt lp)) (nin1 (Nat.ne_of_gt (show h80.size < h111.size by omega)))
    have b1 : vn x0 x1 < 2147483647 := Nat.lt_of_le_of_lt (vn_le x0 x1) (by decide)
    have b2 : vn y0 y1 < 2147483647 := Nat.lt_of_le_of_lt (vn_le y0 y1) (by decide)
    refine aload (q1 := 140) at_138 rfl rfl rfl ?_
    refine aload (q1 := 142) at_140 rfl rfl rfl ?_
    refine invokevirt (q1 := 145) at_142 rfl (ww hw 150 rfl) (ww hw 151 rfl) (ww hw 153 rfl) (ww hw 152 rfl) (ww hw 2 rfl) (ww hw 154 rfl) (by decide) pd14 (PW3.1) (c_hlt hw PW3 QW (vn_vI x0 x1) (vn_vI y0 y1) b1) rfl rfl rfl rfl all0 (fun v hh q _ => ?_)
    obtain ⟨rfl, rfl⟩ := q
    refine istore (q1 := 147) at_145 rfl rfl ?_
    simp only [List.set_cons_zero, List.set_cons_succ]
    refine aload (q1 := 149) at_147 rfl rfl rfl ?_
    refine aload (q1 := 151) at_149 rfl rfl rfl ?_
    refine invokevirt (q1 := 154) at_151 rfl (ww hw 150 rfl) (ww hw 151 rfl) (ww hw 153 rfl) (ww hw 152 rfl) (ww hw 2 rfl) (ww hw 154 rfl) (by decide) pd14 (QW.1) (c_hlt hw QW PW3 (vn_vI y0 y1) (vn_vI x0 x1) b2) rfl rfl rfl rfl all0 (fun v hh q _ => ?_)
    obtain ⟨rfl, rfl⟩ := q
    refine istore (q1 := 156) at_154 rfl rfl ?_
    simp only [List.set_cons_zero, List.set_cons_succ]
    refine iload (q1 := 158) at_156 rfl rfl ?_
    refine lload (q1 := 160) at_158 rfl rfl ?_
    refine lload (q1 := 162) at_160 rfl rfl ?_
    refine lload (q1 := 164) at_162 rfl rfl ?_
    refine lload (q1 := 166) at_164 rfl rfl ?_
    refine invokestatic (q1 := 169) at_166 rfl (ww hw 155 rfl) (ww hw 156 rfl) (ww hw 157 rfl) (ww hw 158 rfl) (by decide) pd15 (c_ss hw) rfl rfl rfl rfl all0 (fun v hh q _ => ?_)
    obtain ⟨rfl, rfl⟩ := q
    refine icmp_ne (q1 := 172) (q := 192) at_169 rfl ⟨by decide, rfl⟩ (fun hq => absurd (own_law x0 x1 y0 y1) hq) (fun _ => ?_)
    refine iload (q1 := 174) at_172 rfl rfl ?_
    refine lload (q1 := 176) at_174 rfl rfl ?_
    refine lload (q1 := 178) at_176 rfl rfl ?_
    refine lload (q1 := 180) at_178 rfl rfl ?_
    refine lload (q1 := 182) at_180 rfl rfl ?_
    refine invokestatic (q1 := 185) at_182 rfl (ww hw 155 rfl) (ww hw 156 rfl) (ww hw 157 rfl) (ww hw 158 rfl) (by decide) pd15 (c_ss hw) rfl rfl rfl rfl all0 (fun v hh q _ => ?_)
    obtain ⟨rfl, rfl⟩ := q
    refine icmp_ne (q1 := 188) (q := 192) at_185 rfl ⟨by decide, rfl⟩ (fun hq => absurd (own_law y0 y1 x0 x1) hq) (fun _ => ?_)
    refine iconst (q1 := 189) (v := 1) at_188 rfl rfl ?_
    refine goto (q := 193) at_189 ⟨by decide, rfl⟩ ?_
    refine ret_n (t := .boolean) at_193 rfl (by simp) rfl rfl
  refine iload (q1 := 2) at_0 rfl rfl ?_
  refine iconst (q1 := 3) (v := 3) at_2 rfl rfl ?_
  refine iand (q1 := 4) at_3 rfl ?_
  refine istore (q1 := 6) at_4 rfl rfl ?_
  simp only [List.set_cons_zero, List.set_cons_succ]
  refine lload_n (q1 := 7) at_6 rfl rfl ?_
  refine lstore (q1 := 9) (jk := 11) at_7 rfl rfl rfl ?_
  simp only [List.set_cons_zero, List.set_cons_succ]
  refine lload_n (q1 := 10) at_9 rfl rfl ?_
  refine lstore (q1 := 12) (jk := 13) at_10 rfl rfl rfl ?_
  simp only [List.set_cons_zero, List.set_cons_succ]
  refine lload (q1 := 14) at_12 rfl rfl ?_
  refine lstore (q1 := 16) (jk := 15) at_14 rfl rfl rfl ?_
  simp only [List.set_cons_zero, List.set_cons_succ]
  refine lload (q1 := 18) at_16 rfl rfl ?_
  refine lstore (q1 := 20) (jk := 17) at_18 rfl rfl rfl ?_
  simp only [List.set_cons_zero, List.set_cons_succ]
  refine iload (q1 := 22) at_20 rfl rfl ?_
  refine iconst (q1 := 23) (v := 1) at_22 rfl rfl ?_
  refine icmp_ne (q1 := 26) (q := 41) at_23 rfl ⟨by decide, rfl⟩ (fun _ => ?_) (fun _ => ?_)
  · refine iload (q1 := 43) at_41 rfl rfl ?_
    refine iconst (q1 := 44) (v := 2) at_43 rfl rfl ?_
    refine icmp_ne (q1 := 47) (q := 62) at_44 rfl ⟨by decide, rfl⟩ (fun _ => ?_) (fun _ => ?_)
    · refine iload (q1 := 64) at_62 rfl rfl ?_
      refine iconst (q1 := 65) (v := 3) at_64 rfl rfl ?_
      refine icmp_ne (q1 := 68) (q := 74) at_65 rfl ⟨by decide, rfl⟩ (fun _ => ?_) (fun _ => ?_)
      · exact main _ _ _ _ _
      · refine lload_n (q1 := 69) at_68 rfl rfl ?_
        refine lstore (q1 := 71) (jk := 15) at_69 rfl rfl rfl ?_
        simp only [List.set_cons_zero, List.set_cons_succ]
        refine lload_n (q1 := 72) at_71 rfl rfl ?_
        refine lstore (q1 := 74) (jk := 17) at_72 rfl rfl rfl ?_
        simp only [List.set_cons_zero, List.set_cons_succ]
        exact main _ _ _ _ _
    · refine lload_n (q1 := 48) at_47 rfl rfl ?_
      refine lload (q1 := 50) at_48 rfl rfl ?_
      refine land (q1 := 51) at_50 rfl ?_
      refine lstore (q1 := 53) (jk := 11) at_51 rfl rfl rfl ?_
      simp only [List.set_cons_zero, List.set_cons_succ]
      refine lload_n (q1 := 54) at_53 rfl rfl ?_
      refine lload (q1 := 56) at_54 rfl rfl ?_
      refine land (q1 := 57) at_56 rfl ?_
      refine lstore (q1 := 59) (jk := 13) at_57 rfl rfl rfl ?_
      simp only [List.set_cons_zero, List.set_cons_succ]
      refine goto (q := 74) at_59 ⟨by decide, rfl⟩ ?_
      exact main _ _ _ _ _
  · refine lload_n (q1 := 27) at_26 rfl rfl ?_
    refine lload (q1 := 29) at_27 rfl rfl ?_
    refine lor (q1 := 30) at_29 rfl ?_
    refine lstore (q1 := 32) (jk := 15) at_30 rfl rfl rfl ?_
    simp only [List.set_cons_zero, List.set_cons_succ]
    refine lload_n (q1 := 33) at_32 rfl rfl ?_
    refine lload (q1 := 35) at_33 rfl rfl ?_
    refine lor (q1 := 36) at_35 rfl ?_
    refine lstore (q1 := 38) (jk := 17) at_36 rfl rfl rfl ?_
    simp only [List.set_cons_zero, List.set_cons_succ]
    refine goto (q := 74) at_38 ⟨by decide, rfl⟩ ?_
    exact main _ _ _ _ _
set_option maxRecDepth 65536 in
set_option maxHeartbeats 40000000 in
theorem comes_1 {Post : Tables → Env → Array Value → State → Outcome → State → Prop} (hpost : ∀ tb e args s v u, (limb_1_1.after args s (.returned v) u = true ∧ limb_1_2.after args s (.returned v) u = true ∧ True) → ReturnedEndW s (.returned v) u (Jvm.fieldLocs frame_1_writes args s ++ Jvm.arrayLocs frame_1_arrays args s ++ Jvm.staticLocs frame_1_statics s) 72 2304 → Post tb e args s (.returned v) u) :
    ArmFor flags0 classFile x code maxLocals ret World_1 tables_1 room_1 Calls_1 rest_1 Pre_1 Post := by
  intro l hfl _ _ p e ha hc hk s m args below hf hA hF happ hP
  obtain ⟨hcalls, hrest, hpre⟩ := hP
  obtain ⟨-, -, -, hnamed, -, -, -, hat⟩ := (Spec.applies_iff hf).mp happ
  obtain ⟨hg, hn⟩ := and_e (Cond.before_iff.mp (show (Jvm.Cond.and given_1 narrow_1).before args s = true from hpre))
  obtain ⟨g1, g2⟩ := and_e hg
  obtain ⟨g3, g4⟩ := and_e g2
  obtain ⟨g5, g6⟩ := and_e g4
  obtain ⟨g7, g8⟩ := and_e g6
  obtain ⟨g9, g10⟩ := and_e g8
  obtain ⟨w0, w1, w2, w3, w4, rfl⟩ : ∃ w0 w1 w2 w3 w4 : Value, args = #[w0, w1, w2, w3, w4] := by
    have hs : args.size = 5 := by simpa [Cond.value, given_1] using g1
    obtain ⟨L⟩ := args
    match L, hs with
    | [w0, w1, w2, w3, w4], _ => exact ⟨w0, w1, w2, w3, w4, rfl⟩
  have hw := fun d (hd : d ∈ tables_1) => atoms_spec (ws := Jvm.Cond.code x code maxLocals ret :: tables_1) hat d (List.mem_cons_of_mem _ hd)
  have hfit : Fit s := fun {y c} hc i hi => by
    obtain ⟨ha, rfl⟩ := Array.getElem?_eq_some_iff.mp hc
    have q := List.all_eq_true.mp ((Array.all_eq_true_iff_forall_mem.mp hF) _ (Array.getElem_mem ha)) i (List.mem_range.mpr hi)
    simpa [Array.getElem?_eq_getElem hi] using q
  obtain ⟨hsets, hown0⟩ := atoms_of _ (rest_1_c_eq ▸ (show rest_1_c.before _ s = true from hrest))
  obtain ⟨i0, ei0⟩ := isL_v g3
  obtain rfl : w0 = (.long i0) := Option.some.inj ei0
  obtain ⟨i1, ei1⟩ := isL_v g5
  obtain rfl : w1 = (.long i1) := Option.some.inj ei1
  obtain ⟨i2, ei2⟩ := isL_v g7
  obtain rfl : w2 = (.long i2) := Option.some.inj ei2
  obtain ⟨i3, ei3⟩ := isL_v g9
  obtain rfl : w3 = (.long i3) := Option.some.inj ei3
  obtain ⟨i4, ei4⟩ := is_v g10
  obtain rfl : w4 = (.int i4) := Option.some.inj ei4
  have S : AOff s := own_sta hfit (hsets _ (List.mem_of_getElem? (i := 0) rfl)) (hsets _ (List.mem_of_getElem? (i := 1) rfl)) (hsets _ (List.mem_of_getElem? (i := 2) rfl)) (ty := .boolean) (by decide) (by simp)
  obtain ⟨n, o, h1, h2, h3, _, L, rfl, ⟨rfl, N, -⟩, hq⟩ := law (l := l) hw (p1 := i0) (p2 := i1) (p3 := i2) (p4 := i3) (p5 := i4) S (Old.start s) all0 tables_1 p e ha hc hk s m _ below hf ((Spec.applies_iff_loose hf).mp happ).1 ⟨rfl, State.Warmed39.refl s, rfl, trivial⟩ trivial
  refine ⟨n, _, h1, h2, h3, hpost _ _ _ _ _ _ ⟨Cond.after_iff.mpr rfl, Cond.after_iff.mpr (eq_i res_at (Term.int_eval (1)) rfl), trivial⟩ ⟨hq.1, hq.2.1, hq.2.2.1, (hq.2.2.2.sift fun y hy => Or.inr ((N y hy).elim (fun q => nomatch q) id)).mono (by decide) (by decide)⟩⟩
theorem main_1_1 : Claimed_1_1 := comes_1 fun _ _ _ _ _ _ h hF => ⟨h.1, hF⟩
theorem main_1_2 : Claimed_1_2 := comes_1 fun _ _ _ _ _ _ h hF => ⟨h.2.1, hF⟩
end Jvm.Pilot.@@N@@
namespace Jvm.Pilot.@@N@@
open Jvm Jvm.ClassFile Sem Op Lib Jvm.Free Jvm.Stand Jvm.Pilot.@@N@@.Jvm.D
/-! MADE BY PROGRAM (witnessworld.py) out of the Statement's table words and the real class files: 31 classes; the members and pool entries that the words name. The judged class is class 1, her method 1. -/
namespace start1
open Jvm.ClassFile
def u (s : String) : CpInfo := .utf8 (stringToUtf16 s)
/-- a pool by its gaps: so many unusable entries, then the entry; so many at the end -/
def gap : Nat → List CpInfo → List CpInfo
  | 0, r => r
  | n + 1, r => .unusable :: gap n r
def poolList (es : List (Nat × CpInfo)) (last : Nat) : List CpInfo := es.foldr (fun e r => gap e.1 (e.2 :: r)) (gap last [])
def pool (es : List (Nat × CpInfo)) (last : Nat) : Array CpInfo := ⟨poolList es last⟩
def fileOf (pool : Array CpInfo) (this : Nat) (attrs : Array Attribute := #[]) (ms : Array MethodInfo := #[]) (fl : Nat := 33) (sup : Nat := 0) (ifs : Array Nat := #[]) (fds : Array FieldInfo := #[]) : ClassFile where
  minorVersion := 0
  majorVersion := 65
  constantPool := pool
  accessFlags := fl
  thisClass := this
  superClass := sup
  interfaces := ifs
  fields := fds
  methods := ms
  attributes := attrs
def plain (name : String) (sup : Option ClassId) : Class where
  name := name
  kind := .ordinary
  loader := none
  accessFlags := 33
  super := sup
  interfaces := #[]
  cf := none
  fields := #[]
  methods := #[]
  instanceTypes := #[]
  staticTypes := #[]
  resolved := #[]
  callSites := []
  init := .initialized
  statics := none
  mirror := none

def pool0 : Array CpInfo := pool [(5, u "<init>"), (0, u "()V"), (1, .class_ 10), (1, u "java/lang/Object"), (85, u "clone"), (0, u "()Ljava/lang/Object;")] 26

def k0c0 : Code := { maxStack := 0, maxLocals := 1, code := object_method_1_code, exceptionTable := #[], attributes := #[] }
def k0m0 : Method := { name := "<init>", desc := "()V", sig := { parameters := [], returnType := none }, accessFlags := 1, code := some k0c0 }
def k0m1 : Method := { name := "clone", desc := "()Ljava/lang/Object;", sig := { parameters := [], returnType := some (.object "java/lang/Object") }, accessFlags := 260, code := none }
/-- java/lang/Object -/
def k0 : Class := { plain "java/lang/Object" none with
  accessFlags := 33
  interfaces := #[]
  cf := some (fileOf pool0 8 #[] #[{ accessFlags := 1, nameIndex := 5, descriptorIndex := 6, attributes := #[] }, { accessFlags := 260, nameIndex := 96, descriptorIndex := 97, attributes := #[] }] 33 0 #[] #[])
  fields := #[]
  methods := #[k0m0, k0m1]
  instanceTypes := #[]
  staticTypes := #[]
  resolved := Array.replicate 124 none
  statics := none }

def pool1 : Array CpInfo := pool [(2, .class_ 4), (1, u "java/lang/Object"), (0, u "<init>"), (0, u "()V"), (0, .class_ 8), (0, u "com/example/medway/medway/Node"), (0, .string 10), (0, u "p"), (0, .methodref 7 12), (0, .nameAndType 5 13), (0, u "(Ljava/lang/String;)V"), (0, .string 15), (0, u "q"), (0, .methodref 17 18), (0, .class_ 19), (0, .nameAndType 20 21), (0, u "java/util/BitSet"), (0, u "valueOf"), (0, u "([J)Ljava/util/BitSet;"), (0, .methodref 7 23), (0, .nameAndType 24 25), (0, u "hold"), (0, u "(Ljava/util/BitSet;)V"), (0, .methodref 7 27), (0, .nameAndType 28 29), (0, u "holdsLessThan"), (0, u "(Lcom/example/medway/medway/Node;)Z"), (0, .methodref 31 32), (0, .class_ 33), (0, .nameAndType 34 35), (0, u "com/example/medway/medway/NodeHoldsLessThanPinLaw"), (0, u "strictSubset"), (0, u "(JJJJ)Z"), (0, .long 18446744073709551615), (3, u "law"), (0, u "(JJJJI)Z")] 3

def k1m0 : Method := { name := "<init>", desc := "()V", sig := { parameters := [], returnType := none }, accessFlags := 1, code := none }
def k1c1 : Code := { maxStack := 9, maxLocals := 22, code := code, exceptionTable := #[], attributes := #[] }
def k1m1 : Method := { name := "law", desc := "(JJJJI)Z", sig := { parameters := [.long, .long, .long, .long, .int], returnType := some .boolean }, accessFlags := 9, code := some k1c1 }
def k1c2 : Code := { maxStack := 6, maxLocals := 10, code := method_3_code, exceptionTable := #[], attributes := #[] }
def k1m2 : Method := { name := "strictSubset", desc := "(JJJJ)Z", sig := { parameters := [.long, .long, .long, .long], returnType := some .boolean }, accessFlags := 10, code := some k1c2 }
/-- com/example/medway/medway/NodeHoldsLessThanPinLaw -/
def k1 : Class := { plain "com/example/medway/medway/NodeHoldsLessThanPinLaw" (some 0) with
  accessFlags := 49
  interfaces := #[]
  cf := some (fileOf pool1 31 #[] #[{ accessFlags := 1, nameIndex := 5, descriptorIndex := 6, attributes := #[] }, { accessFlags := 9, nameIndex := 40, descriptorIndex := 41, attributes := #[] }, { accessFlags := 10, nameIndex := 34, descriptorIndex := 35, attributes := #[] }] 49 2 #[] #[])
  fields := #[]
  methods := #[k1m0, k1m1, k1m2]
  instanceTypes := #[]
  staticTypes := #[]
  resolved := Array.replicate 45 none
  statics := none }

def pool2 : Array CpInfo := pool [(1, .methodref 2 3), (0, .class_ 4), (0, .nameAndType 5 6), (0, u "java/lang/Object"), (0, u "<init>"), (0, u "()V"), (0, .class_ 8), (0, u "java/util/HashSet"), (0, .methodref 7 3), (0, .fieldref 11 12), (0, .class_ 13), (0, .nameAndType 14 15), (0, u "com/example/medway/medway/Node"), (0, u "juniors"), (0, u "Ljava/util/Set;"), (0, .fieldref 11 17), (0, .nameAndType 18 15), (0, u "seniors"), (0, .class_ 20), (0, u "java/util/BitSet"), (0, .methodref 19 3), (0, .fieldref 11 23), (0, .nameAndType 24 25), (0, u "direct"), (0, u "Ljava/util/BitSet;"), (0, .fieldref 11 27), (0, .nameAndType 28 29), (0, u "name"), (0, u "Ljava/lang/String;"), (0, .methodref 11 31), (0, .nameAndType 32 33), (0, u "hold"), (0, u "(Ljava/util/BitSet;)V"), (0, .fieldref 11 35), (0, .nameAndType 36 25), (0, u "effective"), (0, .fieldref 11 38), (0, .nameAndType 39 40), (0, u "size"), (0, u "I"), (0, .methodref 19 42), (0, .nameAndType 43 44), (0, u "cardinality"), (0, u "()I"), (0, .methodref 19 46), (0, .nameAndType 47 48), (0, u "toLongArray"), (0, u "()[J"), (0, .fieldref 11 50), (0, .nameAndType 51 52), (0, u "words"), (0, u "[J"), (0, .long 18446744073709551615), (84, u "(Ljava/lang/String;)V"), (3, u "holdsLessThan"), (0, u "(Lcom/example/medway/medway/Node;)Z")] 36

def k2c0 : Code := { maxStack := 3, maxLocals := 2, code := prog_24_method_1_code, exceptionTable := #[], attributes := #[] }
def k2m0 : Method := { name := "<init>", desc := "(Ljava/lang/String;)V", sig := { parameters := [(.object "java/lang/String")], returnType := none }, accessFlags := 0, code := some k2c0 }
def k2c1 : Code := { maxStack := 2, maxLocals := 2, code := prog_24_method_4_code, exceptionTable := #[], attributes := #[] }
def k2m1 : Method := { name := "hold", desc := "(Ljava/util/BitSet;)V", sig := { parameters := [(.object "java/util/BitSet")], returnType := none }, accessFlags := 0, code := some k2c1 }
def k2c2 : Code := { maxStack := 6, maxLocals := 3, code := prog_24_method_5_code, exceptionTable := #[], attributes := #[] }
def k2m2 : Method := { name := "holdsLessThan", desc := "(Lcom/example/medway/medway/Node;)Z", sig := { parameters := [(.object "com/example/medway/medway/Node")], returnType := some .boolean }, accessFlags := 0, code := some k2c2 }
/-- com/example/medway/medway/Node -/
def k2 : Class := { plain "com/example/medway/medway/Node" (some 0) with
  accessFlags := 48
  interfaces := #[]
  cf := some (fileOf pool2 11 #[] #[{ accessFlags := 0, nameIndex := 5, descriptorIndex := 138, attributes := #[] }, { accessFlags := 0, nameIndex := 32, descriptorIndex := 33, attributes := #[] }, { accessFlags := 0, nameIndex := 142, descriptorIndex := 143, attributes := #[] }] 48 2 #[] #[{ accessFlags := 16, nameIndex := 28, descriptorIndex := 29, attributes := #[] }, { accessFlags := 16, nameIndex := 14, descriptorIndex := 15, attributes := #[] }, { accessFlags := 16, nameIndex := 18, descriptorIndex := 15, attributes := #[] }, { accessFlags := 0, nameIndex := 24, descriptorIndex := 25, attributes := #[] }, { accessFlags := 2, nameIndex := 36, descriptorIndex := 25, attributes := #[] }, { accessFlags := 2, nameIndex := 39, descriptorIndex := 40, attributes := #[] }, { accessFlags := 2, nameIndex := 51, descriptorIndex := 52, attributes := #[] }])
  fields := #[{ name := "name", type := (.object "java/lang/String"), accessFlags := 16, slot := 0, constantValue := 0 }, { name := "juniors", type := (.object "java/util/Set"), accessFlags := 16, slot := 1, constantValue := 0 }, { name := "seniors", type := (.object "java/util/Set"), accessFlags := 16, slot := 2, constantValue := 0 }, { name := "direct", type := (.object "java/util/BitSet"), accessFlags := 0, slot := 3, constantValue := 0 }, { name := "effective", type := (.object "java/util/BitSet"), accessFlags := 2, slot := 4, constantValue := 0 }, { name := "size", type := .int, accessFlags := 2, slot := 5, constantValue := 0 }, { name := "words", type := (.array .long), accessFlags := 2, slot := 6, constantValue := 0 }]
  methods := #[k2m0, k2m1, k2m2]
  instanceTypes := #[(.object "java/lang/String"), (.object "java/util/Set"), (.object "java/util/Set"), (.object "java/util/BitSet"), (.object "java/util/BitSet"), .int, (.array .long)]
  staticTypes := #[]
  resolved := Array.replicate 180 none
  statics := none }

def pool3 : Array CpInfo := pool [(1, .class_ 2), (0, u "java/io/Serializable"), (0, .class_ 4), (0, u "java/lang/Object")] 2

/-- java/io/Serializable -/
def k3 : Class := { plain "java/io/Serializable" (some 0) with
  accessFlags := 1537
  interfaces := #[]
  cf := some (fileOf pool3 1 #[] #[] 1537 3 #[] #[])
  fields := #[]
  methods := #[]
  instanceTypes := #[]
  staticTypes := #[]
  resolved := Array.replicate 7 none
  statics := none }

def pool4 : Array CpInfo := pool [(1, .class_ 2), (0, u "java/lang/Comparable"), (0, .class_ 4), (0, u "java/lang/Object")] 7

/-- java/lang/Comparable -/
def k4 : Class := { plain "java/lang/Comparable" (some 0) with
  accessFlags := 1537
  interfaces := #[]
  cf := some (fileOf pool4 1 #[] #[] 1537 3 #[] #[])
  fields := #[]
  methods := #[]
  instanceTypes := #[]
  staticTypes := #[]
  resolved := Array.replicate 12 none
  statics := none }

def pool5 : Array CpInfo := pool [(2, .class_ 4), (1, u "java/lang/CharSequence"), (42, .class_ 48), (0, u "java/lang/CharSequence$1CodePointIterator"), (10, .class_ 60), (0, u "java/lang/CharSequence$1CharIterator"), (5, .class_ 67), (0, u "java/lang/Object")] 63

/-- java/lang/CharSequence -/
def k5 : Class := { plain "java/lang/CharSequence" (some 0) with
  accessFlags := 1537
  interfaces := #[]
  cf := some (fileOf pool5 2 #[.nestMembers #[47, 59]] #[] 1537 66 #[] #[])
  fields := #[]
  methods := #[]
  instanceTypes := #[]
  staticTypes := #[]
  resolved := Array.replicate 131 none
  statics := none }

def pool6 : Array CpInfo := pool [(1, .class_ 2), (0, u "java/lang/constant/Constable"), (0, .class_ 4), (0, u "java/lang/Object")] 6

/-- java/lang/constant/Constable -/
def k6 : Class := { plain "java/lang/constant/Constable" (some 0) with
  accessFlags := 1537
  interfaces := #[]
  cf := some (fileOf pool6 1 #[] #[] 1537 3 #[] #[])
  fields := #[]
  methods := #[]
  instanceTypes := #[]
  staticTypes := #[]
  resolved := Array.replicate 11 none
  statics := none }

def pool7 : Array CpInfo := pool [(1, .class_ 2), (0, u "java/lang/constant/ConstantDesc"), (0, .class_ 4), (0, u "java/lang/Object")] 32

/-- java/lang/constant/ConstantDesc -/
def k7 : Class := { plain "java/lang/constant/ConstantDesc" (some 0) with
  accessFlags := 1537
  interfaces := #[]
  cf := some (fileOf pool7 1 #[] #[] 1537 3 #[] #[])
  fields := #[]
  methods := #[]
  instanceTypes := #[]
  staticTypes := #[]
  resolved := Array.replicate 37 none
  statics := none }

def pool8 : Array CpInfo := pool [(2, .class_ 4), (1, u "java/lang/Object"), (0, u "<init>"), (0, u "()V"), (3, .class_ 12), (1, u "java/lang/String"), (0, u "value"), (0, u "[B"), (2, u "coder"), (0, u "B"), (2, u "hash"), (0, u "I"), (2, u "hashIsZero"), (0, u "Z"), (13, u "COMPACT_STRINGS"), (534, .class_ 576), (0, u "java/lang/CharSequence"), (22, u "CASE_INSENSITIVE_ORDER"), (0, u "Ljava/util/Comparator;"), (500, u "serialPersistentFields"), (0, u "[Ljava/io/ObjectStreamField;"), (0, .class_ 1104), (0, u "java/lang/String$CaseInsensitiveComparator"), (1, .class_ 1107), (0, u "java/io/Serializable"), (0, .class_ 1109), (0, u "java/lang/Comparable"), (0, .class_ 1111), (0, u "java/lang/constant/Constable"), (0, .class_ 1113), (0, u "java/lang/constant/ConstantDesc"), (2, u "serialVersionUID"), (0, u "J"), (3, u "REPL"), (0, u "C"), (2, u "LATIN1"), (1, u "UTF16")] 323

def k8m0 : Method := { name := "<init>", desc := "()V", sig := { parameters := [], returnType := none }, accessFlags := 1, code := none }
/-- java/lang/String -/
def k8 : Class := { plain "java/lang/String" (some 0) with
  accessFlags := 49
  interfaces := #[3, 4, 5, 6, 7]
  cf := some (fileOf pool8 10 #[.nestMembers #[1103]] #[{ accessFlags := 1, nameIndex := 5, descriptorIndex := 6, attributes := #[] }] 49 2 #[1106, 1108, 575, 1110, 1112] #[{ accessFlags := 18, nameIndex := 13, descriptorIndex := 14, attributes := #[] }, { accessFlags := 18, nameIndex := 17, descriptorIndex := 18, attributes := #[] }, { accessFlags := 2, nameIndex := 21, descriptorIndex := 22, attributes := #[] }, { accessFlags := 2, nameIndex := 25, descriptorIndex := 26, attributes := #[] }, { accessFlags := 26, nameIndex := 1116, descriptorIndex := 1117, attributes := #[] }, { accessFlags := 24, nameIndex := 40, descriptorIndex := 26, attributes := #[] }, { accessFlags := 26, nameIndex := 1101, descriptorIndex := 1102, attributes := #[] }, { accessFlags := 26, nameIndex := 1121, descriptorIndex := 1122, attributes := #[] }, { accessFlags := 25, nameIndex := 599, descriptorIndex := 600, attributes := #[] }, { accessFlags := 24, nameIndex := 1125, descriptorIndex := 18, attributes := #[] }, { accessFlags := 24, nameIndex := 1127, descriptorIndex := 18, attributes := #[] }])
  fields := #[{ name := "value", type := (.array .byte), accessFlags := 18, slot := 0, constantValue := 0 }, { name := "coder", type := .byte, accessFlags := 18, slot := 1, constantValue := 0 }, { name := "hash", type := .int, accessFlags := 2, slot := 2, constantValue := 0 }, { name := "hashIsZero", type := .boolean, accessFlags := 2, slot := 3, constantValue := 0 }, { name := "serialVersionUID", type := .long, accessFlags := 26, slot := 0, constantValue := 0 }, { name := "COMPACT_STRINGS", type := .boolean, accessFlags := 24, slot := 1, constantValue := 0 }, { name := "serialPersistentFields", type := (.array (.object "java/io/ObjectStreamField")), accessFlags := 26, slot := 2, constantValue := 0 }, { name := "REPL", type := .char, accessFlags := 26, slot := 3, constantValue := 0 }, { name := "CASE_INSENSITIVE_ORDER", type := (.object "java/util/Comparator"), accessFlags := 25, slot := 4, constantValue := 0 }, { name := "LATIN1", type := .byte, accessFlags := 24, slot := 5, constantValue := 0 }, { name := "UTF16", type := .byte, accessFlags := 24, slot := 6, constantValue := 0 }]
  methods := #[k8m0]
  instanceTypes := #[(.array .byte), .byte, .int, .boolean]
  staticTypes := #[.long, .boolean, (.array (.object "java/io/ObjectStreamField")), .char, (.object "java/util/Comparator"), .byte, .byte]
  resolved := Array.replicate 1451 none
  statics := none }

def pool9 : Array CpInfo := pool [(8, .class_ 10), (1, u "java/lang/Iterable"), (24, .class_ 36), (0, u "java/lang/Object")] 25

/-- java/lang/Iterable -/
def k9 : Class := { plain "java/lang/Iterable" (some 0) with
  accessFlags := 1537
  interfaces := #[]
  cf := some (fileOf pool9 8 #[] #[] 1537 35 #[] #[])
  fields := #[]
  methods := #[]
  instanceTypes := #[]
  staticTypes := #[]
  resolved := Array.replicate 62 none
  statics := none }

def pool10 : Array CpInfo := pool [(10, .class_ 12), (1, u "java/util/Collection"), (47, .class_ 61), (0, u "java/lang/Object"), (0, .class_ 63), (0, u "java/lang/Iterable")] 51

/-- java/util/Collection -/
def k10 : Class := { plain "java/util/Collection" (some 0) with
  accessFlags := 1537
  interfaces := #[9]
  cf := some (fileOf pool10 10 #[] #[] 1537 60 #[62] #[])
  fields := #[]
  methods := #[]
  instanceTypes := #[]
  staticTypes := #[]
  resolved := Array.replicate 115 none
  statics := none }

def pool11 : Array CpInfo := pool [(1, .methodref 2 3), (0, .class_ 4), (0, .nameAndType 5 6), (0, u "java/lang/Object"), (0, u "<init>"), (0, u "()V"), (1, .class_ 10), (1, u "java/util/AbstractCollection"), (66, .class_ 78), (0, u "java/util/Collection")] 81

def k11c0 : Code := { maxStack := 1, maxLocals := 1, code := jdk_22_method_1_code, exceptionTable := #[], attributes := #[] }
def k11m0 : Method := { name := "<init>", desc := "()V", sig := { parameters := [], returnType := none }, accessFlags := 4, code := some k11c0 }
/-- java/util/AbstractCollection -/
def k11 : Class := { plain "java/util/AbstractCollection" (some 0) with
  accessFlags := 1057
  interfaces := #[10]
  cf := some (fileOf pool11 8 #[] #[{ accessFlags := 4, nameIndex := 5, descriptorIndex := 6, attributes := #[] }] 1057 2 #[77] #[])
  fields := #[]
  methods := #[k11m0]
  instanceTypes := #[]
  staticTypes := #[]
  resolved := Array.replicate 160 none
  statics := none }

def pool12 : Array CpInfo := pool [(26, .class_ 27), (0, u "java/lang/Object"), (5, .class_ 34), (0, u "java/util/Set"), (1, .class_ 38), (1, u "java/util/Collection")] 105

/-- java/util/Set -/
def k12 : Class := { plain "java/util/Set" (some 0) with
  accessFlags := 1537
  interfaces := #[10]
  cf := some (fileOf pool12 33 #[] #[] 1537 26 #[36] #[])
  fields := #[]
  methods := #[]
  instanceTypes := #[]
  staticTypes := #[]
  resolved := Array.replicate 144 none
  statics := none }

def pool13 : Array CpInfo := pool [(1, .methodref 2 3), (0, .class_ 4), (0, .nameAndType 5 6), (0, u "java/util/AbstractCollection"), (0, u "<init>"), (0, u "()V"), (0, .class_ 8), (0, u "java/util/Set"), (7, .class_ 17), (0, u "java/util/AbstractSet")] 78

def k13c0 : Code := { maxStack := 1, maxLocals := 1, code := jdk_91_method_1_code, exceptionTable := #[], attributes := #[] }
def k13m0 : Method := { name := "<init>", desc := "()V", sig := { parameters := [], returnType := none }, accessFlags := 4, code := some k13c0 }
/-- java/util/AbstractSet -/
def k13 : Class := { plain "java/util/AbstractSet" (some 11) with
  accessFlags := 1057
  interfaces := #[12]
  cf := some (fileOf pool13 16 #[] #[{ accessFlags := 4, nameIndex := 5, descriptorIndex := 6, attributes := #[] }] 1057 2 #[7] #[])
  fields := #[]
  methods := #[k13m0]
  instanceTypes := #[]
  staticTypes := #[]
  resolved := Array.replicate 96 none
  statics := none }

def pool14 : Array CpInfo := pool [(1, .class_ 2), (0, u "java/lang/Cloneable"), (0, .class_ 4), (0, u "java/lang/Object")] 2

/-- java/lang/Cloneable -/
def k14 : Class := { plain "java/lang/Cloneable" (some 0) with
  accessFlags := 1537
  interfaces := #[]
  cf := some (fileOf pool14 1 #[] #[] 1537 3 #[] #[])
  fields := #[]
  methods := #[]
  instanceTypes := #[]
  staticTypes := #[]
  resolved := Array.replicate 7 none
  statics := none }

def pool15 : Array CpInfo := pool [(1, .methodref 2 3), (0, .class_ 4), (0, .nameAndType 5 6), (0, u "java/util/AbstractSet"), (0, u "<init>"), (0, u "()V"), (0, .class_ 8), (0, u "java/util/HashMap"), (0, .methodref 7 3), (0, .fieldref 11 12), (0, .class_ 13), (0, .nameAndType 14 15), (0, u "java/util/HashSet"), (0, u "map"), (0, u "Ljava/util/HashMap;"), (34, .class_ 52), (1, u "java/util/Set"), (13, u "PRESENT"), (0, u "Ljava/lang/Object;"), (158, .class_ 227), (0, u "java/lang/Cloneable"), (0, .class_ 229), (0, u "java/io/Serializable"), (0, u "serialVersionUID"), (0, u "J")] 71

def k15c0 : Code := { maxStack := 3, maxLocals := 1, code := jdk_93_method_1_code, exceptionTable := #[], attributes := #[] }
def k15m0 : Method := { name := "<init>", desc := "()V", sig := { parameters := [], returnType := none }, accessFlags := 1, code := some k15c0 }
/-- java/util/HashSet -/
def k15 : Class := { plain "java/util/HashSet" (some 13) with
  accessFlags := 33
  interfaces := #[12, 14, 3]
  cf := some (fileOf pool15 11 #[] #[{ accessFlags := 1, nameIndex := 5, descriptorIndex := 6, attributes := #[] }] 33 2 #[50, 226, 228] #[{ accessFlags := 24, nameIndex := 230, descriptorIndex := 231, attributes := #[] }, { accessFlags := 128, nameIndex := 14, descriptorIndex := 15, attributes := #[] }, { accessFlags := 24, nameIndex := 66, descriptorIndex := 67, attributes := #[] }])
  fields := #[{ name := "serialVersionUID", type := .long, accessFlags := 24, slot := 0, constantValue := 0 }, { name := "map", type := (.object "java/util/HashMap"), accessFlags := 128, slot := 0, constantValue := 0 }, { name := "PRESENT", type := (.object "java/lang/Object"), accessFlags := 24, slot := 1, constantValue := 0 }]
  methods := #[k15m0]
  instanceTypes := #[(.object "java/util/HashMap")]
  staticTypes := #[.long, (.object "java/lang/Object")]
  resolved := Array.replicate 303 none
  statics := none }

def pool16 : Array CpInfo := pool [(2, .class_ 4), (1, u "java/util/Map"), (31, .class_ 37), (0, u "java/util/Map$Entry"), (55, .class_ 94), (0, u "java/lang/Object")] 168

/-- java/util/Map -/
def k16 : Class := { plain "java/util/Map" (some 0) with
  accessFlags := 1537
  interfaces := #[]
  cf := some (fileOf pool16 2 #[.nestMembers #[36]] #[] 1537 93 #[] #[])
  fields := #[]
  methods := #[]
  instanceTypes := #[]
  staticTypes := #[]
  resolved := Array.replicate 263 none
  statics := none }

def pool17 : Array CpInfo := pool [(1, .methodref 2 3), (0, .class_ 4), (0, .nameAndType 5 6), (0, u "java/lang/Object"), (0, u "<init>"), (0, u "()V"), (1, .class_ 10), (1, u "java/util/AbstractMap"), (42, .class_ 54), (0, u "java/util/Map"), (9, u "keySet"), (0, u "Ljava/util/Set;"), (0, .class_ 67), (0, u "java/util/AbstractMap$1"), (5, u "values"), (0, u "Ljava/util/Collection;"), (0, .class_ 76), (0, u "java/util/AbstractMap$2"), (104, .class_ 182), (0, u "java/util/AbstractMap$ViewCollection"), (0, .class_ 184), (0, u "java/util/AbstractMap$SimpleImmutableEntry"), (0, .class_ 186), (0, u "java/util/AbstractMap$SimpleEntry"), (0, .class_ 188), (0, u "java/util/AbstractMap$2$1"), (0, .class_ 190), (0, u "java/util/AbstractMap$1$1")] 5

def k17c0 : Code := { maxStack := 1, maxLocals := 1, code := jdk_71_method_1_code, exceptionTable := #[], attributes := #[] }
def k17m0 : Method := { name := "<init>", desc := "()V", sig := { parameters := [], returnType := none }, accessFlags := 4, code := some k17c0 }
/-- java/util/AbstractMap -/
def k17 : Class := { plain "java/util/AbstractMap" (some 0) with
  accessFlags := 1057
  interfaces := #[16]
  cf := some (fileOf pool17 8 #[.nestMembers #[181, 183, 185, 75, 187, 66, 189]] #[{ accessFlags := 4, nameIndex := 5, descriptorIndex := 6, attributes := #[] }] 1057 2 #[53] #[{ accessFlags := 128, nameIndex := 64, descriptorIndex := 65, attributes := #[] }, { accessFlags := 128, nameIndex := 73, descriptorIndex := 74, attributes := #[] }])
  fields := #[{ name := "keySet", type := (.object "java/util/Set"), accessFlags := 128, slot := 0, constantValue := 0 }, { name := "values", type := (.object "java/util/Collection"), accessFlags := 128, slot := 1, constantValue := 0 }]
  methods := #[k17m0]
  instanceTypes := #[(.object "java/util/Set"), (.object "java/util/Collection")]
  staticTypes := #[]
  resolved := Array.replicate 196 none
  statics := none }

def pool18 : Array CpInfo := pool [(40, .class_ 41), (0, u "java/util/HashMap"), (1, .methodref 44 45), (0, .class_ 46), (0, .nameAndType 47 48), (0, u "java/util/AbstractMap"), (0, u "<init>"), (0, u "()V"), (32, .fieldref 40 82), (0, .nameAndType 83 84), (0, u "loadFactor"), (0, u "F"), (5, u "threshold"), (0, u "I"), (0, .float 1061158912), (8, .class_ 103), (1, u "java/util/Map"), (0, u "size"), (2, u "table"), (0, u "[Ljava/util/HashMap$Node;"), (14, u "entrySet"), (39, .class_ 165), (1, u "java/util/HashMap$Node"), (14, .class_ 181), (0, u "java/util/HashMap$TreeNode"), (22, u "modCount"), (37, u "Ljava/util/Set;"), (0, .class_ 244), (0, u "java/util/HashMap$KeySet"), (18, .class_ 264), (0, u "java/util/HashMap$Values"), (3, .class_ 269), (0, u "java/util/HashMap$EntrySet"), (76, .class_ 348), (1, u "java/util/HashMap$UnsafeHolder"), (43, .class_ 393), (0, u "java/lang/Cloneable"), (0, .class_ 395), (0, u "java/io/Serializable"), (0, u "serialVersionUID"), (0, u "J"), (3, u "DEFAULT_INITIAL_CAPACITY"), (1, u "MAXIMUM_CAPACITY"), (0, u "DEFAULT_LOAD_FACTOR"), (0, u "TREEIFY_THRESHOLD"), (1, u "UNTREEIFY_THRESHOLD"), (1, u "MIN_TREEIFY_CAPACITY"), (186, .class_ 597), (0, u "java/util/HashMap$EntrySpliterator"), (0, .class_ 599), (0, u "java/util/HashMap$ValueSpliterator"), (0, .class_ 601), (0, u "java/util/HashMap$KeySpliterator"), (0, .class_ 603), (0, u "java/util/HashMap$HashMapSpliterator"), (0, .class_ 605), (0, u "java/util/HashMap$EntryIterator"), (0, .class_ 607), (0, u "java/util/HashMap$ValueIterator"), (0, .class_ 609), (0, u "java/util/HashMap$KeyIterator"), (0, .class_ 611), (0, u "java/util/HashMap$HashIterator")] 17

def k18c0 : Code := { maxStack := 2, maxLocals := 1, code := jdk_69_method_7_code, exceptionTable := #[], attributes := #[] }
def k18m0 : Method := { name := "<init>", desc := "()V", sig := { parameters := [], returnType := none }, accessFlags := 1, code := some k18c0 }
/-- java/util/HashMap -/
def k18 : Class := { plain "java/util/HashMap" (some 17) with
  accessFlags := 33
  interfaces := #[16, 14, 3]
  cf := some (fileOf pool18 40 #[.nestMembers #[180, 596, 598, 600, 602, 604, 606, 608, 610, 346, 268, 263, 243, 163]] #[{ accessFlags := 1, nameIndex := 47, descriptorIndex := 48, attributes := #[] }] 33 44 #[101, 392, 394] #[{ accessFlags := 26, nameIndex := 396, descriptorIndex := 397, attributes := #[] }, { accessFlags := 24, nameIndex := 401, descriptorIndex := 91, attributes := #[] }, { accessFlags := 24, nameIndex := 403, descriptorIndex := 91, attributes := #[] }, { accessFlags := 24, nameIndex := 404, descriptorIndex := 84, attributes := #[] }, { accessFlags := 24, nameIndex := 405, descriptorIndex := 91, attributes := #[] }, { accessFlags := 24, nameIndex := 407, descriptorIndex := 91, attributes := #[] }, { accessFlags := 24, nameIndex := 409, descriptorIndex := 91, attributes := #[] }, { accessFlags := 128, nameIndex := 107, descriptorIndex := 108, attributes := #[] }, { accessFlags := 128, nameIndex := 123, descriptorIndex := 242, attributes := #[] }, { accessFlags := 128, nameIndex := 104, descriptorIndex := 91, attributes := #[] }, { accessFlags := 128, nameIndex := 204, descriptorIndex := 91, attributes := #[] }, { accessFlags := 0, nameIndex := 90, descriptorIndex := 91, attributes := #[] }, { accessFlags := 16, nameIndex := 83, descriptorIndex := 84, attributes := #[] }])
  fields := #[{ name := "serialVersionUID", type := .long, accessFlags := 26, slot := 0, constantValue := 0 }, { name := "DEFAULT_INITIAL_CAPACITY", type := .int, accessFlags := 24, slot := 1, constantValue := 0 }, { name := "MAXIMUM_CAPACITY", type := .int, accessFlags := 24, slot := 2, constantValue := 0 }, { name := "DEFAULT_LOAD_FACTOR", type := .float, accessFlags := 24, slot := 3, constantValue := 0 }, { name := "TREEIFY_THRESHOLD", type := .int, accessFlags := 24, slot := 4, constantValue := 0 }, { name := "UNTREEIFY_THRESHOLD", type := .int, accessFlags := 24, slot := 5, constantValue := 0 }, { name := "MIN_TREEIFY_CAPACITY", type := .int, accessFlags := 24, slot := 6, constantValue := 0 }, { name := "table", type := (.array (.object "java/util/HashMap$Node")), accessFlags := 128, slot := 2, constantValue := 0 }, { name := "entrySet", type := (.object "java/util/Set"), accessFlags := 128, slot := 3, constantValue := 0 }, { name := "size", type := .int, accessFlags := 128, slot := 4, constantValue := 0 }, { name := "modCount", type := .int, accessFlags := 128, slot := 5, constantValue := 0 }, { name := "threshold", type := .int, accessFlags := 0, slot := 6, constantValue := 0 }, { name := "loadFactor", type := .float, accessFlags := 16, slot := 7, constantValue := 0 }]
  methods := #[k18m0]
  instanceTypes := #[(.object "java/util/Set"), (.object "java/util/Collection"), (.array (.object "java/util/HashMap$Node")), (.object "java/util/Set"), .int, .int, .int, .float]
  staticTypes := #[.long, .int, .int, .float, .int, .int, .int]
  resolved := Array.replicate 629 none
  statics := none }

def pool19 : Array CpInfo := pool [(1, .class_ 2), (0, u "java/util/BitSet"), (0, .fieldref 1 4), (0, .nameAndType 5 6), (0, u "$assertionsDisabled"), (0, u "Z"), (0, .fieldref 1 8), (0, .nameAndType 9 10), (0, u "wordsInUse"), (0, u "I"), (0, .fieldref 1 12), (0, .nameAndType 13 14), (0, u "words"), (0, u "[J"), (3, .nameAndType 19 20), (0, u "<init>"), (0, u "()V"), (0, .methodref 22 18), (0, .class_ 23), (0, u "java/lang/Object"), (0, .fieldref 1 25), (0, .nameAndType 26 6), (0, u "sizeIsSticky"), (0, .methodref 1 28), (0, .nameAndType 29 30), (0, u "initWords"), (0, u "(I)V"), (21, .methodref 1 53), (0, .nameAndType 54 55), (0, u "wordIndex"), (0, u "(I)I"), (0, .methodref 1 57), (0, .nameAndType 58 20), (0, u "checkInvariants"), (0, .methodref 60 61), (0, .class_ 62), (0, .nameAndType 63 64), (0, u "java/util/Arrays"), (0, u "copyOf"), (0, u "([JI)[J"), (0, .methodref 1 66), (0, .nameAndType 19 67), (0, u "([J)V"), (9, u "()I"), (15, u "valueOf"), (89, .class_ 185), (1, u "java/lang/Long"), (1, u "(J)I"), (8, .methodref 183 197), (0, .nameAndType 198 187), (0, u "bitCount"), (56, u "cardinality"), (13, .class_ 270), (0, u "java/util/BitSet$1BitSetSpliterator"), (22, u "serialPersistentFields"), (0, u "[Ljava/io/ObjectStreamField;"), (0, .class_ 296), (0, u "java/lang/Cloneable"), (0, .class_ 298), (0, u "java/io/Serializable"), (0, u "ADDRESS_BITS_PER_WORD"), (2, u "BITS_PER_WORD"), (1, u "BIT_INDEX_MASK"), (1, u "WORD_MASK"), (0, u "J"), (0, u "serialVersionUID"), (11, u "([J)Ljava/util/BitSet;"), (16, u "toLongArray"), (0, u "()[J")] 78

def k19c0 : Code := { maxStack := 2, maxLocals := 1, code := jdk_92_method_1_code, exceptionTable := #[], attributes := #[] }
def k19m0 : Method := { name := "wordIndex", desc := "(I)I", sig := { parameters := [.int], returnType := some .int }, accessFlags := 10, code := some k19c0 }
def k19c1 : Code := { maxStack := 4, maxLocals := 1, code := jdk_92_method_2_code, exceptionTable := #[], attributes := #[] }
def k19m1 : Method := { name := "checkInvariants", desc := "()V", sig := { parameters := [], returnType := none }, accessFlags := 2, code := some k19c1 }
def k19c2 : Code := { maxStack := 2, maxLocals := 1, code := jdk_92_method_4_code, exceptionTable := #[], attributes := #[] }
def k19m2 : Method := { name := "<init>", desc := "()V", sig := { parameters := [], returnType := none }, accessFlags := 1, code := some k19c2 }
def k19c3 : Code := { maxStack := 3, maxLocals := 2, code := jdk_92_method_6_code, exceptionTable := #[], attributes := #[] }
def k19m3 : Method := { name := "initWords", desc := "(I)V", sig := { parameters := [.int], returnType := none }, accessFlags := 2, code := some k19c3 }
def k19c4 : Code := { maxStack := 2, maxLocals := 2, code := jdk_92_method_7_code, exceptionTable := #[], attributes := #[] }
def k19m4 : Method := { name := "<init>", desc := "([J)V", sig := { parameters := [(.array .long)], returnType := none }, accessFlags := 2, code := some k19c4 }
def k19c5 : Code := { maxStack := 4, maxLocals := 2, code := jdk_92_method_8_code, exceptionTable := #[], attributes := #[] }
def k19m5 : Method := { name := "valueOf", desc := "([J)Ljava/util/BitSet;", sig := { parameters := [(.array .long)], returnType := some (.object "java/util/BitSet") }, accessFlags := 9, code := some k19c5 }
def k19c6 : Code := { maxStack := 2, maxLocals := 1, code := jdk_92_method_13_code, exceptionTable := #[], attributes := #[] }
def k19m6 : Method := { name := "toLongArray", desc := "()[J", sig := { parameters := [], returnType := some (.array .long) }, accessFlags := 1, code := some k19c6 }
def k19c7 : Code := { maxStack := 3, maxLocals := 3, code := jdk_92_method_35_code, exceptionTable := #[], attributes := #[] }
def k19m7 : Method := { name := "cardinality", desc := "()I", sig := { parameters := [], returnType := some .int }, accessFlags := 1, code := some k19c7 }
/-- java/util/BitSet -/
def k19 : Class := { plain "java/util/BitSet" (some 0) with
  accessFlags := 33
  interfaces := #[14, 3]
  cf := some (fileOf pool19 1 #[.nestMembers #[269]] #[{ accessFlags := 10, nameIndex := 54, descriptorIndex := 55, attributes := #[] }, { accessFlags := 2, nameIndex := 58, descriptorIndex := 20, attributes := #[] }, { accessFlags := 1, nameIndex := 19, descriptorIndex := 20, attributes := #[] }, { accessFlags := 2, nameIndex := 29, descriptorIndex := 30, attributes := #[] }, { accessFlags := 2, nameIndex := 19, descriptorIndex := 67, attributes := #[] }, { accessFlags := 9, nameIndex := 93, descriptorIndex := 320, attributes := #[] }, { accessFlags := 1, nameIndex := 337, descriptorIndex := 338, attributes := #[] }, { accessFlags := 1, nameIndex := 255, descriptorIndex := 77, attributes := #[] }] 33 22 #[295, 297] #[{ accessFlags := 26, nameIndex := 299, descriptorIndex := 10, attributes := #[] }, { accessFlags := 26, nameIndex := 302, descriptorIndex := 10, attributes := #[] }, { accessFlags := 26, nameIndex := 304, descriptorIndex := 10, attributes := #[] }, { accessFlags := 26, nameIndex := 306, descriptorIndex := 307, attributes := #[] }, { accessFlags := 26, nameIndex := 293, descriptorIndex := 294, attributes := #[] }, { accessFlags := 2, nameIndex := 13, descriptorIndex := 14, attributes := #[] }, { accessFlags := 130, nameIndex := 9, descriptorIndex := 10, attributes := #[] }, { accessFlags := 130, nameIndex := 26, descriptorIndex := 6, attributes := #[] }, { accessFlags := 26, nameIndex := 308, descriptorIndex := 307, attributes := #[] }, { accessFlags := 4120, nameIndex := 5, descriptorIndex := 6, attributes := #[] }])
  fields := #[{ name := "ADDRESS_BITS_PER_WORD", type := .int, accessFlags := 26, slot := 0, constantValue := 0 }, { name := "BITS_PER_WORD", type := .int, accessFlags := 26, slot := 1, constantValue := 0 }, { name := "BIT_INDEX_MASK", type := .int, accessFlags := 26, slot := 2, constantValue := 0 }, { name := "WORD_MASK", type := .long, accessFlags := 26, slot := 3, constantValue := 0 }, { name := "serialPersistentFields", type := (.array (.object "java/io/ObjectStreamField")), accessFlags := 26, slot := 4, constantValue := 0 }, { name := "words", type := (.array .long), accessFlags := 2, slot := 0, constantValue := 0 }, { name := "wordsInUse", type := .int, accessFlags := 130, slot := 1, constantValue := 0 }, { name := "sizeIsSticky", type := .boolean, accessFlags := 130, slot := 2, constantValue := 0 }, { name := "serialVersionUID", type := .long, accessFlags := 26, slot := 5, constantValue := 0 }, { name := "$assertionsDisabled", type := .boolean, accessFlags := 4120, slot := 6, constantValue := 0 }]
  methods := #[k19m0, k19m1, k19m2, k19m3, k19m4, k19m5, k19m6, k19m7]
  instanceTypes := #[(.array .long), .int, .boolean]
  staticTypes := #[.int, .int, .int, .long, (.array (.object "java/io/ObjectStreamField")), .long, .boolean]
  resolved := Array.replicate 417 none
  statics := some 0 }

def pool20 : Array CpInfo := pool [(2, .class_ 4), (1, u "java/lang/Object"), (0, u "<init>"), (0, u "()V"), (7, .class_ 16), (1, u "java/util/Arrays"), (57, .class_ 76), (1, u "java/util/Arrays$NaturalOrder"), (32, u "()Ljava/lang/Object;"), (3, .class_ 115), (1, u "java/util/Arrays$LegacyMergeSort"), (1, u "Z"), (10, .nameAndType 129 109), (0, u "clone"), (20, .methodref 151 152), (0, .class_ 153), (0, .nameAndType 154 155), (0, u "java/lang/System"), (0, u "arraycopy"), (0, u "(Ljava/lang/Object;ILjava/lang/Object;II)V"), (146, u "copyOf"), (1, .methodref 305 306), (0, .class_ 307), (0, .nameAndType 308 309), (0, u "java/lang/Math"), (0, u "min"), (0, u "(II)I"), (9, .methodref 320 128), (0, .class_ 321), (0, u "[J"), (53, .class_ 376), (0, u "java/util/Arrays$ArrayList"), (68, u "$assertionsDisabled"), (269, u "MIN_ARRAY_SORT_GRAN"), (0, u "I"), (2, u "INSERTIONSORT_THRESHOLD"), (152, u "([JI)[J"), (102, .class_ 976), (0, u "java/util/Arrays$ArrayItr")] 52

def k20m0 : Method := { name := "<init>", desc := "()V", sig := { parameters := [], returnType := none }, accessFlags := 2, code := none }
def k20c1 : Code := { maxStack := 6, maxLocals := 3, code := jdk_65_method_124_code, exceptionTable := #[], attributes := #[] }
def k20m1 : Method := { name := "copyOf", desc := "([JI)[J", sig := { parameters := [(.array .long), .int], returnType := some (.array .long) }, accessFlags := 9, code := some k20c1 }
/-- java/util/Arrays -/
def k20 : Class := { plain "java/util/Arrays" (some 0) with
  accessFlags := 49
  interfaces := #[]
  cf := some (fileOf pool20 14 #[.nestMembers #[975, 375, 113, 74]] #[{ accessFlags := 2, nameIndex := 5, descriptorIndex := 6, attributes := #[] }, { accessFlags := 9, nameIndex := 302, descriptorIndex := 872, attributes := #[] }] 49 2 #[] #[{ accessFlags := 26, nameIndex := 715, descriptorIndex := 716, attributes := #[] }, { accessFlags := 26, nameIndex := 719, descriptorIndex := 716, attributes := #[] }, { accessFlags := 4120, nameIndex := 445, descriptorIndex := 117, attributes := #[] }])
  fields := #[{ name := "MIN_ARRAY_SORT_GRAN", type := .int, accessFlags := 26, slot := 0, constantValue := 0 }, { name := "INSERTIONSORT_THRESHOLD", type := .int, accessFlags := 26, slot := 1, constantValue := 0 }, { name := "$assertionsDisabled", type := .boolean, accessFlags := 4120, slot := 2, constantValue := 0 }]
  methods := #[k20m0, k20m1]
  instanceTypes := #[]
  staticTypes := #[.int, .int, .boolean]
  resolved := Array.replicate 1029 none
  statics := none }

def pool21 : Array CpInfo := pool [(1, .class_ 2), (0, u "java/lang/Math"), (1, .class_ 6), (1, u "java/lang/Object"), (0, u "<init>"), (0, u "()V"), (89, .class_ 100), (1, u "java/lang/Math$RandomNumberGeneratorHolder"), (71, u "negativeZeroFloatBits"), (0, u "J"), (2, u "negativeZeroDoubleBits"), (24, u "min"), (43, u "$assertionsDisabled"), (0, u "Z"), (88, u "(II)I"), (2, u "twoToTheDoubleScaleDown"), (0, u "D"), (4, u "twoToTheDoubleScaleUp"), (9, u "E"), (3, u "PI"), (2, u "TAU"), (2, u "DEGREES_TO_RADIANS"), (0, u "RADIANS_TO_DEGREES")] 94

def k21m0 : Method := { name := "<init>", desc := "()V", sig := { parameters := [], returnType := none }, accessFlags := 2, code := none }
def k21c1 : Code := { maxStack := 2, maxLocals := 2, code := jdk_29_method_69_code, exceptionTable := #[], attributes := #[] }
def k21m1 : Method := { name := "min", desc := "(II)I", sig := { parameters := [.int, .int], returnType := some .int }, accessFlags := 9, code := some k21c1 }
/-- java/lang/Math -/
def k21 : Class := { plain "java/lang/Math" (some 0) with
  accessFlags := 49
  interfaces := #[]
  cf := some (fileOf pool21 1 #[.nestMembers #[98]] #[{ accessFlags := 2, nameIndex := 7, descriptorIndex := 8, attributes := #[] }, { accessFlags := 9, nameIndex := 201, descriptorIndex := 335, attributes := #[] }] 49 4 #[] #[{ accessFlags := 25, nameIndex := 354, descriptorIndex := 339, attributes := #[] }, { accessFlags := 25, nameIndex := 358, descriptorIndex := 339, attributes := #[] }, { accessFlags := 25, nameIndex := 361, descriptorIndex := 339, attributes := #[] }, { accessFlags := 26, nameIndex := 364, descriptorIndex := 339, attributes := #[] }, { accessFlags := 26, nameIndex := 365, descriptorIndex := 339, attributes := #[] }, { accessFlags := 26, nameIndex := 172, descriptorIndex := 173, attributes := #[] }, { accessFlags := 26, nameIndex := 176, descriptorIndex := 173, attributes := #[] }, { accessFlags := 8, nameIndex := 344, descriptorIndex := 339, attributes := #[] }, { accessFlags := 8, nameIndex := 338, descriptorIndex := 339, attributes := #[] }, { accessFlags := 4120, nameIndex := 245, descriptorIndex := 246, attributes := #[] }])
  fields := #[{ name := "E", type := .double, accessFlags := 25, slot := 0, constantValue := 0 }, { name := "PI", type := .double, accessFlags := 25, slot := 1, constantValue := 0 }, { name := "TAU", type := .double, accessFlags := 25, slot := 2, constantValue := 0 }, { name := "DEGREES_TO_RADIANS", type := .double, accessFlags := 26, slot := 3, constantValue := 0 }, { name := "RADIANS_TO_DEGREES", type := .double, accessFlags := 26, slot := 4, constantValue := 0 }, { name := "negativeZeroFloatBits", type := .long, accessFlags := 26, slot := 5, constantValue := 0 }, { name := "negativeZeroDoubleBits", type := .long, accessFlags := 26, slot := 6, constantValue := 0 }, { name := "twoToTheDoubleScaleUp", type := .double, accessFlags := 8, slot := 7, constantValue := 0 }, { name := "twoToTheDoubleScaleDown", type := .double, accessFlags := 8, slot := 8, constantValue := 0 }, { name := "$assertionsDisabled", type := .boolean, accessFlags := 4120, slot := 9, constantValue := 0 }]
  methods := #[k21m0, k21m1]
  instanceTypes := #[]
  staticTypes := #[.double, .double, .double, .double, .double, .long, .long, .double, .double, .boolean]
  resolved := Array.replicate 460 none
  statics := none }

def pool22 : Array CpInfo := pool [(2, .class_ 4), (1, u "java/lang/Object"), (0, u "<init>"), (0, u "()V"), (1, .class_ 10), (1, u "java/lang/System"), (0, u "allowSecurityManager"), (0, u "I"), (16, u "cons"), (0, u "Ljava/io/Console;"), (77, .class_ 110), (1, u "java/lang/System$CallersHolder"), (43, u "initialErrStream"), (0, u "Ljava/io/PrintStream;"), (19, u "security"), (0, u "Ljava/lang/SecurityManager;"), (31, .class_ 209), (0, u "java/lang/System$1"), (7, u "props"), (0, u "Ljava/util/Properties;"), (2, u "lineSeparator"), (0, u "Ljava/lang/String;"), (96, .class_ 321), (1, u "java/lang/System$LoggerFinder"), (5, .class_ 328), (0, u "java/lang/System$Logger"), (67, u "err"), (2, u "out"), (91, u "notSupportedJnuEncoding"), (15, u "in"), (17, u "initialIn"), (0, u "Ljava/io/InputStream;"), (35, u "bootLayer"), (0, u "Ljava/lang/ModuleLayer;"), (99, .class_ 664), (0, u "java/lang/System$2"), (9, u "NEVER"), (2, u "MAYBE"), (49, u "arraycopy"), (0, u "(Ljava/lang/Object;ILjava/lang/Object;II)V"), (72, .class_ 802), (0, u "java/lang/System$Logger$Level")] 31

def k22m0 : Method := { name := "<init>", desc := "()V", sig := { parameters := [], returnType := none }, accessFlags := 2, code := none }
def k22m1 : Method := { name := "arraycopy", desc := "(Ljava/lang/Object;ILjava/lang/Object;II)V", sig := { parameters := [(.object "java/lang/Object"), .int, (.object "java/lang/Object"), .int, .int], returnType := none }, accessFlags := 265, code := none }
/-- java/lang/System -/
def k22 : Class := { plain "java/lang/System" (some 0) with
  accessFlags := 49
  interfaces := #[]
  cf := some (fileOf pool22 8 #[.nestMembers #[319, 327, 801, 108, 663, 208]] #[{ accessFlags := 2, nameIndex := 5, descriptorIndex := 6, attributes := #[] }, { accessFlags := 265, nameIndex := 727, descriptorIndex := 728, attributes := #[] }] 49 2 #[] #[{ accessFlags := 25, nameIndex := 507, descriptorIndex := 526, attributes := #[] }, { accessFlags := 25, nameIndex := 399, descriptorIndex := 155, attributes := #[] }, { accessFlags := 25, nameIndex := 396, descriptorIndex := 155, attributes := #[] }, { accessFlags := 10, nameIndex := 525, descriptorIndex := 526, attributes := #[] }, { accessFlags := 26, nameIndex := 674, descriptorIndex := 12, attributes := #[] }, { accessFlags := 26, nameIndex := 677, descriptorIndex := 12, attributes := #[] }, { accessFlags := 10, nameIndex := 11, descriptorIndex := 12, attributes := #[] }, { accessFlags := 74, nameIndex := 175, descriptorIndex := 176, attributes := #[] }, { accessFlags := 10, nameIndex := 491, descriptorIndex := 222, attributes := #[] }, { accessFlags := 74, nameIndex := 29, descriptorIndex := 30, attributes := #[] }, { accessFlags := 74, nameIndex := 154, descriptorIndex := 155, attributes := #[] }, { accessFlags := 10, nameIndex := 217, descriptorIndex := 218, attributes := #[] }, { accessFlags := 10, nameIndex := 221, descriptorIndex := 222, attributes := #[] }, { accessFlags := 8, nameIndex := 562, descriptorIndex := 563, attributes := #[] }])
  fields := #[{ name := "in", type := (.object "java/io/InputStream"), accessFlags := 25, slot := 0, constantValue := 0 }, { name := "out", type := (.object "java/io/PrintStream"), accessFlags := 25, slot := 1, constantValue := 0 }, { name := "err", type := (.object "java/io/PrintStream"), accessFlags := 25, slot := 2, constantValue := 0 }, { name := "initialIn", type := (.object "java/io/InputStream"), accessFlags := 10, slot := 3, constantValue := 0 }, { name := "NEVER", type := .int, accessFlags := 26, slot := 4, constantValue := 0 }, { name := "MAYBE", type := .int, accessFlags := 26, slot := 5, constantValue := 0 }, { name := "allowSecurityManager", type := .int, accessFlags := 10, slot := 6, constantValue := 0 }, { name := "security", type := (.object "java/lang/SecurityManager"), accessFlags := 74, slot := 7, constantValue := 0 }, { name := "notSupportedJnuEncoding", type := (.object "java/lang/String"), accessFlags := 10, slot := 8, constantValue := 0 }, { name := "cons", type := (.object "java/io/Console"), accessFlags := 74, slot := 9, constantValue := 0 }, { name := "initialErrStream", type := (.object "java/io/PrintStream"), accessFlags := 74, slot := 10, constantValue := 0 }, { name := "props", type := (.object "java/util/Properties"), accessFlags := 10, slot := 11, constantValue := 0 }, { name := "lineSeparator", type := (.object "java/lang/String"), accessFlags := 10, slot := 12, constantValue := 0 }, { name := "bootLayer", type := (.object "java/lang/ModuleLayer"), accessFlags := 8, slot := 13, constantValue := 0 }]
  methods := #[k22m0, k22m1]
  instanceTypes := #[]
  staticTypes := #[(.object "java/io/InputStream"), (.object "java/io/PrintStream"), (.object "java/io/PrintStream"), (.object "java/io/InputStream"), .int, .int, .int, (.object "java/lang/SecurityManager"), (.object "java/lang/String"), (.object "java/io/Console"), (.object "java/io/PrintStream"), (.object "java/util/Properties"), (.object "java/lang/String"), (.object "java/lang/ModuleLayer")]
  resolved := Array.replicate 834 none
  statics := none }

def pool23 : Array CpInfo := pool [(2, .class_ 4), (1, u "java/lang/Object"), (0, u "<init>"), (0, u "()V"), (1, .class_ 10), (1, u "java/lang/Number"), (2, .class_ 14), (0, u "java/io/Serializable"), (0, u "serialVersionUID"), (0, u "J")] 20

def k23m0 : Method := { name := "<init>", desc := "()V", sig := { parameters := [], returnType := none }, accessFlags := 1, code := none }
/-- java/lang/Number -/
def k23 : Class := { plain "java/lang/Number" (some 0) with
  accessFlags := 1057
  interfaces := #[3]
  cf := some (fileOf pool23 8 #[] #[{ accessFlags := 1, nameIndex := 5, descriptorIndex := 6, attributes := #[] }] 1057 2 #[13] #[{ accessFlags := 26, nameIndex := 15, descriptorIndex := 16, attributes := #[] }])
  fields := #[{ name := "serialVersionUID", type := .long, accessFlags := 26, slot := 0, constantValue := 0 }]
  methods := #[k23m0]
  instanceTypes := #[]
  staticTypes := #[.long]
  resolved := Array.replicate 37 none
  statics := none }

def pool24 : Array CpInfo := pool [(1, .class_ 2), (0, u "java/lang/Long"), (98, u "(J)I"), (133, .class_ 237), (1, u "java/lang/Long$LongCache"), (33, .class_ 272), (0, u "java/lang/Number"), (2, u "value"), (0, u "J"), (37, .long 6148914691236517205), (1, .long 3689348814741910323), (1, .long 1085102592571150095), (42, u "TYPE"), (0, u "Ljava/lang/Class;"), (0, .class_ 364), (0, u "java/lang/Comparable"), (0, .class_ 366), (0, u "java/lang/constant/Constable"), (0, .class_ 368), (0, u "java/lang/constant/ConstantDesc"), (0, u "MIN_VALUE"), (1, u "MAX_VALUE"), (4, u "SIZE"), (0, u "I"), (1, u "BYTES"), (1, u "serialVersionUID"), (94, u "bitCount")] 47

def k24c0 : Code := { maxStack := 6, maxLocals := 2, code := jdk_35_method_50_code, exceptionTable := #[], attributes := #[] }
def k24m0 : Method := { name := "bitCount", desc := "(J)I", sig := { parameters := [.long], returnType := some .int }, accessFlags := 9, code := some k24c0 }
/-- java/lang/Long -/
def k24 : Class := { plain "java/lang/Long" (some 23) with
  accessFlags := 49
  interfaces := #[4, 6, 7]
  cf := some (fileOf pool24 1 #[.nestMembers #[235]] #[{ accessFlags := 9, nameIndex := 476, descriptorIndex := 101, attributes := #[] }] 49 271 #[363, 365, 367] #[{ accessFlags := 25, nameIndex := 369, descriptorIndex := 276, attributes := #[] }, { accessFlags := 25, nameIndex := 371, descriptorIndex := 276, attributes := #[] }, { accessFlags := 25, nameIndex := 361, descriptorIndex := 362, attributes := #[] }, { accessFlags := 18, nameIndex := 275, descriptorIndex := 276, attributes := #[] }, { accessFlags := 25, nameIndex := 376, descriptorIndex := 377, attributes := #[] }, { accessFlags := 25, nameIndex := 379, descriptorIndex := 377, attributes := #[] }, { accessFlags := 26, nameIndex := 381, descriptorIndex := 276, attributes := #[] }])
  fields := #[{ name := "MIN_VALUE", type := .long, accessFlags := 25, slot := 0, constantValue := 0 }, { name := "MAX_VALUE", type := .long, accessFlags := 25, slot := 1, constantValue := 0 }, { name := "TYPE", type := (.object "java/lang/Class"), accessFlags := 25, slot := 2, constantValue := 0 }, { name := "value", type := .long, accessFlags := 18, slot := 0, constantValue := 0 }, { name := "SIZE", type := .int, accessFlags := 25, slot := 3, constantValue := 0 }, { name := "BYTES", type := .int, accessFlags := 25, slot := 4, constantValue := 0 }, { name := "serialVersionUID", type := .long, accessFlags := 26, slot := 5, constantValue := 0 }]
  methods := #[k24m0]
  instanceTypes := #[.long]
  staticTypes := #[.long, .long, (.object "java/lang/Class"), .int, .int, .long]
  resolved := Array.replicate 524 none
  statics := none }

/-- the primitive byte -/
def k25 : Class := { plain "byte" none with kind := .primitive 'B', accessFlags := 0x411 }
/-- [B -/
def k26 : Class := { plain "[B" (some 0) with kind := .array 25 .byte, interfaces := #[14, 3], accessFlags := 1041 }

/-- the primitive int -/
def k27 : Class := { plain "int" none with kind := .primitive 'I', accessFlags := 0x411 }
/-- [I -/
def k28 : Class := { plain "[I" (some 0) with kind := .array 27 .int, interfaces := #[14, 3], accessFlags := 1041 }

/-- the primitive long -/
def k29 : Class := { plain "long" none with kind := .primitive 'J', accessFlags := 0x411 }
/-- [J -/
def k30 : Class := { plain "[J" (some 0) with kind := .array 29 .long, interfaces := #[14, 3], accessFlags := 1041 }

def heap : Heap := #[{ cls := 19, slots := #[.int 0, .int 0, .int 0, .long 0, .null, .long 0, .int 1], vm := .statics 19 }]
def classes : Array Class := #[k0, k1, k2, k3, k4, k5, k6, k7, k8, k9, k10, k11, k12, k13, k14, k15, k16, k17, k18, k19, k20, k21, k22, k23, k24, k25, k26, k27, k28, k29, k30]
def interned : List (Array UInt16 × Addr) := []
def slotsUsed : Nat := 7
def theMethod : MethodId := ⟨1, 1⟩
def args0 : Array Value := #[.long 5, .long 5, .long 5, .long 5, .int 5]
def aboutOver (below : List Frame) : State where
  vm := { classes := classes, interned := interned.toArray }
  heap := heap
  slotsUsed := slotsUsed
  threads := #[{ frames := .invoking theMethod args0 :: below }]
def below0 : List Frame := [.native { method := ⟨0, 0⟩, args := #[] }]
def about1 : State := aboutOver below0
def p0 : Program := .bare "" "" ""
def e0 : Env := launch0.env 0 0 0
theorem w_frames : about1.frames = Frame.invoking theMethod args0 :: below0 := rfl
set_option maxRecDepth 65536 in
theorem w_args : argsFit about1.vm theMethod args0 = true := by decide +kernel
set_option maxRecDepth 65536 in
theorem w_heap : heapFits about1 = true := by decide +kernel
set_option maxRecDepth 65536 in
theorem w_runnable : about1.curStatus? = some .runnable := by decide +kernel
set_option maxRecDepth 65536 in
theorem w_alone : about1.alone = true := by decide +kernel
set_option maxRecDepth 65536 in
theorem w_named : about1.methodNamed? x = some theMethod := by decide +kernel
set_option maxRecDepth 65536 in
theorem w_hears : about1.hears theMethod below0 = true := by decide +kernel
set_option maxRecDepth 65536 in
theorem w_ripe : about1.ripe theMethod args0 below0 = true := by decide +kernel
theorem w_running : about1.status = .running := rfl
set_option maxRecDepth 65536 in
theorem w_room : about1.hasRoom e0.platform room_1 = true :=
  launch0.hasRoom_least _ room_1 (by decide +kernel) (by decide +kernel) (by decide +kernel) (by decide +kernel) (by decide +kernel) (by decide +kernel)
theorem allAtoms_all (ts : List Jvm.Cond) (a : Array Jvm.Value) (st : Jvm.State) : (allAtoms ts).before a st = ts.all (fun c => c.before a st) := by
  induction ts with
  | nil => rfl
  | cons c t ih =>
    show (Jvm.Cond.and c (allAtoms t)).before a st = _
    rw [Jvm.Cond.before_and, ih, List.all_cons]
def words1 : List Jvm.Cond := Jvm.Cond.code x code maxLocals ret :: tables_1
/-- a 'code' word, met by the world's own term for the bytes: nothing is compared byte by byte -/
theorem code_word {y : MethodName} {bytes : ByteArray} {mx : Nat} {rt : Option FieldType} {a : Array Value} {s : State} {m : MethodId} {meth : Method} {c : Code} (h1 : s.methodNamed? y = some m) (h2 : s.vm.method? m = some meth) (h3 : meth.code = some c) (h4 : c.code = bytes)
    (h5 : (c.maxLocals == mx && c.exceptionTable.isEmpty && decide (c.maxStack ≤ mostOperands) && decide (meth.sig.returnType = rt) && !meth.locks && decide (parseMethodDescriptor y.desc = some meth.sig)) = true) : (Jvm.Cond.code y bytes mx rt).before a s = true := by
  simp only [Bool.and_eq_true, beq_iff_eq, Bool.not_eq_true', decide_eq_true_eq] at h5
  obtain ⟨⟨⟨⟨⟨g1, g2⟩, g3⟩, g4⟩, g5⟩, g6⟩ := h5
  simp [Cond.before, Cond.holds, Cond.value, h1, h2, h3, h4, g1, g2, g3, g4, g5, g6]
def isCode : Jvm.Cond → Bool
  | .code _ _ _ _ => true
  | _ => false
theorem all_split {L : List Jvm.Cond} {P : Jvm.Cond → Bool} (h1 : L.all (fun c => isCode c || P c) = true) (h2 : ∀ c ∈ L.filter isCode, P c = true) : L.all P = true := by
  refine List.all_eq_true.mpr fun c hc => ?_
  have h := List.all_eq_true.mp h1 c hc
  rcases Bool.eq_false_or_eq_true (isCode c) with hi | hi
  · exact h2 c (List.mem_filter.mpr ⟨hc, hi⟩)
  · simpa [hi] using h
set_option maxRecDepth 65536 in
theorem w_c0 : (Jvm.Cond.code x code maxLocals ret).before args0 about1 = true := code_word (m := ⟨1, 1⟩) (meth := k1m1) (c := k1c1) (by decide +kernel) rfl rfl rfl (by decide +kernel)
set_option maxRecDepth 65536 in
theorem w_c1 : (Jvm.Cond.code ({ cls := "com/example/medway/medway/Node", name := "<init>", desc := "(Ljava/lang/String;)V" } : Jvm.MethodName) prog_24_method_1_code (2 : Nat) (Option.none : Option Jvm.ClassFile.FieldType)).before args0 about1 = true := code_word (m := ⟨2, 0⟩) (meth := k2m0) (c := k2c0) (by decide +kernel) rfl rfl rfl (by decide +kernel)
set_option maxRecDepth 65536 in
theorem w_c2 : (Jvm.Cond.code ({ cls := "java/lang/Object", name := "<init>", desc := "()V" } : Jvm.MethodName) object_method_1_code (1 : Nat) (Option.none : Option Jvm.ClassFile.FieldType)).before args0 about1 = true := code_word (m := ⟨0, 0⟩) (meth := k0m0) (c := k0c0) (by decide +kernel) rfl rfl rfl (by decide +kernel)
set_option maxRecDepth 65536 in
theorem w_c3 : (Jvm.Cond.code ({ cls := "java/util/HashSet", name := "<init>", desc := "()V" } : Jvm.MethodName) jdk_93_method_1_code (1 : Nat) (Option.none : Option Jvm.ClassFile.FieldType)).before args0 about1 = true := code_word (m := ⟨15, 0⟩) (meth := k15m0) (c := k15c0) (by decide +kernel) rfl rfl rfl (by decide +kernel)
set_option maxRecDepth 65536 in
theorem w_c4 : (Jvm.Cond.code ({ cls := "java/util/AbstractSet", name := "<init>", desc := "()V" } : Jvm.MethodName) jdk_91_method_1_code (1 : Nat) (Option.none : Option Jvm.ClassFile.FieldType)).before args0 about1 = true := code_word (m := ⟨13, 0⟩) (meth := k13m0) (c := k13c0) (by decide +kernel) rfl rfl rfl (by decide +kernel)
set_option maxRecDepth 65536 in
theorem w_c5 : (Jvm.Cond.code ({ cls := "java/util/AbstractCollection", name := "<init>", desc := "()V" } : Jvm.MethodName) jdk_22_method_1_code (1 : Nat) (Option.none : Option Jvm.ClassFile.FieldType)).before args0 about1 = true := code_word (m := ⟨11, 0⟩) (meth := k11m0) (c := k11c0) (by decide +kernel) rfl rfl rfl (by decide +kernel)
set_option maxRecDepth 65536 in
theorem w_c6 : (Jvm.Cond.code ({ cls := "java/util/HashMap", name := "<init>", desc := "()V" } : Jvm.MethodName) jdk_69_method_7_code (1 : Nat) (Option.none : Option Jvm.ClassFile.FieldType)).before args0 about1 = true := code_word (m := ⟨18, 0⟩) (meth := k18m0) (c := k18c0) (by decide +kernel) rfl rfl rfl (by decide +kernel)
set_option maxRecDepth 65536 in
theorem w_c7 : (Jvm.Cond.code ({ cls := "java/util/AbstractMap", name := "<init>", desc := "()V" } : Jvm.MethodName) jdk_71_method_1_code (1 : Nat) (Option.none : Option Jvm.ClassFile.FieldType)).before args0 about1 = true := code_word (m := ⟨17, 0⟩) (meth := k17m0) (c := k17c0) (by decide +kernel) rfl rfl rfl (by decide +kernel)
set_option maxRecDepth 65536 in
theorem w_c8 : (Jvm.Cond.code ({ cls := "java/util/BitSet", name := "<init>", desc := "()V" } : Jvm.MethodName) jdk_92_method_4_code (1 : Nat) (Option.none : Option Jvm.ClassFile.FieldType)).before args0 about1 = true := code_word (m := ⟨19, 2⟩) (meth := k19m2) (c := k19c2) (by decide +kernel) rfl rfl rfl (by decide +kernel)
set_option maxRecDepth 65536 in
theorem w_c9 : (Jvm.Cond.code ({ cls := "java/util/BitSet", name := "initWords", desc := "(I)V" } : Jvm.MethodName) jdk_92_method_6_code (2 : Nat) (Option.none : Option Jvm.ClassFile.FieldType)).before args0 about1 = true := code_word (m := ⟨19, 3⟩) (meth := k19m3) (c := k19c3) (by decide +kernel) rfl rfl rfl (by decide +kernel)
set_option maxRecDepth 65536 in
theorem w_c10 : (Jvm.Cond.code ({ cls := "java/util/BitSet", name := "wordIndex", desc := "(I)I" } : Jvm.MethodName) jdk_92_method_1_code (1 : Nat) (Option.some Jvm.ClassFile.FieldType.int)).before args0 about1 = true := code_word (m := ⟨19, 0⟩) (meth := k19m0) (c := k19c0) (by decide +kernel) rfl rfl rfl (by decide +kernel)
set_option maxRecDepth 65536 in
theorem w_c11 : (Jvm.Cond.code ({ cls := "com/example/medway/medway/Node", name := "hold", desc := "(Ljava/util/BitSet;)V" } : Jvm.MethodName) prog_24_method_4_code (2 : Nat) (Option.none : Option Jvm.ClassFile.FieldType)).before args0 about1 = true := code_word (m := ⟨2, 1⟩) (meth := k2m1) (c := k2c1) (by decide +kernel) rfl rfl rfl (by decide +kernel)
set_option maxRecDepth 65536 in
theorem w_c12 : (Jvm.Cond.code ({ cls := "java/util/BitSet", name := "cardinality", desc := "()I" } : Jvm.MethodName) jdk_92_method_35_code (3 : Nat) (Option.some Jvm.ClassFile.FieldType.int)).before args0 about1 = true := code_word (m := ⟨19, 7⟩) (meth := k19m7) (c := k19c7) (by decide +kernel) rfl rfl rfl (by decide +kernel)
set_option maxRecDepth 65536 in
theorem w_c13 : (Jvm.Cond.code ({ cls := "java/util/BitSet", name := "toLongArray", desc := "()[J" } : Jvm.MethodName) jdk_92_method_13_code (1 : Nat) (Option.some (Jvm.ClassFile.FieldType.array Jvm.ClassFile.FieldType.long))).before args0 about1 = true := code_word (m := ⟨19, 6⟩) (meth := k19m6) (c := k19c6) (by decide +kernel) rfl rfl rfl (by decide +kernel)
set_option maxRecDepth 65536 in
theorem w_c14 : (Jvm.Cond.code ({ cls := "java/util/Arrays", name := "copyOf", desc := "([JI)[J" } : Jvm.MethodName) jdk_65_method_124_code (3 : Nat) (Option.some (Jvm.ClassFile.FieldType.array Jvm.ClassFile.FieldType.long))).before args0 about1 = true := code_word (m := ⟨20, 1⟩) (meth := k20m1) (c := k20c1) (by decide +kernel) rfl rfl rfl (by decide +kernel)
set_option maxRecDepth 65536 in
theorem w_c15 : (Jvm.Cond.code ({ cls := "java/lang/Math", name := "min", desc := "(II)I" } : Jvm.MethodName) jdk_29_method_69_code (2 : Nat) (Option.some Jvm.ClassFile.FieldType.int)).before args0 about1 = true := code_word (m := ⟨21, 1⟩) (meth := k21m1) (c := k21c1) (by decide +kernel) rfl rfl rfl (by decide +kernel)
set_option maxRecDepth 65536 in
theorem w_c16 : (Jvm.Cond.code ({ cls := "java/util/BitSet", name := "valueOf", desc := "([J)Ljava/util/BitSet;" } : Jvm.MethodName) jdk_92_method_8_code (2 : Nat) (Option.some (Jvm.ClassFile.FieldType.object "java/util/BitSet"))).before args0 about1 = true := code_word (m := ⟨19, 5⟩) (meth := k19m5) (c := k19c5) (by decide +kernel) rfl rfl rfl (by decide +kernel)
set_option maxRecDepth 65536 in
theorem w_c17 : (Jvm.Cond.code ({ cls := "java/util/BitSet", name := "<init>", desc := "([J)V" } : Jvm.MethodName) jdk_92_method_7_code (2 : Nat) (Option.none : Option Jvm.ClassFile.FieldType)).before args0 about1 = true := code_word (m := ⟨19, 4⟩) (meth := k19m4) (c := k19c4) (by decide +kernel) rfl rfl rfl (by decide +kernel)
set_option maxRecDepth 65536 in
theorem w_c18 : (Jvm.Cond.code ({ cls := "java/util/BitSet", name := "checkInvariants", desc := "()V" } : Jvm.MethodName) jdk_92_method_2_code (1 : Nat) (Option.none : Option Jvm.ClassFile.FieldType)).before args0 about1 = true := code_word (m := ⟨19, 1⟩) (meth := k19m1) (c := k19c1) (by decide +kernel) rfl rfl rfl (by decide +kernel)
set_option maxRecDepth 65536 in
theorem w_c19 : (Jvm.Cond.code ({ cls := "java/lang/Long", name := "bitCount", desc := "(J)I" } : Jvm.MethodName) jdk_35_method_50_code (2 : Nat) (Option.some Jvm.ClassFile.FieldType.int)).before args0 about1 = true := code_word (m := ⟨24, 0⟩) (meth := k24m0) (c := k24c0) (by decide +kernel) rfl rfl rfl (by decide +kernel)
set_option maxRecDepth 65536 in
theorem w_c20 : (Jvm.Cond.code ({ cls := "com/example/medway/medway/Node", name := "holdsLessThan", desc := "(Lcom/example/medway/medway/Node;)Z" } : Jvm.MethodName) prog_24_method_5_code (3 : Nat) (Option.some Jvm.ClassFile.FieldType.boolean)).before args0 about1 = true := code_word (m := ⟨2, 2⟩) (meth := k2m2) (c := k2c2) (by decide +kernel) rfl rfl rfl (by decide +kernel)
set_option maxRecDepth 65536 in
theorem w_c21 : (Jvm.Cond.code ({ cls := "com/example/medway/medway/NodeHoldsLessThanPinLaw", name := "strictSubset", desc := "(JJJJ)Z" } : Jvm.MethodName) method_3_code (10 : Nat) (Option.some Jvm.ClassFile.FieldType.boolean)).before args0 about1 = true := code_word (m := ⟨1, 2⟩) (meth := k1m2) (c := k1c2) (by decide +kernel) rfl rfl rfl (by decide +kernel)
def codes1 : List Jvm.Cond := [Jvm.Cond.code x code maxLocals ret, Jvm.Cond.code ({ cls := "com/example/medway/medway/Node", name := "<init>", desc := "(Ljava/lang/String;)V" } : Jvm.MethodName) prog_24_method_1_code (2 : Nat) (Option.none : Option Jvm.ClassFile.FieldType), Jvm.Cond.code ({ cls := "java/lang/Object", name := "<init>", desc := "()V" } : Jvm.MethodName) object_method_1_code (1 : Nat) (Option.none : Option Jvm.ClassFile.FieldType), Jvm.Cond.code ({ cls := "java/util/HashSet", name := "<init>", desc := "()V" } : Jvm.MethodName) jdk_93_method_1_code (1 : Nat) (Option.none : Option Jvm.ClassFile.FieldType), Jvm.Cond.code ({ cls := "java/util/AbstractSet", name := "<init>", desc := "()V" } : Jvm.MethodName) jdk_91_method_1_code (1 : Nat) (Option.none : Option Jvm.ClassFile.FieldType), Jvm.Cond.code ({ cls := "java/util/AbstractCollection", name := "<init>", desc := "()V" } : Jvm.MethodName) jdk_22_method_1_code (1 : Nat) (Option.none : Option Jvm.ClassFile.FieldType), Jvm.Cond.code ({ cls := "java/util/HashMap", name := "<init>", desc := "()V" } : Jvm.MethodName) jdk_69_method_7_code (1 : Nat) (Option.none : Option Jvm.ClassFile.FieldType), Jvm.Cond.code ({ cls := "java/util/AbstractMap", name := "<init>", desc := "()V" } : Jvm.MethodName) jdk_71_method_1_code (1 : Nat) (Option.none : Option Jvm.ClassFile.FieldType), Jvm.Cond.code ({ cls := "java/util/BitSet", name := "<init>", desc := "()V" } : Jvm.MethodName) jdk_92_method_4_code (1 : Nat) (Option.none : Option Jvm.ClassFile.FieldType), Jvm.Cond.code ({ cls := "java/util/BitSet", name := "initWords", desc := "(I)V" } : Jvm.MethodName) jdk_92_method_6_code (2 : Nat) (Option.none : Option Jvm.ClassFile.FieldType), Jvm.Cond.code ({ cls := "java/util/BitSet", name := "wordIndex", desc := "(I)I" } : Jvm.MethodName) jdk_92_method_1_code (1 : Nat) (Option.some Jvm.ClassFile.FieldType.int), Jvm.Cond.code ({ cls := "com/example/medway/medway/Node", name := "hold", desc := "(Ljava/util/BitSet;)V" } : Jvm.MethodName) prog_24_method_4_code (2 : Nat) (Option.none : Option Jvm.ClassFile.FieldType), Jvm.Cond.code ({ cls := "java/util/BitSet", name := "cardinality", desc := "()I" } : Jvm.MethodName) jdk_92_method_35_code (3 : Nat) (Option.some Jvm.ClassFile.FieldType.int), Jvm.Cond.code ({ cls := "java/util/BitSet", name := "toLongArray", desc := "()[J" } : Jvm.MethodName) jdk_92_method_13_code (1 : Nat) (Option.some (Jvm.ClassFile.FieldType.array Jvm.ClassFile.FieldType.long)), Jvm.Cond.code ({ cls := "java/util/Arrays", name := "copyOf", desc := "([JI)[J" } : Jvm.MethodName) jdk_65_method_124_code (3 : Nat) (Option.some (Jvm.ClassFile.FieldType.array Jvm.ClassFile.FieldType.long)), Jvm.Cond.code ({ cls := "java/lang/Math", name := "min", desc := "(II)I" } : Jvm.MethodName) jdk_29_method_69_code (2 : Nat) (Option.some Jvm.ClassFile.FieldType.int), Jvm.Cond.code ({ cls := "java/util/BitSet", name := "valueOf", desc := "([J)Ljava/util/BitSet;" } : Jvm.MethodName) jdk_92_method_8_code (2 : Nat) (Option.some (Jvm.ClassFile.FieldType.object "java/util/BitSet")), Jvm.Cond.code ({ cls := "java/util/BitSet", name := "<init>", desc := "([J)V" } : Jvm.MethodName) jdk_92_method_7_code (2 : Nat) (Option.none : Option Jvm.ClassFile.FieldType), Jvm.Cond.code ({ cls := "java/util/BitSet", name := "checkInvariants", desc := "()V" } : Jvm.MethodName) jdk_92_method_2_code (1 : Nat) (Option.none : Option Jvm.ClassFile.FieldType), Jvm.Cond.code ({ cls := "java/lang/Long", name := "bitCount", desc := "(J)I" } : Jvm.MethodName) jdk_35_method_50_code (2 : Nat) (Option.some Jvm.ClassFile.FieldType.int), Jvm.Cond.code ({ cls := "com/example/medway/medway/Node", name := "holdsLessThan", desc := "(Lcom/example/medway/medway/Node;)Z" } : Jvm.MethodName) prog_24_method_5_code (3 : Nat) (Option.some Jvm.ClassFile.FieldType.boolean), Jvm.Cond.code ({ cls := "com/example/medway/medway/NodeHoldsLessThanPinLaw", name := "strictSubset", desc := "(JJJJ)Z" } : Jvm.MethodName) method_3_code (10 : Nat) (Option.some Jvm.ClassFile.FieldType.boolean)]
set_option maxRecDepth 65536 in
theorem codes_eq : words1.filter isCode = codes1 := rfl
theorem w_codes : ∀ c ∈ words1.filter isCode, c.before args0 about1 = true := by
  rw [codes_eq]
  intro c hc
  simp only [codes1, List.mem_cons, List.not_mem_nil, or_false] at hc
  rcases hc with rfl | rfl | rfl | rfl | rfl | rfl | rfl | rfl | rfl | rfl | rfl | rfl | rfl | rfl | rfl | rfl | rfl | rfl | rfl | rfl | rfl | rfl
  · exact w_c0
  · exact w_c1
  · exact w_c2
  · exact w_c3
  · exact w_c4
  · exact w_c5
  · exact w_c6
  · exact w_c7
  · exact w_c8
  · exact w_c9
  · exact w_c10
  · exact w_c11
  · exact w_c12
  · exact w_c13
  · exact w_c14
  · exact w_c15
  · exact w_c16
  · exact w_c17
  · exact w_c18
  · exact w_c19
  · exact w_c20
  · exact w_c21
set_option maxRecDepth 65536 in
theorem w_t1 : (words1.take 24).all (fun c => isCode c || c.before args0 about1) = true := by decide +kernel
set_option maxRecDepth 65536 in
theorem w_t2 : ((words1.drop 24).take 24).all (fun c => isCode c || c.before args0 about1) = true := by decide +kernel
set_option maxRecDepth 65536 in
theorem w_t3 : (((words1.drop 24).drop 24).take 24).all (fun c => isCode c || c.before args0 about1) = true := by decide +kernel
set_option maxRecDepth 65536 in
theorem w_t4 : ((((words1.drop 24).drop 24).drop 24).take 24).all (fun c => isCode c || c.before args0 about1) = true := by decide +kernel
set_option maxRecDepth 65536 in
theorem w_t5 : (((((words1.drop 24).drop 24).drop 24).drop 24).take 24).all (fun c => isCode c || c.before args0 about1) = true := by decide +kernel
set_option maxRecDepth 65536 in
theorem w_t6 : ((((((words1.drop 24).drop 24).drop 24).drop 24).drop 24).take 24).all (fun c => isCode c || c.before args0 about1) = true := by decide +kernel
set_option maxRecDepth 65536 in
theorem w_t7 : ((((((words1.drop 24).drop 24).drop 24).drop 24).drop 24).drop 24).all (fun c => isCode c || c.before args0 about1) = true := by decide +kernel
theorem w_tables : (allAtoms (Jvm.Cond.code x code maxLocals ret :: tables_1)).before args0 about1 = true := by
  rw [allAtoms_all]
  show words1.all (fun c => c.before args0 about1) = true
  refine all_split ?_ w_codes
  rw [← List.take_append_drop 24 words1, List.all_append, w_t1, ← List.take_append_drop 24 (words1.drop 24), List.all_append, w_t2, ← List.take_append_drop 24 ((words1.drop 24).drop 24), List.all_append, w_t3, ← List.take_append_drop 24 (((words1.drop 24).drop 24).drop 24), List.all_append, w_t4, ← List.take_append_drop 24 ((((words1.drop 24).drop 24).drop 24).drop 24), List.all_append, w_t5, ← List.take_append_drop 24 (((((words1.drop 24).drop 24).drop 24).drop 24).drop 24), List.all_append, w_t6, w_t7]
  rfl
set_option maxRecDepth 65536 in
theorem w_rest : rest_1_c.before args0 about1 = true := by decide +kernel
set_option maxRecDepth 65536 in
theorem w_case : (Jvm.Cond.and given_1 narrow_1).before args0 about1 = true := by decide +kernel
theorem w_applies : (headSpec (Jvm.Cond.code x code maxLocals ret :: tables_1) room_1).applies x e0.platform about1 = true :=
  (Spec.applies_iff w_frames).mpr ⟨w_running, w_runnable, w_alone, w_named, w_hears, w_ripe, w_room, w_tables⟩
theorem atStart : AtStart classFile x code maxLocals ret World_1 tables_1 room_1 Calls_1 rest_1 Pre_1 launch0 p0 e0 about1 theMethod args0 below0 :=
  ⟨lists_1, trivial, launch0.admits_env _ _ _, launch0.least_env, fairChoices_fair.cas, fairChoices_fair.clock, w_frames, w_args, w_heap, w_applies, trivial, w_rest, w_case⟩
end start1
theorem witness_1 : WitnessClaimed_1 := ⟨start1.p0, start1.e0, start1.about1, start1.theMethod, start1.args0, start1.below0, start1.atStart⟩
end Jvm.Pilot.@@N@@
