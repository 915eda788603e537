import JvmDerived
import JvmDerived.Pilot.@@N@@Statement
import JvmDerived.Pilot.@@N@@Code
set_option linter.unusedVariables false
set_option linter.unusedSimpArgs false
@@BLOCK:NumsL.lean.txt@@
namespace Jvm.Own
open Sem ClassFile Op Lib Jvm.Stand Jvm.Free Jvm.LawKit Jvm.RoadKit
/-! a list of owned cells (all made since the start), each with what it holds; the start's own heap stays as it was -/
abbrev FK := String × String × String
abbrev Fs := List (FK × Value)
abbrev Rec := (String × Fs) ⊕ (FieldType × List Value)
abbrev Ent := Addr × Rec
def slK (Z : State) (k : FK) : Nat := RoadKit.slotOf Z k.1 k.2.1 k.2.2
def Hold (Z : State) (h : Heap) (a : Addr) : Rec → Prop
  | .inl (C, fs) => Exa Z h a C ∧ (∀ (i : Nat) (f : FK × Value), fs[i]? = some f → Fld Z h a f.1.1 f.1.2.1 f.1.2.2 f.2) ∧ (fs.map fun f => slK Z f.1).Nodup
  | .inr (ty, vs) => ∃ c : Cell, Arr Z h a c ty ∧ c.slots.toList = vs ∧ ∀ C, ty = .object C → Ovr Z c.cls C
def Rep (Z : State) (h : Heap) (M : List Ent) : Prop := Ext Z.heap h ∧ (∀ (i : Nat) (x : Ent), M[i]? = some x → Z.heap.size ≤ x.1 ∧ Hold Z h x.1 x.2) ∧ (M.map fun x => x.1).Nodup
section Facts
variable {Z : State} {h h' : Heap} {a b : Addr} {sl k j : Nat} {v w : Value} {r : Rec} {M : List Ent} {C : String} {fs : Fs} {f : FK}
theorem Hold.other (W : Wr h h' a sl v) (H : Hold Z h b r) (hne : b ≠ a) : Hold Z h' b r := by
  rcases r with ⟨C, fs⟩ | ⟨ty, vs⟩
  · exact ⟨H.1.wr W, fun i f hf => (H.2.1 i f hf).other W (Or.inl hne), H.2.2⟩
  · obtain ⟨c, A, q⟩ := H
    exact ⟨c, A.other W hne, q⟩
theorem Hold.ext (E : Ext h h') (H : Hold Z h b r) : Hold Z h' b r := by
  rcases r with ⟨C, fs⟩ | ⟨ty, vs⟩
  · exact ⟨H.1.ext E, fun i f hf => (H.2.1 i f hf).ext E, H.2.2⟩
  · obtain ⟨c, A, q⟩ := H
    exact ⟨c, A.ext E, q⟩
theorem Hold.lt (H : Hold Z h b r) : b < h.size := by
  rcases r with ⟨C, fs⟩ | ⟨ty, vs⟩
  · exact H.1.lt
  · obtain ⟨c, A, q⟩ := H
    exact A.lt
theorem nd_inj {α : Type} {L : List α} (hn : L.Nodup) {i j : Nat} {x : α} (h1 : L[i]? = some x) (h2 : L[j]? = some x) : i = j :=
  (List.getElem?_inj (List.getElem?_eq_some_iff.mp h1).1 hn).mp (h1.trans h2.symm)
theorem Rep.inj (R : Rep Z h M) {i j : Nat} {x y : Ent} (h1 : M[i]? = some x) (h2 : M[j]? = some y) (e : x.1 = y.1) : i = j :=
  nd_inj (x := x.1) R.2.2 (by rw [List.getElem?_map, h1]; rfl) (by rw [List.getElem?_map, h2, e]; rfl)
theorem Rep.ne (R : Rep Z h M) {i j : Nat} {x y : Ent} (h1 : M[i]? = some x) (h2 : M[j]? = some y) (e : i ≠ j) : x.1 ≠ y.1 := fun q => e (R.inj h1 h2 q)
theorem Rep.fresh (R : Rep Z h M) {i : Nat} {x : Ent} (h1 : M[i]? = some x) : Z.heap.size ≤ x.1 := (R.2.1 i x h1).1
theorem map_set_same {α β : Type} {g : α → β} {L : List α} {x y : α} (h1 : L[k]? = some x) (e : g y = g x) : (L.set k y).map g = L.map g := by
  apply List.ext_getElem?
  intro i
  simp only [List.getElem?_map, List.getElem?_set]
  by_cases q : k = i
  · subst q
    obtain ⟨hl, hx⟩ := List.getElem?_eq_some_iff.mp h1
    simp [hl, e, h1, hx]
  · simp [q]
theorem Rep.wrote (R : Rep Z h M) (hk : M[k]? = some (a, r)) (W : Wr h h' a sl v) {r' : Rec} (H : Hold Z h' a r') : Rep Z h' (M.set k (a, r')) := by
  have ha := R.fresh hk
  refine ⟨(Old.wr ⟨rfl, R.1⟩ W ha).2, fun i x hx => ?_, ?_⟩
  · rw [List.getElem?_set] at hx
    by_cases q : k = i
    · subst q
      rw [if_pos rfl] at hx
      split at hx
      · cases hx
        exact ⟨ha, H⟩
      · cases hx
    · rw [if_neg q] at hx
      have g := R.2.1 i x hx
      exact ⟨g.1, g.2.other W (R.ne hx hk (Ne.symm q))⟩
  · rw [map_set_same (g := fun x : Ent => x.1) (y := (a, r')) hk rfl]
    exact R.2.2
theorem Hold.put (H : Hold Z h a (.inl (C, fs))) (hj : fs[j]? = some (f, w)) (W : Wr h h' a (slK Z f) v) : Hold Z h' a (.inl (C, fs.set j (f, v))) := by
  refine ⟨H.1.wr W, fun i x hx => ?_, ?_⟩
  · rw [List.getElem?_set] at hx
    by_cases q : j = i
    · subst q
      rw [if_pos rfl] at hx
      split at hx
      · cases hx
        exact (H.2.1 _ _ hj).same W
      · cases hx
    · rw [if_neg q] at hx
      refine (H.2.1 i x hx).other W (Or.inr fun e => q ?_)
      exact nd_inj (x := slK Z f) H.2.2 (by rw [List.getElem?_map, hj]; rfl) (by rw [List.getElem?_map, hx]; exact congrArg some e)
  · rw [map_set_same (g := fun f : FK × Value => slK Z f.1) (y := (f, v)) hj rfl]
    exact H.2.2
theorem Hold.store {ty : FieldType} {vs : List Value} (H : Hold Z h a (.inr (ty, vs))) (W : Wr h h' a j v) : Hold Z h' a (.inr (ty, vs.set j v)) := by
  obtain ⟨c, A, q, o⟩ := H
  refine ⟨_, A.same W, ?_, o⟩
  simp [Cell.setSlot, ← q]
theorem Rep.new (R : Rep Z h M) (E : Ext h h') (hs : a = h.size) {r : Rec} (H : Hold Z h' a r) : Rep Z h' ((a, r) :: M) := by
  refine ⟨(Old.ext ⟨rfl, R.1⟩ E).2, fun i x hx => ?_, ?_⟩
  · rcases i with _ | i
    · cases hx
      exact ⟨by rw [hs]; exact R.1.1, H⟩
    · have g := R.2.1 i x hx
      exact ⟨g.1, g.2.ext E⟩
  · rw [List.map_cons, List.nodup_cons]
    refine ⟨fun m => ?_, R.2.2⟩
    obtain ⟨x, hx, e⟩ := List.mem_map.mp m
    obtain ⟨i, hi⟩ := List.mem_iff_getElem?.mp hx
    have hlt := (R.2.1 i x hi).2.lt
    have e : x.1 = a := e
    rw [e, hs] at hlt
    exact Nat.lt_irrefl _ hlt
theorem nd_pick {α : Type} {N : List α} (hn : N.Nodup) (n : Nat) (idx : List Nat) (h1 : idx.Nodup) (h2 : ∀ i ∈ idx, i < n) : (idx.filterMap (fun i => N[i]?) ++ N.drop n).Nodup := by
  rw [List.nodup_append]
  refine ⟨?_, hn.sublist (List.drop_sublist n N), ?_⟩
  · refine List.Pairwise.filterMap (fun i => N[i]?) ?_ h1
    intro i j hij x hx y hy e
    subst e
    exact hij (nd_inj hn hx hy)
  · intro x hx y hy e
    subst e
    obtain ⟨i, hi, hx⟩ := List.mem_filterMap.mp hx
    obtain ⟨j, hj⟩ := List.mem_iff_getElem?.mp hy
    rw [List.getElem?_drop] at hj
    have := nd_inj hn hx hj
    have := h2 i hi
    omega
theorem Rep.pick (R : Rep Z h M) (n : Nat) (idx : List Nat) (h1 : idx.Nodup) (h2 : ∀ i ∈ idx, i < n) : Rep Z h (idx.filterMap (fun i => M[i]?) ++ M.drop n) := by
  refine ⟨R.1, fun i x hx => ?_, ?_⟩
  · have hm := List.mem_of_getElem? hx
    rcases List.mem_append.mp hm with q | q
    · obtain ⟨j, -, hj⟩ := List.mem_filterMap.mp q
      exact R.2.1 j x hj
    · obtain ⟨j, hj⟩ := List.mem_iff_getElem?.mp (List.mem_of_mem_drop q)
      exact R.2.1 j x hj
  · have := nd_pick R.2.2 n idx h1 h2
    rw [List.map_append, List.map_drop, List.map_filterMap]
    simpa [List.getElem?_map] using this
theorem Rep.fld {O nm d : String} (R : Rep Z h M) (k j : Nat) (hk : M[k]? = some (a, .inl (C, fs))) (hj : fs[j]? = some ((O, nm, d), v)) : Fld Z h a O nm d v := (R.2.1 k _ hk).2.2.1 j _ hj
theorem Rep.exa (R : Rep Z h M) (k : Nat) (hk : M[k]? = some (a, .inl (C, fs))) : Exa Z h a C := (R.2.1 k _ hk).2.1
end Facts
theorem wd {L : List Cond} {a0 : Array Value} {Z : State} {d : Cond} (hw : ∀ d ∈ L, d.before a0 Z = true) (i : Nat) (h : L[i]? = some d) : d.before a0 Z = true := hw d (List.mem_of_getElem? h)
/-! the walk -/
abbrev E0 := Program × Env × State × MethodId × Array Value × List Frame × Method × Code
def Cx (Z : State) (y : MethodName) (code : ByteArray) (maxL : Nat) (ret : Option FieldType) (E : E0) : Prop :=
  E.1.tables.exec = Jvm.exec ∧ Z.Warmed39 E.2.2.1.vm ∧ E.2.2.1.vm.findClass y.cls = some E.2.2.2.1.cls ∧ E.2.2.2.2.2.2.2.code = code ∧ E.2.2.2.2.2.2.2.maxLocals = maxL ∧ E.2.2.2.2.2.2.1.sig.returnType = ret ∧ E.2.2.2.2.2.2.1.locks = false ∧ E.2.2.2.2.2.2.1.name = y.name
abbrev PQ := Option Value → List Ent → Prop
def StE (l : Launch) (R : Room) (E : E0) (T : State) (locs : List Loc) (k n : Nat) : Prop :=
  Stand E.1 l E.2.1 R E.2.2.1 E.2.2.2.1 E.2.2.2.2.1 E.2.2.2.2.2.1 E.2.2.2.2.2.2.1 E.2.2.2.2.2.2.2 T locs k n
def Go (l : Launch) (Z : State) (R : Room) (E : E0) (Q : PQ) (M : List Ent) (k n pc : Nat) (Ls : Array Slot) (st : List Value) : Prop :=
  ∀ T locs, StE l R E T locs k n → Fr Z.heap.size locs → Rep Z T.heap M →
    ∃ s₂ v L, Steps E.1.tables E.2.1 E.2.2.2.2.2.1 (T.setTop (mkF E.2.2.2.1 pc Ls st)) s₂ ∧ s₂.status = .running ∧ Ended s₂ E.2.2.2.2.2.1 (.returned v) ∧ Fr Z.heap.size L ∧ (∃ M', Q v M' ∧ Rep Z s₂.heap M') ∧ FrameEnd E.2.2.1 (.returned v) s₂ L R.cells R.slots
def Met (l : Launch) (Z : State) (y : MethodName) (bytes : ByteArray) (maxL : Nat) (ret : Option FieldType) (rm : Room) (as : Array Value) (M : List Ent) (Q : PQ) : Prop :=
  ∀ (ws : List Cond) (h : Heap), Rep Z h M → MetFree l y (head1 (Cond.code y bytes maxL ret :: ws) rm) (fun a U => a = as ∧ Z.Warmed39 U.vm ∧ U.heap = h) (fun _ _ _ _ _ => True) (fun _ U o U' => ∃ v L, o = .returned v ∧ (Fr Z.heap.size L ∧ ∃ M', Q v M' ∧ Rep Z U'.heap M') ∧ FrameEnd U o U' L rm.cells rm.slots)
theorem Met.of_go {l : Launch} {Z : State} {y : MethodName} {bytes : ByteArray} {maxL : Nat} {ret : Option FieldType} {rm : Room} {as : Array Value} {M : List Ent} {Q : PQ} {Ls : Array Slot} (hp : plainName y.cls = true) (hef : ∀ m, entryFrame m as maxL = mkF m 0 Ls [])
    (H : ∀ E, Cx Z y bytes maxL ret E → Go l Z rm E Q M 0 0 0 Ls []) : Met l Z y bytes maxL ret rm as M Q := by
  intro ws h r
  refine MetFree.of_bodySF (plainFor_of_name hp) hisR ?_
  intro p e s m args below meth c s₁ Bd hml0 hP hK
  obtain ⟨rfl, hZ, hh⟩ := hP
  have X0 : Stand p l e rm s m args below meth c s₁ [] 0 0 := Stand.of_body Bd
  have e0 : s₁.heap = h := by rw [← hh, Bd.state]; rfl
  obtain ⟨s₂, v, L, h1, h2, h3, h4, h5, h6⟩ := H (p, e, s, m, args, below, meth, c) ⟨Bd.exec, hZ, findClass_of_methodNamed Bd.named, Bd.bytes, hml0, Bd.returns, Bd.notSynchronized, (name_of_methodNamed Bd.named Bd.method).1⟩ s₁ [] X0 (Fr.nil _) (by rw [e0]; exact r)
  exact ⟨s₂, .returned v, castTop (hef m) h1, h2, h3, v, L, rfl, ⟨h4, h5⟩, h6⟩
theorem Met.mono {l : Launch} {Z : State} {y : MethodName} {bytes : ByteArray} {maxL : Nat} {ret : Option FieldType} {rm : Room} {as : Array Value} {M : List Ent} {Q Q' : PQ} (H : Met l Z y bytes maxL ret rm as M Q) (hq : ∀ v M', Q v M' → Q' v M') : Met l Z y bytes maxL ret rm as M Q' := by
  intro ws h r p e ha hc hk s m args below hf happ hP hK
  obtain ⟨n, o, h1, h2, h3, v, L, h4, ⟨h5, M', h6, h7⟩, h8⟩ := H ws h r p e ha hc hk s m args below hf happ hP hK
  exact ⟨n, o, h1, h2, h3, v, L, h4, ⟨h5, M', hq _ _ h6, h7⟩, h8⟩
section Walk
variable {l : Launch} {Z : State} {R : Room} {E : E0} {Q : PQ} {M : List Ent} {k n pc q : Nat} {Ls Ls' : Array Slot} {st : List Value} {x : MethodName} {code : ByteArray} {maxL : Nat} {ret : Option FieldType} {a0 : Array Value}
theorem Go.plain {q : Nat} {Ls' : Array Slot} {st' : List Value} (hr : Go l Z R E Q M k n q Ls' st')
    (hs : ∀ T locs t, StE l R E T locs k n → Steps E.1.tables E.2.1 E.2.2.2.2.2.1 (T.setTop (mkF E.2.2.2.1 q Ls' st')) t → Steps E.1.tables E.2.1 E.2.2.2.2.2.1 (T.setTop (mkF E.2.2.2.1 pc Ls st)) t) : Go l Z R E Q M k n pc Ls st := by
  intro T locs X F r
  obtain ⟨s₂, v, L, h1, h2⟩ := hr T locs X F r
  exact ⟨s₂, v, L, hs _ _ _ X h1, h2⟩
theorem Go.rep {M' : List Ent} (h : ∀ h, Rep Z h M → Rep Z h M') (hr : Go l Z R E Q M' k n pc Ls st) : Go l Z R E Q M k n pc Ls st := fun T locs X F r => hr T locs X F (h _ r)
theorem Go.know {P : Prop} (h : ∀ h, Rep Z h M → P) (hr : P → Go l Z R E Q M k n pc Ls st) : Go l Z R E Q M k n pc Ls st := fun T locs X F r => hr (h _ r) T locs X F r
theorem Go.more {k' n' : Nat} (hk : k ≤ k') (hn : n ≤ n') (hr : Go l Z R E Q M k' n' pc Ls st) : Go l Z R E Q M k n pc Ls st := fun T locs X F r => hr T locs (X.more hk hn) F r
theorem Go.pick {M' : List Ent} (i : Nat) (idx : List Nat) (h1 : idx.Nodup) (h2 : ∀ j ∈ idx, j < i) (hM : idx.filterMap (fun i => M[i]?) ++ M.drop i = M') (hr : Go l Z R E Q M' k n pc Ls st) : Go l Z R E Q M k n pc Ls st :=
  Go.rep (fun _ r => hM ▸ r.pick i idx h1 h2) hr
theorem Go.joinI {q : Nat} {Ls' : Array Slot} {st' : List Value} (v : Int32) (hJ : Go l Z R E Q M k n q Ls' (.int v :: st')) (hr : (∀ c : Int32, c = v → Go l Z R E Q M k n q Ls' (.int c :: st')) → Go l Z R E Q M k n pc Ls st) : Go l Z R E Q M k n pc Ls st := hr fun c e => e ▸ hJ
theorem Go.joinJ {q : Nat} {Ls' : Array Slot} {st' : List Value} (v : Int64) (hJ : Go l Z R E Q M k n q Ls' (.long v :: st')) (hr : (∀ c : Int64, c = v → Go l Z R E Q M k n q Ls' (.long c :: st')) → Go l Z R E Q M k n pc Ls st) : Go l Z R E Q M k n pc Ls st := hr fun c e => e ▸ hJ
theorem Go.joinW {q : Nat} {Ls' : Array Slot} {st' : List Value} (hJ : Go l Z R E Q M k n q Ls' st') (hr : Go l Z R E Q M k n q Ls' st' → Go l Z R E Q M k n pc Ls st) : Go l Z R E Q M k n pc Ls st := hr hJ
/-! plain steps -/
theorem Go.aloadN (C : Cx Z x code maxL ret E) {j : Fin 4} {v : Value} (hd : decode code pc = .ok (.aload_n j, 1)) (hq : pc + 1 = q) (hl : Ls[j.val]? = some (.val v)) (hv : v.isRef = true) (hr : Go l Z R E Q M k n q Ls (v :: st)) : Go l Z R E Q M k n pc Ls st :=
  Go.plain hr fun _ _ _ X s => XS.aloadN X.here C.1 rfl (hb C.2.2.2.1 hd) hl hv (hq ▸ s)
theorem Go.aload (C : Cx Z x code maxL ret E) {j : Nat} {v : Value} (hd : decode code pc = .ok (.aload j, 2)) (hq : pc + 2 = q) (hl : Ls[j]? = some (.val v)) (hv : v.isRef = true) (hr : Go l Z R E Q M k n q Ls (v :: st)) : Go l Z R E Q M k n pc Ls st :=
  Go.plain hr fun _ _ _ X s => XS.aload X.here C.1 rfl (hb C.2.2.2.1 hd) hl hv (hq ▸ s)
theorem Go.iloadN (C : Cx Z x code maxL ret E) {j : Fin 4} {v : Int32} (hd : decode code pc = .ok (.iload_n j, 1)) (hq : pc + 1 = q) (hl : Ls[j.val]? = some (.val (.int v))) (hr : Go l Z R E Q M k n q Ls (.int v :: st)) : Go l Z R E Q M k n pc Ls st :=
  Go.plain hr fun _ _ _ X s => XS.iloadN X.here C.1 rfl (hb C.2.2.2.1 hd) hl (hq ▸ s)
theorem Go.iload (C : Cx Z x code maxL ret E) {j : Nat} {v : Int32} (hd : decode code pc = .ok (.iload j, 2)) (hq : pc + 2 = q) (hl : Ls[j]? = some (.val (.int v))) (hr : Go l Z R E Q M k n q Ls (.int v :: st)) : Go l Z R E Q M k n pc Ls st :=
  Go.plain hr fun _ _ _ X s => XS.iload X.here C.1 rfl (hb C.2.2.2.1 hd) hl (hq ▸ s)
theorem Go.lloadN (C : Cx Z x code maxL ret E) {j : Fin 4} {v : Int64} (hd : decode code pc = .ok (.lload_n j, 1)) (hq : pc + 1 = q) (hl : Ls[j.val]? = some (.val (.long v))) (hr : Go l Z R E Q M k n q Ls (.long v :: st)) : Go l Z R E Q M k n pc Ls st :=
  Go.plain hr fun _ _ _ X s => XT.lloadN X.here C.1 rfl (hb C.2.2.2.1 hd) hl (hq ▸ s)
theorem Go.lload (C : Cx Z x code maxL ret E) {j : Nat} {v : Int64} (hd : decode code pc = .ok (.lload j, 2)) (hq : pc + 2 = q) (hl : Ls[j]? = some (.val (.long v))) (hr : Go l Z R E Q M k n q Ls (.long v :: st)) : Go l Z R E Q M k n pc Ls st :=
  Go.plain hr fun _ _ _ X s => XT.lload X.here C.1 rfl (hb C.2.2.2.1 hd) hl (hq ▸ s)
theorem Go.istoreN (C : Cx Z x code maxL ret E) {j : Fin 4} {v : Int32} (hd : decode code pc = .ok (.istore_n j, 1)) (hq : pc + 1 = q) (hl : storeLocals Ls j.val (.int v) = some Ls') (hr : Go l Z R E Q M k n q Ls' st) : Go l Z R E Q M k n pc Ls (.int v :: st) :=
  Go.plain hr fun _ _ _ X s => XS.istoreN X.here C.1 rfl (hb C.2.2.2.1 hd) rfl hl (hq ▸ s)
theorem Go.istore (C : Cx Z x code maxL ret E) {j : Nat} {v : Int32} (hd : decode code pc = .ok (.istore j, 2)) (hq : pc + 2 = q) (hl : storeLocals Ls j (.int v) = some Ls') (hr : Go l Z R E Q M k n q Ls' st) : Go l Z R E Q M k n pc Ls (.int v :: st) :=
  Go.plain hr fun _ _ _ X s => XS.istore X.here C.1 rfl (hb C.2.2.2.1 hd) rfl hl (hq ▸ s)
theorem Go.lstoreN (C : Cx Z x code maxL ret E) {j : Fin 4} {v : Int64} (hd : decode code pc = .ok (.lstore_n j, 1)) (hq : pc + 1 = q) (hl : storeLocals Ls j.val (.long v) = some Ls') (hr : Go l Z R E Q M k n q Ls' st) : Go l Z R E Q M k n pc Ls (.long v :: st) :=
  Go.plain hr fun _ _ _ X s => XT.lstoreN X.here C.1 rfl (hb C.2.2.2.1 hd) rfl hl (hq ▸ s)
theorem Go.lstore (C : Cx Z x code maxL ret E) {j : Nat} {v : Int64} (hd : decode code pc = .ok (.lstore j, 2)) (hq : pc + 2 = q) (hl : storeLocals Ls j (.long v) = some Ls') (hr : Go l Z R E Q M k n q Ls' st) : Go l Z R E Q M k n pc Ls (.long v :: st) :=
  Go.plain hr fun _ _ _ X s => XT.lstore X.here C.1 rfl (hb C.2.2.2.1 hd) rfl hl (hq ▸ s)
theorem Go.astoreN (C : Cx Z x code maxL ret E) {j : Fin 4} {v : Value} (hd : decode code pc = .ok (.astore_n j, 1)) (hq : pc + 1 = q) (hv : v.isRef = true) (hl : storeLocals Ls j.val v = some Ls') (hr : Go l Z R E Q M k n q Ls' st) : Go l Z R E Q M k n pc Ls (v :: st) :=
  Go.plain hr fun _ _ _ X s => XS.astoreN X.here C.1 rfl (hb C.2.2.2.1 hd) rfl hv hl (hq ▸ s)
theorem Go.astore (C : Cx Z x code maxL ret E) {j : Nat} {v : Value} (hd : decode code pc = .ok (.astore j, 2)) (hq : pc + 2 = q) (hv : v.isRef = true) (hl : storeLocals Ls j v = some Ls') (hr : Go l Z R E Q M k n q Ls' st) : Go l Z R E Q M k n pc Ls (v :: st) :=
  Go.plain hr fun _ _ _ X s => XS.astore X.here C.1 rfl (hb C.2.2.2.1 hd) rfl hv hl (hq ▸ s)
theorem Go.iconst (C : Cx Z x code maxL ret E) {i : Int} {v : Int32} (hd : decode code pc = .ok (.iconst i, 1)) (hq : pc + 1 = q) (hv : Int32.ofInt i = v) (hr : Go l Z R E Q M k n q Ls (.int v :: st)) : Go l Z R E Q M k n pc Ls st :=
  Go.plain hr fun _ _ _ X s => XS.iconst X.here C.1 rfl (hb C.2.2.2.1 hd) (hv ▸ hq ▸ s)
theorem Go.bipush (C : Cx Z x code maxL ret E) {i : Int} {v : Int32} (hd : decode code pc = .ok (.bipush i, 2)) (hq : pc + 2 = q) (hv : (Int8.ofInt i).toInt32 = v) (hr : Go l Z R E Q M k n q Ls (.int v :: st)) : Go l Z R E Q M k n pc Ls st :=
  Go.plain hr fun _ _ _ X s => XS.bipush X.here C.1 rfl (hb C.2.2.2.1 hd) (hv ▸ hq ▸ s)
theorem Go.sipush (C : Cx Z x code maxL ret E) {i : Int} {v : Int32} (hd : decode code pc = .ok (.sipush i, 3)) (hq : pc + 3 = q) (hv : (Int16.ofInt i).toInt32 = v) (hr : Go l Z R E Q M k n q Ls (.int v :: st)) : Go l Z R E Q M k n pc Ls st :=
  Go.plain hr fun _ _ _ X s => XS.sipush X.here C.1 rfl (hb C.2.2.2.1 hd) (hv ▸ hq ▸ s)
theorem Go.lconst (C : Cx Z x code maxL ret E) {i : Fin 2} {v : Int64} (hd : decode code pc = .ok (.lconst i, 1)) (hq : pc + 1 = q) (hv : Int64.ofNat i = v) (hr : Go l Z R E Q M k n q Ls (.long v :: st)) : Go l Z R E Q M k n pc Ls st :=
  Go.plain hr fun _ _ _ X s => XT.lconst X.here C.1 rfl (hb C.2.2.2.1 hd) (hv ▸ hq ▸ s)
theorem Go.aconstNull (C : Cx Z x code maxL ret E) (hd : decode code pc = .ok (.aconst_null, 1)) (hq : pc + 1 = q) (hr : Go l Z R E Q M k n q Ls (.null :: st)) : Go l Z R E Q M k n pc Ls st :=
  Go.plain hr fun _ _ _ X s => XS.aconstNull X.here C.1 rfl (hb C.2.2.2.1 hd) (hq ▸ s)
theorem Go.ldcI (C : Cx Z x code maxL ret E) {i : Nat} {v : Int32} (w : (Cond.constant x.cls i v).before a0 Z = true) (hd : decode code pc = .ok (.ldc i, 2)) (hq : pc + 2 = q) (hr : Go l Z R E Q M k n q Ls (.int v :: st)) : Go l Z R E Q M k n pc Ls st :=
  Go.plain hr fun _ _ _ X s => Stand.ldcI X C.1 C.2.2.1 (mv C.2.1 w) rfl (hb C.2.2.2.1 hd) (hq ▸ s)
theorem Go.ldcWI (C : Cx Z x code maxL ret E) {i : Nat} {v : Int32} (w : (Cond.constant x.cls i v).before a0 Z = true) (hd : decode code pc = .ok (.ldc_w i, 3)) (hq : pc + 3 = q) (hr : Go l Z R E Q M k n q Ls (.int v :: st)) : Go l Z R E Q M k n pc Ls st :=
  Go.plain hr fun _ _ _ X s => Stand.ldcWI X C.1 C.2.2.1 (mv C.2.1 w) rfl (hb C.2.2.2.1 hd) (hq ▸ s)
theorem Go.ldc2J (C : Cx Z x code maxL ret E) {i : Nat} {v : Int64} (w : (Cond.constantLong x.cls i v).before a0 Z = true) (hd : decode code pc = .ok (.ldc2_w i, 3)) (hq : pc + 3 = q) (hr : Go l Z R E Q M k n q Ls (.long v :: st)) : Go l Z R E Q M k n pc Ls st :=
  Go.plain hr fun _ _ _ X s => Stand.ldc2J X C.1 C.2.2.1 (mv C.2.1 w) rfl (hb C.2.2.2.1 hd) (hq ▸ s)
theorem Go.dup (C : Cx Z x code maxL ret E) {v : Value} (hd : decode code pc = .ok (.dup, 1)) (hq : pc + 1 = q) (hc : v.category = 1) (hr : Go l Z R E Q M k n q Ls (v :: v :: st)) : Go l Z R E Q M k n pc Ls (v :: st) :=
  Go.plain hr fun _ _ _ X s => XS.dup X.here C.1 rfl (hb C.2.2.2.1 hd) rfl hc (hq ▸ s)
theorem Go.dupX1 (C : Cx Z x code maxL ret E) {v w : Value} (hd : decode code pc = .ok (.dup_x1, 1)) (hq : pc + 1 = q) (hc : v.category = 1) (hc' : w.category = 1) (hr : Go l Z R E Q M k n q Ls (v :: w :: v :: st)) : Go l Z R E Q M k n pc Ls (v :: w :: st) :=
  Go.plain hr fun _ _ _ X s => XT.dupX1 X.here C.1 rfl (hb C.2.2.2.1 hd) rfl hc hc' (hq ▸ s)
theorem Go.dup2 (C : Cx Z x code maxL ret E) {v w : Value} (hd : decode code pc = .ok (.dup2, 1)) (hq : pc + 1 = q) (hc : v.category = 1) (hc' : w.category = 1) (hr : Go l Z R E Q M k n q Ls (v :: w :: v :: w :: st)) : Go l Z R E Q M k n pc Ls (v :: w :: st) :=
  Go.plain hr fun _ _ _ X s => XT.dup2 X.here C.1 rfl (hb C.2.2.2.1 hd) rfl hc hc' (hq ▸ s)
theorem Go.dup2L (C : Cx Z x code maxL ret E) {v : Int64} (hd : decode code pc = .ok (.dup2, 1)) (hq : pc + 1 = q) (hr : Go l Z R E Q M k n q Ls (.long v :: .long v :: st)) : Go l Z R E Q M k n pc Ls (.long v :: st) :=
  Go.plain hr fun _ _ _ X s => XT.dup2L X.here C.1 rfl (hb C.2.2.2.1 hd) rfl (hq ▸ s)
theorem Go.pop (C : Cx Z x code maxL ret E) {v : Value} (hd : decode code pc = .ok (.pop, 1)) (hq : pc + 1 = q) (hc : v.category = 1) (hr : Go l Z R E Q M k n q Ls st) : Go l Z R E Q M k n pc Ls (v :: st) :=
  Go.plain hr fun _ _ _ X s => XT.pop X.here C.1 rfl (hb C.2.2.2.1 hd) rfl hc (hq ▸ s)
theorem Go.iadd (C : Cx Z x code maxL ret E) {u : Int32} {v : Int32} (hd : decode code pc = .ok (.iadd, 1)) (hq : pc + 1 = q) (hr : Go l Z R E Q M k n q Ls (.int (u + v) :: st)) : Go l Z R E Q M k n pc Ls (.int v :: .int u :: st) :=
  Go.plain hr fun _ _ _ X s => XS.iadd X.here C.1 rfl (hb C.2.2.2.1 hd) rfl (hq ▸ s)
theorem Go.isub (C : Cx Z x code maxL ret E) {u : Int32} {v : Int32} (hd : decode code pc = .ok (.isub, 1)) (hq : pc + 1 = q) (hr : Go l Z R E Q M k n q Ls (.int (u - v) :: st)) : Go l Z R E Q M k n pc Ls (.int v :: .int u :: st) :=
  Go.plain hr fun _ _ _ X s => XS.isub X.here C.1 rfl (hb C.2.2.2.1 hd) rfl (hq ▸ s)
theorem Go.imul (C : Cx Z x code maxL ret E) {u : Int32} {v : Int32} (hd : decode code pc = .ok (.imul, 1)) (hq : pc + 1 = q) (hr : Go l Z R E Q M k n q Ls (.int (u * v) :: st)) : Go l Z R E Q M k n pc Ls (.int v :: .int u :: st) :=
  Go.plain hr fun _ _ _ X s => XS.imul X.here C.1 rfl (hb C.2.2.2.1 hd) rfl (hq ▸ s)
theorem Go.iand (C : Cx Z x code maxL ret E) {u : Int32} {v : Int32} (hd : decode code pc = .ok (.iand, 1)) (hq : pc + 1 = q) (hr : Go l Z R E Q M k n q Ls (.int (u &&& v) :: st)) : Go l Z R E Q M k n pc Ls (.int v :: .int u :: st) :=
  Go.plain hr fun _ _ _ X s => XS.iand X.here C.1 rfl (hb C.2.2.2.1 hd) rfl (hq ▸ s)
theorem Go.ior (C : Cx Z x code maxL ret E) {u : Int32} {v : Int32} (hd : decode code pc = .ok (.ior, 1)) (hq : pc + 1 = q) (hr : Go l Z R E Q M k n q Ls (.int (u ||| v) :: st)) : Go l Z R E Q M k n pc Ls (.int v :: .int u :: st) :=
  Go.plain hr fun _ _ _ X s => XT.ior X.here C.1 rfl (hb C.2.2.2.1 hd) rfl (hq ▸ s)
theorem Go.ixor (C : Cx Z x code maxL ret E) {u : Int32} {v : Int32} (hd : decode code pc = .ok (.ixor, 1)) (hq : pc + 1 = q) (hr : Go l Z R E Q M k n q Ls (.int (u ^^^ v) :: st)) : Go l Z R E Q M k n pc Ls (.int v :: .int u :: st) :=
  Go.plain hr fun _ _ _ X s => XT.ixor X.here C.1 rfl (hb C.2.2.2.1 hd) rfl (hq ▸ s)
theorem Go.ishl (C : Cx Z x code maxL ret E) {u : Int32} {v : Int32} (hd : decode code pc = .ok (.ishl, 1)) (hq : pc + 1 = q) (hr : Go l Z R E Q M k n q Ls (.int (u <<< (v &&& 31)) :: st)) : Go l Z R E Q M k n pc Ls (.int v :: .int u :: st) :=
  Go.plain hr fun _ _ _ X s => XT.ishl X.here C.1 rfl (hb C.2.2.2.1 hd) rfl (hq ▸ s)
theorem Go.ishr (C : Cx Z x code maxL ret E) {u : Int32} {v : Int32} (hd : decode code pc = .ok (.ishr, 1)) (hq : pc + 1 = q) (hr : Go l Z R E Q M k n q Ls (.int (u >>> (v &&& 31)) :: st)) : Go l Z R E Q M k n pc Ls (.int v :: .int u :: st) :=
  Go.plain hr fun _ _ _ X s => XT.ishr X.here C.1 rfl (hb C.2.2.2.1 hd) rfl (hq ▸ s)
theorem Go.iushr (C : Cx Z x code maxL ret E) {u : Int32} {v : Int32} (hd : decode code pc = .ok (.iushr, 1)) (hq : pc + 1 = q) (hr : Go l Z R E Q M k n q Ls (.int (XT.ushr u v) :: st)) : Go l Z R E Q M k n pc Ls (.int v :: .int u :: st) :=
  Go.plain hr fun _ _ _ X s => XT.iushr X.here C.1 rfl (hb C.2.2.2.1 hd) rfl (hq ▸ s)
theorem Go.ladd (C : Cx Z x code maxL ret E) {u : Int64} {v : Int64} (hd : decode code pc = .ok (.ladd, 1)) (hq : pc + 1 = q) (hr : Go l Z R E Q M k n q Ls (.long (u + v) :: st)) : Go l Z R E Q M k n pc Ls (.long v :: .long u :: st) :=
  Go.plain hr fun _ _ _ X s => XT.ladd X.here C.1 rfl (hb C.2.2.2.1 hd) rfl (hq ▸ s)
theorem Go.lsub (C : Cx Z x code maxL ret E) {u : Int64} {v : Int64} (hd : decode code pc = .ok (.lsub, 1)) (hq : pc + 1 = q) (hr : Go l Z R E Q M k n q Ls (.long (u - v) :: st)) : Go l Z R E Q M k n pc Ls (.long v :: .long u :: st) :=
  Go.plain hr fun _ _ _ X s => XT.lsub X.here C.1 rfl (hb C.2.2.2.1 hd) rfl (hq ▸ s)
theorem Go.lmul (C : Cx Z x code maxL ret E) {u : Int64} {v : Int64} (hd : decode code pc = .ok (.lmul, 1)) (hq : pc + 1 = q) (hr : Go l Z R E Q M k n q Ls (.long (u * v) :: st)) : Go l Z R E Q M k n pc Ls (.long v :: .long u :: st) :=
  Go.plain hr fun _ _ _ X s => XT.lmul X.here C.1 rfl (hb C.2.2.2.1 hd) rfl (hq ▸ s)
theorem Go.land (C : Cx Z x code maxL ret E) {u : Int64} {v : Int64} (hd : decode code pc = .ok (.land, 1)) (hq : pc + 1 = q) (hr : Go l Z R E Q M k n q Ls (.long (u &&& v) :: st)) : Go l Z R E Q M k n pc Ls (.long v :: .long u :: st) :=
  Go.plain hr fun _ _ _ X s => XT.land X.here C.1 rfl (hb C.2.2.2.1 hd) rfl (hq ▸ s)
theorem Go.lor (C : Cx Z x code maxL ret E) {u : Int64} {v : Int64} (hd : decode code pc = .ok (.lor, 1)) (hq : pc + 1 = q) (hr : Go l Z R E Q M k n q Ls (.long (u ||| v) :: st)) : Go l Z R E Q M k n pc Ls (.long v :: .long u :: st) :=
  Go.plain hr fun _ _ _ X s => XT.lor X.here C.1 rfl (hb C.2.2.2.1 hd) rfl (hq ▸ s)
theorem Go.lxor (C : Cx Z x code maxL ret E) {u : Int64} {v : Int64} (hd : decode code pc = .ok (.lxor, 1)) (hq : pc + 1 = q) (hr : Go l Z R E Q M k n q Ls (.long (u ^^^ v) :: st)) : Go l Z R E Q M k n pc Ls (.long v :: .long u :: st) :=
  Go.plain hr fun _ _ _ X s => XT.lxor X.here C.1 rfl (hb C.2.2.2.1 hd) rfl (hq ▸ s)
theorem Go.lshl (C : Cx Z x code maxL ret E) {u : Int64} {v : Int32} (hd : decode code pc = .ok (.lshl, 1)) (hq : pc + 1 = q) (hr : Go l Z R E Q M k n q Ls (.long (u <<< (v.toInt64 &&& 63)) :: st)) : Go l Z R E Q M k n pc Ls (.int v :: .long u :: st) :=
  Go.plain hr fun _ _ _ X s => XT.lshl X.here C.1 rfl (hb C.2.2.2.1 hd) rfl (hq ▸ s)
theorem Go.lshr (C : Cx Z x code maxL ret E) {u : Int64} {v : Int32} (hd : decode code pc = .ok (.lshr, 1)) (hq : pc + 1 = q) (hr : Go l Z R E Q M k n q Ls (.long (u >>> (v.toInt64 &&& 63)) :: st)) : Go l Z R E Q M k n pc Ls (.int v :: .long u :: st) :=
  Go.plain hr fun _ _ _ X s => XT.lshr X.here C.1 rfl (hb C.2.2.2.1 hd) rfl (hq ▸ s)
theorem Go.lushr (C : Cx Z x code maxL ret E) {u : Int64} {v : Int32} (hd : decode code pc = .ok (.lushr, 1)) (hq : pc + 1 = q) (hr : Go l Z R E Q M k n q Ls (.long (XT.ushrL u v) :: st)) : Go l Z R E Q M k n pc Ls (.int v :: .long u :: st) :=
  Go.plain hr fun _ _ _ X s => XT.lushr X.here C.1 rfl (hb C.2.2.2.1 hd) rfl (hq ▸ s)
theorem Go.ineg (C : Cx Z x code maxL ret E) {u : Int32} (hd : decode code pc = .ok (.ineg, 1)) (hq : pc + 1 = q) (hr : Go l Z R E Q M k n q Ls (.int (-u) :: st)) : Go l Z R E Q M k n pc Ls (.int u :: st) :=
  Go.plain hr fun _ _ _ X s => XS.ineg X.here C.1 rfl (hb C.2.2.2.1 hd) rfl (hq ▸ s)
theorem Go.lneg (C : Cx Z x code maxL ret E) {u : Int64} (hd : decode code pc = .ok (.lneg, 1)) (hq : pc + 1 = q) (hr : Go l Z R E Q M k n q Ls (.long (-u) :: st)) : Go l Z R E Q M k n pc Ls (.long u :: st) :=
  Go.plain hr fun _ _ _ X s => XT.lneg X.here C.1 rfl (hb C.2.2.2.1 hd) rfl (hq ▸ s)
theorem Go.i2l (C : Cx Z x code maxL ret E) {u : Int32} (hd : decode code pc = .ok (.i2l, 1)) (hq : pc + 1 = q) (hr : Go l Z R E Q M k n q Ls (.long u.toInt64 :: st)) : Go l Z R E Q M k n pc Ls (.int u :: st) :=
  Go.plain hr fun _ _ _ X s => XT.i2l X.here C.1 rfl (hb C.2.2.2.1 hd) rfl (hq ▸ s)
theorem Go.l2i (C : Cx Z x code maxL ret E) {u : Int64} (hd : decode code pc = .ok (.l2i, 1)) (hq : pc + 1 = q) (hr : Go l Z R E Q M k n q Ls (.int u.toInt32 :: st)) : Go l Z R E Q M k n pc Ls (.long u :: st) :=
  Go.plain hr fun _ _ _ X s => XT.l2i X.here C.1 rfl (hb C.2.2.2.1 hd) rfl (hq ▸ s)
theorem Go.i2b (C : Cx Z x code maxL ret E) {u : Int32} (hd : decode code pc = .ok (.i2b, 1)) (hq : pc + 1 = q) (hr : Go l Z R E Q M k n q Ls (.int u.toInt8.toInt32 :: st)) : Go l Z R E Q M k n pc Ls (.int u :: st) :=
  Go.plain hr fun _ _ _ X s => XT.i2b X.here C.1 rfl (hb C.2.2.2.1 hd) rfl (hq ▸ s)
theorem Go.i2c (C : Cx Z x code maxL ret E) {u : Int32} (hd : decode code pc = .ok (.i2c, 1)) (hq : pc + 1 = q) (hr : Go l Z R E Q M k n q Ls (.int u.toUInt32.toUInt16.toUInt32.toInt32 :: st)) : Go l Z R E Q M k n pc Ls (.int u :: st) :=
  Go.plain hr fun _ _ _ X s => XT.i2c X.here C.1 rfl (hb C.2.2.2.1 hd) rfl (hq ▸ s)
theorem Go.i2s (C : Cx Z x code maxL ret E) {u : Int32} (hd : decode code pc = .ok (.i2s, 1)) (hq : pc + 1 = q) (hr : Go l Z R E Q M k n q Ls (.int u.toInt16.toInt32 :: st)) : Go l Z R E Q M k n pc Ls (.int u :: st) :=
  Go.plain hr fun _ _ _ X s => XT.i2s X.here C.1 rfl (hb C.2.2.2.1 hd) rfl (hq ▸ s)
theorem Go.lrem (C : Cx Z x code maxL ret E) {u v : Int64} (hd : decode code pc = .ok (.lrem, 1)) (hq : pc + 1 = q) (hv : v ≠ 0) (hr : Go l Z R E Q M k n q Ls (.long (u - u / v * v) :: st)) : Go l Z R E Q M k n pc Ls (.long v :: .long u :: st) :=
  Go.plain hr fun _ _ _ X s => XT.lrem X.here C.1 rfl (hb C.2.2.2.1 hd) rfl hv (hq ▸ s)
theorem Go.idiv (C : Cx Z x code maxL ret E) {u v : Int32} (hd : decode code pc = .ok (.idiv, 1)) (hq : pc + 1 = q) (hv : v ≠ 0) (hr : Go l Z R E Q M k n q Ls (.int (u / v) :: st)) : Go l Z R E Q M k n pc Ls (.int v :: .int u :: st) :=
  Go.plain hr fun _ _ _ X s => XS.idiv X.here C.1 rfl (hb C.2.2.2.1 hd) rfl hv (hq ▸ s)
theorem Go.irem (C : Cx Z x code maxL ret E) {u v : Int32} (hd : decode code pc = .ok (.irem, 1)) (hq : pc + 1 = q) (hv : v ≠ 0) (hr : Go l Z R E Q M k n q Ls (.int (u % v) :: st)) : Go l Z R E Q M k n pc Ls (.int v :: .int u :: st) :=
  Go.plain hr fun _ _ _ X s => iremM X C.1 rfl (hb C.2.2.2.1 hd) rfl hv (hq ▸ s)
theorem Go.ldiv (C : Cx Z x code maxL ret E) {u v : Int64} (hd : decode code pc = .ok (.ldiv, 1)) (hq : pc + 1 = q) (hv : v ≠ 0) (hr : Go l Z R E Q M k n q Ls (.long (u / v) :: st)) : Go l Z R E Q M k n pc Ls (.long v :: .long u :: st) :=
  Go.plain hr fun _ _ _ X s => XT.ldiv X.here C.1 rfl (hb C.2.2.2.1 hd) rfl hv (hq ▸ s)
theorem Go.iinc (C : Cx Z x code maxL ret E) {j : Nat} {i : Int} {u v : Int32} (hd : decode code pc = .ok (.iinc j i, 3)) (hq : pc + 3 = q) (hl : Ls[j]? = some (.val (.int u))) (hv : u + Int32.ofInt i = v) (hl' : storeLocals Ls j (.int v) = some Ls') (hr : Go l Z R E Q M k n q Ls' st) : Go l Z R E Q M k n pc Ls st :=
  Go.plain hr fun _ _ _ X s => XS.iinc X.here C.1 rfl (hb C.2.2.2.1 hd) hl (hv ▸ hl') (hq ▸ s)
theorem Go.goto (C : Cx Z x code maxL ret E) {o : Int} (hd : decode code pc = .ok (.goto o, 3)) (ho : 0 ≤ (pc : Int) + o) (hq : ((pc : Int) + o).toNat = q) (hr : Go l Z R E Q M k n q Ls st) : Go l Z R E Q M k n pc Ls st :=
  Go.plain hr fun _ _ _ X s => XS.goto X.here C.1 rfl rfl (hb C.2.2.2.1 hd) ho hq s
theorem Go.ifYes (C : Cx Z x code maxL ret E) {cd : ClassFile.Cond} {o : Int} {u : Int32} (hd : decode code pc = .ok (.ifCond cd o, 3)) (ho : 0 ≤ (pc : Int) + o) (hq : ((pc : Int) + o).toNat = q) (hc : ifCond.holds cd u = true) (hr : Go l Z R E Q M k n q Ls st) : Go l Z R E Q M k n pc Ls (.int u :: st) :=
  Go.plain hr fun _ _ _ X s => XS.ifYes X.here C.1 rfl rfl (hb C.2.2.2.1 hd) rfl hc ho hq s
theorem Go.ifNo (C : Cx Z x code maxL ret E) {cd : ClassFile.Cond} {o : Int} {u : Int32} (hd : decode code pc = .ok (.ifCond cd o, 3)) (hq : pc + 3 = q) (hc : ifCond.holds cd u = false) (hr : Go l Z R E Q M k n q Ls st) : Go l Z R E Q M k n pc Ls (.int u :: st) :=
  Go.plain hr fun _ _ _ X s => XS.ifNo X.here C.1 rfl (hb C.2.2.2.1 hd) rfl hc (hq ▸ s)
theorem Go.icmpYes (C : Cx Z x code maxL ret E) {cd : ClassFile.Cond} {o : Int} {u v : Int32} (hd : decode code pc = .ok (.if_icmp cd o, 3)) (ho : 0 ≤ (pc : Int) + o) (hq : ((pc : Int) + o).toNat = q) (hc : if_icmp.holds cd u v = true) (hr : Go l Z R E Q M k n q Ls st) : Go l Z R E Q M k n pc Ls (.int v :: .int u :: st) :=
  Go.plain hr fun _ _ _ X s => XS.icmpYes X.here C.1 rfl rfl (hb C.2.2.2.1 hd) rfl hc ho hq s
theorem Go.icmpNo (C : Cx Z x code maxL ret E) {cd : ClassFile.Cond} {o : Int} {u v : Int32} (hd : decode code pc = .ok (.if_icmp cd o, 3)) (hq : pc + 3 = q) (hc : if_icmp.holds cd u v = false) (hr : Go l Z R E Q M k n q Ls st) : Go l Z R E Q M k n pc Ls (.int v :: .int u :: st) :=
  Go.plain hr fun _ _ _ X s => XS.icmpNo X.here C.1 rfl (hb C.2.2.2.1 hd) rfl hc (hq ▸ s)
theorem Go.acmpYes (C : Cx Z x code maxL ret E) {cd : ClassFile.ACond} {o : Int} {u v : Value} (hd : decode code pc = .ok (.if_acmp cd o, 3)) (ho : 0 ≤ (pc : Int) + o) (hq : ((pc : Int) + o).toNat = q) (hu : u.isRef = true) (hv : v.isRef = true) (hc : XT.acmp cd u v = true) (hr : Go l Z R E Q M k n q Ls st) : Go l Z R E Q M k n pc Ls (v :: u :: st) :=
  Go.plain hr fun _ _ _ X s => XT.acmpYes X.here C.1 rfl rfl (hb C.2.2.2.1 hd) rfl hu hv hc ho hq s
theorem Go.acmpNo (C : Cx Z x code maxL ret E) {cd : ClassFile.ACond} {o : Int} {u v : Value} (hd : decode code pc = .ok (.if_acmp cd o, 3)) (hq : pc + 3 = q) (hu : u.isRef = true) (hv : v.isRef = true) (hc : XT.acmp cd u v = false) (hr : Go l Z R E Q M k n q Ls st) : Go l Z R E Q M k n pc Ls (v :: u :: st) :=
  Go.plain hr fun _ _ _ X s => XT.acmpNo X.here C.1 rfl (hb C.2.2.2.1 hd) rfl hu hv hc (hq ▸ s)
theorem Go.nullYes (C : Cx Z x code maxL ret E) {o : Int} {v : Value} (hd : decode code pc = .ok (.ifnull o, 3)) (ho : 0 ≤ (pc : Int) + o) (hq : ((pc : Int) + o).toNat = q) (hv : v = .null) (hr : Go l Z R E Q M k n q Ls st) : Go l Z R E Q M k n pc Ls (v :: st) :=
  Go.plain hr fun _ _ _ X s => XT.nullYes X.here C.1 rfl rfl (hb C.2.2.2.1 hd) rfl hv ho hq s
theorem Go.nullNo (C : Cx Z x code maxL ret E) {o : Int} {v : Value} (hd : decode code pc = .ok (.ifnull o, 3)) (hq : pc + 3 = q) (hu : v.isRef = true) (hv : ¬ v = .null) (hr : Go l Z R E Q M k n q Ls st) : Go l Z R E Q M k n pc Ls (v :: st) :=
  Go.plain hr fun _ _ _ X s => XT.nullNo X.here C.1 rfl (hb C.2.2.2.1 hd) rfl hu hv (hq ▸ s)
theorem Go.nonnullYes (C : Cx Z x code maxL ret E) {o : Int} {v : Value} (hd : decode code pc = .ok (.ifnonnull o, 3)) (ho : 0 ≤ (pc : Int) + o) (hq : ((pc : Int) + o).toNat = q) (hu : v.isRef = true) (hv : ¬ v = .null) (hr : Go l Z R E Q M k n q Ls st) : Go l Z R E Q M k n pc Ls (v :: st) :=
  Go.plain hr fun _ _ _ X s => XT.nonnullYes X.here C.1 rfl rfl (hb C.2.2.2.1 hd) rfl hu hv ho hq s
theorem Go.nonnullNo (C : Cx Z x code maxL ret E) {o : Int} {v : Value} (hd : decode code pc = .ok (.ifnonnull o, 3)) (hq : pc + 3 = q) (hv : v = .null) (hr : Go l Z R E Q M k n q Ls st) : Go l Z R E Q M k n pc Ls (v :: st) :=
  Go.plain hr fun _ _ _ X s => XT.nonnullNo X.here C.1 rfl (hb C.2.2.2.1 hd) rfl hv (hq ▸ s)
def icP : ClassFile.Cond → Int32 → Prop
  | .eq, u => u = 0 | .ne, u => ¬ u = 0 | .lt, u => u < 0 | .ge, u => ¬ u < 0 | .gt, u => 0 < u | .le, u => ¬ 0 < u
def icN : ClassFile.Cond → Int32 → Prop
  | .eq, u => ¬ u = 0 | .ne, u => u = 0 | .lt, u => ¬ u < 0 | .ge, u => u < 0 | .gt, u => ¬ 0 < u | .le, u => 0 < u
def iiP : ClassFile.Cond → Int32 → Int32 → Prop
  | .eq, u, v => u = v | .ne, u, v => ¬ u = v | .lt, u, v => u < v | .ge, u, v => ¬ u < v | .gt, u, v => v < u | .le, u, v => ¬ v < u
def iiN : ClassFile.Cond → Int32 → Int32 → Prop
  | .eq, u, v => ¬ u = v | .ne, u, v => u = v | .lt, u, v => ¬ u < v | .ge, u, v => u < v | .gt, u, v => ¬ v < u | .le, u, v => v < u
def llP : ClassFile.Cond → Int64 → Int64 → Prop
  | .eq, u, v => u = v | .ne, u, v => ¬ u = v | .lt, u, v => u < v | .ge, u, v => ¬ u < v | .gt, u, v => v < u | .le, u, v => ¬ v < u
def llN : ClassFile.Cond → Int64 → Int64 → Prop
  | .eq, u, v => ¬ u = v | .ne, u, v => u = v | .lt, u, v => ¬ u < v | .ge, u, v => u < v | .gt, u, v => ¬ v < u | .le, u, v => v < u
theorem ic_or (cd : ClassFile.Cond) (u : Int32) : (ifCond.holds cd u = true ∧ icP cd u) ∨ (ifCond.holds cd u = false ∧ icN cd u) := by
  cases cd
  · by_cases h : u = 0
    · exact Or.inl ⟨XT.i0_eq_t h, h⟩
    · exact Or.inr ⟨XT.i0_eq_f h, h⟩
  · by_cases h : u = 0
    · exact Or.inr ⟨XT.i0_ne_f h, h⟩
    · exact Or.inl ⟨XT.i0_ne_t h, h⟩
  · by_cases h : u < 0
    · exact Or.inl ⟨XT.i0_lt_t h, h⟩
    · exact Or.inr ⟨XT.i0_lt_f h, h⟩
  · by_cases h : u < 0
    · exact Or.inr ⟨XT.i0_ge_f h, h⟩
    · exact Or.inl ⟨XT.i0_ge_t h, h⟩
  · by_cases h : 0 < u
    · exact Or.inl ⟨XT.i0_gt_t h, h⟩
    · exact Or.inr ⟨XT.i0_gt_f h, h⟩
  · by_cases h : 0 < u
    · exact Or.inr ⟨XT.i0_le_f h, h⟩
    · exact Or.inl ⟨XT.i0_le_t h, h⟩
theorem ii_or (cd : ClassFile.Cond) (u v : Int32) : (if_icmp.holds cd u v = true ∧ iiP cd u v) ∨ (if_icmp.holds cd u v = false ∧ iiN cd u v) := by
  cases cd
  · by_cases h : u = v
    · exact Or.inl ⟨XT.ii_eq_t h, h⟩
    · exact Or.inr ⟨XT.ii_eq_f h, h⟩
  · by_cases h : u = v
    · exact Or.inr ⟨XT.ii_ne_f h, h⟩
    · exact Or.inl ⟨XT.ii_ne_t h, h⟩
  · by_cases h : u < v
    · exact Or.inl ⟨XT.ii_lt_t h, h⟩
    · exact Or.inr ⟨XT.ii_lt_f h, h⟩
  · by_cases h : u < v
    · exact Or.inr ⟨XT.ii_ge_f h, h⟩
    · exact Or.inl ⟨XT.ii_ge_t h, h⟩
  · by_cases h : v < u
    · exact Or.inl ⟨XT.ii_gt_t h, h⟩
    · exact Or.inr ⟨XT.ii_gt_f h, h⟩
  · by_cases h : v < u
    · exact Or.inr ⟨XT.ii_le_f h, h⟩
    · exact Or.inl ⟨XT.ii_le_t h, h⟩
theorem ll_or (cd : ClassFile.Cond) (u v : Int64) : (ifCond.holds cd (XT.cmpL u v) = true ∧ llP cd u v) ∨ (ifCond.holds cd (XT.cmpL u v) = false ∧ llN cd u v) := by
  cases cd
  · by_cases h : u = v
    · exact Or.inl ⟨XT.ll_eq_t h, h⟩
    · exact Or.inr ⟨XT.ll_eq_f h, h⟩
  · by_cases h : u = v
    · exact Or.inr ⟨XT.ll_ne_f h, h⟩
    · exact Or.inl ⟨XT.ll_ne_t h, h⟩
  · by_cases h : u < v
    · exact Or.inl ⟨XT.ll_lt_t h, h⟩
    · exact Or.inr ⟨XT.ll_lt_f h, h⟩
  · by_cases h : u < v
    · exact Or.inr ⟨XT.ll_ge_f h, h⟩
    · exact Or.inl ⟨XT.ll_ge_t h, h⟩
  · by_cases h : v < u
    · exact Or.inl ⟨XT.ll_gt_t h, h⟩
    · exact Or.inr ⟨XT.ll_gt_f h, h⟩
  · by_cases h : v < u
    · exact Or.inr ⟨XT.ll_le_f h, h⟩
    · exact Or.inl ⟨XT.ll_le_t h, h⟩
theorem Go.ifc (C : Cx Z x code maxL ret E) {cd : ClassFile.Cond} {o : Int} {u : Int32} {q' : Nat} (hd : decode code pc = .ok (.ifCond cd o, 3)) (ho : 0 ≤ (pc : Int) + o) (hq : ((pc : Int) + o).toNat = q) (hq' : pc + 3 = q')
    (h1 : icP cd u → Go l Z R E Q M k n q Ls st) (h2 : icN cd u → Go l Z R E Q M k n q' Ls st) : Go l Z R E Q M k n pc Ls (.int u :: st) := by
  rcases ic_or cd u with ⟨a, b⟩ | ⟨a, b⟩
  · exact Go.ifYes C hd ho hq a (h1 b)
  · exact Go.ifNo C hd hq' a (h2 b)
theorem Go.icmp (C : Cx Z x code maxL ret E) {cd : ClassFile.Cond} {o : Int} {u v : Int32} {q' : Nat} (hd : decode code pc = .ok (.if_icmp cd o, 3)) (ho : 0 ≤ (pc : Int) + o) (hq : ((pc : Int) + o).toNat = q) (hq' : pc + 3 = q')
    (h1 : iiP cd u v → Go l Z R E Q M k n q Ls st) (h2 : iiN cd u v → Go l Z R E Q M k n q' Ls st) : Go l Z R E Q M k n pc Ls (.int v :: .int u :: st) := by
  rcases ii_or cd u v with ⟨a, b⟩ | ⟨a, b⟩
  · exact Go.icmpYes C hd ho hq a (h1 b)
  · exact Go.icmpNo C hd hq' a (h2 b)
theorem Go.lcmp (C : Cx Z x code maxL ret E) {u v : Int64} (hd : decode code pc = .ok (.lcmp, 1)) (hq : pc + 1 = q) (hr : Go l Z R E Q M k n q Ls (.int (XT.cmpL u v) :: st)) : Go l Z R E Q M k n pc Ls (.long v :: .long u :: st) :=
  Go.plain hr fun _ _ _ X s => XT.lcmp X.here C.1 rfl (hb C.2.2.2.1 hd) rfl (hq ▸ s)
theorem Go.lcmpif (C : Cx Z x code maxL ret E) {cd : ClassFile.Cond} {o : Int} {u v : Int64} {p' q' : Nat} (hd : decode code pc = .ok (.lcmp, 1)) (hp : pc + 1 = p') (hd' : decode code p' = .ok (.ifCond cd o, 3)) (ho : 0 ≤ (p' : Int) + o) (hq : ((p' : Int) + o).toNat = q) (hq' : p' + 3 = q')
    (h1 : llP cd u v → Go l Z R E Q M k n q Ls st) (h2 : llN cd u v → Go l Z R E Q M k n q' Ls st) : Go l Z R E Q M k n pc Ls (.long v :: .long u :: st) := by
  refine Go.lcmp C hd hp ?_
  rcases ll_or cd u v with ⟨a, b⟩ | ⟨a, b⟩
  · exact Go.ifYes C hd' ho hq a (h1 b)
  · exact Go.ifNo C hd' hq' a (h2 b)
def acP : ClassFile.ACond → Value → Value → Prop
  | .eq, u, v => u = v | .ne, u, v => ¬ u = v
def acN : ClassFile.ACond → Value → Value → Prop
  | .eq, u, v => ¬ u = v | .ne, u, v => u = v
theorem ac_or (cd : ClassFile.ACond) (u v : Value) : (XT.acmp cd u v = true ∧ acP cd u v) ∨ (XT.acmp cd u v = false ∧ acN cd u v) := by
  cases cd
  · by_cases h : u = v
    · exact Or.inl ⟨XT.aa_eq_t h, h⟩
    · exact Or.inr ⟨XT.aa_eq_f h, h⟩
  · by_cases h : u = v
    · exact Or.inr ⟨XT.aa_ne_f h, h⟩
    · exact Or.inl ⟨XT.aa_ne_t h, h⟩
theorem Go.acmp (C : Cx Z x code maxL ret E) {cd : ClassFile.ACond} {o : Int} {u v : Value} {q' : Nat} (hd : decode code pc = .ok (.if_acmp cd o, 3)) (ho : 0 ≤ (pc : Int) + o) (hq : ((pc : Int) + o).toNat = q) (hq' : pc + 3 = q') (hu : u.isRef = true) (hv : v.isRef = true)
    (h1 : acP cd u v → Go l Z R E Q M k n q Ls st) (h2 : acN cd u v → Go l Z R E Q M k n q' Ls st) : Go l Z R E Q M k n pc Ls (v :: u :: st) := by
  rcases ac_or cd u v with ⟨a, b⟩ | ⟨a, b⟩
  · exact Go.acmpYes C hd ho hq hu hv a (h1 b)
  · exact Go.acmpNo C hd hq' hu hv a (h2 b)
theorem Go.tswIn (C : Cx Z x code maxL ret E) {dflt low high o : Int} {offs : Array Int} {len : Nat} {u : Int32} (hd : decode code pc = .ok (.tableswitch dflt low high offs, len)) (hin : ¬ (u.toInt < low ∨ u.toInt > high)) (hoff : offs[(u.toInt - low).toNat]? = some o) (ho : 0 ≤ (pc : Int) + o) (hq : ((pc : Int) + o).toNat = q) (hr : Go l Z R E Q M k n q Ls st) : Go l Z R E Q M k n pc Ls (.int u :: st) :=
  Go.plain hr fun _ _ _ X s => XS.tswIn X.here C.1 rfl rfl (hb C.2.2.2.1 hd) rfl hin hoff ho hq s
theorem Go.tswOut (C : Cx Z x code maxL ret E) {dflt low high : Int} {offs : Array Int} {len : Nat} {u : Int32} (hd : decode code pc = .ok (.tableswitch dflt low high offs, len)) (hout : u.toInt < low ∨ u.toInt > high) (ho : 0 ≤ (pc : Int) + dflt) (hq : ((pc : Int) + dflt).toNat = q) (hr : Go l Z R E Q M k n q Ls st) : Go l Z R E Q M k n pc Ls (.int u :: st) :=
  Go.plain hr fun _ _ _ X s => XS.tswOut X.here C.1 rfl rfl (hb C.2.2.2.1 hd) rfl hout ho hq s
/-! the heap -/
theorem Go.getS (C : Cx Z x code maxL ret E) {idx : Nat} {R0 O nm d host : String} {v : Value} (w : (Cond.fieldLink x.cls idx R0 nm d).before a0 Z = true ∨ (Cond.fieldLinkNest x.cls idx R0 nm d host).before a0 Z = true) (via : Via Z R0 O nm d) (S : Sta Z Z.heap O nm d v) (hd : decode code pc = .ok (.getstatic idx, 3)) (hq : pc + 3 = q) (hr : Go l Z R E Q M k n q Ls (v :: st)) : Go l Z R E Q M k n pc Ls st := by
  intro T locs X F r
  obtain ⟨T', X', e', s'⟩ := RoadKit.getS2 X C.1 C.2.1 C.2.2.1 w via rfl (S.ext r.1) (g := mkF E.2.2.2.1 pc Ls st) rfl (hb C.2.2.2.1 hd)
  obtain ⟨s₂, v, L, h1, h2⟩ := hr T' locs X' F (by rw [e']; exact r)
  exact ⟨s₂, v, L, s' _ (hq ▸ h1), h2⟩
theorem Go.getF (C : Cx Z x code maxL ret E) {idx : Nat} {R0 O nm d host : String} {a : Addr} {v : Value} (w : (Cond.fieldLink x.cls idx R0 nm d).before a0 Z = true ∨ (Cond.fieldLinkNest x.cls idx R0 nm d host).before a0 Z = true) (via : Via Z R0 O nm d) (H : ∀ h, Rep Z h M → Fld Z h a O nm d v) (hd : decode code pc = .ok (.getfield idx, 3)) (hq : pc + 3 = q) (hr : Go l Z R E Q M k n q Ls (v :: st)) : Go l Z R E Q M k n pc Ls (.ref a :: st) := by
  intro T locs X F r
  obtain ⟨T', X', e', s'⟩ := RoadKit.getF X C.1 C.2.1 C.2.2.1 w via rfl (H _ r) (g := mkF E.2.2.2.1 pc Ls (.ref a :: st)) rfl rfl (hb C.2.2.2.1 hd)
  obtain ⟨s₂, v, L, h1, h2⟩ := hr T' locs X' F (by rw [e']; exact r)
  exact ⟨s₂, v, L, s' _ (hq ▸ h1), h2⟩
theorem Go.putF (C : Cx Z x code maxL ret E) {idx kk i j : Nat} {R0 O nm d host K : String} {a : Addr} {v old : Value} {fs : Fs} {ty : FieldType} {M' : List Ent} (w : (Cond.fieldLink x.cls idx R0 nm d).before a0 Z = true ∨ (Cond.fieldLinkNest x.cls idx R0 nm d host).before a0 Z = true) (via : Via Z R0 O nm d)
    (hi : M[i]? = some (a, .inl (K, fs))) (hj : fs[j]? = some ((O, nm, d), old)) (L : (Cond.lays K O nm d).before a0 Z = true ∨ ((Cond.laysFinal K O nm d).before a0 Z = true ∧ x.cls = O ∧ x.name = "<init>")) (wi : (Cond.instantiable K kk).before a0 Z = true)
    (hty : parseFieldDescriptor d = some ty) (hn : narrow ty v = v) (hf : fits ty v = true) (hd : decode code pc = .ok (.putfield idx, 3)) (hq : pc + 3 = q) (hM : M.set i (a, .inl (K, fs.set j ((O, nm, d), v))) = M') (hr : Go l Z R E Q M' k n q Ls st) : Go l Z R E Q M k n pc Ls (v :: .ref a :: st) := by
  intro T locs X F r
  have Fl := r.fld i j hi hj
  obtain ⟨T', h', X', e', W, s'⟩ := RoadKit.putF X C.1 C.2.1 C.2.2.1 w via rfl Fl (r.exa i hi) (L.imp id fun q => ⟨q.1, q.2.1, C.2.2.2.2.2.2.2.trans q.2.2⟩) wi hty hn hf (g := mkF E.2.2.2.1 pc Ls (v :: .ref a :: st)) rfl rfl (hb C.2.2.2.1 hd)
  obtain ⟨s₂, v, L, h1, h2⟩ := hr T' _ X' (Fr.snoc X' F (r.fresh hi)) (by rw [e', ← hM]; exact r.wrote hi W ((r.2.1 i _ hi).2.put hj W))
  exact ⟨s₂, v, L, s' _ (hq ▸ h1), h2⟩
def LaidAll (Z : State) (a0 : Array Value) (K : String) : Fs → Prop
  | [] => True
  | f :: r => (Laid Z a0 K f.1.1 f.1.2.1 f.1.2.2 ∧ ∃ ty, parseFieldDescriptor f.1.2.2 = some ty ∧ f.2 = defaultValue ty) ∧ LaidAll Z a0 K r
theorem LaidAll.at {K : String} : ∀ {fs : Fs}, LaidAll Z a0 K fs → ∀ f ∈ fs, Laid Z a0 K f.1.1 f.1.2.1 f.1.2.2 ∧ ∃ ty, parseFieldDescriptor f.1.2.2 = some ty ∧ f.2 = defaultValue ty
  | _ :: _, H, f, hf => by
    rcases List.mem_cons.mp hf with rfl | q
    · exact H.1
    · exact H.2.at f q
theorem LaidAll.nodup {K : String} : ∀ {fs : Fs}, LaidAll Z a0 K fs → (fs.map fun f => f.1.2.1).Nodup → (fs.map fun f => slK Z f.1).Nodup
  | [], _, _ => List.nodup_nil
  | f :: r, H, hn => by
    rw [List.map_cons, List.nodup_cons] at hn ⊢
    refine ⟨fun m => ?_, H.2.nodup hn.2⟩
    obtain ⟨g, hg, e⟩ := List.mem_map.mp m
    obtain ⟨Lg, tg, pg, -⟩ := H.2.at g hg
    obtain ⟨Lf, tf, pf, -⟩ := H.1
    refine slot_ne Lg Lf (fun q => hn.1 ?_) pg pf e
    exact List.mem_map.mpr ⟨g, hg, q⟩
theorem Go.new (C : Cx Z x code maxL ret E) {idx n1 k' n' : Nat} {K : String} (w1 : (Cond.classLink x.cls idx K).before a0 Z = true) (w2 : (Cond.instantiable K n1).before a0 Z = true) (w3 : (Cond.initialized K).before a0 Z = true) (fs : Fs) (Lf : LaidAll Z a0 K fs) (hnd : (fs.map fun f => f.1.2.1).Nodup)
    (hd : decode code pc = .ok (.new idx, 3)) (hq : pc + 3 = q) (hc : k + 1 ≤ R.cells) (hs : n + n1 ≤ R.slots) (hk : k + 1 = k') (hn : n + n1 = n') (hr : ∀ a, Go l Z R E Q ((a, .inl (K, fs)) :: M) k' n' q Ls (.ref a :: st)) : Go l Z R E Q M k n pc Ls st := by
  intro T locs X F r
  obtain ⟨T', h', X', e', Ex, A, D, -, s'⟩ := newO X C.1 C.2.1 C.2.2.1 w1 w2 w3 rfl (g := mkF E.2.2.2.1 pc Ls st) rfl (hb C.2.2.2.1 hd) hc hs
  subst hk hn
  obtain ⟨s₂, v, L, h1, h2⟩ := hr _ T' _ X' F (by
    rw [e']
    refine r.new Ex rfl ⟨A, fun i f hf => ?_, Lf.nodup hnd⟩
    obtain ⟨La, ty, hp, hv⟩ := Lf.at f (List.mem_of_getElem? hf)
    rw [hv]
    exact D La hp)
  exact ⟨s₂, v, L, s' _ (hq ▸ h1), h2⟩
theorem Go.initO (C : Cx Z x code maxL ret E) {idx : Nat} {a : Addr} (w1 : (Cond.methodLink x.cls idx Lib.objectInit).before a0 Z = true) (w2 : (Cond.instanceMethod Lib.objectInit).before a0 Z = true) (w3 : (Cond.code Lib.objectInit ⟨#[0xb1]⟩ 1 none).before a0 Z = true) (hd : decode code pc = .ok (.invokespecial idx, 3)) (hq : pc + 3 = q) (hsz : Ls.size = maxL) (hf : 1 ≤ R.frames) {W : Nat} (hW : (st.map fun v => v.category).sum = W) (hl : W + 12 ≤ R.locals)
    (hr : Go l Z R E Q M k n q Ls st) : Go l Z R E Q M k n pc Ls (.ref a :: st) := by
  subst hW
  intro T locs X F r
  obtain ⟨T', X', e', s'⟩ := RoadKit.initO X C.1 C.2.1 C.2.2.1 w1 w2 w3 rfl (g := mkF E.2.2.2.1 pc Ls (.ref a :: st)) rfl (hsz.trans C.2.2.2.2.1.symm) rfl (hb C.2.2.2.1 hd) hf (W := (st.map fun v => v.category).sum) (by show 2 * 0 + _ ≤ _; omega) hl
  obtain ⟨s₂, v, L, h1, h2⟩ := hr T' locs X' F (by rw [e']; exact r)
  exact ⟨s₂, v, L, s' _ (hq ▸ h1), h2⟩
/-- an array that is owned, or that stood at the start -/
def ArrIs (Z : State) (h : Heap) (a : Addr) (ty : FieldType) (vs : List Value) : Prop := ∃ c : Cell, Arr Z h a c ty ∧ c.slots.toList = vs
theorem Rep.arr {h : Heap} {a : Addr} {ty : FieldType} {vs : List Value} (r : Rep Z h M) (i : Nat) (hi : M[i]? = some (a, .inr (ty, vs))) : ArrIs Z h a ty vs := by
  obtain ⟨c, A, e, -⟩ := (r.2.1 i _ hi).2
  exact ⟨c, A, e⟩
theorem ArrIs.ext {h h' : Heap} {a : Addr} {ty : FieldType} {vs : List Value} (A : ArrIs Z h a ty vs) (E : Ext h h') : ArrIs Z h' a ty vs := by
  obtain ⟨c, A, e⟩ := A
  exact ⟨c, A.ext E, e⟩
theorem in_of {c : Cell} {vs : List Value} {j : Int32} {v : Value} (e : c.slots.toList = vs) (h0 : ¬ j < 0) (hv : vs[j.toNatClampNeg]? = some v) : ¬ (j < 0 ∨ c.slots.size ≤ j.toNatClampNeg) ∧ c.slots[j.toNatClampNeg]? = some v := by
  subst e
  rw [Array.getElem?_toList] at hv
  have := (Array.getElem?_eq_some_iff.mp hv).1
  exact ⟨fun q => q.elim h0 fun q => by omega, hv⟩
theorem Go.arraylength (C : Cx Z x code maxL ret E) {a : Addr} {ty : FieldType} {vs : List Value} {z : Int32} (H : ∀ h, Rep Z h M → ArrIs Z h a ty vs) (hz : vs.length.toInt32 = z) (hd : decode code pc = .ok (.arraylength, 1)) (hq : pc + 1 = q) (hr : Go l Z R E Q M k n q Ls (.int z :: st)) : Go l Z R E Q M k n pc Ls (.ref a :: st) := by
  intro T locs X F r
  obtain ⟨c, A, e⟩ := H _ r
  obtain ⟨s₂, v, L, h1, h2⟩ := hr T locs X F r
  refine ⟨s₂, v, L, Stand.arraylength X C.1 A.1 (State.isArrayOf_alike C.2.1.alike A.2.1) (g := mkF E.2.2.2.1 pc Ls (.ref a :: st)) rfl rfl (hb C.2.2.2.1 hd) _ ?_, h2⟩
  have : c.slots.size.toInt32 = z := by rw [← hz, ← e, Array.length_toList]
  rw [this]
  exact hq ▸ h1
theorem Go.iaload (C : Cx Z x code maxL ret E) {a : Addr} {vs : List Value} {j : Int32} {v : Value} (H : ∀ h, Rep Z h M → ArrIs Z h a .int vs) (h0 : ¬ j < 0) (hv : vs[j.toNatClampNeg]? = some v) (hd : decode code pc = .ok (.iaload, 1)) (hq : pc + 1 = q) (hr : Go l Z R E Q M k n q Ls (v :: st)) : Go l Z R E Q M k n pc Ls (.int j :: .ref a :: st) := by
  intro T locs X F r
  obtain ⟨c, A, e⟩ := H _ r
  obtain ⟨g1, g2⟩ := in_of e h0 hv
  obtain ⟨s₂, v, L, h1, h2⟩ := hr T locs X F r
  exact ⟨s₂, v, L, Stand.iaload X C.1 A.1 (State.isArrayOf_alike C.2.1.alike A.2.1) A.2.2 g1 g2 (g := mkF E.2.2.2.1 pc Ls (.int j :: .ref a :: st)) rfl rfl (hb C.2.2.2.1 hd) _ (hq ▸ h1), h2⟩
theorem Go.laload (C : Cx Z x code maxL ret E) {a : Addr} {vs : List Value} {j : Int32} {v : Value} (H : ∀ h, Rep Z h M → ArrIs Z h a .long vs) (h0 : ¬ j < 0) (hv : vs[j.toNatClampNeg]? = some v) (hd : decode code pc = .ok (.laload, 1)) (hq : pc + 1 = q) (hr : Go l Z R E Q M k n q Ls (v :: st)) : Go l Z R E Q M k n pc Ls (.int j :: .ref a :: st) := by
  intro T locs X F r
  obtain ⟨c, A, e⟩ := H _ r
  obtain ⟨g1, g2⟩ := in_of e h0 hv
  obtain ⟨s₂, v, L, h1, h2⟩ := hr T locs X F r
  exact ⟨s₂, v, L, Stand.laload X C.1 A.1 (State.isArrayOf_alike C.2.1.alike A.2.1) A.2.2 g1 g2 (g := mkF E.2.2.2.1 pc Ls (.int j :: .ref a :: st)) rfl rfl (hb C.2.2.2.1 hd) _ (hq ▸ h1), h2⟩
theorem Go.caload (C : Cx Z x code maxL ret E) {a : Addr} {vs : List Value} {j : Int32} {v : Value} (H : ∀ h, Rep Z h M → ArrIs Z h a .char vs) (h0 : ¬ j < 0) (hv : vs[j.toNatClampNeg]? = some v) (hd : decode code pc = .ok (.caload, 1)) (hq : pc + 1 = q) (hr : Go l Z R E Q M k n q Ls (v :: st)) : Go l Z R E Q M k n pc Ls (.int j :: .ref a :: st) := by
  intro T locs X F r
  obtain ⟨c, A, e⟩ := H _ r
  obtain ⟨g1, g2⟩ := in_of e h0 hv
  obtain ⟨s₂, v, L, h1, h2⟩ := hr T locs X F r
  exact ⟨s₂, v, L, Stand.caload X C.1 A.1 (State.isArrayOf_alike C.2.1.alike A.2.1) A.2.2 g1 g2 (g := mkF E.2.2.2.1 pc Ls (.int j :: .ref a :: st)) rfl rfl (hb C.2.2.2.1 hd) _ (hq ▸ h1), h2⟩
theorem Go.saload (C : Cx Z x code maxL ret E) {a : Addr} {vs : List Value} {j : Int32} {v : Value} (H : ∀ h, Rep Z h M → ArrIs Z h a .short vs) (h0 : ¬ j < 0) (hv : vs[j.toNatClampNeg]? = some v) (hd : decode code pc = .ok (.saload, 1)) (hq : pc + 1 = q) (hr : Go l Z R E Q M k n q Ls (v :: st)) : Go l Z R E Q M k n pc Ls (.int j :: .ref a :: st) := by
  intro T locs X F r
  obtain ⟨c, A, e⟩ := H _ r
  obtain ⟨g1, g2⟩ := in_of e h0 hv
  obtain ⟨s₂, v, L, h1, h2⟩ := hr T locs X F r
  exact ⟨s₂, v, L, Stand.saload X C.1 A.1 (State.isArrayOf_alike C.2.1.alike A.2.1) A.2.2 g1 g2 (g := mkF E.2.2.2.1 pc Ls (.int j :: .ref a :: st)) rfl rfl (hb C.2.2.2.1 hd) _ (hq ▸ h1), h2⟩
theorem Go.baload (C : Cx Z x code maxL ret E) {a : Addr} {vs : List Value} {j : Int32} {v : Value} (H : ∀ h, Rep Z h M → ArrIs Z h a .byte vs) (h0 : ¬ j < 0) (hv : vs[j.toNatClampNeg]? = some v) (hd : decode code pc = .ok (.baload, 1)) (hq : pc + 1 = q) (hr : Go l Z R E Q M k n q Ls (v :: st)) : Go l Z R E Q M k n pc Ls (.int j :: .ref a :: st) := by
  intro T locs X F r
  obtain ⟨c, A, e⟩ := H _ r
  obtain ⟨g1, g2⟩ := in_of e h0 hv
  obtain ⟨s₂, v, L, h1, h2⟩ := hr T locs X F r
  exact ⟨s₂, v, L, Stand.baloadBytes X C.1 A.1 (State.isArrayOf_alike C.2.1.alike A.2.1) A.2.2 g1 g2 (g := mkF E.2.2.2.1 pc Ls (.int j :: .ref a :: st)) rfl rfl (hb C.2.2.2.1 hd) _ (hq ▸ h1), h2⟩
theorem Go.zaload (C : Cx Z x code maxL ret E) {a : Addr} {vs : List Value} {j : Int32} {v : Value} (H : ∀ h, Rep Z h M → ArrIs Z h a .boolean vs) (h0 : ¬ j < 0) (hv : vs[j.toNatClampNeg]? = some v) (hd : decode code pc = .ok (.baload, 1)) (hq : pc + 1 = q) (hr : Go l Z R E Q M k n q Ls (v :: st)) : Go l Z R E Q M k n pc Ls (.int j :: .ref a :: st) := by
  intro T locs X F r
  obtain ⟨c, A, e⟩ := H _ r
  obtain ⟨g1, g2⟩ := in_of e h0 hv
  obtain ⟨s₂, v, L, h1, h2⟩ := hr T locs X F r
  exact ⟨s₂, v, L, Stand.baloadBooleans X C.1 A.1 (State.isArrayOf_alike C.2.1.alike A.2.1) A.2.2 g1 g2 (g := mkF E.2.2.2.1 pc Ls (.int j :: .ref a :: st)) rfl rfl (hb C.2.2.2.1 hd) _ (hq ▸ h1), h2⟩
theorem Go.aaload (C : Cx Z x code maxL ret E) {a : Addr} {ty : FieldType} {vs : List Value} {j : Int32} {v : Value} (H : ∀ h, Rep Z h M → ArrIs Z h a ty vs) (hty : ty.isReference = true) (h0 : ¬ j < 0) (hv : vs[j.toNatClampNeg]? = some v) (hd : decode code pc = .ok (.aaload, 1)) (hq : pc + 1 = q) (hr : Go l Z R E Q M k n q Ls (v :: st)) : Go l Z R E Q M k n pc Ls (.int j :: .ref a :: st) := by
  intro T locs X F r
  obtain ⟨c, A, e⟩ := H _ r
  obtain ⟨g1, g2⟩ := in_of e h0 hv
  obtain ⟨s₂, v, L, h1, h2⟩ := hr T locs X F r
  exact ⟨s₂, v, L, Stand.aaload X C.1 A.1 (State.isArrayOf_alike C.2.1.alike A.2.1) hty A.2.2 g1 g2 (g := mkF E.2.2.2.1 pc Ls (.int j :: .ref a :: st)) rfl rfl (hb C.2.2.2.1 hd) _ (hq ▸ h1), h2⟩
theorem Go.iastore (C : Cx Z x code maxL ret E) {a : Addr} {vs : List Value} {i : Nat} {j : Int32} {w : Int32} {w' : Value} {M' : List Ent} (hi : M[i]? = some (a, .inr (.int, vs))) (h0 : ¬ j < 0) (hv : j.toNatClampNeg < vs.length) (hw : .int w = w') (hd : decode code pc = .ok (.iastore, 1)) (hq : pc + 1 = q) (hM : M.set i (a, .inr (.int, vs.set j.toNatClampNeg w')) = M') (hr : Go l Z R E Q M' k n q Ls st) : Go l Z R E Q M k n pc Ls (.int w :: .int j :: .ref a :: st) := by
  intro T locs X F r
  subst hw
  obtain ⟨c, A, e, o⟩ := (r.2.1 i _ hi).2
  have g1 : ¬ (j < 0 ∨ c.slots.size ≤ j.toNatClampNeg) := fun q => q.elim h0 fun q => by rw [← e, Array.length_toList] at hv; omega
  obtain ⟨T', h', X', e', W, s'⟩ := stI X C.1 C.2.1 rfl A g1 (g := mkF E.2.2.2.1 pc Ls (.int w :: .int j :: .ref a :: st)) rfl rfl (hb C.2.2.2.1 hd)
  obtain ⟨s₂, v, L, h1, h2⟩ := hr T' _ X' (Fr.snoc X' F (r.fresh hi)) (by rw [e', ← hM]; exact r.wrote hi W ((r.2.1 i _ hi).2.store W))
  exact ⟨s₂, v, L, s' _ (hq ▸ h1), h2⟩
theorem Go.lastore (C : Cx Z x code maxL ret E) {a : Addr} {vs : List Value} {i : Nat} {j : Int32} {w : Int64} {w' : Value} {M' : List Ent} (hi : M[i]? = some (a, .inr (.long, vs))) (h0 : ¬ j < 0) (hv : j.toNatClampNeg < vs.length) (hw : .long w = w') (hd : decode code pc = .ok (.lastore, 1)) (hq : pc + 1 = q) (hM : M.set i (a, .inr (.long, vs.set j.toNatClampNeg w')) = M') (hr : Go l Z R E Q M' k n q Ls st) : Go l Z R E Q M k n pc Ls (.long w :: .int j :: .ref a :: st) := by
  intro T locs X F r
  subst hw
  obtain ⟨c, A, e, o⟩ := (r.2.1 i _ hi).2
  have g1 : ¬ (j < 0 ∨ c.slots.size ≤ j.toNatClampNeg) := fun q => q.elim h0 fun q => by rw [← e, Array.length_toList] at hv; omega
  obtain ⟨T', h', X', e', W, s'⟩ := stJ X C.1 C.2.1 rfl A g1 (g := mkF E.2.2.2.1 pc Ls (.long w :: .int j :: .ref a :: st)) rfl rfl (hb C.2.2.2.1 hd)
  obtain ⟨s₂, v, L, h1, h2⟩ := hr T' _ X' (Fr.snoc X' F (r.fresh hi)) (by rw [e', ← hM]; exact r.wrote hi W ((r.2.1 i _ hi).2.store W))
  exact ⟨s₂, v, L, s' _ (hq ▸ h1), h2⟩
theorem Go.castore (C : Cx Z x code maxL ret E) {a : Addr} {vs : List Value} {i : Nat} {j : Int32} {w : Int32} {w' : Value} {M' : List Ent} (hi : M[i]? = some (a, .inr (.char, vs))) (h0 : ¬ j < 0) (hv : j.toNatClampNeg < vs.length) (hw : .int (nar .char w) = w') (hd : decode code pc = .ok (.castore, 1)) (hq : pc + 1 = q) (hM : M.set i (a, .inr (.char, vs.set j.toNatClampNeg w')) = M') (hr : Go l Z R E Q M' k n q Ls st) : Go l Z R E Q M k n pc Ls (.int w :: .int j :: .ref a :: st) := by
  intro T locs X F r
  subst hw
  obtain ⟨c, A, e, o⟩ := (r.2.1 i _ hi).2
  have g1 : ¬ (j < 0 ∨ c.slots.size ≤ j.toNatClampNeg) := fun q => q.elim h0 fun q => by rw [← e, Array.length_toList] at hv; omega
  obtain ⟨T', h', X', e', W, s'⟩ := stC X C.1 C.2.1 rfl A g1 (g := mkF E.2.2.2.1 pc Ls (.int w :: .int j :: .ref a :: st)) rfl rfl (hb C.2.2.2.1 hd)
  obtain ⟨s₂, v, L, h1, h2⟩ := hr T' _ X' (Fr.snoc X' F (r.fresh hi)) (by rw [e', ← hM]; exact r.wrote hi W ((r.2.1 i _ hi).2.store W))
  exact ⟨s₂, v, L, s' _ (hq ▸ h1), h2⟩
theorem Go.bastore (C : Cx Z x code maxL ret E) {a : Addr} {vs : List Value} {i : Nat} {j : Int32} {w : Int32} {w' : Value} {M' : List Ent} (hi : M[i]? = some (a, .inr (.byte, vs))) (h0 : ¬ j < 0) (hv : j.toNatClampNeg < vs.length) (hw : .int (nar .byte w) = w') (hd : decode code pc = .ok (.bastore, 1)) (hq : pc + 1 = q) (hM : M.set i (a, .inr (.byte, vs.set j.toNatClampNeg w')) = M') (hr : Go l Z R E Q M' k n q Ls st) : Go l Z R E Q M k n pc Ls (.int w :: .int j :: .ref a :: st) := by
  intro T locs X F r
  subst hw
  obtain ⟨c, A, e, o⟩ := (r.2.1 i _ hi).2
  have g1 : ¬ (j < 0 ∨ c.slots.size ≤ j.toNatClampNeg) := fun q => q.elim h0 fun q => by rw [← e, Array.length_toList] at hv; omega
  obtain ⟨T', h', X', e', W, s'⟩ := stB X C.1 C.2.1 rfl A g1 (g := mkF E.2.2.2.1 pc Ls (.int w :: .int j :: .ref a :: st)) rfl rfl (hb C.2.2.2.1 hd)
  obtain ⟨s₂, v, L, h1, h2⟩ := hr T' _ X' (Fr.snoc X' F (r.fresh hi)) (by rw [e', ← hM]; exact r.wrote hi W ((r.2.1 i _ hi).2.store W))
  exact ⟨s₂, v, L, s' _ (hq ▸ h1), h2⟩
theorem Go.zastore (C : Cx Z x code maxL ret E) {a : Addr} {vs : List Value} {i : Nat} {j : Int32} {w : Int32} {w' : Value} {M' : List Ent} (hi : M[i]? = some (a, .inr (.boolean, vs))) (h0 : ¬ j < 0) (hv : j.toNatClampNeg < vs.length) (hw : .int (nar .boolean w) = w') (hd : decode code pc = .ok (.bastore, 1)) (hq : pc + 1 = q) (hM : M.set i (a, .inr (.boolean, vs.set j.toNatClampNeg w')) = M') (hr : Go l Z R E Q M' k n q Ls st) : Go l Z R E Q M k n pc Ls (.int w :: .int j :: .ref a :: st) := by
  intro T locs X F r
  subst hw
  obtain ⟨c, A, e, o⟩ := (r.2.1 i _ hi).2
  have g1 : ¬ (j < 0 ∨ c.slots.size ≤ j.toNatClampNeg) := fun q => q.elim h0 fun q => by rw [← e, Array.length_toList] at hv; omega
  obtain ⟨T', h', X', e', W, s'⟩ := stZ X C.1 C.2.1 rfl A g1 (g := mkF E.2.2.2.1 pc Ls (.int w :: .int j :: .ref a :: st)) rfl rfl (hb C.2.2.2.1 hd)
  obtain ⟨s₂, v, L, h1, h2⟩ := hr T' _ X' (Fr.snoc X' F (r.fresh hi)) (by rw [e', ← hM]; exact r.wrote hi W ((r.2.1 i _ hi).2.store W))
  exact ⟨s₂, v, L, s' _ (hq ▸ h1), h2⟩
/-- v may lie in an array of K -/
def Fits (Z : State) (h : Heap) (K : String) (v : Value) : Prop := v = .null ∨ ∃ y, v = .ref y ∧ Ins Z h y K true
theorem Go.aastore (C : Cx Z x code maxL ret E) {a : Addr} {K : String} {vs : List Value} {i : Nat} {j : Int32} {v : Value} {M' : List Ent} (hi : M[i]? = some (a, .inr (.object K, vs))) (h0 : ¬ j < 0) (hv : j.toNatClampNeg < vs.length) (S : ∀ h, Rep Z h M → Fits Z h K v) (hd : decode code pc = .ok (.aastore, 1)) (hq : pc + 1 = q) (hM : M.set i (a, .inr (.object K, vs.set j.toNatClampNeg v)) = M') (hr : Go l Z R E Q M' k n q Ls st) : Go l Z R E Q M k n pc Ls (v :: .int j :: .ref a :: st) := by
  intro T locs X F r
  obtain ⟨c, A, e, o⟩ := (r.2.1 i _ hi).2
  have g1 : ¬ (j < 0 ∨ c.slots.size ≤ j.toNatClampNeg) := fun q => q.elim h0 fun q => by rw [← e, Array.length_toList] at hv; omega
  have g2 : Sto Z T.heap a v := (S _ r).imp id fun ⟨y, e', I⟩ => by
    subst e'
    exact (Sto.of A (o K rfl) I).elim (fun q => by cases q) id
  obtain ⟨T', h', X', e', W, s'⟩ := stR X C.1 C.2.1 rfl A g1 rfl g2 (g := mkF E.2.2.2.1 pc Ls (v :: .int j :: .ref a :: st)) rfl rfl (hb C.2.2.2.1 hd)
  obtain ⟨s₂, v, L, h1, h2⟩ := hr T' _ X' (Fr.snoc X' F (r.fresh hi)) (by rw [e', ← hM]; exact r.wrote hi W ((r.2.1 i _ hi).2.store W))
  exact ⟨s₂, v, L, s' _ (hq ▸ h1), h2⟩
theorem Go.newarray (C : Cx Z x code maxL ret E) {aty : ArrayType} {z : Int32} {cap k' n' : Nat} {ty : FieldType} {vs : List Value} (w : (Cond.arrayClass ty).before a0 Z = true) (hty : newarray.typeOf aty = ty) (hpr : ∀ C, ty ≠ .object C) (h0 : ¬ z < 0) (hcap : z.toNatClampNeg ≤ cap) (hb8 : cap * 8 ≤ 536870912) (hvs : List.replicate z.toNatClampNeg (defaultValue ty) = vs) (hd : decode code pc = .ok (.newarray aty, 2)) (hq : pc + 2 = q)
    (hc : k + 1 ≤ R.cells) (hs : n + cap ≤ R.slots) (hk : k + 1 = k') (hn : n + cap = n') (hr : ∀ a, Go l Z R E Q ((a, .inr (ty, vs)) :: M) k' n' q Ls (.ref a :: st)) : Go l Z R E Q M k n pc Ls (.int z :: st) := by
  intro T locs X F r
  subst hty
  obtain ⟨T', h', cA, X', e', Ex, A, s'⟩ := newP X C.1 C.2.1 w rfl (g := mkF E.2.2.2.1 pc Ls (.int z :: st)) rfl (hb C.2.2.2.1 hd) rfl h0 hcap hb8 hc hs
  subst hk hn
  obtain ⟨s₂, v, L, h1, h2⟩ := hr _ T' _ X' F (by
    rw [e']
    exact r.new Ex rfl ⟨_, A, by rw [← hvs]; simp [newA], fun C e => absurd e (hpr C)⟩)
  exact ⟨s₂, v, L, s' _ (hq ▸ h1), h2⟩
theorem Go.anewarray (C : Cx Z x code maxL ret E) {idx : Nat} {K : String} {z : Int32} {cap k' n' : Nat} {vs : List Value} (w1 : (Cond.classLink x.cls idx K).before a0 Z = true) (w2 : (Cond.arrayOver (.object K)).before a0 Z = true) (h0 : ¬ z < 0) (hcap : z.toNatClampNeg ≤ cap) (hb8 : cap * 8 ≤ 536870912) (hvs : List.replicate z.toNatClampNeg (.null : Value) = vs) (hd : decode code pc = .ok (.anewarray idx, 3)) (hq : pc + 3 = q)
    (hc : k + 1 ≤ R.cells) (hs : n + cap ≤ R.slots) (hk : k + 1 = k') (hn : n + cap = n') (hr : ∀ a, Go l Z R E Q ((a, .inr (.object K, vs)) :: M) k' n' q Ls (.ref a :: st)) : Go l Z R E Q M k n pc Ls (.int z :: st) := by
  intro T locs X F r
  obtain ⟨T', h', cA, X', e', Ex, A, O, s'⟩ := newR X C.1 C.2.1 C.2.2.1 w1 w2 rfl (g := mkF E.2.2.2.1 pc Ls (.int z :: st)) rfl (hb C.2.2.2.1 hd) rfl h0 hcap hb8 hc hs
  subst hk hn
  obtain ⟨s₂, v, L, h1, h2⟩ := hr _ T' _ X' F (by
    rw [e']
    exact r.new Ex rfl ⟨_, A, by rw [← hvs]; simp [newA, defaultValue], fun C e => by cases e; exact O⟩)
  exact ⟨s₂, v, L, s' _ (hq ▸ h1), h2⟩
theorem Go.castY (C : Cx Z x code maxL ret E) {idx : Nat} {K : String} {a : Addr} (w : (Cond.classLink x.cls idx K).before a0 Z = true) (H : ∀ h, Rep Z h M → Ins Z h a K true) (hd : decode code pc = .ok (.checkcast idx, 3)) (hq : pc + 3 = q) (hr : Go l Z R E Q M k n q Ls (.ref a :: st)) : Go l Z R E Q M k n pc Ls (.ref a :: st) := by
  intro T locs X F r
  obtain ⟨T', X', e', s'⟩ := RoadKit.castY X C.1 C.2.1 C.2.2.1 w rfl (H _ r) (g := mkF E.2.2.2.1 pc Ls (.ref a :: st)) rfl rfl (hb C.2.2.2.1 hd)
  obtain ⟨s₂, v, L, h1, h2⟩ := hr T' locs X' F (by rw [e']; exact r)
  exact ⟨s₂, v, L, s' _ (hq ▸ h1), h2⟩
theorem Go.instY (C : Cx Z x code maxL ret E) {idx : Nat} {K : String} {a : Addr} (w : (Cond.classLink x.cls idx K).before a0 Z = true) (H : ∀ h, Rep Z h M → Ins Z h a K true) (hd : decode code pc = .ok (.instanceof idx, 3)) (hq : pc + 3 = q) (hr : Go l Z R E Q M k n q Ls (.int 1 :: st)) : Go l Z R E Q M k n pc Ls (.ref a :: st) := by
  intro T locs X F r
  obtain ⟨T', X', e', s'⟩ := RoadKit.instY X C.1 C.2.1 C.2.2.1 w rfl (H _ r) (g := mkF E.2.2.2.1 pc Ls (.ref a :: st)) rfl rfl (hb C.2.2.2.1 hd)
  obtain ⟨s₂, v, L, h1, h2⟩ := hr T' locs X' F (by rw [e']; exact r)
  exact ⟨s₂, v, L, s' _ (hq ▸ h1), h2⟩
theorem Go.instNo (C : Cx Z x code maxL ret E) {idx : Nat} {K C' : String} {a : Addr} (w : (Cond.classLink x.cls idx K).before a0 Z = true) (H : ∀ h, Rep Z h M → Exa Z h a C') (N : ∃ c t, Z.vm.findClass C' = some c ∧ Z.vm.findClass K = some t ∧ Z.vm.assignable c t = false) (hd : decode code pc = .ok (.instanceof idx, 3)) (hq : pc + 3 = q) (hr : Go l Z R E Q M k n q Ls (.int 0 :: st)) : Go l Z R E Q M k n pc Ls (.ref a :: st) := by
  intro T locs X F r
  obtain ⟨T', X', e', s'⟩ := RoadKit.instNo X C.1 C.2.1 C.2.2.1 w rfl (H _ r) N (g := mkF E.2.2.2.1 pc Ls (.ref a :: st)) rfl rfl (hb C.2.2.2.1 hd)
  obtain ⟨s₂, v, L, h1, h2⟩ := hr T' locs X' F (by rw [e']; exact r)
  exact ⟨s₂, v, L, s' _ (hq ▸ h1), h2⟩
theorem Go.instNull (C : Cx Z x code maxL ret E) {idx : Nat} (hd : decode code pc = .ok (.instanceof idx, 3)) (hq : pc + 3 = q) (hr : Go l Z R E Q M k n q Ls (.int 0 :: st)) : Go l Z R E Q M k n pc Ls (.null :: st) :=
  Go.plain hr fun _ _ t X s => Jvm.Stand.instanceofNull X C.1 (g := mkF E.2.2.2.1 pc Ls (.null :: st)) rfl rfl (hb C.2.2.2.1 hd) t (hq ▸ s)
theorem Go.castNull (C : Cx Z x code maxL ret E) {idx : Nat} (hd : decode code pc = .ok (.checkcast idx, 3)) (hq : pc + 3 = q) (hr : Go l Z R E Q M k n q Ls (.null :: st)) : Go l Z R E Q M k n pc Ls (.null :: st) :=
  Go.plain hr fun _ _ t X s => Jvm.Stand.checkcastNull X C.1 (g := mkF E.2.2.2.1 pc Ls (.null :: st)) rfl rfl (hb C.2.2.2.1 hd) t (hq ▸ s)
theorem nsRoot {O K : String} {kk : Nat} (w : (Cond.noSuperclass O).before a0 Z = true) (wk : (Cond.instantiable K kk).before a0 Z = true) (hn : O ≠ K) : NS Z O K := by
  obtain ⟨c, k, h1, h2, h3, -, -⟩ := Cond.noSuperclass_spec w
  obtain ⟨t, _, g1, -⟩ := Cond.instantiable_spec wk
  have ne := ids_ne h1 g1 hn
  refine ⟨c, t, h1, g1, fun fuel => ?_⟩
  cases fuel with
  | zero => rfl
  | succ f => simp [Vm.isSubclassAux, ne, h2, h3]
theorem nsNo {C' S K : String} {kk : Nat} (w : (Cond.superclass C' S).before a0 Z = true) (wk : (Cond.instantiable K kk).before a0 Z = true) (n : NS Z C' K) (hn : C' ≠ K) : ∃ c t, Z.vm.findClass C' = some c ∧ Z.vm.findClass K = some t ∧ Z.vm.assignable c t = false := by
  obtain ⟨c, t, h0, g0, n3⟩ := n
  obtain ⟨p, k, kp, h1, h2, h3, h4, h5, -, h7⟩ := Cond.superclass_spec h0 w
  obtain ⟨t', k', g1, g2, g5, g7, -⟩ := Cond.instantiable_spec wk
  cases g0.symm.trans g1
  have ne := ids_ne h0 g0 hn
  have g8 : k'.isInterface = false := by cases h : k'.isInterface <;> simp [h] at g7 ⊢
  refine ⟨c, t, h0, g0, ?_⟩
  show Z.vm.assignableAux (255 + 1) c t = false
  simp [Vm.assignableAux, ne, h2, g2, h5, g5, g8, Vm.isSubclass, n3]
/-! calls -/
theorem nf_sel {K : String} {y z : MethodName} (w : (Cond.selects K y y).before a0 Z = true) : ∀ s : State, Z.Warmed39 s.vm → NotFace s y := fun s hZ => notFace_of_selects (args := #[]) (mvT hZ w)
theorem nf_same {K : String} {y y' : MethodName} (hc : y.cls = y'.cls) (w : (Cond.selects K y' y').before a0 Z = true) : ∀ s : State, Z.Warmed39 s.vm → NotFace s y := fun s hZ r0 h0 => by
  obtain ⟨c2, r2, m2, q1, q2, q3, q4, kP, hkP, hkPi⟩ := Cond.selects_spec (mvT (args := #[]) hZ w)
  have e1 := findClass_of_methodNamed h0
  have e2 := findClass_of_methodNamed q3
  rw [hc, e2] at e1
  have e3 := Option.some.inj e1
  exact ⟨kP, e3 ▸ hkP, hkPi⟩
theorem nf_sup {y : MethodName} {S : String} (w : (Cond.superclass y.cls S).before a0 Z = true) : ∀ s : State, Z.Warmed39 s.vm → NotFace s y := fun s hZ => nf_super (args := #[]) (mvT hZ w)
theorem nf_topS {y : MethodName} (w : (Cond.noSuperclass y.cls).before a0 Z = true) : ∀ s : State, Z.Warmed39 s.vm → NotFace s y := fun s hZ => nf_top (args := #[]) (mvT hZ w)
section Calls
variable {y : MethodName} {bytes : ByteArray} {mL : Nat} {rt : Option FieldType} {rm : Room} {as rest : List Value} {Qc : PQ} {idx k' n' : Nat}
theorem len_ok {d : String} (h : (parseMethodDescriptor d).map (fun s => s.parameters.length) = some as.length) : ∀ sig, parseMethodDescriptor d = some sig → as.length = sig.parameters.length := fun sig e => by
  rw [e] at h
  exact (Option.some.inj h).symm
theorem Go.callS (C : Cx Z x code maxL ret E) (w1 : (Cond.methodLink x.cls idx y).before a0 Z = true) (w2 : (Cond.static y).before a0 Z = true) (w3 : (Cond.initialized y.cls).before a0 Z = true) (w4 : (Cond.code y bytes mL rt).before a0 Z = true) (hM : Met l Z y bytes mL rt rm as.toArray M Qc) (hst : st = as.reverse ++ rest)
    (hd : decode code pc = .ok (.invokestatic idx, 3)) (hq : pc + 3 = q) (hy : y.cls ≠ "java/lang/invoke/MethodHandle" ∧ y.cls ≠ "java/lang/invoke/VarHandle") (hsz : Ls.size = maxL) {na W : Nat} (hlen : (parseMethodDescriptor y.desc).map (fun s => s.parameters.length) = some na) (hna : as.length = na) (hf : rm.frames + 1 ≤ R.frames) (hW : (rest.map fun v => v.category).sum = W) (hl : W + (mL + 11) + rm.locals ≤ R.locals) (hc : k + rm.cells ≤ R.cells) (hs : n + rm.slots ≤ R.slots) (hk : k + rm.cells = k') (hn : n + rm.slots = n')
    (hr : ∀ v M', Qc v M' → Go l Z R E Q M' k' n' q Ls (v.toList ++ rest)) : Go l Z R E Q M k n pc Ls st := by
  subst hna hW
  intro T locs X F r
  obtain ⟨v, _, ⟨T', L', c', s'⟩, -, X', ⟨Lc, hQ, l', y', z'⟩, hst'⟩ := Jvm.LawKit.callS X C.1 C.2.2.1 (mvT C.2.1 w1) (mvT C.2.1 w2) (mvT C.2.1 w3) (mvT C.2.1 w4) hy (backOf (W := (rest.map fun v => v.category).sum) (h := T.heap) (Q := fun v h L => Fr Z.heap.size L ∧ ∃ M', Qc v M' ∧ Rep Z h M') (hM [] _ r) C.2.1 w4 w3 hf hl) (g := mkF E.2.2.2.1 pc Ls st) rfl (hsz.trans C.2.2.2.2.1.symm) (argsL := as) (rest := rest) (len_ok hlen) hst (by show 2 * 0 + _ ≤ _; omega) (hb C.2.2.2.1 hd) (fun _ _ => ⟨rfl, rfl, hc, hs⟩)
  dsimp only [Pt.U, Pt.locs, Pt.cells, Pt.slots] at X' l' y' z' hst' hQ
  obtain ⟨FL, M', hQ', r'⟩ := hQ
  subst l' y' z' hk hn
  obtain ⟨s₂, v, L, h1, h2⟩ := hr v M' hQ' T' _ X' (F.app FL) r'
  exact ⟨s₂, v, L, hst' _ (hq ▸ h1), h2⟩
theorem Go.callI (C : Cx Z x code maxL ret E) {a : Addr} (w1 : (Cond.methodLink x.cls idx y).before a0 Z = true) (w2 : (Cond.instanceMethod y).before a0 Z = true) (w3 : (Cond.initialized y.cls).before a0 Z = true) (w4 : (Cond.code y bytes mL none).before a0 Z = true) (hM : Met l Z y bytes mL none rm (.ref a :: as).toArray M Qc) (hst : st = as.reverse ++ .ref a :: rest) (hy1 : y.name = "<init>")
    (hd : decode code pc = .ok (.invokespecial idx, 3)) (hq : pc + 3 = q) (hy : y.cls ≠ "java/lang/invoke/MethodHandle" ∧ y.cls ≠ "java/lang/invoke/VarHandle") (hsz : Ls.size = maxL) {na W : Nat} (hlen : (parseMethodDescriptor y.desc).map (fun s => s.parameters.length) = some na) (hna : as.length = na) (hf : rm.frames + 1 ≤ R.frames) (hW : (rest.map fun v => v.category).sum = W) (hl : W + (mL + 11) + rm.locals ≤ R.locals) (hc : k + rm.cells ≤ R.cells) (hs : n + rm.slots ≤ R.slots) (hk : k + rm.cells = k') (hn : n + rm.slots = n')
    (hr : ∀ v M', Qc v M' → Go l Z R E Q M' k' n' q Ls (v.toList ++ rest)) : Go l Z R E Q M k n pc Ls st := by
  subst hna hW
  intro T locs X F r
  obtain ⟨v, _, ⟨T', L', c', s'⟩, -, X', ⟨Lc, hQ, l', y', z'⟩, hst'⟩ := Stand.specialBack X C.1 hy1 C.2.2.1 (mvT C.2.1 w1) (mvT C.2.1 w2) (mvT C.2.1 w4) hy (backOf (W := (rest.map fun v => v.category).sum) (h := T.heap) (Q := fun v h L => Fr Z.heap.size L ∧ ∃ M', Qc v M' ∧ Rep Z h M') (hM [] _ r) C.2.1 w4 w3 hf hl) (g := mkF E.2.2.2.1 pc Ls st) rfl (hsz.trans C.2.2.2.2.1.symm) (Steps.refl _) (a := a) (argsL := as) (rest := rest) (len_ok hlen) hst (by show 2 * 0 + _ ≤ _; omega) (hb C.2.2.2.1 hd) (fun _ _ => ⟨rfl, rfl, hc, hs⟩)
  dsimp only [Pt.U, Pt.locs, Pt.cells, Pt.slots] at X' l' y' z' hst' hQ
  obtain ⟨FL, M', hQ', r'⟩ := hQ
  subst l' y' z' hk hn
  obtain ⟨s₂, v, L, h1, h2⟩ := hr v M' hQ' T' _ X' (F.app FL) r'
  exact ⟨s₂, v, L, hst'.trans (hq ▸ h1), h2⟩
theorem Go.callV (C : Cx Z x code maxL ret E) {a : Addr} {K : String} {z : MethodName} (w1 : (Cond.methodLink x.cls idx y).before a0 Z = true) (w2 : (Cond.declares y).before a0 Z = true) (nf : ∀ s : State, Z.Warmed39 s.vm → NotFace s y) (w3 : (Cond.selects K y z).before a0 Z = true) (w4 : (Cond.instanceMethod z).before a0 Z = true) (w5 : (Cond.code z bytes mL rt).before a0 Z = true) (w6 : (Cond.initialized z.cls).before a0 Z = true) (H : ∀ h, Rep Z h M → Exa Z h a K) (hM : Met l Z z bytes mL rt rm (.ref a :: as).toArray M Qc) (hst : st = as.reverse ++ .ref a :: rest)
    (hd : decode code pc = .ok (.invokevirtual idx, 3)) (hq : pc + 3 = q) (hy : y.cls ≠ "java/lang/invoke/MethodHandle" ∧ y.cls ≠ "java/lang/invoke/VarHandle") (hsz : Ls.size = maxL) {na W : Nat} (hlen : (parseMethodDescriptor y.desc).map (fun s => s.parameters.length) = some na) (hna : as.length = na) (hf : rm.frames + 1 ≤ R.frames) (hW : (rest.map fun v => v.category).sum = W) (hl : W + (mL + 11) + rm.locals ≤ R.locals) (hc : k + rm.cells ≤ R.cells) (hs : n + rm.slots ≤ R.slots) (hk : k + rm.cells = k') (hn : n + rm.slots = n')
    (hr : ∀ v M', Qc v M' → Go l Z R E Q M' k' n' q Ls (v.toList ++ rest)) : Go l Z R E Q M k n pc Ls st := by
  subst hna hW
  intro T locs X F r
  have nf' : NotFace E.2.2.1 y := nf _ C.2.1
  obtain ⟨_, _, q1, q2, q3⟩ := isOf C.2.1 (rfl : T.heap = T.heap) (H _ r)
  obtain ⟨v, _, ⟨T', L', c', s'⟩, -, X', ⟨Lc, hQ, l', y', z'⟩, hst'⟩ := Stand.virtualBack X C.1 C.2.2.1 (mvT C.2.1 w1) (mvT C.2.1 w2) nf' (mvT C.2.1 w3) (mvT C.2.1 w4) hy (backOf (W := (rest.map fun v => v.category).sum) (h := T.heap) (Q := fun v h L => Fr Z.heap.size L ∧ ∃ M', Qc v M' ∧ Rep Z h M') (hM [] _ r) C.2.1 w5 w6 hf hl) q1 q3 (g := mkF E.2.2.2.1 pc Ls st) rfl (hsz.trans C.2.2.2.2.1.symm) (Steps.refl _) (argsL := as) (rest := rest) (len_ok hlen) hst (by show 2 * 0 + _ ≤ _; omega) (hb C.2.2.2.1 hd) (fun _ _ => ⟨rfl, rfl, hc, hs⟩)
  dsimp only [Pt.U, Pt.locs, Pt.cells, Pt.slots] at X' l' y' z' hst' hQ
  obtain ⟨FL, M', hQ', r'⟩ := hQ
  subst l' y' z' hk hn
  obtain ⟨s₂, v, L, h1, h2⟩ := hr v M' hQ' T' _ X' (F.app FL) r'
  exact ⟨s₂, v, L, hst'.trans (hq ▸ h1), h2⟩
theorem Go.callU (C : Cx Z x code maxL ret E) {a : Addr} {K owner : String} {z : MethodName} (w1 : (Cond.methodLink x.cls idx y).before a0 Z = true) (w2 : (Cond.sameMethod y.cls owner y.name y.desc).before a0 Z = true) (w2' : (Cond.declares ⟨owner, y.name, y.desc⟩).before a0 Z = true) (w3 : (Cond.selects K y z).before a0 Z = true) (w4 : (Cond.instanceMethod z).before a0 Z = true) (w5 : (Cond.code z bytes mL rt).before a0 Z = true) (w6 : (Cond.initialized z.cls).before a0 Z = true) (H : ∀ h, Rep Z h M → Exa Z h a K) (hM : Met l Z z bytes mL rt rm (.ref a :: as).toArray M Qc) (hst : st = as.reverse ++ .ref a :: rest)
    (hd : decode code pc = .ok (.invokevirtual idx, 3)) (hq : pc + 3 = q) (hy : owner ≠ "java/lang/invoke/MethodHandle" ∧ owner ≠ "java/lang/invoke/VarHandle") (hsz : Ls.size = maxL) {na W : Nat} (hlen : (parseMethodDescriptor y.desc).map (fun s => s.parameters.length) = some na) (hna : as.length = na) (hf : rm.frames + 1 ≤ R.frames) (hW : (rest.map fun v => v.category).sum = W) (hl : W + (mL + 11) + rm.locals ≤ R.locals) (hc : k + rm.cells ≤ R.cells) (hs : n + rm.slots ≤ R.slots) (hk : k + rm.cells = k') (hn : n + rm.slots = n')
    (hr : ∀ v M', Qc v M' → Go l Z R E Q M' k' n' q Ls (v.toList ++ rest)) : Go l Z R E Q M k n pc Ls st := by
  subst hna hW
  intro T locs X F r
  obtain ⟨_, _, q1, q2, q3⟩ := isOf C.2.1 (rfl : T.heap = T.heap) (H _ r)
  obtain ⟨v, _, ⟨T', L', c', s'⟩, -, X', ⟨Lc, hQ, l', y', z'⟩, hst'⟩ := Stand.virtualBackUp X C.1 C.2.2.1 (mvT C.2.1 w1) (mvT C.2.1 w2) (mvT C.2.1 w2') hy (mvT C.2.1 w3) (mvT C.2.1 w4) (backOf (W := (rest.map fun v => v.category).sum) (h := T.heap) (Q := fun v h L => Fr Z.heap.size L ∧ ∃ M', Qc v M' ∧ Rep Z h M') (hM [] _ r) C.2.1 w5 w6 hf hl) q1 q3 (g := mkF E.2.2.2.1 pc Ls st) rfl (hsz.trans C.2.2.2.2.1.symm) (Steps.refl _) (argsL := as) (rest := rest) (len_ok hlen) hst (by show 2 * 0 + _ ≤ _; omega) (hb C.2.2.2.1 hd) (fun _ _ => ⟨rfl, rfl, hc, hs⟩)
  dsimp only [Pt.U, Pt.locs, Pt.cells, Pt.slots] at X' l' y' z' hst' hQ
  obtain ⟨FL, M', hQ', r'⟩ := hQ
  subst l' y' z' hk hn
  obtain ⟨s₂, v, L, h1, h2⟩ := hr v M' hQ' T' _ X' (F.app FL) r'
  exact ⟨s₂, v, L, hst'.trans (hq ▸ h1), h2⟩
theorem Go.callP (C : Cx Z x code maxL ret E) {a : Addr} {K : String} (w1 : (Cond.methodLink x.cls idx y).before a0 Z = true) (w2 : (Cond.instanceMethod y).before a0 Z = true) (w3 : (Cond.selects y.cls y y).before a0 Z = true) (w4 : (Cond.privateMethod y).before a0 Z = true) (w5 : (Cond.code y bytes mL rt).before a0 Z = true) (w6 : (Cond.initialized y.cls).before a0 Z = true) (H : ∀ h, Rep Z h M → Exa Z h a K) (hM : Met l Z y bytes mL rt rm (.ref a :: as).toArray M Qc) (hst : st = as.reverse ++ .ref a :: rest)
    (hd : decode code pc = .ok (.invokevirtual idx, 3)) (hq : pc + 3 = q) (hy : y.cls ≠ "java/lang/invoke/MethodHandle" ∧ y.cls ≠ "java/lang/invoke/VarHandle") (hsz : Ls.size = maxL) {na W : Nat} (hlen : (parseMethodDescriptor y.desc).map (fun s => s.parameters.length) = some na) (hna : as.length = na) (hf : rm.frames + 1 ≤ R.frames) (hW : (rest.map fun v => v.category).sum = W) (hl : W + (mL + 11) + rm.locals ≤ R.locals) (hc : k + rm.cells ≤ R.cells) (hs : n + rm.slots ≤ R.slots) (hk : k + rm.cells = k') (hn : n + rm.slots = n')
    (hr : ∀ v M', Qc v M' → Go l Z R E Q M' k' n' q Ls (v.toList ++ rest)) : Go l Z R E Q M k n pc Ls st := by
  subst hna hW
  intro T locs X F r
  obtain ⟨cq, q1, q2⟩ := (H _ r).cell
  obtain ⟨v, _, ⟨T', L', c', s'⟩, -, X', ⟨Lc, hQ, l', y', z'⟩, hst'⟩ := Stand.privateBack X C.1 C.2.2.1 (mvT C.2.1 w1) (mvT C.2.1 w2) (mvT C.2.1 w3) (Cond.privateMethod_at (mvP C.2.1 w4 (args := #[]))) (mvT C.2.1 w5) hy (backOf (W := (rest.map fun v => v.category).sum) (h := T.heap) (Q := fun v h L => Fr Z.heap.size L ∧ ∃ M', Qc v M' ∧ Rep Z h M') (hM [] _ r) C.2.1 w5 w6 hf hl) (g := mkF E.2.2.2.1 pc Ls st) rfl (hsz.trans C.2.2.2.2.1.symm) (Steps.refl _) q1 q2 (argsL := as) (rest := rest) (len_ok hlen) hst (by show 2 * 0 + _ ≤ _; omega) (hb C.2.2.2.1 hd) (fun _ _ => ⟨rfl, rfl, hc, hs⟩)
  dsimp only [Pt.U, Pt.locs, Pt.cells, Pt.slots] at X' l' y' z' hst' hQ
  obtain ⟨FL, M', hQ', r'⟩ := hQ
  subst l' y' z' hk hn
  obtain ⟨s₂, v, L, h1, h2⟩ := hr v M' hQ' T' _ X' (F.app FL) r'
  exact ⟨s₂, v, L, hst'.trans (hq ▸ h1), h2⟩
end Calls
/-! returns -/
theorem Go.ret0 (C : Cx Z x code maxL ret E) (hret : ret = none) (hd : decode code pc = .ok (.return_, 1)) (hc : k ≤ R.cells) (hs : n ≤ R.slots) (hQ : Q none M) : Go l Z R E Q M k n pc Ls [] := by
  intro T locs X F r
  obtain ⟨fs, hr, hrun, hended, hW, hsame⟩ := Stand.leave X (v := none) (fun _ => rfl) C.2.2.2.2.2.2.1
  exact ⟨_, none, locs, Stand.returnOut X C.1 (C.2.2.2.2.2.1.trans hret) (hb C.2.2.2.1 hd) hr, hrun, hended, F, ⟨M, hQ, r⟩, ⟨_, rfl⟩, hW, hsame.mono hc hs⟩
theorem Go.retW (C : Cx Z x code maxL ret E) {t : FieldType} {i : Instr} {w : Value} (hret : ret = some t) (hn : narrow t w = w)
    (hi : (i = .ireturn ∧ (t = .int ∨ t = .boolean ∨ t = .byte ∨ t = .char ∨ t = .short) ∧ ∃ z, w = .int z) ∨ (i = .lreturn ∧ t = .long ∧ ∃ z, w = .long z) ∨ (i = .dreturn ∧ t = .double ∧ ∃ z, w = .double z) ∨ (i = .freturn ∧ t = .float ∧ ∃ z, w = .float z) ∨ (i = .areturn ∧ t.isReference = true ∧ w.isRef = true))
    (hd : decode code pc = .ok (i, 1)) (hc : k ≤ R.cells) (hs : n ≤ R.slots) (hQ : Q (some w) M) : Go l Z R E Q M k n pc Ls (w :: st) := by
  intro T locs X F r
  obtain ⟨fs, hr, hrun, hended, hW, hsame⟩ := Stand.leave X (v := some w) (fun h => by rw [C.2.2.2.2.2.1, hret] at h; cases h) C.2.2.2.2.2.2.1
  exact ⟨_, some w, locs, retOut X C.1 (C.2.2.2.2.2.1.trans hret) hn hi (hb C.2.2.2.1 hd) hr, hrun, hended, F, ⟨M, hQ, r⟩, ⟨_, rfl⟩, hW, hsame.mono hc hs⟩
theorem Go.retI (C : Cx Z x code maxL ret E) {z : Int32} (hret : ret = some .int) (hd : decode code pc = .ok (.ireturn, 1)) (hc : k ≤ R.cells) (hs : n ≤ R.slots) (hQ : Q (some (.int z)) M) : Go l Z R E Q M k n pc Ls (.int z :: st) :=
  Go.retW C hret rfl (Or.inl ⟨rfl, Or.inl rfl, _, rfl⟩) hd hc hs hQ
theorem Go.retL (C : Cx Z x code maxL ret E) {z : Int64} (hret : ret = some .long) (hd : decode code pc = .ok (.lreturn, 1)) (hc : k ≤ R.cells) (hs : n ≤ R.slots) (hQ : Q (some (.long z)) M) : Go l Z R E Q M k n pc Ls (.long z :: st) :=
  Go.retW C hret rfl (Or.inr (Or.inl ⟨rfl, rfl, _, rfl⟩)) hd hc hs hQ
theorem Go.retZ (C : Cx Z x code maxL ret E) {z : Int32} (hret : ret = some .boolean) (hz : z &&& 1 = z) (hd : decode code pc = .ok (.ireturn, 1)) (hc : k ≤ R.cells) (hs : n ≤ R.slots) (hQ : Q (some (.int z)) M) : Go l Z R E Q M k n pc Ls (.int z :: st) :=
  Go.retW C hret (congrArg Value.int hz) (Or.inl ⟨rfl, Or.inr (Or.inl rfl), _, rfl⟩) hd hc hs hQ
theorem Go.retA (C : Cx Z x code maxL ret E) {t : FieldType} {w : Value} (hret : ret = some t) (ht : t.isReference = true) (hw : w.isRef = true) (hd : decode code pc = .ok (.areturn, 1)) (hc : k ≤ R.cells) (hs : n ≤ R.slots) (hQ : Q (some w) M) : Go l Z R E Q M k n pc Ls (w :: st) :=
  Go.retW C hret (by cases t <;> first | (cases ht; done) | rfl) (Or.inr (Or.inr (Or.inr (Or.inr ⟨rfl, ht, hw⟩)))) hd hc hs hQ
end Walk
theorem nar_ref {t : FieldType} {v : Value} (h : v.isRef = true) : narrow t v = v := by rcases ref_cases h with rfl | ⟨a, rfl⟩ <;> cases t <;> rfl
theorem fit_obj {K : String} {v : Value} (h : v.isRef = true) : fits (.object K) v = true := by rcases ref_cases h with rfl | ⟨a, rfl⟩ <;> rfl
theorem fld_of_eq {Z : State} {args : Array Value} {t : Term} {a : Addr} {C nm d : String} {k : Int32} (ev : t.eval args Z none [] Z = some (.ref a)) (h : (Cond.eq (.field t C nm d) (.int k)).value args Z none Z [] = some true) : Fld Z Z.heap a C nm d (.int k) := by
  obtain ⟨x, y, h1, h2, h3, h4⟩ := cmp_v (Or.inl h)
  have h2' : (Term.int k).eval args Z none [] Z = some (.int k) := rfl
  have hy : y = .int k := Option.some.inj (h2.symm.trans h2')
  subst hy
  obtain ⟨z, rfl⟩ := h4
  have : z = k := by
    have h5 : (Cond.eq (.field t C nm d) (.int k)).value args Z none Z [] = some (decide (z = k)) := by simp [Cond.value, h1, h2]
    rw [h5] at h
    exact of_decide_eq_true (Option.some.inj h)
  subst this
  rw [fld_at ev] at h1
  exact Fld.start h1
theorem mask_nn (x : Int32) : ¬ (x &&& 2147483647) < 0 := fun h => absurd ((XT.and_neg32 _ _).mp h).2 (by decide)
theorem rem_mask (x d : Int32) (hd : 0 < d.toInt) : 0 ≤ ((x &&& 2147483647) % d).toInt ∧ ((x &&& 2147483647) % d).toInt < d.toInt := by
  have h := mask_nn x
  rw [XT.negI32] at h
  rw [Int32.toInt_mod, Int.tmod_eq_emod_of_nonneg (by omega)]
  exact ⟨Int.emod_nonneg _ (by omega), Int.emod_lt_of_pos _ hd⟩
theorem bool_ok {b : Int32} (h : b = 0 ∨ b = 1) : narrow .boolean (.int b) = .int b ∧ fits .boolean (.int b) = true := by rcases h with rfl | rfl <;> exact ⟨rfl, rfl⟩
theorem ite01 {P : Prop} [Decidable P] : (if P then (1 : Int32) else 0) = 0 ∨ (if P then (1 : Int32) else 0) = 1 := by split <;> simp
theorem ite10 {P : Prop} [Decidable P] : (if P then (0 : Int32) else 1) = 0 ∨ (if P then (0 : Int32) else 1) = 1 := by split <;> simp
theorem and1 {b : Int32} (h : b = 0 ∨ b = 1) : b &&& 1 = b := by rcases h with rfl | rfl <;> rfl
theorem fld_ev {Z : State} {args : Array Value} {t : Term} {a : Addr} {C nm d : String} {v : Value} (ev : t.eval args Z none [] Z = some (.ref a)) (h : (Term.field t C nm d).eval args Z none [] Z = some v) : Fld Z Z.heap a C nm d v := Fld.start ((fld_at ev).symm.trans h)
theorem eq_int {Z : State} {args : Array Value} {idx : List Nat} {t u : Term} {k : Int32} (hu : u.eval args Z none idx Z = some (.int k)) (h : (Cond.eq t u).value args Z none Z idx = some true) : t.eval args Z none idx Z = some (.int k) := by
  obtain ⟨x, y, h1, h2, h3, h4⟩ := cmp_v (Or.inl h)
  have hy : y = .int k := Option.some.inj (h2.symm.trans hu)
  subst hy
  obtain ⟨z, rfl⟩ := h4
  have : z = k := by
    have h5 : (Cond.eq t u).value args Z none Z idx = some (decide (z = k)) := by simp [Cond.value, h1, h2]
    rw [h5] at h
    exact of_decide_eq_true (Option.some.inj h)
  rw [h1, this]
theorem int_of_eq {Z : State} {args : Array Value} {idx : List Nat} {t : Term} {k : Int32} (h : (Cond.eq t (.int k)).value args Z none Z idx = some true) : t.eval args Z none idx Z = some (.int k) := by
  obtain ⟨x, y, h1, h2, h3, h4⟩ := cmp_v (Or.inl h)
  have h2' : (Term.int k).eval args Z none idx Z = some (.int k) := rfl
  have hy : y = .int k := Option.some.inj (h2.symm.trans h2')
  subst hy
  obtain ⟨z, rfl⟩ := h4
  have : z = k := by
    have h5 : (Cond.eq t (.int k)).value args Z none Z idx = some (decide (z = k)) := by simp [Cond.value, h1, h2]
    rw [h5] at h
    exact of_decide_eq_true (Option.some.inj h)
  rw [h1, this]
theorem len_of_eq {Z : State} {args : Array Value} {t : Term} {a : Addr} {c : Cell} {ty : FieldType} {k : Int32} (ev : t.eval args Z none [] Z = some (.ref a)) (A : Arr Z Z.heap a c ty) (h : (Cond.eq (.length t) (.int k)).value args Z none Z [] = some true) : c.slots.toList.length.toInt32 = k ∧ c.slots.toList.length < 2 ^ 31 := by
  have h1 := int_of_eq h
  have e5 := A.fin (Vm.Alike.refl _)
  rw [Array.length_toList]
  by_cases hl : c.slots.size < 2 ^ 31
  · rw [len_f ev e5 hl] at h1
    exact ⟨Value.int.inj (Option.some.inj h1), hl⟩
  · exfalso
    simp [Term.eval, ev, e5, hl] at h1
theorem elem_of_eq {Z : State} {args : Array Value} {t : Term} {a : Addr} {c : Cell} {ty : FieldType} {i k : Int32} (ev : t.eval args Z none [] Z = some (.ref a)) (A : Arr Z Z.heap a c ty) (h : (Cond.eq (.elem t (.int i)) (.int k)).value args Z none Z [] = some true) : c.slots.toList[i.toNatClampNeg]? = some (.int k) := by
  have h1 := int_of_eq h
  have h2 := elem_in (j := i) h1 ev rfl A.1
  rw [Array.getElem?_toList]
  exact h2.2
theorem ge0 {x : Int32} (h : 0 ≤ x.toInt) : ¬ x < 0 := fun q => by rw [XT.negI32] at q; omega
theorem rep0 (s : State) : Rep s s.heap [] := ⟨⟨Nat.le_refl _, fun _ _ q => q⟩, fun i x h => by simp at h, List.nodup_nil⟩
end Jvm.Own
namespace Jvm.Pilot.@@N@@
open Jvm Jvm.ClassFile Sem Op Lib Jvm.Free Jvm.Stand Jvm.LawKit Jvm.RoadKit Bundle Jvm.Own Jvm.Pilot.@@N@@.Jvm.D
theorem dc_jdk_42_method_55_0 : decode jdk_42_method_55_code 0 = .ok (.aload_n 0, 1) := by decide +kernel
theorem dc_jdk_42_method_55_1 : decode jdk_42_method_55_code 1 = .ok (.getfield 9, 3) := by decide +kernel
theorem dc_jdk_42_method_55_4 : decode jdk_42_method_55_code 4 = .ok (.arraylength, 1) := by decide +kernel
theorem dc_jdk_42_method_55_13 : decode jdk_42_method_55_code 13 = .ok (.ireturn, 1) := by decide +kernel
theorem dc_jdk_42_method_55_5 : decode jdk_42_method_55_code 5 = .ok (.ifCond .ne 7, 3) := by decide +kernel
theorem dc_jdk_42_method_55_12 : decode jdk_42_method_55_code 12 = .ok (.iconst 0, 1) := by decide +kernel
theorem dc_jdk_42_method_55_8 : decode jdk_42_method_55_code 8 = .ok (.iconst 1, 1) := by decide +kernel
theorem dc_jdk_42_method_55_9 : decode jdk_42_method_55_code 9 = .ok (.goto 4, 3) := by decide +kernel
theorem pn_0 : plainName "java/lang/String" = true := by first | (simp [plainName, overriddenIn]; done) | decide +kernel
set_option maxRecDepth 65536 in
set_option maxHeartbeats 40000000 in
theorem m_isEmpty (l : Launch) (Z : State) (a0 : Array Value) (hw : ∀ d ∈ tables_1, d.before a0 Z = true) (F : List Ent) (a b : Addr) (vs : List Value) (z : Int32) (Fv : Fld Z Z.heap a "java/lang/String" "value" "[B" (.ref b)) (Av : ArrIs Z Z.heap b .byte vs) (hz : vs.length.toInt32 = z) :
    Met l Z (⟨"java/lang/String", "isEmpty", "()Z"⟩ : MethodName) jdk_42_method_55_code 1 (some .boolean) { frames := 0, cells := 0, slots := 0, locals := 0 } #[(.ref a)] (F) (fun v M' => v = some (.int (if z = 0 then 1 else 0)) ∧ M' = F) := by
  refine Met.of_go pn_0 (Ls := #[.val (.ref a)]) (fun m => by first | rfl | (simp [entryFrame, mkF, argsToLocals, Value.category, maxLocals]; done)) ?_
  intro E C
  refine Go.aloadN C dc_jdk_42_method_55_0 (q := 1) rfl rfl rfl ?_
  refine Go.getF C (host := "") (Or.inl (wd hw 16 rfl)) Via.refl (fun _ r => (Fv).ext r.1) dc_jdk_42_method_55_1 (q := 4) rfl ?_
  refine Go.arraylength C (fun _ r => (Av).ext r.1) (z := z) hz dc_jdk_42_method_55_4 (q := 5) rfl ?_
  refine Go.joinI (q := 13) (Ls' := #[.val (.ref a)]) (st' := []) ((if z = (0 : Int32) then (1 : Int32) else 0)) ?_ (fun J13_3 => ?_)
  · refine Go.retZ C rfl (and1 ite01) dc_jdk_42_method_55_13 (by decide) (by decide) ?_
    exact ⟨rfl, rfl⟩
  · refine Go.ifc C dc_jdk_42_method_55_5 (by decide) (q := 12) rfl (q' := 8) rfl (fun (h5_1 : ¬ z = 0) => ?_) (fun (h5_1 : z = 0) => ?_)
    · refine Go.iconst C dc_jdk_42_method_55_12 (q := 13) rfl (v := (0 : Int32)) rfl ?_
      exact J13_3 _ (by simp [h5_1])
    · refine Go.iconst C dc_jdk_42_method_55_8 (q := 9) rfl (v := (1 : Int32)) rfl ?_
      refine Go.goto C dc_jdk_42_method_55_9 (by decide) (q := 13) rfl ?_
      exact J13_3 _ (by simp [h5_1])
theorem dc_prog_10_method_9_0 : decode prog_10_method_9_code 0 = .ok (.aload_n 0, 1) := by decide +kernel
theorem dc_prog_10_method_9_1 : decode prog_10_method_9_code 1 = .ok (.getfield 33, 3) := by decide +kernel
theorem dc_prog_10_method_9_4 : decode prog_10_method_9_code 4 = .ok (.invokevirtual 80, 3) := by decide +kernel
theorem dc_prog_10_method_9_7 : decode prog_10_method_9_code 7 = .ok (.ifCond .ne 7, 3) := by decide +kernel
theorem dc_prog_10_method_9_14 : decode prog_10_method_9_code 14 = .ok (.iconst 0, 1) := by decide +kernel
theorem dc_prog_10_method_9_15 : decode prog_10_method_9_code 15 = .ok (.ireturn, 1) := by decide +kernel
theorem pn_1 : plainName "com/example/paschalion/paschalion/cli/Option" = true := by first | (simp [plainName, overriddenIn]; done) | decide +kernel
set_option maxRecDepth 65536 in
set_option maxHeartbeats 40000000 in
theorem m_takes_HELP (l : Launch) (Z : State) (a0 : Array Value) (hw : ∀ d ∈ tables_1, d.before a0 Z = true) (F : List Ent) (s_HELP v_HELP b_HELP : Addr) (vs_HELP : List Value) (E_s_HELP : Exa Z Z.heap s_HELP "com/example/paschalion/paschalion/cli/Option") (Ev_HELP : Exa Z Z.heap v_HELP "java/lang/String") (Fn_HELP : Fld Z Z.heap s_HELP "com/example/paschalion/paschalion/cli/Option" "valueName" "Ljava/lang/String;" (.ref v_HELP)) (Fv_HELP : Fld Z Z.heap v_HELP "java/lang/String" "value" "[B" (.ref b_HELP)) (Av_HELP : ArrIs Z Z.heap b_HELP .byte vs_HELP) (hz_HELP : vs_HELP.length.toInt32 = 0) :
    Met l Z (⟨"com/example/paschalion/paschalion/cli/Option", "takesValue", "()Z"⟩ : MethodName) prog_10_method_9_code 1 (some .boolean) { frames := 1, cells := 0, slots := 0, locals := 12 } #[(.ref s_HELP)] (F) (fun v M' => v = some (.int 0) ∧ M' = F) := by
  refine Met.of_go pn_1 (Ls := #[.val (.ref s_HELP)]) (fun m => by first | rfl | (simp [entryFrame, mkF, argsToLocals, Value.category, maxLocals]; done)) ?_
  intro E C
  refine Go.aloadN C dc_prog_10_method_9_0 (q := 1) rfl rfl rfl ?_
  refine Go.getF C (host := "") (Or.inl (wd hw 8 rfl)) Via.refl (fun _ r => (Fn_HELP).ext r.1) dc_prog_10_method_9_1 (q := 4) rfl ?_
  refine Go.callV C (y := (⟨"java/lang/String", "isEmpty", "()Z"⟩ : MethodName)) (z := (⟨"java/lang/String", "isEmpty", "()Z"⟩ : MethodName)) (a := v_HELP) (as := []) (rest := []) (wd hw 10 rfl) (wd hw 11 rfl) (nf_sel (z := (⟨"java/lang/String", "isEmpty", "()Z"⟩ : MethodName)) (wd hw 13 rfl)) (wd hw 13 rfl) (wd hw 12 rfl) (wd hw 15 rfl) (wd hw 14 rfl) (fun _ r => (Ev_HELP).ext r.1) (m_isEmpty l Z a0 hw _ v_HELP b_HELP vs_HELP 0 Fv_HELP Av_HELP hz_HELP) rfl dc_prog_10_method_9_4 (q := 7) rfl (by decide) rfl (na := 0) (by decide +kernel) rfl (by decide) (W := 0) rfl (by decide) (by decide) (by decide) (k' := 0) (n' := 0) rfl rfl ?_
  rintro _ _ ⟨rfl, rfl⟩
  show Go _ _ _ _ _ _ _ _ _ _ [(.int (1 : Int32))]
  refine Go.ifYes C dc_prog_10_method_9_7 (by decide) (q := 14) rfl (XT.i0_ne_t (by decide)) ?_
  refine Go.iconst C dc_prog_10_method_9_14 (q := 15) rfl (v := (0 : Int32)) rfl ?_
  refine Go.retZ C rfl (by decide) dc_prog_10_method_9_15 (by decide) (by decide) ?_
  exact ⟨rfl, rfl⟩
theorem dc_prog_10_method_8_0 : decode prog_10_method_8_code 0 = .ok (.aload_n 0, 1) := by decide +kernel
theorem dc_prog_10_method_8_1 : decode prog_10_method_8_code 1 = .ok (.getfield 33, 3) := by decide +kernel
theorem dc_prog_10_method_8_4 : decode prog_10_method_8_code 4 = .ok (.areturn, 1) := by decide +kernel
set_option maxRecDepth 65536 in
set_option maxHeartbeats 40000000 in
theorem m_vname_HELP (l : Launch) (Z : State) (a0 : Array Value) (hw : ∀ d ∈ tables_1, d.before a0 Z = true) (F : List Ent) (s_HELP v_HELP b_HELP : Addr) (vs_HELP : List Value) (E_s_HELP : Exa Z Z.heap s_HELP "com/example/paschalion/paschalion/cli/Option") (Ev_HELP : Exa Z Z.heap v_HELP "java/lang/String") (Fn_HELP : Fld Z Z.heap s_HELP "com/example/paschalion/paschalion/cli/Option" "valueName" "Ljava/lang/String;" (.ref v_HELP)) (Fv_HELP : Fld Z Z.heap v_HELP "java/lang/String" "value" "[B" (.ref b_HELP)) (Av_HELP : ArrIs Z Z.heap b_HELP .byte vs_HELP) (hz_HELP : vs_HELP.length.toInt32 = 0) :
    Met l Z (⟨"com/example/paschalion/paschalion/cli/Option", "valueName", "()Ljava/lang/String;"⟩ : MethodName) prog_10_method_8_code 1 (some (.object "java/lang/String")) { frames := 0, cells := 0, slots := 0, locals := 0 } #[(.ref s_HELP)] (F) (fun v M' => v = some (.ref v_HELP) ∧ M' = F) := by
  refine Met.of_go pn_1 (Ls := #[.val (.ref s_HELP)]) (fun m => by first | rfl | (simp [entryFrame, mkF, argsToLocals, Value.category, maxLocals]; done)) ?_
  intro E C
  refine Go.aloadN C dc_prog_10_method_8_0 (q := 1) rfl rfl rfl ?_
  refine Go.getF C (host := "") (Or.inl (wd hw 8 rfl)) Via.refl (fun _ r => (Fn_HELP).ext r.1) dc_prog_10_method_8_1 (q := 4) rfl ?_
  refine Go.retA C rfl rfl rfl dc_prog_10_method_8_4 (by decide) (by decide) ?_
  exact ⟨rfl, rfl⟩
theorem dc_prog_10_method_9_10 : decode prog_10_method_9_code 10 = .ok (.iconst 1, 1) := by decide +kernel
theorem dc_prog_10_method_9_11 : decode prog_10_method_9_code 11 = .ok (.goto 4, 3) := by decide +kernel
set_option maxRecDepth 65536 in
set_option maxHeartbeats 40000000 in
theorem m_takes_RECKONING (l : Launch) (Z : State) (a0 : Array Value) (hw : ∀ d ∈ tables_1, d.before a0 Z = true) (F : List Ent) (s_RECKONING v_RECKONING b_RECKONING : Addr) (vs_RECKONING : List Value) (E_s_RECKONING : Exa Z Z.heap s_RECKONING "com/example/paschalion/paschalion/cli/Option") (Ev_RECKONING : Exa Z Z.heap v_RECKONING "java/lang/String") (Fn_RECKONING : Fld Z Z.heap s_RECKONING "com/example/paschalion/paschalion/cli/Option" "valueName" "Ljava/lang/String;" (.ref v_RECKONING)) (Fv_RECKONING : Fld Z Z.heap v_RECKONING "java/lang/String" "value" "[B" (.ref b_RECKONING)) (Av_RECKONING : ArrIs Z Z.heap b_RECKONING .byte vs_RECKONING) (hz_RECKONING : vs_RECKONING.length.toInt32 = 4) :
    Met l Z (⟨"com/example/paschalion/paschalion/cli/Option", "takesValue", "()Z"⟩ : MethodName) prog_10_method_9_code 1 (some .boolean) { frames := 1, cells := 0, slots := 0, locals := 12 } #[(.ref s_RECKONING)] (F) (fun v M' => v = some (.int 1) ∧ M' = F) := by
  refine Met.of_go pn_1 (Ls := #[.val (.ref s_RECKONING)]) (fun m => by first | rfl | (simp [entryFrame, mkF, argsToLocals, Value.category, maxLocals]; done)) ?_
  intro E C
  refine Go.aloadN C dc_prog_10_method_9_0 (q := 1) rfl rfl rfl ?_
  refine Go.getF C (host := "") (Or.inl (wd hw 8 rfl)) Via.refl (fun _ r => (Fn_RECKONING).ext r.1) dc_prog_10_method_9_1 (q := 4) rfl ?_
  refine Go.callV C (y := (⟨"java/lang/String", "isEmpty", "()Z"⟩ : MethodName)) (z := (⟨"java/lang/String", "isEmpty", "()Z"⟩ : MethodName)) (a := v_RECKONING) (as := []) (rest := []) (wd hw 10 rfl) (wd hw 11 rfl) (nf_sel (z := (⟨"java/lang/String", "isEmpty", "()Z"⟩ : MethodName)) (wd hw 13 rfl)) (wd hw 13 rfl) (wd hw 12 rfl) (wd hw 15 rfl) (wd hw 14 rfl) (fun _ r => (Ev_RECKONING).ext r.1) (m_isEmpty l Z a0 hw _ v_RECKONING b_RECKONING vs_RECKONING 4 Fv_RECKONING Av_RECKONING hz_RECKONING) rfl dc_prog_10_method_9_4 (q := 7) rfl (by decide) rfl (na := 0) (by decide +kernel) rfl (by decide) (W := 0) rfl (by decide) (by decide) (by decide) (k' := 0) (n' := 0) rfl rfl ?_
  rintro _ _ ⟨rfl, rfl⟩
  show Go _ _ _ _ _ _ _ _ _ _ [(.int (0 : Int32))]
  refine Go.ifNo C dc_prog_10_method_9_7 (q := 10) rfl (XT.i0_ne_f (by decide)) ?_
  refine Go.iconst C dc_prog_10_method_9_10 (q := 11) rfl (v := (1 : Int32)) rfl ?_
  refine Go.goto C dc_prog_10_method_9_11 (by decide) (q := 15) rfl ?_
  refine Go.retZ C rfl (by decide) dc_prog_10_method_9_15 (by decide) (by decide) ?_
  exact ⟨rfl, rfl⟩
set_option maxRecDepth 65536 in
set_option maxHeartbeats 40000000 in
theorem m_vname_RECKONING (l : Launch) (Z : State) (a0 : Array Value) (hw : ∀ d ∈ tables_1, d.before a0 Z = true) (F : List Ent) (s_RECKONING v_RECKONING b_RECKONING : Addr) (vs_RECKONING : List Value) (E_s_RECKONING : Exa Z Z.heap s_RECKONING "com/example/paschalion/paschalion/cli/Option") (Ev_RECKONING : Exa Z Z.heap v_RECKONING "java/lang/String") (Fn_RECKONING : Fld Z Z.heap s_RECKONING "com/example/paschalion/paschalion/cli/Option" "valueName" "Ljava/lang/String;" (.ref v_RECKONING)) (Fv_RECKONING : Fld Z Z.heap v_RECKONING "java/lang/String" "value" "[B" (.ref b_RECKONING)) (Av_RECKONING : ArrIs Z Z.heap b_RECKONING .byte vs_RECKONING) (hz_RECKONING : vs_RECKONING.length.toInt32 = 4) :
    Met l Z (⟨"com/example/paschalion/paschalion/cli/Option", "valueName", "()Ljava/lang/String;"⟩ : MethodName) prog_10_method_8_code 1 (some (.object "java/lang/String")) { frames := 0, cells := 0, slots := 0, locals := 0 } #[(.ref s_RECKONING)] (F) (fun v M' => v = some (.ref v_RECKONING) ∧ M' = F) := by
  refine Met.of_go pn_1 (Ls := #[.val (.ref s_RECKONING)]) (fun m => by first | rfl | (simp [entryFrame, mkF, argsToLocals, Value.category, maxLocals]; done)) ?_
  intro E C
  refine Go.aloadN C dc_prog_10_method_8_0 (q := 1) rfl rfl rfl ?_
  refine Go.getF C (host := "") (Or.inl (wd hw 8 rfl)) Via.refl (fun _ r => (Fn_RECKONING).ext r.1) dc_prog_10_method_8_1 (q := 4) rfl ?_
  refine Go.retA C rfl rfl rfl dc_prog_10_method_8_4 (by decide) (by decide) ?_
  exact ⟨rfl, rfl⟩
theorem pn_2 : plainName "com/example/paschalion/paschalion/cli/OptionTakesValuePinLaw" = true := by first | (simp [plainName, overriddenIn]; done) | decide +kernel
set_option maxRecDepth 65536 in
set_option maxHeartbeats 40000000 in
theorem m_law (l : Launch) (Z : State) (a0 : Array Value) (hw : ∀ d ∈ tables_1, d.before a0 Z = true) (k : Int32) (s_HELP v_HELP b_HELP : Addr) (vs_HELP : List Value) (S_s_HELP : Sta Z Z.heap "com/example/paschalion/paschalion/cli/Option" "HELP" "Lcom/example/paschalion/paschalion/cli/Option;" (.ref s_HELP)) (E_s_HELP : Exa Z Z.heap s_HELP "com/example/paschalion/paschalion/cli/Option") (Ev_HELP : Exa Z Z.heap v_HELP "java/lang/String") (Fn_HELP : Fld Z Z.heap s_HELP "com/example/paschalion/paschalion/cli/Option" "valueName" "Ljava/lang/String;" (.ref v_HELP)) (Fv_HELP : Fld Z Z.heap v_HELP "java/lang/String" "value" "[B" (.ref b_HELP)) (Av_HELP : ArrIs Z Z.heap b_HELP .byte vs_HELP) (hz_HELP : vs_HELP.length.toInt32 = 0) (s_RECKONING v_RECKONING b_RECKONING : Addr) (vs_RECKONING : List Value) (S_s_RECKONING : Sta Z Z.heap "com/example/paschalion/paschalion/cli/Option" "RECKONING" "Lcom/example/paschalion/paschalion/cli/Option;" (.ref s_RECKONING)) (E_s_RECKONING : Exa Z Z.heap s_RECKONING "com/example/paschalion/paschalion/cli/Option") (Ev_RECKONING : Exa Z Z.heap v_RECKONING "java/lang/String") (Fn_RECKONING : Fld Z Z.heap s_RECKONING "com/example/paschalion/paschalion/cli/Option" "valueName" "Ljava/lang/String;" (.ref v_RECKONING)) (Fv_RECKONING : Fld Z Z.heap v_RECKONING "java/lang/String" "value" "[B" (.ref b_RECKONING)) (Av_RECKONING : ArrIs Z Z.heap b_RECKONING .byte vs_RECKONING) (hz_RECKONING : vs_RECKONING.length.toInt32 = 4)  :
    Met l Z x code maxLocals ret room_1 #[(.int k)] ([]) (fun v _ => v = some (.int 1)) := by
  refine Met.of_go pn_2 (Ls := #[.val (.int k), .unset, .unset, .unset, .unset]) (fun m => by first | rfl | (simp [entryFrame, mkF, argsToLocals, Value.category, maxLocals]; done)) ?_
  intro E C
  refine Go.iloadN C at_0 (q := 1) rfl rfl ?_
  refine Go.iconst C at_1 (q := 2) rfl (v := (1 : Int32)) rfl ?_
  refine Go.iand C at_2 (q := 3) rfl ?_
  refine Go.ifc C at_3 (by decide) (q := 10) rfl (q' := 6) rfl (fun (h3_1 : (k &&& (1 : Int32)) = 0) => ?_) (fun (h3_1 : ¬ (k &&& (1 : Int32)) = 0) => ?_)
  · refine Go.iconst C at_10 (q := 11) rfl (v := (0 : Int32)) rfl ?_
    refine Go.istoreN C at_11 (q := 12) rfl (Ls' := #[.val (.int k), .val (.int (0 : Int32)), .unset, .unset, .unset]) rfl ?_
    refine Go.getS C (host := "") (Or.inl (wd hw 0 rfl)) Via.refl S_s_HELP at_12 (q := 15) rfl ?_
    refine Go.astoreN C at_15 (q := 16) rfl rfl (Ls' := #[.val (.int k), .val (.int (0 : Int32)), .val (.ref s_HELP), .unset, .unset]) rfl ?_
    refine Go.iloadN C at_16 (q := 17) rfl rfl ?_
    refine Go.ifYes C at_17 (by decide) (q := 24) rfl (XT.i0_eq_t (by decide)) ?_
    refine Go.aloadN C at_24 (q := 25) rfl rfl rfl ?_
    refine Go.callV C (y := (⟨"com/example/paschalion/paschalion/cli/Option", "takesValue", "()Z"⟩ : MethodName)) (z := (⟨"com/example/paschalion/paschalion/cli/Option", "takesValue", "()Z"⟩ : MethodName)) (a := s_HELP) (as := []) (rest := []) (wd hw 3 rfl) (wd hw 4 rfl) (nf_sel (z := (⟨"com/example/paschalion/paschalion/cli/Option", "takesValue", "()Z"⟩ : MethodName)) (wd hw 6 rfl)) (wd hw 6 rfl) (wd hw 5 rfl) (wd hw 7 rfl) (wd hw 1 rfl) (fun _ r => (E_s_HELP).ext r.1) (m_takes_HELP l Z a0 hw _ s_HELP v_HELP b_HELP vs_HELP E_s_HELP Ev_HELP Fn_HELP Fv_HELP Av_HELP hz_HELP) rfl at_25 (q := 28) rfl (by decide) rfl (na := 0) (by decide +kernel) rfl (by decide) (W := 0) rfl (by decide) (by decide) (by decide) (k' := 0) (n' := 0) rfl rfl ?_
    rintro _ _ ⟨rfl, rfl⟩
    show Go _ _ _ _ _ _ _ _ _ _ [(.int (0 : Int32))]
    refine Go.istoreN C at_28 (q := 29) rfl (Ls' := #[.val (.int k), .val (.int (0 : Int32)), .val (.ref s_HELP), .val (.int (0 : Int32)), .unset]) rfl ?_
    refine Go.aloadN C at_29 (q := 30) rfl rfl rfl ?_
    refine Go.callV C (y := (⟨"com/example/paschalion/paschalion/cli/Option", "valueName", "()Ljava/lang/String;"⟩ : MethodName)) (z := (⟨"com/example/paschalion/paschalion/cli/Option", "valueName", "()Ljava/lang/String;"⟩ : MethodName)) (a := s_HELP) (as := []) (rest := []) (wd hw 18 rfl) (wd hw 19 rfl) (nf_sel (z := (⟨"com/example/paschalion/paschalion/cli/Option", "valueName", "()Ljava/lang/String;"⟩ : MethodName)) (wd hw 21 rfl)) (wd hw 21 rfl) (wd hw 20 rfl) (wd hw 22 rfl) (wd hw 1 rfl) (fun _ r => (E_s_HELP).ext r.1) (m_vname_HELP l Z a0 hw _ s_HELP v_HELP b_HELP vs_HELP E_s_HELP Ev_HELP Fn_HELP Fv_HELP Av_HELP hz_HELP) rfl at_30 (q := 33) rfl (by decide) rfl (na := 0) (by decide +kernel) rfl (by decide) (W := 0) rfl (by decide) (by decide) (by decide) (k' := 0) (n' := 0) rfl rfl ?_
    rintro _ _ ⟨rfl, rfl⟩
    show Go _ _ _ _ _ _ _ _ _ _ [(.ref v_HELP)]
    refine Go.callV C (y := (⟨"java/lang/String", "isEmpty", "()Z"⟩ : MethodName)) (z := (⟨"java/lang/String", "isEmpty", "()Z"⟩ : MethodName)) (a := v_HELP) (as := []) (rest := []) (wd hw 23 rfl) (wd hw 11 rfl) (nf_sel (z := (⟨"java/lang/String", "isEmpty", "()Z"⟩ : MethodName)) (wd hw 13 rfl)) (wd hw 13 rfl) (wd hw 12 rfl) (wd hw 15 rfl) (wd hw 14 rfl) (fun _ r => (Ev_HELP).ext r.1) (m_isEmpty l Z a0 hw _ v_HELP b_HELP vs_HELP 0 Fv_HELP Av_HELP hz_HELP) rfl at_33 (q := 36) rfl (by decide) rfl (na := 0) (by decide +kernel) rfl (by decide) (W := 0) rfl (by decide) (by decide) (by decide) (k' := 0) (n' := 0) rfl rfl ?_
    rintro _ _ ⟨rfl, rfl⟩
    show Go _ _ _ _ _ _ _ _ _ _ [(.int (1 : Int32))]
    refine Go.ifYes C at_36 (by decide) (q := 43) rfl (XT.i0_ne_t (by decide)) ?_
    refine Go.iconst C at_43 (q := 44) rfl (v := (0 : Int32)) rfl ?_
    refine Go.istore C at_44 (q := 46) rfl (Ls' := #[.val (.int k), .val (.int (0 : Int32)), .val (.ref s_HELP), .val (.int (0 : Int32)), .val (.int (0 : Int32))]) rfl ?_
    refine Go.iloadN C at_46 (q := 47) rfl rfl ?_
    refine Go.iloadN C at_47 (q := 48) rfl rfl ?_
    refine Go.icmpNo C at_48 (q := 51) rfl (XT.ii_ne_f (by decide)) ?_
    refine Go.iloadN C at_51 (q := 52) rfl rfl ?_
    refine Go.iload C at_52 (q := 54) rfl rfl ?_
    refine Go.icmpNo C at_54 (q := 57) rfl (XT.ii_ne_f (by decide)) ?_
    refine Go.iconst C at_57 (q := 58) rfl (v := (1 : Int32)) rfl ?_
    refine Go.goto C at_58 (by decide) (q := 62) rfl ?_
    refine Go.retZ C rfl (by decide) at_62 (by decide) (by decide) ?_
    exact rfl
  · refine Go.iconst C at_6 (q := 7) rfl (v := (1 : Int32)) rfl ?_
    refine Go.goto C at_7 (by decide) (q := 11) rfl ?_
    refine Go.istoreN C at_11 (q := 12) rfl (Ls' := #[.val (.int k), .val (.int (1 : Int32)), .unset, .unset, .unset]) rfl ?_
    refine Go.getS C (host := "") (Or.inl (wd hw 0 rfl)) Via.refl S_s_HELP at_12 (q := 15) rfl ?_
    refine Go.astoreN C at_15 (q := 16) rfl rfl (Ls' := #[.val (.int k), .val (.int (1 : Int32)), .val (.ref s_HELP), .unset, .unset]) rfl ?_
    refine Go.iloadN C at_16 (q := 17) rfl rfl ?_
    refine Go.ifNo C at_17 (q := 20) rfl (XT.i0_eq_f (by decide)) ?_
    refine Go.getS C (host := "") (Or.inl (wd hw 24 rfl)) Via.refl S_s_RECKONING at_20 (q := 23) rfl ?_
    refine Go.astoreN C at_23 (q := 24) rfl rfl (Ls' := #[.val (.int k), .val (.int (1 : Int32)), .val (.ref s_RECKONING), .unset, .unset]) rfl ?_
    refine Go.aloadN C at_24 (q := 25) rfl rfl rfl ?_
    refine Go.callV C (y := (⟨"com/example/paschalion/paschalion/cli/Option", "takesValue", "()Z"⟩ : MethodName)) (z := (⟨"com/example/paschalion/paschalion/cli/Option", "takesValue", "()Z"⟩ : MethodName)) (a := s_RECKONING) (as := []) (rest := []) (wd hw 3 rfl) (wd hw 4 rfl) (nf_sel (z := (⟨"com/example/paschalion/paschalion/cli/Option", "takesValue", "()Z"⟩ : MethodName)) (wd hw 6 rfl)) (wd hw 6 rfl) (wd hw 5 rfl) (wd hw 7 rfl) (wd hw 1 rfl) (fun _ r => (E_s_RECKONING).ext r.1) (m_takes_RECKONING l Z a0 hw _ s_RECKONING v_RECKONING b_RECKONING vs_RECKONING E_s_RECKONING Ev_RECKONING Fn_RECKONING Fv_RECKONING Av_RECKONING hz_RECKONING) rfl at_25 (q := 28) rfl (by decide) rfl (na := 0) (by decide +kernel) rfl (by decide) (W := 0) rfl (by decide) (by decide) (by decide) (k' := 0) (n' := 0) rfl rfl ?_
    rintro _ _ ⟨rfl, rfl⟩
    show Go _ _ _ _ _ _ _ _ _ _ [(.int (1 : Int32))]
    refine Go.istoreN C at_28 (q := 29) rfl (Ls' := #[.val (.int k), .val (.int (1 : Int32)), .val (.ref s_RECKONING), .val (.int (1 : Int32)), .unset]) rfl ?_
    refine Go.aloadN C at_29 (q := 30) rfl rfl rfl ?_
    refine Go.callV C (y := (⟨"com/example/paschalion/paschalion/cli/Option", "valueName", "()Ljava/lang/String;"⟩ : MethodName)) (z := (⟨"com/example/paschalion/paschalion/cli/Option", "valueName", "()Ljava/lang/String;"⟩ : MethodName)) (a := s_RECKONING) (as := []) (rest := []) (wd hw 18 rfl) (wd hw 19 rfl) (nf_sel (z := (⟨"com/example/paschalion/paschalion/cli/Option", "valueName", "()Ljava/lang/String;"⟩ : MethodName)) (wd hw 21 rfl)) (wd hw 21 rfl) (wd hw 20 rfl) (wd hw 22 rfl) (wd hw 1 rfl) (fun _ r => (E_s_RECKONING).ext r.1) (m_vname_RECKONING l Z a0 hw _ s_RECKONING v_RECKONING b_RECKONING vs_RECKONING E_s_RECKONING Ev_RECKONING Fn_RECKONING Fv_RECKONING Av_RECKONING hz_RECKONING) rfl at_30 (q := 33) rfl (by decide) rfl (na := 0) (by decide +kernel) rfl (by decide) (W := 0) rfl (by decide) (by decide) (by decide) (k' := 0) (n' := 0) rfl rfl ?_
    rintro _ _ ⟨rfl, rfl⟩
    show Go _ _ _ _ _ _ _ _ _ _ [(.ref v_RECKONING)]
    refine Go.callV C (y := (⟨"java/lang/String", "isEmpty", "()Z"⟩ : MethodName)) (z := (⟨"java/lang/String", "isEmpty", "()Z"⟩ : MethodName)) (a := v_RECKONING) (as := []) (rest := []) (wd hw 23 rfl) (wd hw 11 rfl) (nf_sel (z := (⟨"java/lang/String", "isEmpty", "()Z"⟩ : MethodName)) (wd hw 13 rfl)) (wd hw 13 rfl) (wd hw 12 rfl) (wd hw 15 rfl) (wd hw 14 rfl) (fun _ r => (Ev_RECKONING).ext r.1) (m_isEmpty l Z a0 hw _ v_RECKONING b_RECKONING vs_RECKONING 4 Fv_RECKONING Av_RECKONING hz_RECKONING) rfl at_33 (q := 36) rfl (by decide) rfl (na := 0) (by decide +kernel) rfl (by decide) (W := 0) rfl (by decide) (by decide) (by decide) (k' := 0) (n' := 0) rfl rfl ?_
    rintro _ _ ⟨rfl, rfl⟩
    show Go _ _ _ _ _ _ _ _ _ _ [(.int (0 : Int32))]
    refine Go.ifNo C at_36 (q := 39) rfl (XT.i0_ne_f (by decide)) ?_
    refine Go.iconst C at_39 (q := 40) rfl (v := (1 : Int32)) rfl ?_
    refine Go.goto C at_40 (by decide) (q := 44) rfl ?_
    refine Go.istore C at_44 (q := 46) rfl (Ls' := #[.val (.int k), .val (.int (1 : Int32)), .val (.ref s_RECKONING), .val (.int (1 : Int32)), .val (.int (1 : Int32))]) rfl ?_
    refine Go.iloadN C at_46 (q := 47) rfl rfl ?_
    refine Go.iloadN C at_47 (q := 48) rfl rfl ?_
    refine Go.icmpNo C at_48 (q := 51) rfl (XT.ii_ne_f (by decide)) ?_
    refine Go.iloadN C at_51 (q := 52) rfl rfl ?_
    refine Go.iload C at_52 (q := 54) rfl rfl ?_
    refine Go.icmpNo C at_54 (q := 57) rfl (XT.ii_ne_f (by decide)) ?_
    refine Go.iconst C at_57 (q := 58) rfl (v := (1 : Int32)) rfl ?_
    refine Go.goto C at_58 (by decide) (q := 62) rfl ?_
    refine Go.retZ C rfl (by decide) at_62 (by decide) (by decide) ?_
    exact rfl
set_option maxRecDepth 65536 in
set_option maxHeartbeats 40000000 in
theorem comes_1 {Post : Tables → Env → Array Value → State → Outcome → State → Prop} (hpost : ∀ tb e args s v u, (limb_1_1.after args s (.returned v) u = true ∧ limb_1_2.after args s (.returned v) u = true ∧ True) → FrameEnd s (.returned v) u (Jvm.fieldLocs frame_1_writes args s ++ Jvm.arrayLocs frame_1_arrays args s ++ Jvm.staticLocs frame_1_statics s) 0 0 → Post tb e args s (.returned v) u) :
    ArmFor flags0 classFile x code maxLocals ret World_1 tables_1 room_1 Calls_1 rest_1 Pre_1 Post := by
  intro l hfl _ _ p e ha hc hk s m args below hf hA hF happ hP
  obtain ⟨hcalls, hrest, hpre⟩ := hP
  obtain ⟨-, -, -, hnamed, -, -, -, hat⟩ := (Spec.applies_iff hf).mp happ
  obtain ⟨hg, hn⟩ := and_e (Cond.before_iff.mp (show (Jvm.Cond.and given_1 narrow_1).before args s = true from hpre))
  obtain ⟨hcount, hg⟩ := and_e hg
  obtain ⟨w0, rfl⟩ : ∃ w0 : Value, args = #[w0] := by
    have hs : args.size = 1 := by simpa [Cond.value, given_1] using hcount
    obtain ⟨L⟩ := args
    match L, hs with
    | [w0], _ => exact ⟨w0, rfl⟩
  have hw := fun d (hd : d ∈ tables_1) => atoms_spec (ws := Jvm.Cond.code x code maxLocals ret :: tables_1) hat d (List.mem_cons_of_mem _ hd)
  have g0 := hg
  obtain ⟨k, e0⟩ := is_v g0
  obtain rfl : w0 = (.int k) := Option.some.inj e0
  obtain ⟨n0, hn⟩ := and_e hn
  obtain ⟨n1, hn⟩ := and_e hn
  obtain ⟨n2, hn⟩ := and_e hn
  obtain ⟨n3, hn⟩ := and_e hn
  obtain ⟨n4, hn⟩ := and_e hn
  obtain ⟨n5, hn⟩ := and_e hn
  obtain ⟨n6, hn⟩ := and_e hn
  have n7 := hn
  obtain ⟨s_HELP, ev1_HELP⟩ := exa_v n0
  obtain ⟨v_HELP, ev2_HELP⟩ := exa_v n1
  obtain ⟨b_HELP, ev3_HELP⟩ := arr_v n2
  obtain ⟨c_HELP, A_HELP⟩ := Arr.start ev3_HELP n2
  obtain ⟨vs_HELP, hvs_HELP⟩ : ∃ vs, vs = c_HELP.slots.toList := ⟨_, rfl⟩
  have S_s_HELP := Sta.start ev1_HELP (Or.inr ⟨(wd hw 1 rfl), (wd hw 2 rfl)⟩)
  have E_s_HELP := Exa.start ev1_HELP n0
  have Ev_HELP := Exa.start ev2_HELP n1
  have Fn_HELP := fld_ev ev1_HELP ev2_HELP
  have Fv_HELP := fld_ev ev2_HELP ev3_HELP
  have Av_HELP : ArrIs s s.heap b_HELP .byte vs_HELP := ⟨_, A_HELP, hvs_HELP.symm⟩
  have hz_HELP := (len_of_eq ev3_HELP A_HELP n3).1
  rw [← hvs_HELP] at hz_HELP
  obtain ⟨s_RECKONING, ev1_RECKONING⟩ := exa_v n4
  obtain ⟨v_RECKONING, ev2_RECKONING⟩ := exa_v n5
  obtain ⟨b_RECKONING, ev3_RECKONING⟩ := arr_v n6
  obtain ⟨c_RECKONING, A_RECKONING⟩ := Arr.start ev3_RECKONING n6
  obtain ⟨vs_RECKONING, hvs_RECKONING⟩ : ∃ vs, vs = c_RECKONING.slots.toList := ⟨_, rfl⟩
  have S_s_RECKONING := Sta.start ev1_RECKONING (Or.inr ⟨(wd hw 1 rfl), (wd hw 25 rfl)⟩)
  have E_s_RECKONING := Exa.start ev1_RECKONING n4
  have Ev_RECKONING := Exa.start ev2_RECKONING n5
  have Fn_RECKONING := fld_ev ev1_RECKONING ev2_RECKONING
  have Fv_RECKONING := fld_ev ev2_RECKONING ev3_RECKONING
  have Av_RECKONING : ArrIs s s.heap b_RECKONING .byte vs_RECKONING := ⟨_, A_RECKONING, hvs_RECKONING.symm⟩
  have hz_RECKONING := (len_of_eq ev3_RECKONING A_RECKONING n7).1
  rw [← hvs_RECKONING] at hz_RECKONING
  obtain ⟨n, o, h1, h2, h3, _, L, rfl, ⟨N, _, rfl, -⟩, hq⟩ := m_law l s _ hw k s_HELP v_HELP b_HELP vs_HELP S_s_HELP E_s_HELP Ev_HELP Fn_HELP Fv_HELP Av_HELP hz_HELP s_RECKONING v_RECKONING b_RECKONING vs_RECKONING S_s_RECKONING E_s_RECKONING Ev_RECKONING Fn_RECKONING Fv_RECKONING Av_RECKONING hz_RECKONING tables_1 s.heap (rep0 s) p e ha hc hk s m _ below hf ((Spec.applies_iff_loose hf).mp happ).1 ⟨rfl, State.Warmed39.refl s, rfl⟩ trivial
  refine ⟨n, _, h1, h2, h3, hpost _ _ _ _ _ _ ⟨Cond.after_iff.mpr rfl, Cond.after_iff.mpr (eq_i res_at (Term.int_eval (1)) rfl), trivial⟩ ⟨hq.1, hq.2.1, (hq.2.2.sift fun y hy => Or.inr (N y hy)).mono (by decide) (by decide)⟩⟩
theorem main_1_1 : Claimed_1_1 := comes_1 fun _ _ _ _ _ _ h hF => ⟨h.1, hF⟩
theorem main_1_2 : Claimed_1_2 := comes_1 fun _ _ _ _ _ _ h hF => ⟨h.2.1, hF⟩
end Jvm.Pilot.@@N@@
namespace Jvm.Pilot.@@N@@
open Jvm Jvm.ClassFile Sem Op Lib Jvm.Free Jvm.Stand Jvm.Pilot.@@N@@.Jvm.D
/-! MADE BY PROGRAM (witnessworld.py) out of the Statement's table words and the real class files: 15 classes; the members and pool entries that the words name. The judged class is class 1, her method 1. -/
namespace start1
open Jvm.ClassFile
def u (s : String) : CpInfo := .utf8 (stringToUtf16 s)
/-- a pool by its gaps: so many unusable entries, then the entry; so many at the end -/
def gap : Nat → List CpInfo → List CpInfo
  | 0, r => r
  | n + 1, r => .unusable :: gap n r
def poolList (es : List (Nat × CpInfo)) (last : Nat) : List CpInfo := es.foldr (fun e r => gap e.1 (e.2 :: r)) (gap last [])
def pool (es : List (Nat × CpInfo)) (last : Nat) : Array CpInfo := ⟨poolList es last⟩
def fileOf (pool : Array CpInfo) (this : Nat) (attrs : Array Attribute := #[]) (ms : Array MethodInfo := #[]) (fl : Nat := 33) (sup : Nat := 0) (ifs : Array Nat := #[]) (fds : Array FieldInfo := #[]) : ClassFile where
  minorVersion := 0
  majorVersion := 65
  constantPool := pool
  accessFlags := fl
  thisClass := this
  superClass := sup
  interfaces := ifs
  fields := fds
  methods := ms
  attributes := attrs
def plain (name : String) (sup : Option ClassId) : Class where
  name := name
  kind := .ordinary
  loader := none
  accessFlags := 33
  super := sup
  interfaces := #[]
  cf := none
  fields := #[]
  methods := #[]
  instanceTypes := #[]
  staticTypes := #[]
  resolved := #[]
  callSites := []
  init := .initialized
  statics := none
  mirror := none

def pool0 : Array CpInfo := pool [(5, u "<init>"), (0, u "()V"), (1, .class_ 10), (1, u "java/lang/Object")] 113

def k0m0 : Method := { name := "<init>", desc := "()V", sig := { parameters := [], returnType := none }, accessFlags := 1, code := none }
/-- java/lang/Object -/
def k0 : Class := { plain "java/lang/Object" none with
  accessFlags := 33
  interfaces := #[]
  cf := some (fileOf pool0 8 #[] #[{ accessFlags := 1, nameIndex := 5, descriptorIndex := 6, attributes := #[] }] 33 0 #[] #[])
  fields := #[]
  methods := #[k0m0]
  instanceTypes := #[]
  staticTypes := #[]
  resolved := Array.replicate 124 none
  statics := none }

def pool1 : Array CpInfo := pool [(2, .class_ 4), (1, u "java/lang/Object"), (0, u "<init>"), (0, u "()V"), (0, .fieldref 8 9), (0, .class_ 10), (0, .nameAndType 11 12), (0, u "com/example/paschalion/paschalion/cli/Option"), (0, u "HELP"), (0, u "Lcom/example/paschalion/paschalion/cli/Option;"), (0, .fieldref 8 14), (0, .nameAndType 15 12), (0, u "RECKONING"), (0, .methodref 8 17), (0, .nameAndType 18 19), (0, u "takesValue"), (0, u "()Z"), (0, .methodref 8 21), (0, .nameAndType 22 23), (0, u "valueName"), (0, u "()Ljava/lang/String;"), (0, .methodref 25 26), (0, .class_ 27), (0, .nameAndType 28 19), (0, u "java/lang/String"), (0, u "isEmpty"), (0, .class_ 30), (0, u "com/example/paschalion/paschalion/cli/OptionTakesValuePinLaw"), (2, u "law"), (0, u "(I)Z")] 3

def k1m0 : Method := { name := "<init>", desc := "()V", sig := { parameters := [], returnType := none }, accessFlags := 2, code := none }
def k1c1 : Code := { maxStack := 2, maxLocals := 5, code := code, exceptionTable := #[], attributes := #[] }
def k1m1 : Method := { name := "law", desc := "(I)Z", sig := { parameters := [.int], returnType := some .boolean }, accessFlags := 9, code := some k1c1 }
/-- com/example/paschalion/paschalion/cli/OptionTakesValuePinLaw -/
def k1 : Class := { plain "com/example/paschalion/paschalion/cli/OptionTakesValuePinLaw" (some 0) with
  accessFlags := 49
  interfaces := #[]
  cf := some (fileOf pool1 29 #[] #[{ accessFlags := 2, nameIndex := 5, descriptorIndex := 6, attributes := #[] }, { accessFlags := 9, nameIndex := 33, descriptorIndex := 34, attributes := #[] }] 49 2 #[] #[])
  fields := #[]
  methods := #[k1m0, k1m1]
  instanceTypes := #[]
  staticTypes := #[]
  resolved := Array.replicate 38 none
  statics := none }

def pool2 : Array CpInfo := pool [(1, .class_ 2), (0, u "java/lang/constant/Constable"), (0, .class_ 4), (0, u "java/lang/Object")] 6

/-- java/lang/constant/Constable -/
def k2 : Class := { plain "java/lang/constant/Constable" (some 0) with
  accessFlags := 1537
  interfaces := #[]
  cf := some (fileOf pool2 1 #[] #[] 1537 3 #[] #[])
  fields := #[]
  methods := #[]
  instanceTypes := #[]
  staticTypes := #[]
  resolved := Array.replicate 11 none
  statics := none }

def pool3 : Array CpInfo := pool [(1, .class_ 2), (0, u "java/lang/Comparable"), (0, .class_ 4), (0, u "java/lang/Object")] 7

/-- java/lang/Comparable -/
def k3 : Class := { plain "java/lang/Comparable" (some 0) with
  accessFlags := 1537
  interfaces := #[]
  cf := some (fileOf pool3 1 #[] #[] 1537 3 #[] #[])
  fields := #[]
  methods := #[]
  instanceTypes := #[]
  staticTypes := #[]
  resolved := Array.replicate 12 none
  statics := none }

def pool4 : Array CpInfo := pool [(1, .class_ 2), (0, u "java/io/Serializable"), (0, .class_ 4), (0, u "java/lang/Object")] 2

/-- java/io/Serializable -/
def k4 : Class := { plain "java/io/Serializable" (some 0) with
  accessFlags := 1537
  interfaces := #[]
  cf := some (fileOf pool4 1 #[] #[] 1537 3 #[] #[])
  fields := #[]
  methods := #[]
  instanceTypes := #[]
  staticTypes := #[]
  resolved := Array.replicate 7 none
  statics := none }

def pool5 : Array CpInfo := pool [(2, .class_ 4), (1, u "java/lang/Enum"), (0, u "name"), (0, u "Ljava/lang/String;"), (2, u "ordinal"), (0, u "I"), (1, .class_ 14), (1, u "java/lang/Object"), (4, u "hash"), (86, .class_ 108), (1, u "java/lang/Enum$EnumDesc"), (2, .class_ 112), (0, u "java/lang/constant/Constable"), (0, .class_ 114), (0, u "java/lang/Comparable"), (0, .class_ 116), (0, u "java/io/Serializable")] 87

/-- java/lang/Enum -/
def k5 : Class := { plain "java/lang/Enum" (some 0) with
  accessFlags := 1057
  interfaces := #[2, 3, 4]
  cf := some (fileOf pool5 2 #[.nestMembers #[106]] #[] 1057 12 #[111, 113, 115] #[{ accessFlags := 18, nameIndex := 5, descriptorIndex := 6, attributes := #[] }, { accessFlags := 18, nameIndex := 9, descriptorIndex := 10, attributes := #[] }, { accessFlags := 2, nameIndex := 19, descriptorIndex := 10, attributes := #[] }])
  fields := #[{ name := "name", type := (.object "java/lang/String"), accessFlags := 18, slot := 0, constantValue := 0 }, { name := "ordinal", type := .int, accessFlags := 18, slot := 1, constantValue := 0 }, { name := "hash", type := .int, accessFlags := 2, slot := 2, constantValue := 0 }]
  methods := #[]
  instanceTypes := #[(.object "java/lang/String"), .int, .int]
  staticTypes := #[]
  resolved := Array.replicate 204 none
  statics := none }

def pool6 : Array CpInfo := pool [(1, .class_ 2), (0, u "com/example/paschalion/paschalion/cli/Option"), (2, u "HELP"), (0, u "Lcom/example/paschalion/paschalion/cli/Option;"), (2, u "RECKONING"), (2, u "$VALUES"), (0, u "[Lcom/example/paschalion/paschalion/cli/Option;"), (6, .class_ 22), (1, u "java/lang/Enum"), (8, u "letter"), (0, u "Ljava/lang/String;"), (0, .fieldref 1 34), (0, .nameAndType 35 32), (0, u "valueName"), (2, u "description"), (7, u "()Ljava/lang/String;"), (1, .class_ 50), (1, u "java/lang/String"), (29, .methodref 48 81), (0, .nameAndType 82 83), (0, u "isEmpty"), (0, u "()Z"), (50, u "takesValue")] 24

def k6c0 : Code := { maxStack := 1, maxLocals := 1, code := prog_10_method_8_code, exceptionTable := #[], attributes := #[] }
def k6m0 : Method := { name := "valueName", desc := "()Ljava/lang/String;", sig := { parameters := [], returnType := some (.object "java/lang/String") }, accessFlags := 0, code := some k6c0 }
def k6c1 : Code := { maxStack := 1, maxLocals := 1, code := prog_10_method_9_code, exceptionTable := #[], attributes := #[] }
def k6m1 : Method := { name := "takesValue", desc := "()Z", sig := { parameters := [], returnType := some .boolean }, accessFlags := 0, code := some k6c1 }
/-- com/example/paschalion/paschalion/cli/Option -/
def k6 : Class := { plain "com/example/paschalion/paschalion/cli/Option" (some 5) with
  accessFlags := 16432
  interfaces := #[]
  cf := some (fileOf pool6 1 #[] #[{ accessFlags := 0, nameIndex := 35, descriptorIndex := 46, attributes := #[] }, { accessFlags := 0, nameIndex := 134, descriptorIndex := 83, attributes := #[] }] 16432 20 #[] #[{ accessFlags := 16409, nameIndex := 5, descriptorIndex := 6, attributes := #[] }, { accessFlags := 16409, nameIndex := 9, descriptorIndex := 6, attributes := #[] }, { accessFlags := 18, nameIndex := 31, descriptorIndex := 32, attributes := #[] }, { accessFlags := 18, nameIndex := 35, descriptorIndex := 32, attributes := #[] }, { accessFlags := 18, nameIndex := 38, descriptorIndex := 32, attributes := #[] }, { accessFlags := 4122, nameIndex := 12, descriptorIndex := 13, attributes := #[] }])
  fields := #[{ name := "HELP", type := (.object "com/example/paschalion/paschalion/cli/Option"), accessFlags := 16409, slot := 0, constantValue := 0 }, { name := "RECKONING", type := (.object "com/example/paschalion/paschalion/cli/Option"), accessFlags := 16409, slot := 1, constantValue := 0 }, { name := "letter", type := (.object "java/lang/String"), accessFlags := 18, slot := 3, constantValue := 0 }, { name := "valueName", type := (.object "java/lang/String"), accessFlags := 18, slot := 4, constantValue := 0 }, { name := "description", type := (.object "java/lang/String"), accessFlags := 18, slot := 5, constantValue := 0 }, { name := "$VALUES", type := (.array (.object "com/example/paschalion/paschalion/cli/Option")), accessFlags := 4122, slot := 2, constantValue := 0 }]
  methods := #[k6m0, k6m1]
  instanceTypes := #[(.object "java/lang/String"), .int, .int, (.object "java/lang/String"), (.object "java/lang/String"), (.object "java/lang/String")]
  staticTypes := #[(.object "com/example/paschalion/paschalion/cli/Option"), (.object "com/example/paschalion/paschalion/cli/Option"), (.array (.object "com/example/paschalion/paschalion/cli/Option"))]
  resolved := Array.replicate 159 none
  statics := some 0 }

def pool7 : Array CpInfo := pool [(2, .class_ 4), (1, u "java/lang/CharSequence"), (42, .class_ 48), (0, u "java/lang/CharSequence$1CodePointIterator"), (10, .class_ 60), (0, u "java/lang/CharSequence$1CharIterator"), (5, .class_ 67), (0, u "java/lang/Object")] 63

/-- java/lang/CharSequence -/
def k7 : Class := { plain "java/lang/CharSequence" (some 0) with
  accessFlags := 1537
  interfaces := #[]
  cf := some (fileOf pool7 2 #[.nestMembers #[47, 59]] #[] 1537 66 #[] #[])
  fields := #[]
  methods := #[]
  instanceTypes := #[]
  staticTypes := #[]
  resolved := Array.replicate 131 none
  statics := none }

def pool8 : Array CpInfo := pool [(1, .class_ 2), (0, u "java/lang/constant/ConstantDesc"), (0, .class_ 4), (0, u "java/lang/Object")] 32

/-- java/lang/constant/ConstantDesc -/
def k8 : Class := { plain "java/lang/constant/ConstantDesc" (some 0) with
  accessFlags := 1537
  interfaces := #[]
  cf := some (fileOf pool8 1 #[] #[] 1537 3 #[] #[])
  fields := #[]
  methods := #[]
  instanceTypes := #[]
  staticTypes := #[]
  resolved := Array.replicate 37 none
  statics := none }

def pool9 : Array CpInfo := pool [(2, .class_ 4), (1, u "java/lang/Object"), (0, u "<init>"), (0, u "()V"), (2, .fieldref 10 11), (0, .class_ 12), (0, .nameAndType 13 14), (0, u "java/lang/String"), (0, u "value"), (0, u "[B"), (2, u "coder"), (0, u "B"), (2, u "hash"), (0, u "I"), (2, u "hashIsZero"), (0, u "Z"), (13, u "COMPACT_STRINGS"), (101, u "()Z"), (432, .class_ 576), (0, u "java/lang/CharSequence"), (22, u "CASE_INSENSITIVE_ORDER"), (0, u "Ljava/util/Comparator;"), (91, u "isEmpty"), (408, u "serialPersistentFields"), (0, u "[Ljava/io/ObjectStreamField;"), (0, .class_ 1104), (0, u "java/lang/String$CaseInsensitiveComparator"), (1, .class_ 1107), (0, u "java/io/Serializable"), (0, .class_ 1109), (0, u "java/lang/Comparable"), (0, .class_ 1111), (0, u "java/lang/constant/Constable"), (0, .class_ 1113), (0, u "java/lang/constant/ConstantDesc"), (2, u "serialVersionUID"), (0, u "J"), (3, u "REPL"), (0, u "C"), (2, u "LATIN1"), (1, u "UTF16")] 323

def k9m0 : Method := { name := "<init>", desc := "()V", sig := { parameters := [], returnType := none }, accessFlags := 1, code := none }
def k9c1 : Code := { maxStack := 1, maxLocals := 1, code := jdk_42_method_55_code, exceptionTable := #[], attributes := #[] }
def k9m1 : Method := { name := "isEmpty", desc := "()Z", sig := { parameters := [], returnType := some .boolean }, accessFlags := 1, code := some k9c1 }
/-- java/lang/String -/
def k9 : Class := { plain "java/lang/String" (some 0) with
  accessFlags := 49
  interfaces := #[4, 3, 7, 2, 8]
  cf := some (fileOf pool9 10 #[.nestMembers #[1103]] #[{ accessFlags := 1, nameIndex := 5, descriptorIndex := 6, attributes := #[] }, { accessFlags := 1, nameIndex := 692, descriptorIndex := 142, attributes := #[] }] 49 2 #[1106, 1108, 575, 1110, 1112] #[{ accessFlags := 18, nameIndex := 13, descriptorIndex := 14, attributes := #[] }, { accessFlags := 18, nameIndex := 17, descriptorIndex := 18, attributes := #[] }, { accessFlags := 2, nameIndex := 21, descriptorIndex := 22, attributes := #[] }, { accessFlags := 2, nameIndex := 25, descriptorIndex := 26, attributes := #[] }, { accessFlags := 26, nameIndex := 1116, descriptorIndex := 1117, attributes := #[] }, { accessFlags := 24, nameIndex := 40, descriptorIndex := 26, attributes := #[] }, { accessFlags := 26, nameIndex := 1101, descriptorIndex := 1102, attributes := #[] }, { accessFlags := 26, nameIndex := 1121, descriptorIndex := 1122, attributes := #[] }, { accessFlags := 25, nameIndex := 599, descriptorIndex := 600, attributes := #[] }, { accessFlags := 24, nameIndex := 1125, descriptorIndex := 18, attributes := #[] }, { accessFlags := 24, nameIndex := 1127, descriptorIndex := 18, attributes := #[] }])
  fields := #[{ name := "value", type := (.array .byte), accessFlags := 18, slot := 0, constantValue := 0 }, { name := "coder", type := .byte, accessFlags := 18, slot := 1, constantValue := 0 }, { name := "hash", type := .int, accessFlags := 2, slot := 2, constantValue := 0 }, { name := "hashIsZero", type := .boolean, accessFlags := 2, slot := 3, constantValue := 0 }, { name := "serialVersionUID", type := .long, accessFlags := 26, slot := 0, constantValue := 0 }, { name := "COMPACT_STRINGS", type := .boolean, accessFlags := 24, slot := 1, constantValue := 0 }, { name := "serialPersistentFields", type := (.array (.object "java/io/ObjectStreamField")), accessFlags := 26, slot := 2, constantValue := 0 }, { name := "REPL", type := .char, accessFlags := 26, slot := 3, constantValue := 0 }, { name := "CASE_INSENSITIVE_ORDER", type := (.object "java/util/Comparator"), accessFlags := 25, slot := 4, constantValue := 0 }, { name := "LATIN1", type := .byte, accessFlags := 24, slot := 5, constantValue := 0 }, { name := "UTF16", type := .byte, accessFlags := 24, slot := 6, constantValue := 0 }]
  methods := #[k9m0, k9m1]
  instanceTypes := #[(.array .byte), .byte, .int, .boolean]
  staticTypes := #[.long, .boolean, (.array (.object "java/io/ObjectStreamField")), .char, (.object "java/util/Comparator"), .byte, .byte]
  resolved := Array.replicate 1451 none
  statics := none }

def pool10 : Array CpInfo := pool [(1, u "java/lang/Cloneable"), (0, .class_ 1), (0, u "java/lang/Object"), (0, .class_ 3)] 3

/-- java/lang/Cloneable -/
def k10 : Class := { plain "java/lang/Cloneable" (some 0) with
  accessFlags := 1537
  interfaces := #[]
  cf := some (fileOf pool10 2 #[] #[] 1537 4 #[] #[])
  fields := #[]
  methods := #[]
  instanceTypes := #[]
  staticTypes := #[]
  resolved := Array.replicate 8 none
  statics := none }

/-- the primitive byte -/
def k11 : Class := { plain "byte" none with kind := .primitive 'B', accessFlags := 0x411 }
/-- [B -/
def k12 : Class := { plain "[B" (some 0) with kind := .array 11 .byte, interfaces := #[10, 4], accessFlags := 1041 }

/-- the primitive int -/
def k13 : Class := { plain "int" none with kind := .primitive 'I', accessFlags := 0x411 }
/-- [I -/
def k14 : Class := { plain "[I" (some 0) with kind := .array 13 .int, interfaces := #[10, 4], accessFlags := 1041 }

def heap : Heap := #[{ cls := 6, slots := #[.ref 1, .ref 4, .null], vm := .statics 6 },
  { cls := 6, slots := #[.null, .int 0, .int 0, .null, .ref 2, .null], vm := .none },
  { cls := 9, slots := #[.ref 3, .int 0, .int 0, .int 0], vm := .none },
  { cls := 12, slots := #[], vm := .none },
  { cls := 6, slots := #[.null, .int 0, .int 0, .null, .ref 5, .null], vm := .none },
  { cls := 9, slots := #[.ref 6, .int 0, .int 0, .int 0], vm := .none },
  { cls := 12, slots := #[.int 0, .int 0, .int 0, .int 0], vm := .none }]
def classes : Array Class := #[k0, k1, k2, k3, k4, k5, k6, k7, k8, k9, k10, k11, k12, k13, k14]
def interned : List (Array UInt16 × Addr) := []
def slotsUsed : Nat := 27
def theMethod : MethodId := ⟨1, 1⟩
def args0 : Array Value := #[.int 5]
def aboutOver (below : List Frame) : State where
  vm := { classes := classes, interned := interned.toArray }
  heap := heap
  slotsUsed := slotsUsed
  threads := #[{ frames := .invoking theMethod args0 :: below }]
def below0 : List Frame := [.native { method := ⟨0, 0⟩, args := #[] }]
def about1 : State := aboutOver below0
def p0 : Program := .bare "" "" ""
def e0 : Env := launch0.env 0 0 0
theorem w_frames : about1.frames = Frame.invoking theMethod args0 :: below0 := rfl
set_option maxRecDepth 65536 in
theorem w_args : argsFit about1.vm theMethod args0 = true := by decide +kernel
set_option maxRecDepth 65536 in
theorem w_heap : heapFits about1 = true := by decide +kernel
set_option maxRecDepth 65536 in
theorem w_runnable : about1.curStatus? = some .runnable := by decide +kernel
set_option maxRecDepth 65536 in
theorem w_alone : about1.alone = true := by decide +kernel
set_option maxRecDepth 65536 in
theorem w_named : about1.methodNamed? x = some theMethod := by decide +kernel
set_option maxRecDepth 65536 in
theorem w_hears : about1.hears theMethod below0 = true := by decide +kernel
set_option maxRecDepth 65536 in
theorem w_ripe : about1.ripe theMethod args0 below0 = true := by decide +kernel
theorem w_running : about1.status = .running := rfl
set_option maxRecDepth 65536 in
theorem w_room : about1.hasRoom e0.platform room_1 = true :=
  launch0.hasRoom_least _ room_1 (by decide +kernel) (by decide +kernel) (by decide +kernel) (by decide +kernel) (by decide +kernel) (by decide +kernel)
theorem allAtoms_all (ts : List Jvm.Cond) (a : Array Jvm.Value) (st : Jvm.State) : (allAtoms ts).before a st = ts.all (fun c => c.before a st) := by
  induction ts with
  | nil => rfl
  | cons c t ih =>
    show (Jvm.Cond.and c (allAtoms t)).before a st = _
    rw [Jvm.Cond.before_and, ih, List.all_cons]
def words1 : List Jvm.Cond := Jvm.Cond.code x code maxLocals ret :: tables_1
/-- a 'code' word, met by the world's own term for the bytes: nothing is compared byte by byte -/
theorem code_word {y : MethodName} {bytes : ByteArray} {mx : Nat} {rt : Option FieldType} {a : Array Value} {s : State} {m : MethodId} {meth : Method} {c : Code} (h1 : s.methodNamed? y = some m) (h2 : s.vm.method? m = some meth) (h3 : meth.code = some c) (h4 : c.code = bytes)
    (h5 : (c.maxLocals == mx && c.exceptionTable.isEmpty && decide (c.maxStack ≤ mostOperands) && decide (meth.sig.returnType = rt) && !meth.locks && decide (parseMethodDescriptor y.desc = some meth.sig)) = true) : (Jvm.Cond.code y bytes mx rt).before a s = true := by
  simp only [Bool.and_eq_true, beq_iff_eq, Bool.not_eq_true', decide_eq_true_eq] at h5
  obtain ⟨⟨⟨⟨⟨g1, g2⟩, g3⟩, g4⟩, g5⟩, g6⟩ := h5
  simp [Cond.before, Cond.holds, Cond.value, h1, h2, h3, h4, g1, g2, g3, g4, g5, g6]
def isCode : Jvm.Cond → Bool
  | .code _ _ _ _ => true
  | _ => false
theorem all_split {L : List Jvm.Cond} {P : Jvm.Cond → Bool} (h1 : L.all (fun c => isCode c || P c) = true) (h2 : ∀ c ∈ L.filter isCode, P c = true) : L.all P = true := by
  refine List.all_eq_true.mpr fun c hc => ?_
  have h := List.all_eq_true.mp h1 c hc
  rcases Bool.eq_false_or_eq_true (isCode c) with hi | hi
  · exact h2 c (List.mem_filter.mpr ⟨hc, hi⟩)
  · simpa [hi] using h
set_option maxRecDepth 65536 in
theorem w_c0 : (Jvm.Cond.code x code maxLocals ret).before args0 about1 = true := code_word (m := ⟨1, 1⟩) (meth := k1m1) (c := k1c1) (by decide +kernel) rfl rfl rfl (by decide +kernel)
set_option maxRecDepth 65536 in
theorem w_c1 : (Jvm.Cond.code ({ cls := "com/example/paschalion/paschalion/cli/Option", name := "takesValue", desc := "()Z" } : Jvm.MethodName) prog_10_method_9_code (1 : Nat) (Option.some Jvm.ClassFile.FieldType.boolean)).before args0 about1 = true := code_word (m := ⟨6, 1⟩) (meth := k6m1) (c := k6c1) (by decide +kernel) rfl rfl rfl (by decide +kernel)
set_option maxRecDepth 65536 in
theorem w_c2 : (Jvm.Cond.code ({ cls := "java/lang/String", name := "isEmpty", desc := "()Z" } : Jvm.MethodName) jdk_42_method_55_code (1 : Nat) (Option.some Jvm.ClassFile.FieldType.boolean)).before args0 about1 = true := code_word (m := ⟨9, 1⟩) (meth := k9m1) (c := k9c1) (by decide +kernel) rfl rfl rfl (by decide +kernel)
set_option maxRecDepth 65536 in
theorem w_c3 : (Jvm.Cond.code ({ cls := "com/example/paschalion/paschalion/cli/Option", name := "valueName", desc := "()Ljava/lang/String;" } : Jvm.MethodName) prog_10_method_8_code (1 : Nat) (Option.some (Jvm.ClassFile.FieldType.object "java/lang/String"))).before args0 about1 = true := code_word (m := ⟨6, 0⟩) (meth := k6m0) (c := k6c0) (by decide +kernel) rfl rfl rfl (by decide +kernel)
def codes1 : List Jvm.Cond := [Jvm.Cond.code x code maxLocals ret, Jvm.Cond.code ({ cls := "com/example/paschalion/paschalion/cli/Option", name := "takesValue", desc := "()Z" } : Jvm.MethodName) prog_10_method_9_code (1 : Nat) (Option.some Jvm.ClassFile.FieldType.boolean), Jvm.Cond.code ({ cls := "java/lang/String", name := "isEmpty", desc := "()Z" } : Jvm.MethodName) jdk_42_method_55_code (1 : Nat) (Option.some Jvm.ClassFile.FieldType.boolean), Jvm.Cond.code ({ cls := "com/example/paschalion/paschalion/cli/Option", name := "valueName", desc := "()Ljava/lang/String;" } : Jvm.MethodName) prog_10_method_8_code (1 : Nat) (Option.some (Jvm.ClassFile.FieldType.object "java/lang/String"))]
set_option maxRecDepth 65536 in
theorem codes_eq : words1.filter isCode = codes1 := rfl
theorem w_codes : ∀ c ∈ words1.filter isCode, c.before args0 about1 = true := by
  rw [codes_eq]
  intro c hc
  simp only [codes1, List.mem_cons, List.not_mem_nil, or_false] at hc
  rcases hc with rfl | rfl | rfl | rfl
  · exact w_c0
  · exact w_c1
  · exact w_c2
  · exact w_c3
set_option maxRecDepth 65536 in
theorem w_t1 : (words1.take 24).all (fun c => isCode c || c.before args0 about1) = true := by decide +kernel
set_option maxRecDepth 65536 in
theorem w_t2 : (words1.drop 24).all (fun c => isCode c || c.before args0 about1) = true := by decide +kernel
theorem w_tables : (allAtoms (Jvm.Cond.code x code maxLocals ret :: tables_1)).before args0 about1 = true := by
  rw [allAtoms_all]
  show words1.all (fun c => c.before args0 about1) = true
  refine all_split ?_ w_codes
  rw [← List.take_append_drop 24 words1, List.all_append, w_t1, w_t2]
  rfl
set_option maxRecDepth 65536 in
theorem w_case : (Jvm.Cond.and given_1 narrow_1).before args0 about1 = true := by decide +kernel
theorem w_applies : (headSpec (Jvm.Cond.code x code maxLocals ret :: tables_1) room_1).applies x e0.platform about1 = true :=
  (Spec.applies_iff w_frames).mpr ⟨w_running, w_runnable, w_alone, w_named, w_hears, w_ripe, w_room, w_tables⟩
theorem atStart : AtStart classFile x code maxLocals ret World_1 tables_1 room_1 Calls_1 rest_1 Pre_1 launch0 p0 e0 about1 theMethod args0 below0 :=
  ⟨lists_1, trivial, launch0.admits_env _ _ _, launch0.least_env, fairChoices_fair.cas, fairChoices_fair.clock, w_frames, w_args, w_heap, w_applies, trivial, trivial, w_case⟩
end start1
theorem witness_1 : WitnessClaimed_1 := ⟨start1.p0, start1.e0, start1.about1, start1.theMethod, start1.args0, start1.below0, start1.atStart⟩
end Jvm.Pilot.@@N@@
