import JvmDerived
import JvmDerived.Pilot.@@N@@Statement
import JvmDerived.Pilot.@@N@@Code
set_option linter.unusedVariables false
set_option linter.unusedSimpArgs false
@@BLOCK:NumsL.lean.txt@@
namespace Jvm.Own
open Sem ClassFile Op Lib Jvm.Stand Jvm.Free Jvm.LawKit Jvm.RoadKit
/-! a list of owned cells (all made since the start), each with what it holds; the start's own heap stays as it was -/
abbrev FK := String × String × String
abbrev Fs := List (FK × Value)
abbrev Rec := (String × Fs) ⊕ (FieldType × List Value)
abbrev Ent := Addr × Rec
def slK (Z : State) (k : FK) : Nat := RoadKit.slotOf Z k.1 k.2.1 k.2.2
def Hold (Z : State) (h : Heap) (a : Addr) : Rec → Prop
  | .inl (C, fs) => Exa Z h a C ∧ (∀ (i : Nat) (f : FK × Value), fs[i]? = some f → Fld Z h a f.1.1 f.1.2.1 f.1.2.2 f.2) ∧ (fs.map fun f => slK Z f.1).Nodup
  | .inr (ty, vs) => ∃ c : Cell, Arr Z h a c ty ∧ c.slots.toList = vs ∧ ∀ C, ty = .object C → Ovr Z c.cls C
def Rep (Z : State) (h : Heap) (M : List Ent) : Prop := Ext Z.heap h ∧ (∀ (i : Nat) (x : Ent), M[i]? = some x → Z.heap.size ≤ x.1 ∧ Hold Z h x.1 x.2) ∧ (M.map fun x => x.1).Nodup
section Facts
variable {Z : State} {h h' : Heap} {a b : Addr} {sl k j : Nat} {v w : Value} {r : Rec} {M : List Ent} {C : String} {fs : Fs} {f : FK}
theorem Hold.other (W : Wr h h' a sl v) (H : Hold Z h b r) (hne : b ≠ a) : Hold Z h' b r := by
  rcases r with ⟨C, fs⟩ | ⟨ty, vs⟩
  · exact ⟨H.1.wr W, fun i f hf => (H.2.1 i f hf).other W (Or.inl hne), H.2.2⟩
  · obtain ⟨c, A, q⟩ := H
    exact ⟨c, A.other W hne, q⟩
theorem Hold.ext (E : Ext h h') (H : Hold Z h b r) : Hold Z h' b r := by
  rcases r with ⟨C, fs⟩ | ⟨ty, vs⟩
  · exact ⟨H.1.ext E, fun i f hf => (H.2.1 i f hf).ext E, H.2.2⟩
  · obtain ⟨c, A, q⟩ := H
    exact ⟨c, A.ext E, q⟩
theorem Hold.lt (H : Hold Z h b r) : b < h.size := by
  rcases r with ⟨C, fs⟩ | ⟨ty, vs⟩
  · exact H.1.lt
  · obtain ⟨c, A, q⟩ := H
    exact A.lt
theorem nd_inj {α : Type} {L : List α} (hn : L.Nodup) {i j : Nat} {x : α} (h1 : L[i]? = some x) (h2 : L[j]? = some x) : i = j :=
  (List.getElem?_inj (List.getElem?_eq_some_iff.mp h1).1 hn).mp (h1.trans h2.symm)
theorem Rep.inj (R : Rep Z h M) {i j : Nat} {x y : Ent} (h1 : M[i]? = some x) (h2 : M[j]? = some y) (e : x.1 = y.1) : i = j :=
  nd_inj (x := x.1) R.2.2 (by rw [List.getElem?_map, h1]; rfl) (by rw [List.getElem?_map, h2, e]; rfl)
theorem Rep.ne (R : Rep Z h M) {i j : Nat} {x y : Ent} (h1 : M[i]? = some x) (h2 : M[j]? = some y) (e : i ≠ j) : x.1 ≠ y.1 := fun q => e (R.inj h1 h2 q)
theorem Rep.fresh (R : Rep Z h M) {i : Nat} {x : Ent} (h1 : M[i]? = some x) : Z.heap.size ≤ x.1 := (R.2.1 i x h1).1
theorem map_set_same {α β : Type} {g : α → β} {L : List α} {x y : α} (h1 : L[k]? = some x) (e : g y = g x) : (L.set k y).map g = L.map g := by
  apply List.ext_getElem?
  intro i
  simp only [List.getElem?_map, List.getElem?_set]
  by_cases q : k = i
  · subst q
    obtain ⟨hl, hx⟩ := List.getElem?_eq_some_iff.mp h1
    simp [hl, e, h1, hx]
  · simp [q]
theorem Rep.wrote (R : Rep Z h M) (hk : M[k]? = some (a, r)) (W : Wr h h' a sl v) {r' : Rec} (H : Hold Z h' a r') : Rep Z h' (M.set k (a, r')) := by
  have ha := R.fresh hk
  refine ⟨(Old.wr ⟨rfl, R.1⟩ W ha).2, fun i x hx => ?_, ?_⟩
  · rw [List.getElem?_set] at hx
    by_cases q : k = i
    · subst q
      rw [if_pos rfl] at hx
      split at hx
      · cases hx
        exact ⟨ha, H⟩
      · cases hx
    · rw [if_neg q] at hx
      have g := R.2.1 i x hx
      exact ⟨g.1, g.2.other W (R.ne hx hk (Ne.symm q))⟩
  · rw [map_set_same (g := fun x : Ent => x.1) (y := (a, r')) hk rfl]
    exact R.2.2
theorem Hold.put (H : Hold Z h a (.inl (C, fs))) (hj : fs[j]? = some (f, w)) (W : Wr h h' a (slK Z f) v) : Hold Z h' a (.inl (C, fs.set j (f, v))) := by
  refine ⟨H.1.wr W, fun i x hx => ?_, ?_⟩
  · rw [List.getElem?_set] at hx
    by_cases q : j = i
    · subst q
      rw [if_pos rfl] at hx
      split at hx
      · cases hx
        exact (H.2.1 _ _ hj).same W
      · cases hx
    · rw [if_neg q] at hx
      refine (H.2.1 i x hx).other W (Or.inr fun e => q ?_)
      exact nd_inj (x := slK Z f) H.2.2 (by rw [List.getElem?_map, hj]; rfl) (by rw [List.getElem?_map, hx]; exact congrArg some e)
  · rw [map_set_same (g := fun f : FK × Value => slK Z f.1) (y := (f, v)) hj rfl]
    exact H.2.2
theorem Hold.store {ty : FieldType} {vs : List Value} (H : Hold Z h a (.inr (ty, vs))) (W : Wr h h' a j v) : Hold Z h' a (.inr (ty, vs.set j v)) := by
  obtain ⟨c, A, q, o⟩ := H
  refine ⟨_, A.same W, ?_, o⟩
  simp [Cell.setSlot, ← q]
theorem Rep.new (R : Rep Z h M) (E : Ext h h') (hs : a = h.size) {r : Rec} (H : Hold Z h' a r) : Rep Z h' ((a, r) :: M) := by
  refine ⟨(Old.ext ⟨rfl, R.1⟩ E).2, fun i x hx => ?_, ?_⟩
  · rcases i with _ | i
    · cases hx
      exact ⟨by rw [hs]; exact R.1.1, H⟩
    · have g := R.2.1 i x hx
      exact ⟨g.1, g.2.ext E⟩
  · rw [List.map_cons, List.nodup_cons]
    refine ⟨fun m => ?_, R.2.2⟩
    obtain ⟨x, hx, e⟩ := List.mem_map.mp m
    obtain ⟨i, hi⟩ := List.mem_iff_getElem?.mp hx
    have hlt := (R.2.1 i x hi).2.lt
    have e : x.1 = a := e
    rw [e, hs] at hlt
    exact Nat.lt_irrefl _ hlt
theorem nd_pick {α : Type} {N : List α} (hn : N.Nodup) (n : Nat) (idx : List Nat) (h1 : idx.Nodup) (h2 : ∀ i ∈ idx, i < n) : (idx.filterMap (fun i => N[i]?) ++ N.drop n).Nodup := by
  rw [List.nodup_append]
  refine ⟨?_, hn.sublist (List.drop_sublist n N), ?_⟩
  · refine List.Pairwise.filterMap (fun i => N[i]?) ?_ h1
    intro i j hij x hx y hy e
    subst e
    exact hij (nd_inj hn hx hy)
  · intro x hx y hy e
    subst e
    obtain ⟨i, hi, hx⟩ := List.mem_filterMap.mp hx
    obtain ⟨j, hj⟩ := List.mem_iff_getElem?.mp hy
    rw [List.getElem?_drop] at hj
    have := nd_inj hn hx hj
    have := h2 i hi
    omega
theorem Rep.pick (R : Rep Z h M) (n : Nat) (idx : List Nat) (h1 : idx.Nodup) (h2 : ∀ i ∈ idx, i < n) : Rep Z h (idx.filterMap (fun i => M[i]?) ++ M.drop n) := by
  refine ⟨R.1, fun i x hx => ?_, ?_⟩
  · have hm := List.mem_of_getElem? hx
    rcases List.mem_append.mp hm with q | q
    · obtain ⟨j, -, hj⟩ := List.mem_filterMap.mp q
      exact R.2.1 j x hj
    · obtain ⟨j, hj⟩ := List.mem_iff_getElem?.mp (List.mem_of_mem_drop q)
      exact R.2.1 j x hj
  · have := nd_pick R.2.2 n idx h1 h2
    rw [List.map_append, List.map_drop, List.map_filterMap]
    simpa [List.getElem?_map] using this
theorem Rep.fld {O nm d : String} (R : Rep Z h M) (k j : Nat) (hk : M[k]? = some (a, .inl (C, fs))) (hj : fs[j]? = some ((O, nm, d), v)) : Fld Z h a O nm d v := (R.2.1 k _ hk).2.2.1 j _ hj
theorem Rep.exa (R : Rep Z h M) (k : Nat) (hk : M[k]? = some (a, .inl (C, fs))) : Exa Z h a C := (R.2.1 k _ hk).2.1
end Facts
theorem wd {L : List Cond} {a0 : Array Value} {Z : State} {d : Cond} (hw : ∀ d ∈ L, d.before a0 Z = true) (i : Nat) (h : L[i]? = some d) : d.before a0 Z = true := hw d (List.mem_of_getElem? h)
/-! the walk -/
abbrev E0 := Program × Env × State × MethodId × Array Value × List Frame × Method × Code
def Cx (Z : State) (y : MethodName) (code : ByteArray) (maxL : Nat) (ret : Option FieldType) (E : E0) : Prop :=
  E.1.tables.exec = Jvm.exec ∧ Z.Warmed39 E.2.2.1.vm ∧ E.2.2.1.vm.findClass y.cls = some E.2.2.2.1.cls ∧ E.2.2.2.2.2.2.2.code = code ∧ E.2.2.2.2.2.2.2.maxLocals = maxL ∧ E.2.2.2.2.2.2.1.sig.returnType = ret ∧ E.2.2.2.2.2.2.1.locks = false ∧ E.2.2.2.2.2.2.1.name = y.name
abbrev PQ := Option Value → List Ent → Prop
def StE (l : Launch) (R : Room) (E : E0) (T : State) (locs : List Loc) (k n : Nat) : Prop :=
  Stand E.1 l E.2.1 R E.2.2.1 E.2.2.2.1 E.2.2.2.2.1 E.2.2.2.2.2.1 E.2.2.2.2.2.2.1 E.2.2.2.2.2.2.2 T locs k n
def Go (l : Launch) (Z : State) (R : Room) (E : E0) (Q : PQ) (M : List Ent) (k n pc : Nat) (Ls : Array Slot) (st : List Value) : Prop :=
  ∀ T locs, StE l R E T locs k n → Fr Z.heap.size locs → Rep Z T.heap M →
    ∃ s₂ v L, Steps E.1.tables E.2.1 E.2.2.2.2.2.1 (T.setTop (mkF E.2.2.2.1 pc Ls st)) s₂ ∧ s₂.status = .running ∧ Ended s₂ E.2.2.2.2.2.1 (.returned v) ∧ Fr Z.heap.size L ∧ (∃ M', Q v M' ∧ Rep Z s₂.heap M') ∧ FrameEnd E.2.2.1 (.returned v) s₂ L R.cells R.slots
def Met (l : Launch) (Z : State) (y : MethodName) (bytes : ByteArray) (maxL : Nat) (ret : Option FieldType) (rm : Room) (as : Array Value) (M : List Ent) (Q : PQ) : Prop :=
  ∀ (ws : List Cond) (h : Heap), Rep Z h M → MetFree l y (head1 (Cond.code y bytes maxL ret :: ws) rm) (fun a U => a = as ∧ Z.Warmed39 U.vm ∧ U.heap = h) (fun _ _ _ _ _ => True) (fun _ U o U' => ∃ v L, o = .returned v ∧ (Fr Z.heap.size L ∧ ∃ M', Q v M' ∧ Rep Z U'.heap M') ∧ FrameEnd U o U' L rm.cells rm.slots)
theorem Met.of_go {l : Launch} {Z : State} {y : MethodName} {bytes : ByteArray} {maxL : Nat} {ret : Option FieldType} {rm : Room} {as : Array Value} {M : List Ent} {Q : PQ} {Ls : Array Slot} (hp : plainName y.cls = true) (hef : ∀ m, entryFrame m as maxL = mkF m 0 Ls [])
    (H : ∀ E, Cx Z y bytes maxL ret E → Go l Z rm E Q M 0 0 0 Ls []) : Met l Z y bytes maxL ret rm as M Q := by
  intro ws h r
  refine MetFree.of_bodySF (plainFor_of_name hp) hisR ?_
  intro p e s m args below meth c s₁ Bd hml0 hP hK
  obtain ⟨rfl, hZ, hh⟩ := hP
  have X0 : Stand p l e rm s m args below meth c s₁ [] 0 0 := Stand.of_body Bd
  have e0 : s₁.heap = h := by rw [← hh, Bd.state]; rfl
  obtain ⟨s₂, v, L, h1, h2, h3, h4, h5, h6⟩ := H (p, e, s, m, args, below, meth, c) ⟨Bd.exec, hZ, findClass_of_methodNamed Bd.named, Bd.bytes, hml0, Bd.returns, Bd.notSynchronized, (name_of_methodNamed Bd.named Bd.method).1⟩ s₁ [] X0 (Fr.nil _) (by rw [e0]; exact r)
  exact ⟨s₂, .returned v, castTop (hef m) h1, h2, h3, v, L, rfl, ⟨h4, h5⟩, h6⟩
theorem Met.mono {l : Launch} {Z : State} {y : MethodName} {bytes : ByteArray} {maxL : Nat} {ret : Option FieldType} {rm : Room} {as : Array Value} {M : List Ent} {Q Q' : PQ} (H : Met l Z y bytes maxL ret rm as M Q) (hq : ∀ v M', Q v M' → Q' v M') : Met l Z y bytes maxL ret rm as M Q' := by
  intro ws h r p e ha hc hk s m args below hf happ hP hK
  obtain ⟨n, o, h1, h2, h3, v, L, h4, ⟨h5, M', h6, h7⟩, h8⟩ := H ws h r p e ha hc hk s m args below hf happ hP hK
  exact ⟨n, o, h1, h2, h3, v, L, h4, ⟨h5, M', hq _ _ h6, h7⟩, h8⟩
section Walk
variable {l : Launch} {Z : State} {R : Room} {E : E0} {Q : PQ} {M : List Ent} {k n pc q : Nat} {Ls Ls' : Array Slot} {st : List Value} {x : MethodName} {code : ByteArray} {maxL : Nat} {ret : Option FieldType} {a0 : Array Value}
theorem Go.plain {q : Nat} {Ls' : Array Slot} {st' : List Value} (hr : Go l Z R E Q M k n q Ls' st')
    (hs : ∀ T locs t, StE l R E T locs k n → Steps E.1.tables E.2.1 E.2.2.2.2.2.1 (T.setTop (mkF E.2.2.2.1 q Ls' st')) t → Steps E.1.tables E.2.1 E.2.2.2.2.2.1 (T.setTop (mkF E.2.2.2.1 pc Ls st)) t) : Go l Z R E Q M k n pc Ls st := by
  intro T locs X F r
  obtain ⟨s₂, v, L, h1, h2⟩ := hr T locs X F r
  exact ⟨s₂, v, L, hs _ _ _ X h1, h2⟩
theorem Go.rep {M' : List Ent} (h : ∀ h, Rep Z h M → Rep Z h M') (hr : Go l Z R E Q M' k n pc Ls st) : Go l Z R E Q M k n pc Ls st := fun T locs X F r => hr T locs X F (h _ r)
theorem Go.know {P : Prop} (h : ∀ h, Rep Z h M → P) (hr : P → Go l Z R E Q M k n pc Ls st) : Go l Z R E Q M k n pc Ls st := fun T locs X F r => hr (h _ r) T locs X F r
theorem Go.more {k' n' : Nat} (hk : k ≤ k') (hn : n ≤ n') (hr : Go l Z R E Q M k' n' pc Ls st) : Go l Z R E Q M k n pc Ls st := fun T locs X F r => hr T locs (X.more hk hn) F r
theorem Go.pick {M' : List Ent} (i : Nat) (idx : List Nat) (h1 : idx.Nodup) (h2 : ∀ j ∈ idx, j < i) (hM : idx.filterMap (fun i => M[i]?) ++ M.drop i = M') (hr : Go l Z R E Q M' k n pc Ls st) : Go l Z R E Q M k n pc Ls st :=
  Go.rep (fun _ r => hM ▸ r.pick i idx h1 h2) hr
theorem Go.joinI {q : Nat} {Ls' : Array Slot} {st' : List Value} (v : Int32) (hJ : Go l Z R E Q M k n q Ls' (.int v :: st')) (hr : (∀ c : Int32, c = v → Go l Z R E Q M k n q Ls' (.int c :: st')) → Go l Z R E Q M k n pc Ls st) : Go l Z R E Q M k n pc Ls st := hr fun c e => e ▸ hJ
theorem Go.joinJ {q : Nat} {Ls' : Array Slot} {st' : List Value} (v : Int64) (hJ : Go l Z R E Q M k n q Ls' (.long v :: st')) (hr : (∀ c : Int64, c = v → Go l Z R E Q M k n q Ls' (.long c :: st')) → Go l Z R E Q M k n pc Ls st) : Go l Z R E Q M k n pc Ls st := hr fun c e => e ▸ hJ
theorem Go.joinW {q : Nat} {Ls' : Array Slot} {st' : List Value} (hJ : Go l Z R E Q M k n q Ls' st') (hr : Go l Z R E Q M k n q Ls' st' → Go l Z R E Q M k n pc Ls st) : Go l Z R E Q M k n pc Ls st := hr hJ
/-! plain steps -/
theorem Go.aloadN (C : Cx Z x code maxL ret E) {j : Fin 4} {v : Value} (hd : decode code pc = .ok (.aload_n j, 1)) (hq : pc + 1 = q) (hl : Ls[j.val]? = some (.val v)) (hv : v.isRef = true) (hr : Go l Z R E Q M k n q Ls (v :: st)) : Go l Z R E Q M k n pc Ls st :=
  Go.plain hr fun _ _ _ X s => XS.aloadN X.here C.1 rfl (hb C.2.2.2.1 hd) hl hv (hq ▸ s)
theorem Go.aload (C : Cx Z x code maxL ret E) {j : Nat} {v : Value} (hd : decode code pc = .ok (.aload j, 2)) (hq : pc + 2 = q) (hl : Ls[j]? = some (.val v)) (hv : v.isRef = true) (hr : Go l Z R E Q M k n q Ls (v :: st)) : Go l Z R E Q M k n pc Ls st :=
  Go.plain hr fun _ _ _ X s => XS.aload X.here C.1 rfl (hb C.2.2.2.1 hd) hl hv (hq ▸ s)
theorem Go.iloadN (C : Cx Z x code maxL ret E) {j : Fin 4} {v : Int32} (hd : decode code pc = .ok (.iload_n j, 1)) (hq : pc + 1 = q) (hl : Ls[j.val]? = some (.val (.int v))) (hr : Go l Z R E Q M k n q Ls (.int v :: st)) : Go l Z R E Q M k n pc Ls st :=
  Go.plain hr fun _ _ _ X s => XS.iloadN X.here C.1 rfl (hb C.2.2.2.1 hd) hl (hq ▸ s)
theorem Go.iload (C : Cx Z x code maxL ret E) {j : Nat} {v : Int32} (hd : decode code pc = .ok (.iload j, 2)) (hq : pc + 2 = q) (hl : Ls[j]? = some (.val (.int v))) (hr : Go l Z R E Q M k n q Ls (.int v :: st)) : Go l Z R E Q M k n pc Ls st :=
  Go.plain hr fun _ _ _ X s => XS.iload X.here C.1 rfl (hb C.2.2.2.1 hd) hl (hq ▸ s)
theorem Go.lloadN (C : Cx Z x code maxL ret E) {j : Fin 4} {v : Int64} (hd : decode code pc = .ok (.lload_n j, 1)) (hq : pc + 1 = q) (hl : Ls[j.val]? = some (.val (.long v))) (hr : Go l Z R E Q M k n q Ls (.long v :: st)) : Go l Z R E Q M k n pc Ls st :=
  Go.plain hr fun _ _ _ X s => XT.lloadN X.here C.1 rfl (hb C.2.2.2.1 hd) hl (hq ▸ s)
theorem Go.lload (C : Cx Z x code maxL ret E) {j : Nat} {v : Int64} (hd : decode code pc = .ok (.lload j, 2)) (hq : pc + 2 = q) (hl : Ls[j]? = some (.val (.long v))) (hr : Go l Z R E Q M k n q Ls (.long v :: st)) : Go l Z R E Q M k n pc Ls st :=
  Go.plain hr fun _ _ _ X s => XT.lload X.here C.1 rfl (hb C.2.2.2.1 hd) hl (hq ▸ s)
theorem Go.istoreN (C : Cx Z x code maxL ret E) {j : Fin 4} {v : Int32} (hd : decode code pc = .ok (.istore_n j, 1)) (hq : pc + 1 = q) (hl : storeLocals Ls j.val (.int v) = some Ls') (hr : Go l Z R E Q M k n q Ls' st) : Go l Z R E Q M k n pc Ls (.int v :: st) :=
  Go.plain hr fun _ _ _ X s => XS.istoreN X.here C.1 rfl (hb C.2.2.2.1 hd) rfl hl (hq ▸ s)
theorem Go.istore (C : Cx Z x code maxL ret E) {j : Nat} {v : Int32} (hd : decode code pc = .ok (.istore j, 2)) (hq : pc + 2 = q) (hl : storeLocals Ls j (.int v) = some Ls') (hr : Go l Z R E Q M k n q Ls' st) : Go l Z R E Q M k n pc Ls (.int v :: st) :=
  Go.plain hr fun _ _ _ X s => XS.istore X.here C.1 rfl (hb C.2.2.2.1 hd) rfl hl (hq ▸ s)
theorem Go.lstoreN (C : Cx Z x code maxL ret E) {j : Fin 4} {v : Int64} (hd : decode code pc = .ok (.lstore_n j, 1)) (hq : pc + 1 = q) (hl : storeLocals Ls j.val (.long v) = some Ls') (hr : Go l Z R E Q M k n q Ls' st) : Go l Z R E Q M k n pc Ls (.long v :: st) :=
  Go.plain hr fun _ _ _ X s => XT.lstoreN X.here C.1 rfl (hb C.2.2.2.1 hd) rfl hl (hq ▸ s)
theorem Go.lstore (C : Cx Z x code maxL ret E) {j : Nat} {v : Int64} (hd : decode code pc = .ok (.lstore j, 2)) (hq : pc + 2 = q) (hl : storeLocals Ls j (.long v) = some Ls') (hr : Go l Z R E Q M k n q Ls' st) : Go l Z R E Q M k n pc Ls (.long v :: st) :=
  Go.plain hr fun _ _ _ X s => XT.lstore X.here C.1 rfl (hb C.2.2.2.1 hd) rfl hl (hq ▸ s)
theorem Go.astoreN (C : Cx Z x code maxL ret E) {j : Fin 4} {v : Value} (hd : decode code pc = .ok (.astore_n j, 1)) (hq : pc + 1 = q) (hv : v.isRef = true) (hl : storeLocals Ls j.val v = some Ls') (hr : Go l Z R E Q M k n q Ls' st) : Go l Z R E Q M k n pc Ls (v :: st) :=
  Go.plain hr fun _ _ _ X s => XS.astoreN X.here C.1 rfl (hb C.2.2.2.1 hd) rfl hv hl (hq ▸ s)
theorem Go.astore (C : Cx Z x code maxL ret E) {j : Nat} {v : Value} (hd : decode code pc = .ok (.astore j, 2)) (hq : pc + 2 = q) (hv : v.isRef = true) (hl : storeLocals Ls j v = some Ls') (hr : Go l Z R E Q M k n q Ls' st) : Go l Z R E Q M k n pc Ls (v :: st) :=
  Go.plain hr fun _ _ _ X s => XS.astore X.here C.1 rfl (hb C.2.2.2.1 hd) rfl hv hl (hq ▸ s)
theorem Go.iconst (C : Cx Z x code maxL ret E) {i : Int} {v : Int32} (hd : decode code pc = .ok (.iconst i, 1)) (hq : pc + 1 = q) (hv : Int32.ofInt i = v) (hr : Go l Z R E Q M k n q Ls (.int v :: st)) : Go l Z R E Q M k n pc Ls st :=
  Go.plain hr fun _ _ _ X s => XS.iconst X.here C.1 rfl (hb C.2.2.2.1 hd) (hv ▸ hq ▸ s)
theorem Go.bipush (C : Cx Z x code maxL ret E) {i : Int} {v : Int32} (hd : decode code pc = .ok (.bipush i, 2)) (hq : pc + 2 = q) (hv : (Int8.ofInt i).toInt32 = v) (hr : Go l Z R E Q M k n q Ls (.int v :: st)) : Go l Z R E Q M k n pc Ls st :=
  Go.plain hr fun _ _ _ X s => XS.bipush X.here C.1 rfl (hb C.2.2.2.1 hd) (hv ▸ hq ▸ s)
theorem Go.sipush (C : Cx Z x code maxL ret E) {i : Int} {v : Int32} (hd : decode code pc = .ok (.sipush i, 3)) (hq : pc + 3 = q) (hv : (Int16.ofInt i).toInt32 = v) (hr : Go l Z R E Q M k n q Ls (.int v :: st)) : Go l Z R E Q M k n pc Ls st :=
  Go.plain hr fun _ _ _ X s => XS.sipush X.here C.1 rfl (hb C.2.2.2.1 hd) (hv ▸ hq ▸ s)
theorem Go.lconst (C : Cx Z x code maxL ret E) {i : Fin 2} {v : Int64} (hd : decode code pc = .ok (.lconst i, 1)) (hq : pc + 1 = q) (hv : Int64.ofNat i = v) (hr : Go l Z R E Q M k n q Ls (.long v :: st)) : Go l Z R E Q M k n pc Ls st :=
  Go.plain hr fun _ _ _ X s => XT.lconst X.here C.1 rfl (hb C.2.2.2.1 hd) (hv ▸ hq ▸ s)
theorem Go.aconstNull (C : Cx Z x code maxL ret E) (hd : decode code pc = .ok (.aconst_null, 1)) (hq : pc + 1 = q) (hr : Go l Z R E Q M k n q Ls (.null :: st)) : Go l Z R E Q M k n pc Ls st :=
  Go.plain hr fun _ _ _ X s => XS.aconstNull X.here C.1 rfl (hb C.2.2.2.1 hd) (hq ▸ s)
theorem Go.ldcI (C : Cx Z x code maxL ret E) {i : Nat} {v : Int32} (w : (Cond.constant x.cls i v).before a0 Z = true) (hd : decode code pc = .ok (.ldc i, 2)) (hq : pc + 2 = q) (hr : Go l Z R E Q M k n q Ls (.int v :: st)) : Go l Z R E Q M k n pc Ls st :=
  Go.plain hr fun _ _ _ X s => Stand.ldcI X C.1 C.2.2.1 (mv C.2.1 w) rfl (hb C.2.2.2.1 hd) (hq ▸ s)
theorem Go.ldcWI (C : Cx Z x code maxL ret E) {i : Nat} {v : Int32} (w : (Cond.constant x.cls i v).before a0 Z = true) (hd : decode code pc = .ok (.ldc_w i, 3)) (hq : pc + 3 = q) (hr : Go l Z R E Q M k n q Ls (.int v :: st)) : Go l Z R E Q M k n pc Ls st :=
  Go.plain hr fun _ _ _ X s => Stand.ldcWI X C.1 C.2.2.1 (mv C.2.1 w) rfl (hb C.2.2.2.1 hd) (hq ▸ s)
theorem Go.ldc2J (C : Cx Z x code maxL ret E) {i : Nat} {v : Int64} (w : (Cond.constantLong x.cls i v).before a0 Z = true) (hd : decode code pc = .ok (.ldc2_w i, 3)) (hq : pc + 3 = q) (hr : Go l Z R E Q M k n q Ls (.long v :: st)) : Go l Z R E Q M k n pc Ls st :=
  Go.plain hr fun _ _ _ X s => Stand.ldc2J X C.1 C.2.2.1 (mv C.2.1 w) rfl (hb C.2.2.2.1 hd) (hq ▸ s)
theorem Go.dup (C : Cx Z x code maxL ret E) {v : Value} (hd : decode code pc = .ok (.dup, 1)) (hq : pc + 1 = q) (hc : v.category = 1) (hr : Go l Z R E Q M k n q Ls (v :: v :: st)) : Go l Z R E Q M k n pc Ls (v :: st) :=
  Go.plain hr fun _ _ _ X s => XS.dup X.here C.1 rfl (hb C.2.2.2.1 hd) rfl hc (hq ▸ s)
theorem Go.dupX1 (C : Cx Z x code maxL ret E) {v w : Value} (hd : decode code pc = .ok (.dup_x1, 1)) (hq : pc + 1 = q) (hc : v.category = 1) (hc' : w.category = 1) (hr : Go l Z R E Q M k n q Ls (v :: w :: v :: st)) : Go l Z R E Q M k n pc Ls (v :: w :: st) :=
  Go.plain hr fun _ _ _ X s => XT.dupX1 X.here C.1 rfl (hb C.2.2.2.1 hd) rfl hc hc' (hq ▸ s)
theorem Go.dup2 (C : Cx Z x code maxL ret E) {v w : Value} (hd : decode code pc = .ok (.dup2, 1)) (hq : pc + 1 = q) (hc : v.category = 1) (hc' : w.category = 1) (hr : Go l Z R E Q M k n q Ls (v :: w :: v :: w :: st)) : Go l Z R E Q M k n pc Ls (v :: w :: st) :=
  Go.plain hr fun _ _ _ X s => XT.dup2 X.here C.1 rfl (hb C.2.2.2.1 hd) rfl hc hc' (hq ▸ s)
theorem Go.dup2L (C : Cx Z x code maxL ret E) {v : Int64} (hd : decode code pc = .ok (.dup2, 1)) (hq : pc + 1 = q) (hr : Go l Z R E Q M k n q Ls (.long v :: .long v :: st)) : Go l Z R E Q M k n pc Ls (.long v :: st) :=
  Go.plain hr fun _ _ _ X s => XT.dup2L X.here C.1 rfl (hb C.2.2.2.1 hd) rfl (hq ▸ s)
theorem Go.pop (C : Cx Z x code maxL ret E) {v : Value} (hd : decode code pc = .ok (.pop, 1)) (hq : pc + 1 = q) (hc : v.category = 1) (hr : Go l Z R E Q M k n q Ls st) : Go l Z R E Q M k n pc Ls (v :: st) :=
  Go.plain hr fun _ _ _ X s => XT.pop X.here C.1 rfl (hb C.2.2.2.1 hd) rfl hc (hq ▸ s)
theorem Go.iadd (C : Cx Z x code maxL ret E) {u : Int32} {v : Int32} (hd : decode code pc = .ok (.iadd, 1)) (hq : pc + 1 = q) (hr : Go l Z R E Q M k n q Ls (.int (u + v) :: st)) : Go l Z R E Q M k n pc Ls (.int v :: .int u :: st) :=
  Go.plain hr fun _ _ _ X s => XS.iadd X.here C.1 rfl (hb C.2.2.2.1 hd) rfl (hq ▸ s)
theorem Go.isub (C : Cx Z x code maxL ret E) {u : Int32} {v : Int32} (hd : decode code pc = .ok (.isub, 1)) (hq : pc + 1 = q) (hr : Go l Z R E Q M k n q Ls (.int (u - v) :: st)) : Go l Z R E Q M k n pc Ls (.int v :: .int u :: st) :=
  Go.plain hr fun _ _ _ X s => XS.isub X.here C.1 rfl (hb C.2.2.2.1 hd) rfl (hq ▸ s)
theorem Go.imul (C : Cx Z x code maxL ret E) {u : Int32} {v : Int32} (hd : decode code pc = .ok (.imul, 1)) (hq : pc + 1 = q) (hr : Go l Z R E Q M k n q Ls (.int (u * v) :: st)) : Go l Z R E Q M k n pc Ls (.int v :: .int u :: st) :=
  Go.plain hr fun _ _ _ X s => XS.imul X.here C.1 rfl (hb C.2.2.2.1 hd) rfl (hq ▸ s)
theorem Go.iand (C : Cx Z x code maxL ret E) {u : Int32} {v : Int32} (hd : decode code pc = .ok (.iand, 1)) (hq : pc + 1 = q) (hr : Go l Z R E Q M k n q Ls (.int (u &&& v) :: st)) : Go l Z R E Q M k n pc Ls (.int v :: .int u :: st) :=
  Go.plain hr fun _ _ _ X s => XS.iand X.here C.1 rfl (hb C.2.2.2.1 hd) rfl (hq ▸ s)
theorem Go.ior (C : Cx Z x code maxL ret E) {u : Int32} {v : Int32} (hd : decode code pc = .ok (.ior, 1)) (hq : pc + 1 = q) (hr : Go l Z R E Q M k n q Ls (.int (u ||| v) :: st)) : Go l Z R E Q M k n pc Ls (.int v :: .int u :: st) :=
  Go.plain hr fun _ _ _ X s => XT.ior X.here C.1 rfl (hb C.2.2.2.1 hd) rfl (hq ▸ s)
theorem Go.ixor (C : Cx Z x code maxL ret E) {u : Int32} {v : Int32} (hd : decode code pc = .ok (.ixor, 1)) (hq : pc + 1 = q) (hr : Go l Z R E Q M k n q Ls (.int (u ^^^ v) :: st)) : Go l Z R E Q M k n pc Ls (.int v :: .int u :: st) :=
  Go.plain hr fun _ _ _ X s => XT.ixor X.here C.1 rfl (hb C.2.2.2.1 hd) rfl (hq ▸ s)
theorem Go.ishl (C : Cx Z x code maxL ret E) {u : Int32} {v : Int32} (hd : decode code pc = .ok (.ishl, 1)) (hq : pc + 1 = q) (hr : Go l Z R E Q M k n q Ls (.int (u <<< (v &&& 31)) :: st)) : Go l Z R E Q M k n pc Ls (.int v :: .int u :: st) :=
  Go.plain hr fun _ _ _ X s => XT.ishl X.here C.1 rfl (hb C.2.2.2.1 hd) rfl (hq ▸ s)
theorem Go.ishr (C : Cx Z x code maxL ret E) {u : Int32} {v : Int32} (hd : decode code pc = .ok (.ishr, 1)) (hq : pc + 1 = q) (hr : Go l Z R E Q M k n q Ls (.int (u >>> (v &&& 31)) :: st)) : Go l Z R E Q M k n pc Ls (.int v :: .int u :: st) :=
  Go.plain hr fun _ _ _ X s => XT.ishr X.here C.1 rfl (hb C.2.2.2.1 hd) rfl (hq ▸ s)
theorem Go.iushr (C : Cx Z x code maxL ret E) {u : Int32} {v : Int32} (hd : decode code pc = .ok (.iushr, 1)) (hq : pc + 1 = q) (hr : Go l Z R E Q M k n q Ls (.int (XT.ushr u v) :: st)) : Go l Z R E Q M k n pc Ls (.int v :: .int u :: st) :=
  Go.plain hr fun _ _ _ X s => XT.iushr X.here C.1 rfl (hb C.2.2.2.1 hd) rfl (hq ▸ s)
theorem Go.ladd (C : Cx Z x code maxL ret E) {u : Int64} {v : Int64} (hd : decode code pc = .ok (.ladd, 1)) (hq : pc + 1 = q) (hr : Go l Z R E Q M k n q Ls (.long (u + v) :: st)) : Go l Z R E Q M k n pc Ls (.long v :: .long u :: st) :=
  Go.plain hr fun _ _ _ X s => XT.ladd X.here C.1 rfl (hb C.2.2.2.1 hd) rfl (hq ▸ s)
theorem Go.lsub (C : Cx Z x code maxL ret E) {u : Int64} {v : Int64} (hd : decode code pc = .ok (.lsub, 1)) (hq : pc + 1 = q) (hr : Go l Z R E Q M k n q Ls (.long (u - v) :: st)) : Go l Z R E Q M k n pc Ls (.long v :: .long u :: st) :=
  Go.plain hr fun _ _ _ X s => XT.lsub X.here C.1 rfl (hb C.2.2.2.1 hd) rfl (hq ▸ s)
theorem Go.lmul (C : Cx Z x code maxL ret E) {u : Int64} {v : Int64} (hd : decode code pc = .ok (.lmul, 1)) (hq : pc + 1 = q) (hr : Go l Z R E Q M k n q Ls (.long (u * v) :: st)) : Go l Z R E Q M k n pc Ls (.long v :: .long u :: st) :=
  Go.plain hr fun _ _ _ X s => XT.lmul X.here C.1 rfl (hb C.2.2.2.1 hd) rfl (hq ▸ s)
theorem Go.land (C : Cx Z x code maxL ret E) {u : Int64} {v : Int64} (hd : decode code pc = .ok (.land, 1)) (hq : pc + 1 = q) (hr : Go l Z R E Q M k n q Ls (.long (u &&& v) :: st)) : Go l Z R E Q M k n pc Ls (.long v :: .long u :: st) :=
  Go.plain hr fun _ _ _ X s => XT.land X.here C.1 rfl (hb C.2.2.2.1 hd) rfl (hq ▸ s)
theorem Go.lor (C : Cx Z x code maxL ret E) {u : Int64} {v : Int64} (hd : decode code pc = .ok (.lor, 1)) (hq : pc + 1 = q) (hr : Go l Z R E Q M k n q Ls (.long (u ||| v) :: st)) : Go l Z R E Q M k n pc Ls (.long v :: .long u :: st) :=
  Go.plain hr fun _ _ _ X s => XT.lor X.here C.1 rfl (hb C.2.2.2.1 hd) rfl (hq ▸ s)
theorem Go.lxor (C : Cx Z x code maxL ret E) {u : Int64} {v : Int64} (hd : decode code pc = .ok (.lxor, 1)) (hq : pc + 1 = q) (hr : Go l Z R E Q M k n q Ls (.long (u ^^^ v) :: st)) : Go l Z R E Q M k n pc Ls (.long v :: .long u :: st) :=
  Go.plain hr fun _ _ _ X s => XT.lxor X.here C.1 rfl (hb C.2.2.2.1 hd) rfl (hq ▸ s)
theorem Go.lshl (C : Cx Z x code maxL ret E) {u : Int64} {v : Int32} (hd : decode code pc = .ok (.lshl, 1)) (hq : pc + 1 = q) (hr : Go l Z R E Q M k n q Ls (.long (u <<< (v.toInt64 &&& 63)) :: st)) : Go l Z R E Q M k n pc Ls (.int v :: .long u :: st) :=
  Go.plain hr fun _ _ _ X s => XT.lshl X.here C.1 rfl (hb C.2.2.2.1 hd) rfl (hq ▸ s)
theorem Go.lshr (C : Cx Z x code maxL ret E) {u : Int64} {v : Int32} (hd : decode code pc = .ok (.lshr, 1)) (hq : pc + 1 = q) (hr : Go l Z R E Q M k n q Ls (.long (u >>> (v.toInt64 &&& 63)) :: st)) : Go l Z R E Q M k n pc Ls (.int v :: .long u :: st) :=
  Go.plain hr fun _ _ _ X s => XT.lshr X.here C.1 rfl (hb C.2.2.2.1 hd) rfl (hq ▸ s)
theorem Go.lushr (C : Cx Z x code maxL ret E) {u : Int64} {v : Int32} (hd : decode code pc = .ok (.lushr, 1)) (hq : pc + 1 = q) (hr : Go l Z R E Q M k n q Ls (.long (XT.ushrL u v) :: st)) : Go l Z R E Q M k n pc Ls (.int v :: .long u :: st) :=
  Go.plain hr fun _ _ _ X s => XT.lushr X.here C.1 rfl (hb C.2.2.2.1 hd) rfl (hq ▸ s)
theorem Go.ineg (C : Cx Z x code maxL ret E) {u : Int32} (hd : decode code pc = .ok (.ineg, 1)) (hq : pc + 1 = q) (hr : Go l Z R E Q M k n q Ls (.int (-u) :: st)) : Go l Z R E Q M k n pc Ls (.int u :: st) :=
  Go.plain hr fun _ _ _ X s => XS.ineg X.here C.1 rfl (hb C.2.2.2.1 hd) rfl (hq ▸ s)
theorem Go.lneg (C : Cx Z x code maxL ret E) {u : Int64} (hd : decode code pc = .ok (.lneg, 1)) (hq : pc + 1 = q) (hr : Go l Z R E Q M k n q Ls (.long (-u) :: st)) : Go l Z R E Q M k n pc Ls (.long u :: st) :=
  Go.plain hr fun _ _ _ X s => XT.lneg X.here C.1 rfl (hb C.2.2.2.1 hd) rfl (hq ▸ s)
theorem Go.i2l (C : Cx Z x code maxL ret E) {u : Int32} (hd : decode code pc = .ok (.i2l, 1)) (hq : pc + 1 = q) (hr : Go l Z R E Q M k n q Ls (.long u.toInt64 :: st)) : Go l Z R E Q M k n pc Ls (.int u :: st) :=
  Go.plain hr fun _ _ _ X s => XT.i2l X.here C.1 rfl (hb C.2.2.2.1 hd) rfl (hq ▸ s)
theorem Go.l2i (C : Cx Z x code maxL ret E) {u : Int64} (hd : decode code pc = .ok (.l2i, 1)) (hq : pc + 1 = q) (hr : Go l Z R E Q M k n q Ls (.int u.toInt32 :: st)) : Go l Z R E Q M k n pc Ls (.long u :: st) :=
  Go.plain hr fun _ _ _ X s => XT.l2i X.here C.1 rfl (hb C.2.2.2.1 hd) rfl (hq ▸ s)
theorem Go.i2b (C : Cx Z x code maxL ret E) {u : Int32} (hd : decode code pc = .ok (.i2b, 1)) (hq : pc + 1 = q) (hr : Go l Z R E Q M k n q Ls (.int u.toInt8.toInt32 :: st)) : Go l Z R E Q M k n pc Ls (.int u :: st) :=
  Go.plain hr fun _ _ _ X s => XT.i2b X.here C.1 rfl (hb C.2.2.2.1 hd) rfl (hq ▸ s)
theorem Go.i2c (C : Cx Z x code maxL ret E) {u : Int32} (hd : decode code pc = .ok (.i2c, 1)) (hq : pc + 1 = q) (hr : Go l Z R E Q M k n q Ls (.int u.toUInt32.toUInt16.toUInt32.toInt32 :: st)) : Go l Z R E Q M k n pc Ls (.int u :: st) :=
  Go.plain hr fun _ _ _ X s => XT.i2c X.here C.1 rfl (hb C.2.2.2.1 hd) rfl (hq ▸ s)
theorem Go.i2s (C : Cx Z x code maxL ret E) {u : Int32} (hd : decode code pc = .ok (.i2s, 1)) (hq : pc + 1 = q) (hr : Go l Z R E Q M k n q Ls (.int u.toInt16.toInt32 :: st)) : Go l Z R E Q M k n pc Ls (.int u :: st) :=
  Go.plain hr fun _ _ _ X s => XT.i2s X.here C.1 rfl (hb C.2.2.2.1 hd) rfl (hq ▸ s)
theorem Go.lrem (C : Cx Z x code maxL ret E) {u v : Int64} (hd : decode code pc = .ok (.lrem, 1)) (hq : pc + 1 = q) (hv : v ≠ 0) (hr : Go l Z R E Q M k n q Ls (.long (u - u / v * v) :: st)) : Go l Z R E Q M k n pc Ls (.long v :: .long u :: st) :=
  Go.plain hr fun _ _ _ X s => XT.lrem X.here C.1 rfl (hb C.2.2.2.1 hd) rfl hv (hq ▸ s)
theorem Go.idiv (C : Cx Z x code maxL ret E) {u v : Int32} (hd : decode code pc = .ok (.idiv, 1)) (hq : pc + 1 = q) (hv : v ≠ 0) (hr : Go l Z R E Q M k n q Ls (.int (u / v) :: st)) : Go l Z R E Q M k n pc Ls (.int v :: .int u :: st) :=
  Go.plain hr fun _ _ _ X s => XS.idiv X.here C.1 rfl (hb C.2.2.2.1 hd) rfl hv (hq ▸ s)
theorem Go.irem (C : Cx Z x code maxL ret E) {u v : Int32} (hd : decode code pc = .ok (.irem, 1)) (hq : pc + 1 = q) (hv : v ≠ 0) (hr : Go l Z R E Q M k n q Ls (.int (u % v) :: st)) : Go l Z R E Q M k n pc Ls (.int v :: .int u :: st) :=
  Go.plain hr fun _ _ _ X s => iremM X C.1 rfl (hb C.2.2.2.1 hd) rfl hv (hq ▸ s)
theorem Go.ldiv (C : Cx Z x code maxL ret E) {u v : Int64} (hd : decode code pc = .ok (.ldiv, 1)) (hq : pc + 1 = q) (hv : v ≠ 0) (hr : Go l Z R E Q M k n q Ls (.long (u / v) :: st)) : Go l Z R E Q M k n pc Ls (.long v :: .long u :: st) :=
  Go.plain hr fun _ _ _ X s => XT.ldiv X.here C.1 rfl (hb C.2.2.2.1 hd) rfl hv (hq ▸ s)
theorem Go.iinc (C : Cx Z x code maxL ret E) {j : Nat} {i : Int} {u v : Int32} (hd : decode code pc = .ok (.iinc j i, 3)) (hq : pc + 3 = q) (hl : Ls[j]? = some (.val (.int u))) (hv : u + Int32.ofInt i = v) (hl' : storeLocals Ls j (.int v) = some Ls') (hr : Go l Z R E Q M k n q Ls' st) : Go l Z R E Q M k n pc Ls st :=
  Go.plain hr fun _ _ _ X s => XS.iinc X.here C.1 rfl (hb C.2.2.2.1 hd) hl (hv ▸ hl') (hq ▸ s)
theorem Go.goto (C : Cx Z x code maxL ret E) {o : Int} (hd : decode code pc = .ok (.goto o, 3)) (ho : 0 ≤ (pc : Int) + o) (hq : ((pc : Int) + o).toNat = q) (hr : Go l Z R E Q M k n q Ls st) : Go l Z R E Q M k n pc Ls st :=
  Go.plain hr fun _ _ _ X s => XS.goto X.here C.1 rfl rfl (hb C.2.2.2.1 hd) ho hq s
theorem Go.ifYes (C : Cx Z x code maxL ret E) {cd : ClassFile.Cond} {o : Int} {u : Int32} (hd : decode code pc = .ok (.ifCond cd o, 3)) (ho : 0 ≤ (pc : Int) + o) (hq : ((pc : Int) + o).toNat = q) (hc : ifCond.holds cd u = true) (hr : Go l Z R E Q M k n q Ls st) : Go l Z R E Q M k n pc Ls (.int u :: st) :=
  Go.plain hr fun _ _ _ X s => XS.ifYes X.here C.1 rfl rfl (hb C.2.2.2.1 hd) rfl hc ho hq s
theorem Go.ifNo (C : Cx Z x code maxL ret E) {cd : ClassFile.Cond} {o : Int} {u : Int32} (hd : decode code pc = .ok (.ifCond cd o, 3)) (hq : pc + 3 = q) (hc : ifCond.holds cd u = false) (hr : Go l Z R E Q M k n q Ls st) : Go l Z R E Q M k n pc Ls (.int u :: st) :=
  Go.plain hr fun _ _ _ X s => XS.ifNo X.here C.1 rfl (hb C.2.2.2.1 hd) rfl hc (hq ▸ s)
theorem Go.icmpYes (C : Cx Z x code maxL ret E) {cd : ClassFile.Cond} {o : Int} {u v : Int32} (hd : decode code pc = .ok (.if_icmp cd o, 3)) (ho : 0 ≤ (pc : Int) + o) (hq : ((pc : Int) + o).toNat = q) (hc : if_icmp.holds cd u v = true) (hr : Go l Z R E Q M k n q Ls st) : Go l Z R E Q M k n pc Ls (.int v :: .int u :: st) :=
  Go.plain hr fun _ _ _ X s => XS.icmpYes X.here C.1 rfl rfl (hb C.2.2.2.1 hd) rfl hc ho hq s
theorem Go.icmpNo (C : Cx Z x code maxL ret E) {cd : ClassFile.Cond} {o : Int} {u v : Int32} (hd : decode code pc = .ok (.if_icmp cd o, 3)) (hq : pc + 3 = q) (hc : if_icmp.holds cd u v = false) (hr : Go l Z R E Q M k n q Ls st) : Go l Z R E Q M k n pc Ls (.int v :: .int u :: st) :=
  Go.plain hr fun _ _ _ X s => XS.icmpNo X.here C.1 rfl (hb C.2.2.2.1 hd) rfl hc (hq ▸ s)
theorem Go.acmpYes (C : Cx Z x code maxL ret E) {cd : ClassFile.ACond} {o : Int} {u v : Value} (hd : decode code pc = .ok (.if_acmp cd o, 3)) (ho : 0 ≤ (pc : Int) + o) (hq : ((pc : Int) + o).toNat = q) (hu : u.isRef = true) (hv : v.isRef = true) (hc : XT.acmp cd u v = true) (hr : Go l Z R E Q M k n q Ls st) : Go l Z R E Q M k n pc Ls (v :: u :: st) :=
  Go.plain hr fun _ _ _ X s => XT.acmpYes X.here C.1 rfl rfl (hb C.2.2.2.1 hd) rfl hu hv hc ho hq s
theorem Go.acmpNo (C : Cx Z x code maxL ret E) {cd : ClassFile.ACond} {o : Int} {u v : Value} (hd : decode code pc = .ok (.if_acmp cd o, 3)) (hq : pc + 3 = q) (hu : u.isRef = true) (hv : v.isRef = true) (hc : XT.acmp cd u v = false) (hr : Go l Z R E Q M k n q Ls st) : Go l Z R E Q M k n pc Ls (v :: u :: st) :=
  Go.plain hr fun _ _ _ X s => XT.acmpNo X.here C.1 rfl (hb C.2.2.2.1 hd) rfl hu hv hc (hq ▸ s)
theorem Go.nullYes (C : Cx Z x code maxL ret E) {o : Int} {v : Value} (hd : decode code pc = .ok (.ifnull o, 3)) (ho : 0 ≤ (pc : Int) + o) (hq : ((pc : Int) + o).toNat = q) (hv : v = .null) (hr : Go l Z R E Q M k n q Ls st) : Go l Z R E Q M k n pc Ls (v :: st) :=
  Go.plain hr fun _ _ _ X s => XT.nullYes X.here C.1 rfl rfl (hb C.2.2.2.1 hd) rfl hv ho hq s
theorem Go.nullNo (C : Cx Z x code maxL ret E) {o : Int} {v : Value} (hd : decode code pc = .ok (.ifnull o, 3)) (hq : pc + 3 = q) (hu : v.isRef = true) (hv : ¬ v = .null) (hr : Go l Z R E Q M k n q Ls st) : Go l Z R E Q M k n pc Ls (v :: st) :=
  Go.plain hr fun _ _ _ X s => XT.nullNo X.here C.1 rfl (hb C.2.2.2.1 hd) rfl hu hv (hq ▸ s)
theorem Go.nonnullYes (C : Cx Z x code maxL ret E) {o : Int} {v : Value} (hd : decode code pc = .ok (.ifnonnull o, 3)) (ho : 0 ≤ (pc : Int) + o) (hq : ((pc : Int) + o).toNat = q) (hu : v.isRef = true) (hv : ¬ v = .null) (hr : Go l Z R E Q M k n q Ls st) : Go l Z R E Q M k n pc Ls (v :: st) :=
  Go.plain hr fun _ _ _ X s => XT.nonnullYes X.here C.1 rfl rfl (hb C.2.2.2.1 hd) rfl hu hv ho hq s
theorem Go.nonnullNo (C : Cx Z x code maxL ret E) {o : Int} {v : Value} (hd : decode code pc = .ok (.ifnonnull o, 3)) (hq : pc + 3 = q) (hv : v = .null) (hr : Go l Z R E Q M k n q Ls st) : Go l Z R E Q M k n pc Ls (v :: st) :=
  Go.plain hr fun _ _ _ X s => XT.nonnullNo X.here C.1 rfl (hb C.2.2.2.1 hd) rfl hv (hq ▸ s)
def icP : ClassFile.Cond → Int32 → Prop
  | .eq, u => u = 0 | .ne, u => ¬ u = 0 | .lt, u => u < 0 | .ge, u => ¬ u < 0 | .gt, u => 0 < u | .le, u => ¬ 0 < u
def icN : ClassFile.Cond → Int32 → Prop
  | .eq, u => ¬ u = 0 | .ne, u => u = 0 | .lt, u => ¬ u < 0 | .ge, u => u < 0 | .gt, u => ¬ 0 < u | .le, u => 0 < u
def iiP : ClassFile.Cond → Int32 → Int32 → Prop
  | .eq, u, v => u = v | .ne, u, v => ¬ u = v | .lt, u, v => u < v | .ge, u, v => ¬ u < v | .gt, u, v => v < u | .le, u, v => ¬ v < u
def iiN : ClassFile.Cond → Int32 → Int32 → Prop
  | .eq, u, v => ¬ u = v | .ne, u, v => u = v | .lt, u, v => ¬ u < v | .ge, u, v => u < v | .gt, u, v => ¬ v < u | .le, u, v => v < u
def llP : ClassFile.Cond → Int64 → Int64 → Prop
  | .eq, u, v => u = v | .ne, u, v => ¬ u = v | .lt, u, v => u < v | .ge, u, v => ¬ u < v | .gt, u, v => v < u | .le, u, v => ¬ v < u
def llN : ClassFile.Cond → Int64 → Int64 → Prop
  | .eq, u, v => ¬ u = v | .ne, u, v => u = v | .lt, u, v => ¬ u < v | .ge, u, v => u < v | .gt, u, v => ¬ v < u | .le, u, v => v < u
theorem ic_or (cd : ClassFile.Cond) (u : Int32) : (ifCond.holds cd u = true ∧ icP cd u) ∨ (ifCond.holds cd u = false ∧ icN cd u) := by
  cases cd
  · by_cases h : u = 0
    · exact Or.inl ⟨XT.i0_eq_t h, h⟩
    · exact Or.inr ⟨XT.i0_eq_f h, h⟩
  · by_cases h : u = 0
    · exact Or.inr ⟨XT.i0_ne_f h, h⟩
    · exact Or.inl ⟨XT.i0_ne_t h, h⟩
  · by_cases h : u < 0
    · exact Or.inl ⟨XT.i0_lt_t h, h⟩
    · exact Or.inr ⟨XT.i0_lt_f h, h⟩
  · by_cases h : u < 0
    · exact Or.inr ⟨XT.i0_ge_f h, h⟩
    · exact Or.inl ⟨XT.i0_ge_t h, h⟩
  · by_cases h : 0 < u
    · exact Or.inl ⟨XT.i0_gt_t h, h⟩
    · exact Or.inr ⟨XT.i0_gt_f h, h⟩
  · by_cases h : 0 < u
    · exact Or.inr ⟨XT.i0_le_f h, h⟩
    · exact Or.inl ⟨XT.i0_le_t h, h⟩
theorem ii_or (cd : ClassFile.Cond) (u v : Int32) : (if_icmp.holds cd u v = true ∧ iiP cd u v) ∨ (if_icmp.holds cd u v = false ∧ iiN cd u v) := by
  cases cd
  · by_cases h : u = v
    · exact Or.inl ⟨XT.ii_eq_t h, h⟩
    · exact Or.inr ⟨XT.ii_eq_f h, h⟩
  · by_cases h : u = v
    · exact Or.inr ⟨XT.ii_ne_f h, h⟩
    · exact Or.inl ⟨XT.ii_ne_t h, h⟩
  · by_cases h : u < v
    · exact Or.inl ⟨XT.ii_lt_t h, h⟩
    · exact Or.inr ⟨XT.ii_lt_f h, h⟩
  · by_cases h : u < v
    · exact Or.inr ⟨XT.ii_ge_f h, h⟩
    · exact Or.inl ⟨XT.ii_ge_t h, h⟩
  · by_cases h : v < u
    · exact Or.inl ⟨XT.ii_gt_t h, h⟩
    · exact Or.inr ⟨XT.ii_gt_f h, h⟩
  · by_cases h : v < u
    · exact Or.inr ⟨XT.ii_le_f h, h⟩
    · exact Or.inl ⟨XT.ii_le_t h, h⟩
theorem ll_or (cd : ClassFile.Cond) (u v : Int64) : (ifCond.holds cd (XT.cmpL u v) = true ∧ llP cd u v) ∨ (ifCond.holds cd (XT.cmpL u v) = false ∧ llN cd u v) := by
  cases cd
  · by_cases h : u = v
    · exact Or.inl ⟨XT.ll_eq_t h, h⟩
    · exact Or.inr ⟨XT.ll_eq_f h, h⟩
  · by_cases h : u = v
    · exact Or.inr ⟨XT.ll_ne_f h, h⟩
    · exact Or.inl ⟨XT.ll_ne_t h, h⟩
  · by_cases h : u < v
    · exact Or.inl ⟨XT.ll_lt_t h, h⟩
    · exact Or.inr ⟨XT.ll_lt_f h, h⟩
  · by_cases h : u < v
    · exact Or.inr ⟨XT.ll_ge_f h, h⟩
    · exact Or.inl ⟨XT.ll_ge_t h, h⟩
  · by_cases h : v < u
    · exact Or.inl ⟨XT.ll_gt_t h, h⟩
    · exact Or.inr ⟨XT.ll_gt_f h, h⟩
  · by_cases h : v < u
    · exact Or.inr ⟨XT.ll_le_f h, h⟩
    · exact Or.inl ⟨XT.ll_le_t h, h⟩
theorem Go.ifc (C : Cx Z x code maxL ret E) {cd : ClassFile.Cond} {o : Int} {u : Int32} {q' : Nat} (hd : decode code pc = .ok (.ifCond cd o, 3)) (ho : 0 ≤ (pc : Int) + o) (hq : ((pc : Int) + o).toNat = q) (hq' : pc + 3 = q')
    (h1 : icP cd u → Go l Z R E Q M k n q Ls st) (h2 : icN cd u → Go l Z R E Q M k n q' Ls st) : Go l Z R E Q M k n pc Ls (.int u :: st) := by
  rcases ic_or cd u with ⟨a, b⟩ | ⟨a, b⟩
  · exact Go.ifYes C hd ho hq a (h1 b)
  · exact Go.ifNo C hd hq' a (h2 b)
theorem Go.icmp (C : Cx Z x code maxL ret E) {cd : ClassFile.Cond} {o : Int} {u v : Int32} {q' : Nat} (hd : decode code pc = .ok (.if_icmp cd o, 3)) (ho : 0 ≤ (pc : Int) + o) (hq : ((pc : Int) + o).toNat = q) (hq' : pc + 3 = q')
    (h1 : iiP cd u v → Go l Z R E Q M k n q Ls st) (h2 : iiN cd u v → Go l Z R E Q M k n q' Ls st) : Go l Z R E Q M k n pc Ls (.int v :: .int u :: st) := by
  rcases ii_or cd u v with ⟨a, b⟩ | ⟨a, b⟩
  · exact Go.icmpYes C hd ho hq a (h1 b)
  · exact Go.icmpNo C hd hq' a (h2 b)
theorem Go.lcmp (C : Cx Z x code maxL ret E) {u v : Int64} (hd : decode code pc = .ok (.lcmp, 1)) (hq : pc + 1 = q) (hr : Go l Z R E Q M k n q Ls (.int (XT.cmpL u v) :: st)) : Go l Z R E Q M k n pc Ls (.long v :: .long u :: st) :=
  Go.plain hr fun _ _ _ X s => XT.lcmp X.here C.1 rfl (hb C.2.2.2.1 hd) rfl (hq ▸ s)
theorem Go.lcmpif (C : Cx Z x code maxL ret E) {cd : ClassFile.Cond} {o : Int} {u v : Int64} {p' q' : Nat} (hd : decode code pc = .ok (.lcmp, 1)) (hp : pc + 1 = p') (hd' : decode code p' = .ok (.ifCond cd o, 3)) (ho : 0 ≤ (p' : Int) + o) (hq : ((p' : Int) + o).toNat = q) (hq' : p' + 3 = q')
    (h1 : llP cd u v → Go l Z R E Q M k n q Ls st) (h2 : llN cd u v → Go l Z R E Q M k n q' Ls st) : Go l Z R E Q M k n pc Ls (.long v :: .long u :: st) := by
  refine Go.lcmp C hd hp ?_
  rcases ll_or cd u v with ⟨a, b⟩ | ⟨a, b⟩
  · exact Go.ifYes C hd' ho hq a (h1 b)
  · exact Go.ifNo C hd' hq' a (h2 b)
def acP : ClassFile.ACond → Value → Value → Prop
  | .eq, u, v => u = v | .ne, u, v => ¬ u = v
def acN : ClassFile.ACond → Value → Value → Prop
  | .eq, u, v => ¬ u = v | .ne, u, v => u = v
theorem ac_or (cd : ClassFile.ACond) (u v : Value) : (XT.acmp cd u v = true ∧ acP cd u v) ∨ (XT.acmp cd u v = false ∧ acN cd u v) := by
  cases cd
  · by_cases h : u = v
    · exact Or.inl ⟨XT.aa_eq_t h, h⟩
    · exact Or.inr ⟨XT.aa_eq_f h, h⟩
  · by_cases h : u = v
    · exact Or.inr ⟨XT.aa_ne_f h, h⟩
    · exact Or.inl ⟨XT.aa_ne_t h, h⟩
theorem Go.acmp (C : Cx Z x code maxL ret E) {cd : ClassFile.ACond} {o : Int} {u v : Value} {q' : Nat} (hd : decode code pc = .ok (.if_acmp cd o, 3)) (ho : 0 ≤ (pc : Int) + o) (hq : ((pc : Int) + o).toNat = q) (hq' : pc + 3 = q') (hu : u.isRef = true) (hv : v.isRef = true)
    (h1 : acP cd u v → Go l Z R E Q M k n q Ls st) (h2 : acN cd u v → Go l Z R E Q M k n q' Ls st) : Go l Z R E Q M k n pc Ls (v :: u :: st) := by
  rcases ac_or cd u v with ⟨a, b⟩ | ⟨a, b⟩
  · exact Go.acmpYes C hd ho hq hu hv a (h1 b)
  · exact Go.acmpNo C hd hq' hu hv a (h2 b)
theorem Go.tswIn (C : Cx Z x code maxL ret E) {dflt low high o : Int} {offs : Array Int} {len : Nat} {u : Int32} (hd : decode code pc = .ok (.tableswitch dflt low high offs, len)) (hin : ¬ (u.toInt < low ∨ u.toInt > high)) (hoff : offs[(u.toInt - low).toNat]? = some o) (ho : 0 ≤ (pc : Int) + o) (hq : ((pc : Int) + o).toNat = q) (hr : Go l Z R E Q M k n q Ls st) : Go l Z R E Q M k n pc Ls (.int u :: st) :=
  Go.plain hr fun _ _ _ X s => XS.tswIn X.here C.1 rfl rfl (hb C.2.2.2.1 hd) rfl hin hoff ho hq s
theorem Go.tswOut (C : Cx Z x code maxL ret E) {dflt low high : Int} {offs : Array Int} {len : Nat} {u : Int32} (hd : decode code pc = .ok (.tableswitch dflt low high offs, len)) (hout : u.toInt < low ∨ u.toInt > high) (ho : 0 ≤ (pc : Int) + dflt) (hq : ((pc : Int) + dflt).toNat = q) (hr : Go l Z R E Q M k n q Ls st) : Go l Z R E Q M k n pc Ls (.int u :: st) :=
  Go.plain hr fun _ _ _ X s => XS.tswOut X.here C.1 rfl rfl (hb C.2.2.2.1 hd) rfl hout ho hq s
/-! the heap -/
theorem Go.getS (C : Cx Z x code maxL ret E) {idx : Nat} {R0 O nm d host : String} {v : Value} (w : (Cond.fieldLink x.cls idx R0 nm d).before a0 Z = true ∨ (Cond.fieldLinkNest x.cls idx R0 nm d host).before a0 Z = true) (via : Via Z R0 O nm d) (S : Sta Z Z.heap O nm d v) (hd : decode code pc = .ok (.getstatic idx, 3)) (hq : pc + 3 = q) (hr : Go l Z R E Q M k n q Ls (v :: st)) : Go l Z R E Q M k n pc Ls st := by
  intro T locs X F r
  obtain ⟨T', X', e', s'⟩ := RoadKit.getS2 X C.1 C.2.1 C.2.2.1 w via rfl (S.ext r.1) (g := mkF E.2.2.2.1 pc Ls st) rfl (hb C.2.2.2.1 hd)
  obtain ⟨s₂, v, L, h1, h2⟩ := hr T' locs X' F (by rw [e']; exact r)
  exact ⟨s₂, v, L, s' _ (hq ▸ h1), h2⟩
theorem Go.getF (C : Cx Z x code maxL ret E) {idx : Nat} {R0 O nm d host : String} {a : Addr} {v : Value} (w : (Cond.fieldLink x.cls idx R0 nm d).before a0 Z = true ∨ (Cond.fieldLinkNest x.cls idx R0 nm d host).before a0 Z = true) (via : Via Z R0 O nm d) (H : ∀ h, Rep Z h M → Fld Z h a O nm d v) (hd : decode code pc = .ok (.getfield idx, 3)) (hq : pc + 3 = q) (hr : Go l Z R E Q M k n q Ls (v :: st)) : Go l Z R E Q M k n pc Ls (.ref a :: st) := by
  intro T locs X F r
  obtain ⟨T', X', e', s'⟩ := RoadKit.getF X C.1 C.2.1 C.2.2.1 w via rfl (H _ r) (g := mkF E.2.2.2.1 pc Ls (.ref a :: st)) rfl rfl (hb C.2.2.2.1 hd)
  obtain ⟨s₂, v, L, h1, h2⟩ := hr T' locs X' F (by rw [e']; exact r)
  exact ⟨s₂, v, L, s' _ (hq ▸ h1), h2⟩
theorem Go.putF (C : Cx Z x code maxL ret E) {idx kk i j : Nat} {R0 O nm d host K : String} {a : Addr} {v old : Value} {fs : Fs} {ty : FieldType} {M' : List Ent} (w : (Cond.fieldLink x.cls idx R0 nm d).before a0 Z = true ∨ (Cond.fieldLinkNest x.cls idx R0 nm d host).before a0 Z = true) (via : Via Z R0 O nm d)
    (hi : M[i]? = some (a, .inl (K, fs))) (hj : fs[j]? = some ((O, nm, d), old)) (L : (Cond.lays K O nm d).before a0 Z = true ∨ ((Cond.laysFinal K O nm d).before a0 Z = true ∧ x.cls = O ∧ x.name = "<init>")) (wi : (Cond.instantiable K kk).before a0 Z = true)
    (hty : parseFieldDescriptor d = some ty) (hn : narrow ty v = v) (hf : fits ty v = true) (hd : decode code pc = .ok (.putfield idx, 3)) (hq : pc + 3 = q) (hM : M.set i (a, .inl (K, fs.set j ((O, nm, d), v))) = M') (hr : Go l Z R E Q M' k n q Ls st) : Go l Z R E Q M k n pc Ls (v :: .ref a :: st) := by
  intro T locs X F r
  have Fl := r.fld i j hi hj
  obtain ⟨T', h', X', e', W, s'⟩ := RoadKit.putF X C.1 C.2.1 C.2.2.1 w via rfl Fl (r.exa i hi) (L.imp id fun q => ⟨q.1, q.2.1, C.2.2.2.2.2.2.2.trans q.2.2⟩) wi hty hn hf (g := mkF E.2.2.2.1 pc Ls (v :: .ref a :: st)) rfl rfl (hb C.2.2.2.1 hd)
  obtain ⟨s₂, v, L, h1, h2⟩ := hr T' _ X' (Fr.snoc X' F (r.fresh hi)) (by rw [e', ← hM]; exact r.wrote hi W ((r.2.1 i _ hi).2.put hj W))
  exact ⟨s₂, v, L, s' _ (hq ▸ h1), h2⟩
def LaidAll (Z : State) (a0 : Array Value) (K : String) : Fs → Prop
  | [] => True
  | f :: r => (Laid Z a0 K f.1.1 f.1.2.1 f.1.2.2 ∧ ∃ ty, parseFieldDescriptor f.1.2.2 = some ty ∧ f.2 = defaultValue ty) ∧ LaidAll Z a0 K r
theorem LaidAll.at {K : String} : ∀ {fs : Fs}, LaidAll Z a0 K fs → ∀ f ∈ fs, Laid Z a0 K f.1.1 f.1.2.1 f.1.2.2 ∧ ∃ ty, parseFieldDescriptor f.1.2.2 = some ty ∧ f.2 = defaultValue ty
  | _ :: _, H, f, hf => by
    rcases List.mem_cons.mp hf with rfl | q
    · exact H.1
    · exact H.2.at f q
theorem LaidAll.nodup {K : String} : ∀ {fs : Fs}, LaidAll Z a0 K fs → (fs.map fun f => f.1.2.1).Nodup → (fs.map fun f => slK Z f.1).Nodup
  | [], _, _ => List.nodup_nil
  | f :: r, H, hn => by
    rw [List.map_cons, List.nodup_cons] at hn ⊢
    refine ⟨fun m => ?_, H.2.nodup hn.2⟩
    obtain ⟨g, hg, e⟩ := List.mem_map.mp m
    obtain ⟨Lg, tg, pg, -⟩ := H.2.at g hg
    obtain ⟨Lf, tf, pf, -⟩ := H.1
    refine slot_ne Lg Lf (fun q => hn.1 ?_) pg pf e
    exact List.mem_map.mpr ⟨g, hg, q⟩
theorem Go.new (C : Cx Z x code maxL ret E) {idx n1 k' n' : Nat} {K : String} (w1 : (Cond.classLink x.cls idx K).before a0 Z = true) (w2 : (Cond.instantiable K n1).before a0 Z = true) (w3 : (Cond.initialized K).before a0 Z = true) (fs : Fs) (Lf : LaidAll Z a0 K fs) (hnd : (fs.map fun f => f.1.2.1).Nodup)
    (hd : decode code pc = .ok (.new idx, 3)) (hq : pc + 3 = q) (hc : k + 1 ≤ R.cells) (hs : n + n1 ≤ R.slots) (hk : k + 1 = k') (hn : n + n1 = n') (hr : ∀ a, Go l Z R E Q ((a, .inl (K, fs)) :: M) k' n' q Ls (.ref a :: st)) : Go l Z R E Q M k n pc Ls st := by
  intro T locs X F r
  obtain ⟨T', h', X', e', Ex, A, D, -, s'⟩ := newO X C.1 C.2.1 C.2.2.1 w1 w2 w3 rfl (g := mkF E.2.2.2.1 pc Ls st) rfl (hb C.2.2.2.1 hd) hc hs
  subst hk hn
  obtain ⟨s₂, v, L, h1, h2⟩ := hr _ T' _ X' F (by
    rw [e']
    refine r.new Ex rfl ⟨A, fun i f hf => ?_, Lf.nodup hnd⟩
    obtain ⟨La, ty, hp, hv⟩ := Lf.at f (List.mem_of_getElem? hf)
    rw [hv]
    exact D La hp)
  exact ⟨s₂, v, L, s' _ (hq ▸ h1), h2⟩
theorem Go.initO (C : Cx Z x code maxL ret E) {idx : Nat} {a : Addr} (w1 : (Cond.methodLink x.cls idx Lib.objectInit).before a0 Z = true) (w2 : (Cond.instanceMethod Lib.objectInit).before a0 Z = true) (w3 : (Cond.code Lib.objectInit ⟨#[0xb1]⟩ 1 none).before a0 Z = true) (hd : decode code pc = .ok (.invokespecial idx, 3)) (hq : pc + 3 = q) (hsz : Ls.size = maxL) (hf : 1 ≤ R.frames) {W : Nat} (hW : (st.map fun v => v.category).sum = W) (hl : W + 12 ≤ R.locals)
    (hr : Go l Z R E Q M k n q Ls st) : Go l Z R E Q M k n pc Ls (.ref a :: st) := by
  subst hW
  intro T locs X F r
  obtain ⟨T', X', e', s'⟩ := RoadKit.initO X C.1 C.2.1 C.2.2.1 w1 w2 w3 rfl (g := mkF E.2.2.2.1 pc Ls (.ref a :: st)) rfl (hsz.trans C.2.2.2.2.1.symm) rfl (hb C.2.2.2.1 hd) hf (W := (st.map fun v => v.category).sum) (by show 2 * 0 + _ ≤ _; omega) hl
  obtain ⟨s₂, v, L, h1, h2⟩ := hr T' locs X' F (by rw [e']; exact r)
  exact ⟨s₂, v, L, s' _ (hq ▸ h1), h2⟩
/-- an array that is owned, or that stood at the start -/
def ArrIs (Z : State) (h : Heap) (a : Addr) (ty : FieldType) (vs : List Value) : Prop := ∃ c : Cell, Arr Z h a c ty ∧ c.slots.toList = vs
theorem Rep.arr {h : Heap} {a : Addr} {ty : FieldType} {vs : List Value} (r : Rep Z h M) (i : Nat) (hi : M[i]? = some (a, .inr (ty, vs))) : ArrIs Z h a ty vs := by
  obtain ⟨c, A, e, -⟩ := (r.2.1 i _ hi).2
  exact ⟨c, A, e⟩
theorem ArrIs.ext {h h' : Heap} {a : Addr} {ty : FieldType} {vs : List Value} (A : ArrIs Z h a ty vs) (E : Ext h h') : ArrIs Z h' a ty vs := by
  obtain ⟨c, A, e⟩ := A
  exact ⟨c, A.ext E, e⟩
theorem in_of {c : Cell} {vs : List Value} {j : Int32} {v : Value} (e : c.slots.toList = vs) (h0 : ¬ j < 0) (hv : vs[j.toNatClampNeg]? = some v) : ¬ (j < 0 ∨ c.slots.size ≤ j.toNatClampNeg) ∧ c.slots[j.toNatClampNeg]? = some v := by
  subst e
  rw [Array.getElem?_toList] at hv
  have := (Array.getElem?_eq_some_iff.mp hv).1
  exact ⟨fun q => q.elim h0 fun q => by omega, hv⟩
theorem Go.arraylength (C : Cx Z x code maxL ret E) {a : Addr} {ty : FieldType} {vs : List Value} {z : Int32} (H : ∀ h, Rep Z h M → ArrIs Z h a ty vs) (hz : vs.length.toInt32 = z) (hd : decode code pc = .ok (.arraylength, 1)) (hq : pc + 1 = q) (hr : Go l Z R E Q M k n q Ls (.int z :: st)) : Go l Z R E Q M k n pc Ls (.ref a :: st) := by
  intro T locs X F r
  obtain ⟨c, A, e⟩ := H _ r
  obtain ⟨s₂, v, L, h1, h2⟩ := hr T locs X F r
  refine ⟨s₂, v, L, Stand.arraylength X C.1 A.1 (State.isArrayOf_alike C.2.1.alike A.2.1) (g := mkF E.2.2.2.1 pc Ls (.ref a :: st)) rfl rfl (hb C.2.2.2.1 hd) _ ?_, h2⟩
  have : c.slots.size.toInt32 = z := by rw [← hz, ← e, Array.length_toList]
  rw [this]
  exact hq ▸ h1
theorem Go.iaload (C : Cx Z x code maxL ret E) {a : Addr} {vs : List Value} {j : Int32} {v : Value} (H : ∀ h, Rep Z h M → ArrIs Z h a .int vs) (h0 : ¬ j < 0) (hv : vs[j.toNatClampNeg]? = some v) (hd : decode code pc = .ok (.iaload, 1)) (hq : pc + 1 = q) (hr : Go l Z R E Q M k n q Ls (v :: st)) : Go l Z R E Q M k n pc Ls (.int j :: .ref a :: st) := by
  intro T locs X F r
  obtain ⟨c, A, e⟩ := H _ r
  obtain ⟨g1, g2⟩ := in_of e h0 hv
  obtain ⟨s₂, v, L, h1, h2⟩ := hr T locs X F r
  exact ⟨s₂, v, L, Stand.iaload X C.1 A.1 (State.isArrayOf_alike C.2.1.alike A.2.1) A.2.2 g1 g2 (g := mkF E.2.2.2.1 pc Ls (.int j :: .ref a :: st)) rfl rfl (hb C.2.2.2.1 hd) _ (hq ▸ h1), h2⟩
theorem Go.laload (C : Cx Z x code maxL ret E) {a : Addr} {vs : List Value} {j : Int32} {v : Value} (H : ∀ h, Rep Z h M → ArrIs Z h a .long vs) (h0 : ¬ j < 0) (hv : vs[j.toNatClampNeg]? = some v) (hd : decode code pc = .ok (.laload, 1)) (hq : pc + 1 = q) (hr : Go l Z R E Q M k n q Ls (v :: st)) : Go l Z R E Q M k n pc Ls (.int j :: .ref a :: st) := by
  intro T locs X F r
  obtain ⟨c, A, e⟩ := H _ r
  obtain ⟨g1, g2⟩ := in_of e h0 hv
  obtain ⟨s₂, v, L, h1, h2⟩ := hr T locs X F r
  exact ⟨s₂, v, L, Stand.laload X C.1 A.1 (State.isArrayOf_alike C.2.1.alike A.2.1) A.2.2 g1 g2 (g := mkF E.2.2.2.1 pc Ls (.int j :: .ref a :: st)) rfl rfl (hb C.2.2.2.1 hd) _ (hq ▸ h1), h2⟩
theorem Go.caload (C : Cx Z x code maxL ret E) {a : Addr} {vs : List Value} {j : Int32} {v : Value} (H : ∀ h, Rep Z h M → ArrIs Z h a .char vs) (h0 : ¬ j < 0) (hv : vs[j.toNatClampNeg]? = some v) (hd : decode code pc = .ok (.caload, 1)) (hq : pc + 1 = q) (hr : Go l Z R E Q M k n q Ls (v :: st)) : Go l Z R E Q M k n pc Ls (.int j :: .ref a :: st) := by
  intro T locs X F r
  obtain ⟨c, A, e⟩ := H _ r
  obtain ⟨g1, g2⟩ := in_of e h0 hv
  obtain ⟨s₂, v, L, h1, h2⟩ := hr T locs X F r
  exact ⟨s₂, v, L, Stand.caload X C.1 A.1 (State.isArrayOf_alike C.2.1.alike A.2.1) A.2.2 g1 g2 (g := mkF E.2.2.2.1 pc Ls (.int j :: .ref a :: st)) rfl rfl (hb C.2.2.2.1 hd) _ (hq ▸ h1), h2⟩
theorem Go.saload (C : Cx Z x code maxL ret E) {a : Addr} {vs : List Value} {j : Int32} {v : Value} (H : ∀ h, Rep Z h M → ArrIs Z h a .short vs) (h0 : ¬ j < 0) (hv : vs[j.toNatClampNeg]? = some v) (hd : decode code pc = .ok (.saload, 1)) (hq : pc + 1 = q) (hr : Go l Z R E Q M k n q Ls (v :: st)) : Go l Z R E Q M k n pc Ls (.int j :: .ref a :: st) := by
  intro T locs X F r
  obtain ⟨c, A, e⟩ := H _ r
  obtain ⟨g1, g2⟩ := in_of e h0 hv
  obtain ⟨s₂, v, L, h1, h2⟩ := hr T locs X F r
  exact ⟨s₂, v, L, Stand.saload X C.1 A.1 (State.isArrayOf_alike C.2.1.alike A.2.1) A.2.2 g1 g2 (g := mkF E.2.2.2.1 pc Ls (.int j :: .ref a :: st)) rfl rfl (hb C.2.2.2.1 hd) _ (hq ▸ h1), h2⟩
theorem Go.baload (C : Cx Z x code maxL ret E) {a : Addr} {vs : List Value} {j : Int32} {v : Value} (H : ∀ h, Rep Z h M → ArrIs Z h a .byte vs) (h0 : ¬ j < 0) (hv : vs[j.toNatClampNeg]? = some v) (hd : decode code pc = .ok (.baload, 1)) (hq : pc + 1 = q) (hr : Go l Z R E Q M k n q Ls (v :: st)) : Go l Z R E Q M k n pc Ls (.int j :: .ref a :: st) := by
  intro T locs X F r
  obtain ⟨c, A, e⟩ := H _ r
  obtain ⟨g1, g2⟩ := in_of e h0 hv
  obtain ⟨s₂, v, L, h1, h2⟩ := hr T locs X F r
  exact ⟨s₂, v, L, Stand.baloadBytes X C.1 A.1 (State.isArrayOf_alike C.2.1.alike A.2.1) A.2.2 g1 g2 (g := mkF E.2.2.2.1 pc Ls (.int j :: .ref a :: st)) rfl rfl (hb C.2.2.2.1 hd) _ (hq ▸ h1), h2⟩
theorem Go.zaload (C : Cx Z x code maxL ret E) {a : Addr} {vs : List Value} {j : Int32} {v : Value} (H : ∀ h, Rep Z h M → ArrIs Z h a .boolean vs) (h0 : ¬ j < 0) (hv : vs[j.toNatClampNeg]? = some v) (hd : decode code pc = .ok (.baload, 1)) (hq : pc + 1 = q) (hr : Go l Z R E Q M k n q Ls (v :: st)) : Go l Z R E Q M k n pc Ls (.int j :: .ref a :: st) := by
  intro T locs X F r
  obtain ⟨c, A, e⟩ := H _ r
  obtain ⟨g1, g2⟩ := in_of e h0 hv
  obtain ⟨s₂, v, L, h1, h2⟩ := hr T locs X F r
  exact ⟨s₂, v, L, Stand.baloadBooleans X C.1 A.1 (State.isArrayOf_alike C.2.1.alike A.2.1) A.2.2 g1 g2 (g := mkF E.2.2.2.1 pc Ls (.int j :: .ref a :: st)) rfl rfl (hb C.2.2.2.1 hd) _ (hq ▸ h1), h2⟩
theorem Go.aaload (C : Cx Z x code maxL ret E) {a : Addr} {ty : FieldType} {vs : List Value} {j : Int32} {v : Value} (H : ∀ h, Rep Z h M → ArrIs Z h a ty vs) (hty : ty.isReference = true) (h0 : ¬ j < 0) (hv : vs[j.toNatClampNeg]? = some v) (hd : decode code pc = .ok (.aaload, 1)) (hq : pc + 1 = q) (hr : Go l Z R E Q M k n q Ls (v :: st)) : Go l Z R E Q M k n pc Ls (.int j :: .ref a :: st) := by
  intro T locs X F r
  obtain ⟨c, A, e⟩ := H _ r
  obtain ⟨g1, g2⟩ := in_of e h0 hv
  obtain ⟨s₂, v, L, h1, h2⟩ := hr T locs X F r
  exact ⟨s₂, v, L, Stand.aaload X C.1 A.1 (State.isArrayOf_alike C.2.1.alike A.2.1) hty A.2.2 g1 g2 (g := mkF E.2.2.2.1 pc Ls (.int j :: .ref a :: st)) rfl rfl (hb C.2.2.2.1 hd) _ (hq ▸ h1), h2⟩
theorem Go.iastore (C : Cx Z x code maxL ret E) {a : Addr} {vs : List Value} {i : Nat} {j : Int32} {w : Int32} {w' : Value} {M' : List Ent} (hi : M[i]? = some (a, .inr (.int, vs))) (h0 : ¬ j < 0) (hv : j.toNatClampNeg < vs.length) (hw : .int w = w') (hd : decode code pc = .ok (.iastore, 1)) (hq : pc + 1 = q) (hM : M.set i (a, .inr (.int, vs.set j.toNatClampNeg w')) = M') (hr : Go l Z R E Q M' k n q Ls st) : Go l Z R E Q M k n pc Ls (.int w :: .int j :: .ref a :: st) := by
  intro T locs X F r
  subst hw
  obtain ⟨c, A, e, o⟩ := (r.2.1 i _ hi).2
  have g1 : ¬ (j < 0 ∨ c.slots.size ≤ j.toNatClampNeg) := fun q => q.elim h0 fun q => by rw [← e, Array.length_toList] at hv; omega
  obtain ⟨T', h', X', e', W, s'⟩ := stI X C.1 C.2.1 rfl A g1 (g := mkF E.2.2.2.1 pc Ls (.int w :: .int j :: .ref a :: st)) rfl rfl (hb C.2.2.2.1 hd)
  obtain ⟨s₂, v, L, h1, h2⟩ := hr T' _ X' (Fr.snoc X' F (r.fresh hi)) (by rw [e', ← hM]; exact r.wrote hi W ((r.2.1 i _ hi).2.store W))
  exact ⟨s₂, v, L, s' _ (hq ▸ h1), h2⟩
theorem Go.lastore (C : Cx Z x code maxL ret E) {a : Addr} {vs : List Value} {i : Nat} {j : Int32} {w : Int64} {w' : Value} {M' : List Ent} (hi : M[i]? = some (a, .inr (.long, vs))) (h0 : ¬ j < 0) (hv : j.toNatClampNeg < vs.length) (hw : .long w = w') (hd : decode code pc = .ok (.lastore, 1)) (hq : pc + 1 = q) (hM : M.set i (a, .inr (.long, vs.set j.toNatClampNeg w')) = M') (hr : Go l Z R E Q M' k n q Ls st) : Go l Z R E Q M k n pc Ls (.long w :: .int j :: .ref a :: st) := by
  intro T locs X F r
  subst hw
  obtain ⟨c, A, e, o⟩ := (r.2.1 i _ hi).2
  have g1 : ¬ (j < 0 ∨ c.slots.size ≤ j.toNatClampNeg) := fun q => q.elim h0 fun q => by rw [← e, Array.length_toList] at hv; omega
  obtain ⟨T', h', X', e', W, s'⟩ := stJ X C.1 C.2.1 rfl A g1 (g := mkF E.2.2.2.1 pc Ls (.long w :: .int j :: .ref a :: st)) rfl rfl (hb C.2.2.2.1 hd)
  obtain ⟨s₂, v, L, h1, h2⟩ := hr T' _ X' (Fr.snoc X' F (r.fresh hi)) (by rw [e', ← hM]; exact r.wrote hi W ((r.2.1 i _ hi).2.store W))
  exact ⟨s₂, v, L, s' _ (hq ▸ h1), h2⟩
theorem Go.castore (C : Cx Z x code maxL ret E) {a : Addr} {vs : List Value} {i : Nat} {j : Int32} {w : Int32} {w' : Value} {M' : List Ent} (hi : M[i]? = some (a, .inr (.char, vs))) (h0 : ¬ j < 0) (hv : j.toNatClampNeg < vs.length) (hw : .int (nar .char w) = w') (hd : decode code pc = .ok (.castore, 1)) (hq : pc + 1 = q) (hM : M.set i (a, .inr (.char, vs.set j.toNatClampNeg w')) = M') (hr : Go l Z R E Q M' k n q Ls st) : Go l Z R E Q M k n pc Ls (.int w :: .int j :: .ref a :: st) := by
  intro T locs X F r
  subst hw
  obtain ⟨c, A, e, o⟩ := (r.2.1 i _ hi).2
  have g1 : ¬ (j < 0 ∨ c.slots.size ≤ j.toNatClampNeg) := fun q => q.elim h0 fun q => by rw [← e, Array.length_toList] at hv; omega
  obtain ⟨T', h', X', e', W, s'⟩ := stC X C.1 C.2.1 rfl A g1 (g := mkF E.2.2.2.1 pc Ls (.int w :: .int j :: .ref a :: st)) rfl rfl (hb C.2.2.2.1 hd)
  obtain ⟨s₂, v, L, h1, h2⟩ := hr T' _ X' (Fr.snoc X' F (r.fresh hi)) (by rw [e', ← hM]; exact r.wrote hi W ((r.2.1 i _ hi).2.store W))
  exact ⟨s₂, v, L, s' _ (hq ▸ h1), h2⟩
theorem Go.bastore (C : Cx Z x code maxL ret E) {a : Addr} {vs : List Value} {i : Nat} {j : Int32} {w : Int32} {w' : Value} {M' : List Ent} (hi : M[i]? = some (a, .inr (.byte, vs))) (h0 : ¬ j < 0) (hv : j.toNatClampNeg < vs.length) (hw : .int (nar .byte w) = w') (hd : decode code pc = .ok (.bastore, 1)) (hq : pc + 1 = q) (hM : M.set i (a, .inr (.byte, vs.set j.toNatClampNeg w')) = M') (hr : Go l Z R E Q M' k n q Ls st) : Go l Z R E Q M k n pc Ls (.int w :: .int j :: .ref a :: st) := by
  intro T locs X F r
  subst hw
  obtain ⟨c, A, e, o⟩ := (r.2.1 i _ hi).2
  have g1 : ¬ (j < 0 ∨ c.slots.size ≤ j.toNatClampNeg) := fun q => q.elim h0 fun q => by rw [← e, Array.length_toList] at hv; omega
  obtain ⟨T', h', X', e', W, s'⟩ := stB X C.1 C.2.1 rfl A g1 (g := mkF E.2.2.2.1 pc Ls (.int w :: .int j :: .ref a :: st)) rfl rfl (hb C.2.2.2.1 hd)
  obtain ⟨s₂, v, L, h1, h2⟩ := hr T' _ X' (Fr.snoc X' F (r.fresh hi)) (by rw [e', ← hM]; exact r.wrote hi W ((r.2.1 i _ hi).2.store W))
  exact ⟨s₂, v, L, s' _ (hq ▸ h1), h2⟩
theorem Go.zastore (C : Cx Z x code maxL ret E) {a : Addr} {vs : List Value} {i : Nat} {j : Int32} {w : Int32} {w' : Value} {M' : List Ent} (hi : M[i]? = some (a, .inr (.boolean, vs))) (h0 : ¬ j < 0) (hv : j.toNatClampNeg < vs.length) (hw : .int (nar .boolean w) = w') (hd : decode code pc = .ok (.bastore, 1)) (hq : pc + 1 = q) (hM : M.set i (a, .inr (.boolean, vs.set j.toNatClampNeg w')) = M') (hr : Go l Z R E Q M' k n q Ls st) : Go l Z R E Q M k n pc Ls (.int w :: .int j :: .ref a :: st) := by
  intro T locs X F r
  subst hw
  obtain ⟨c, A, e, o⟩ := (r.2.1 i _ hi).2
  have g1 : ¬ (j < 0 ∨ c.slots.size ≤ j.toNatClampNeg) := fun q => q.elim h0 fun q => by rw [← e, Array.length_toList] at hv; omega
  obtain ⟨T', h', X', e', W, s'⟩ := stZ X C.1 C.2.1 rfl A g1 (g := mkF E.2.2.2.1 pc Ls (.int w :: .int j :: .ref a :: st)) rfl rfl (hb C.2.2.2.1 hd)
  obtain ⟨s₂, v, L, h1, h2⟩ := hr T' _ X' (Fr.snoc X' F (r.fresh hi)) (by rw [e', ← hM]; exact r.wrote hi W ((r.2.1 i _ hi).2.store W))
  exact ⟨s₂, v, L, s' _ (hq ▸ h1), h2⟩
/-- v may lie in an array of K -/
def Fits (Z : State) (h : Heap) (K : String) (v : Value) : Prop := v = .null ∨ ∃ y, v = .ref y ∧ Ins Z h y K true
theorem Go.aastore (C : Cx Z x code maxL ret E) {a : Addr} {K : String} {vs : List Value} {i : Nat} {j : Int32} {v : Value} {M' : List Ent} (hi : M[i]? = some (a, .inr (.object K, vs))) (h0 : ¬ j < 0) (hv : j.toNatClampNeg < vs.length) (S : ∀ h, Rep Z h M → Fits Z h K v) (hd : decode code pc = .ok (.aastore, 1)) (hq : pc + 1 = q) (hM : M.set i (a, .inr (.object K, vs.set j.toNatClampNeg v)) = M') (hr : Go l Z R E Q M' k n q Ls st) : Go l Z R E Q M k n pc Ls (v :: .int j :: .ref a :: st) := by
  intro T locs X F r
  obtain ⟨c, A, e, o⟩ := (r.2.1 i _ hi).2
  have g1 : ¬ (j < 0 ∨ c.slots.size ≤ j.toNatClampNeg) := fun q => q.elim h0 fun q => by rw [← e, Array.length_toList] at hv; omega
  have g2 : Sto Z T.heap a v := (S _ r).imp id fun ⟨y, e', I⟩ => by
    subst e'
    exact (Sto.of A (o K rfl) I).elim (fun q => by cases q) id
  obtain ⟨T', h', X', e', W, s'⟩ := stR X C.1 C.2.1 rfl A g1 rfl g2 (g := mkF E.2.2.2.1 pc Ls (v :: .int j :: .ref a :: st)) rfl rfl (hb C.2.2.2.1 hd)
  obtain ⟨s₂, v, L, h1, h2⟩ := hr T' _ X' (Fr.snoc X' F (r.fresh hi)) (by rw [e', ← hM]; exact r.wrote hi W ((r.2.1 i _ hi).2.store W))
  exact ⟨s₂, v, L, s' _ (hq ▸ h1), h2⟩
theorem Go.newarray (C : Cx Z x code maxL ret E) {aty : ArrayType} {z : Int32} {cap k' n' : Nat} {ty : FieldType} {vs : List Value} (w : (Cond.arrayClass ty).before a0 Z = true) (hty : newarray.typeOf aty = ty) (hpr : ∀ C, ty ≠ .object C) (h0 : ¬ z < 0) (hcap : z.toNatClampNeg ≤ cap) (hb8 : cap * 8 ≤ 536870912) (hvs : List.replicate z.toNatClampNeg (defaultValue ty) = vs) (hd : decode code pc = .ok (.newarray aty, 2)) (hq : pc + 2 = q)
    (hc : k + 1 ≤ R.cells) (hs : n + cap ≤ R.slots) (hk : k + 1 = k') (hn : n + cap = n') (hr : ∀ a, Go l Z R E Q ((a, .inr (ty, vs)) :: M) k' n' q Ls (.ref a :: st)) : Go l Z R E Q M k n pc Ls (.int z :: st) := by
  intro T locs X F r
  subst hty
  obtain ⟨T', h', cA, X', e', Ex, A, s'⟩ := newP X C.1 C.2.1 w rfl (g := mkF E.2.2.2.1 pc Ls (.int z :: st)) rfl (hb C.2.2.2.1 hd) rfl h0 hcap hb8 hc hs
  subst hk hn
  obtain ⟨s₂, v, L, h1, h2⟩ := hr _ T' _ X' F (by
    rw [e']
    exact r.new Ex rfl ⟨_, A, by rw [← hvs]; simp [newA], fun C e => absurd e (hpr C)⟩)
  exact ⟨s₂, v, L, s' _ (hq ▸ h1), h2⟩
theorem Go.anewarray (C : Cx Z x code maxL ret E) {idx : Nat} {K : String} {z : Int32} {cap k' n' : Nat} {vs : List Value} (w1 : (Cond.classLink x.cls idx K).before a0 Z = true) (w2 : (Cond.arrayOver (.object K)).before a0 Z = true) (h0 : ¬ z < 0) (hcap : z.toNatClampNeg ≤ cap) (hb8 : cap * 8 ≤ 536870912) (hvs : List.replicate z.toNatClampNeg (.null : Value) = vs) (hd : decode code pc = .ok (.anewarray idx, 3)) (hq : pc + 3 = q)
    (hc : k + 1 ≤ R.cells) (hs : n + cap ≤ R.slots) (hk : k + 1 = k') (hn : n + cap = n') (hr : ∀ a, Go l Z R E Q ((a, .inr (.object K, vs)) :: M) k' n' q Ls (.ref a :: st)) : Go l Z R E Q M k n pc Ls (.int z :: st) := by
  intro T locs X F r
  obtain ⟨T', h', cA, X', e', Ex, A, O, s'⟩ := newR X C.1 C.2.1 C.2.2.1 w1 w2 rfl (g := mkF E.2.2.2.1 pc Ls (.int z :: st)) rfl (hb C.2.2.2.1 hd) rfl h0 hcap hb8 hc hs
  subst hk hn
  obtain ⟨s₂, v, L, h1, h2⟩ := hr _ T' _ X' F (by
    rw [e']
    exact r.new Ex rfl ⟨_, A, by rw [← hvs]; simp [newA, defaultValue], fun C e => by cases e; exact O⟩)
  exact ⟨s₂, v, L, s' _ (hq ▸ h1), h2⟩
theorem Go.castY (C : Cx Z x code maxL ret E) {idx : Nat} {K : String} {a : Addr} (w : (Cond.classLink x.cls idx K).before a0 Z = true) (H : ∀ h, Rep Z h M → Ins Z h a K true) (hd : decode code pc = .ok (.checkcast idx, 3)) (hq : pc + 3 = q) (hr : Go l Z R E Q M k n q Ls (.ref a :: st)) : Go l Z R E Q M k n pc Ls (.ref a :: st) := by
  intro T locs X F r
  obtain ⟨T', X', e', s'⟩ := RoadKit.castY X C.1 C.2.1 C.2.2.1 w rfl (H _ r) (g := mkF E.2.2.2.1 pc Ls (.ref a :: st)) rfl rfl (hb C.2.2.2.1 hd)
  obtain ⟨s₂, v, L, h1, h2⟩ := hr T' locs X' F (by rw [e']; exact r)
  exact ⟨s₂, v, L, s' _ (hq ▸ h1), h2⟩
theorem Go.instY (C : Cx Z x code maxL ret E) {idx : Nat} {K : String} {a : Addr} (w : (Cond.classLink x.cls idx K).before a0 Z = true) (H : ∀ h, Rep Z h M → Ins Z h a K true) (hd : decode code pc = .ok (.instanceof idx, 3)) (hq : pc + 3 = q) (hr : Go l Z R E Q M k n q Ls (.int 1 :: st)) : Go l Z R E Q M k n pc Ls (.ref a :: st) := by
  intro T locs X F r
  obtain ⟨T', X', e', s'⟩ := RoadKit.instY X C.1 C.2.1 C.2.2.1 w rfl (H _ r) (g := mkF E.2.2.2.1 pc Ls (.ref a :: st)) rfl rfl (hb C.2.2.2.1 hd)
  obtain ⟨s₂, v, L, h1, h2⟩ := hr T' locs X' F (by rw [e']; exact r)
  exact ⟨s₂, v, L, s' _ (hq ▸ h1), h2⟩
theorem Go.instNo (C : Cx Z x code maxL ret E) {idx : Nat} {K C' : String} {a : Addr} (w : (Cond.classLink x.cls idx K).before a0 Z = true) (H : ∀ h, Rep Z h M → Exa Z h a C') (N : ∃ c t, Z.vm.findClass C' = some c ∧ Z.vm.findClass K = some t ∧ Z.vm.assignable c t = false) (hd : decode code pc = .ok (.instanceof idx, 3)) (hq : pc + 3 = q) (hr : Go l Z R E Q M k n q Ls (.int 0 :: st)) : Go l Z R E Q M k n pc Ls (.ref a :: st) := by
  intro T locs X F r
  obtain ⟨T', X', e', s'⟩ := RoadKit.instNo X C.1 C.2.1 C.2.2.1 w rfl (H _ r) N (g := mkF E.2.2.2.1 pc Ls (.ref a :: st)) rfl rfl (hb C.2.2.2.1 hd)
  obtain ⟨s₂, v, L, h1, h2⟩ := hr T' locs X' F (by rw [e']; exact r)
  exact ⟨s₂, v, L, s' _ (hq ▸ h1), h2⟩
theorem Go.instNull (C : Cx Z x code maxL ret E) {idx : Nat} (hd : decode code pc = .ok (.instanceof idx, 3)) (hq : pc + 3 = q) (hr : Go l Z R E Q M k n q Ls (.int 0 :: st)) : Go l Z R E Q M k n pc Ls (.null :: st) :=
  Go.plain hr fun _ _ t X s => Jvm.Stand.instanceofNull X C.1 (g := mkF E.2.2.2.1 pc Ls (.null :: st)) rfl rfl (hb C.2.2.2.1 hd) t (hq ▸ s)
theorem Go.castNull (C : Cx Z x code maxL ret E) {idx : Nat} (hd : decode code pc = .ok (.checkcast idx, 3)) (hq : pc + 3 = q) (hr : Go l Z R E Q M k n q Ls (.null :: st)) : Go l Z R E Q M k n pc Ls (.null :: st) :=
  Go.plain hr fun _ _ t X s => Jvm.Stand.checkcastNull X C.1 (g := mkF E.2.2.2.1 pc Ls (.null :: st)) rfl rfl (hb C.2.2.2.1 hd) t (hq ▸ s)
theorem nsRoot {O K : String} {kk : Nat} (w : (Cond.noSuperclass O).before a0 Z = true) (wk : (Cond.instantiable K kk).before a0 Z = true) (hn : O ≠ K) : NS Z O K := by
  obtain ⟨c, k, h1, h2, h3, -, -⟩ := Cond.noSuperclass_spec w
  obtain ⟨t, _, g1, -⟩ := Cond.instantiable_spec wk
  have ne := ids_ne h1 g1 hn
  refine ⟨c, t, h1, g1, fun fuel => ?_⟩
  cases fuel with
  | zero => rfl
  | succ f => simp [Vm.isSubclassAux, ne, h2, h3]
theorem nsNo {C' S K : String} {kk : Nat} (w : (Cond.superclass C' S).before a0 Z = true) (wk : (Cond.instantiable K kk).before a0 Z = true) (n : NS Z C' K) (hn : C' ≠ K) : ∃ c t, Z.vm.findClass C' = some c ∧ Z.vm.findClass K = some t ∧ Z.vm.assignable c t = false := by
  obtain ⟨c, t, h0, g0, n3⟩ := n
  obtain ⟨p, k, kp, h1, h2, h3, h4, h5, -, h7⟩ := Cond.superclass_spec h0 w
  obtain ⟨t', k', g1, g2, g5, g7, -⟩ := Cond.instantiable_spec wk
  cases g0.symm.trans g1
  have ne := ids_ne h0 g0 hn
  have g8 : k'.isInterface = false := by cases h : k'.isInterface <;> simp [h] at g7 ⊢
  refine ⟨c, t, h0, g0, ?_⟩
  show Z.vm.assignableAux (255 + 1) c t = false
  simp [Vm.assignableAux, ne, h2, g2, h5, g5, g8, Vm.isSubclass, n3]
/-! calls -/
theorem nf_sel {K : String} {y z : MethodName} (w : (Cond.selects K y y).before a0 Z = true) : ∀ s : State, Z.Warmed39 s.vm → NotFace s y := fun s hZ => notFace_of_selects (args := #[]) (mvT hZ w)
theorem nf_same {K : String} {y y' : MethodName} (hc : y.cls = y'.cls) (w : (Cond.selects K y' y').before a0 Z = true) : ∀ s : State, Z.Warmed39 s.vm → NotFace s y := fun s hZ r0 h0 => by
  obtain ⟨c2, r2, m2, q1, q2, q3, q4, kP, hkP, hkPi⟩ := Cond.selects_spec (mvT (args := #[]) hZ w)
  have e1 := findClass_of_methodNamed h0
  have e2 := findClass_of_methodNamed q3
  rw [hc, e2] at e1
  have e3 := Option.some.inj e1
  exact ⟨kP, e3 ▸ hkP, hkPi⟩
theorem nf_sup {y : MethodName} {S : String} (w : (Cond.superclass y.cls S).before a0 Z = true) : ∀ s : State, Z.Warmed39 s.vm → NotFace s y := fun s hZ => nf_super (args := #[]) (mvT hZ w)
theorem nf_topS {y : MethodName} (w : (Cond.noSuperclass y.cls).before a0 Z = true) : ∀ s : State, Z.Warmed39 s.vm → NotFace s y := fun s hZ => nf_top (args := #[]) (mvT hZ w)
section Calls
variable {y : MethodName} {bytes : ByteArray} {mL : Nat} {rt : Option FieldType} {rm : Room} {as rest : List Value} {Qc : PQ} {idx k' n' : Nat}
theorem len_ok {d : String} (h : (parseMethodDescriptor d).map (fun s => s.parameters.length) = some as.length) : ∀ sig, parseMethodDescriptor d = some sig → as.length = sig.parameters.length := fun sig e => by
  rw [e] at h
  exact (Option.some.inj h).symm
theorem Go.callS (C : Cx Z x code maxL ret E) (w1 : (Cond.methodLink x.cls idx y).before a0 Z = true) (w2 : (Cond.static y).before a0 Z = true) (w3 : (Cond.initialized y.cls).before a0 Z = true) (w4 : (Cond.code y bytes mL rt).before a0 Z = true) (hM : Met l Z y bytes mL rt rm as.toArray M Qc) (hst : st = as.reverse ++ rest)
    (hd : decode code pc = .ok (.invokestatic idx, 3)) (hq : pc + 3 = q) (hy : y.cls ≠ "java/lang/invoke/MethodHandle" ∧ y.cls ≠ "java/lang/invoke/VarHandle") (hsz : Ls.size = maxL) {na W : Nat} (hlen : (parseMethodDescriptor y.desc).map (fun s => s.parameters.length) = some na) (hna : as.length = na) (hf : rm.frames + 1 ≤ R.frames) (hW : (rest.map fun v => v.category).sum = W) (hl : W + (mL + 11) + rm.locals ≤ R.locals) (hc : k + rm.cells ≤ R.cells) (hs : n + rm.slots ≤ R.slots) (hk : k + rm.cells = k') (hn : n + rm.slots = n')
    (hr : ∀ v M', Qc v M' → Go l Z R E Q M' k' n' q Ls (v.toList ++ rest)) : Go l Z R E Q M k n pc Ls st := by
  subst hna hW
  intro T locs X F r
  obtain ⟨v, _, ⟨T', L', c', s'⟩, -, X', ⟨Lc, hQ, l', y', z'⟩, hst'⟩ := Jvm.LawKit.callS X C.1 C.2.2.1 (mvT C.2.1 w1) (mvT C.2.1 w2) (mvT C.2.1 w3) (mvT C.2.1 w4) hy (backOf (W := (rest.map fun v => v.category).sum) (h := T.heap) (Q := fun v h L => Fr Z.heap.size L ∧ ∃ M', Qc v M' ∧ Rep Z h M') (hM [] _ r) C.2.1 w4 w3 hf hl) (g := mkF E.2.2.2.1 pc Ls st) rfl (hsz.trans C.2.2.2.2.1.symm) (argsL := as) (rest := rest) (len_ok hlen) hst (by show 2 * 0 + _ ≤ _; omega) (hb C.2.2.2.1 hd) (fun _ _ => ⟨rfl, rfl, hc, hs⟩)
  dsimp only [Pt.U, Pt.locs, Pt.cells, Pt.slots] at X' l' y' z' hst' hQ
  obtain ⟨FL, M', hQ', r'⟩ := hQ
  subst l' y' z' hk hn
  obtain ⟨s₂, v, L, h1, h2⟩ := hr v M' hQ' T' _ X' (F.app FL) r'
  exact ⟨s₂, v, L, hst' _ (hq ▸ h1), h2⟩
theorem Go.callI (C : Cx Z x code maxL ret E) {a : Addr} (w1 : (Cond.methodLink x.cls idx y).before a0 Z = true) (w2 : (Cond.instanceMethod y).before a0 Z = true) (w3 : (Cond.initialized y.cls).before a0 Z = true) (w4 : (Cond.code y bytes mL none).before a0 Z = true) (hM : Met l Z y bytes mL none rm (.ref a :: as).toArray M Qc) (hst : st = as.reverse ++ .ref a :: rest) (hy1 : y.name = "<init>")
    (hd : decode code pc = .ok (.invokespecial idx, 3)) (hq : pc + 3 = q) (hy : y.cls ≠ "java/lang/invoke/MethodHandle" ∧ y.cls ≠ "java/lang/invoke/VarHandle") (hsz : Ls.size = maxL) {na W : Nat} (hlen : (parseMethodDescriptor y.desc).map (fun s => s.parameters.length) = some na) (hna : as.length = na) (hf : rm.frames + 1 ≤ R.frames) (hW : (rest.map fun v => v.category).sum = W) (hl : W + (mL + 11) + rm.locals ≤ R.locals) (hc : k + rm.cells ≤ R.cells) (hs : n + rm.slots ≤ R.slots) (hk : k + rm.cells = k') (hn : n + rm.slots = n')
    (hr : ∀ v M', Qc v M' → Go l Z R E Q M' k' n' q Ls (v.toList ++ rest)) : Go l Z R E Q M k n pc Ls st := by
  subst hna hW
  intro T locs X F r
  obtain ⟨v, _, ⟨T', L', c', s'⟩, -, X', ⟨Lc, hQ, l', y', z'⟩, hst'⟩ := Stand.specialBack X C.1 hy1 C.2.2.1 (mvT C.2.1 w1) (mvT C.2.1 w2) (mvT C.2.1 w4) hy (backOf (W := (rest.map fun v => v.category).sum) (h := T.heap) (Q := fun v h L => Fr Z.heap.size L ∧ ∃ M', Qc v M' ∧ Rep Z h M') (hM [] _ r) C.2.1 w4 w3 hf hl) (g := mkF E.2.2.2.1 pc Ls st) rfl (hsz.trans C.2.2.2.2.1.symm) (Steps.refl _) (a := a) (argsL := as) (rest := rest) (len_ok hlen) hst (by show 2 * 0 + _ ≤ _; omega) (hb C.2.2.2.1 hd) (fun _ _ => ⟨rfl, rfl, hc, hs⟩)
  dsimp only [Pt.U, Pt.locs, Pt.cells, Pt.slots] at X' l' y' z' hst' hQ
  obtain ⟨FL, M', hQ', r'⟩ := hQ
  subst l' y' z' hk hn
  obtain ⟨s₂, v, L, h1, h2⟩ := hr v M' hQ' T' _ X' (F.app FL) r'
  exact ⟨s₂, v, L, hst'.trans (hq ▸ h1), h2⟩
theorem Go.callV (C : Cx Z x code maxL ret E) {a : Addr} {K : String} {z : MethodName} (w1 : (Cond.methodLink x.cls idx y).before a0 Z = true) (w2 : (Cond.declares y).before a0 Z = true) (nf : ∀ s : State, Z.Warmed39 s.vm → NotFace s y) (w3 : (Cond.selects K y z).before a0 Z = true) (w4 : (Cond.instanceMethod z).before a0 Z = true) (w5 : (Cond.code z bytes mL rt).before a0 Z = true) (w6 : (Cond.initialized z.cls).before a0 Z = true) (H : ∀ h, Rep Z h M → Exa Z h a K) (hM : Met l Z z bytes mL rt rm (.ref a :: as).toArray M Qc) (hst : st = as.reverse ++ .ref a :: rest)
    (hd : decode code pc = .ok (.invokevirtual idx, 3)) (hq : pc + 3 = q) (hy : y.cls ≠ "java/lang/invoke/MethodHandle" ∧ y.cls ≠ "java/lang/invoke/VarHandle") (hsz : Ls.size = maxL) {na W : Nat} (hlen : (parseMethodDescriptor y.desc).map (fun s => s.parameters.length) = some na) (hna : as.length = na) (hf : rm.frames + 1 ≤ R.frames) (hW : (rest.map fun v => v.category).sum = W) (hl : W + (mL + 11) + rm.locals ≤ R.locals) (hc : k + rm.cells ≤ R.cells) (hs : n + rm.slots ≤ R.slots) (hk : k + rm.cells = k') (hn : n + rm.slots = n')
    (hr : ∀ v M', Qc v M' → Go l Z R E Q M' k' n' q Ls (v.toList ++ rest)) : Go l Z R E Q M k n pc Ls st := by
  subst hna hW
  intro T locs X F r
  have nf' : NotFace E.2.2.1 y := nf _ C.2.1
  obtain ⟨_, _, q1, q2, q3⟩ := isOf C.2.1 (rfl : T.heap = T.heap) (H _ r)
  obtain ⟨v, _, ⟨T', L', c', s'⟩, -, X', ⟨Lc, hQ, l', y', z'⟩, hst'⟩ := Stand.virtualBack X C.1 C.2.2.1 (mvT C.2.1 w1) (mvT C.2.1 w2) nf' (mvT C.2.1 w3) (mvT C.2.1 w4) hy (backOf (W := (rest.map fun v => v.category).sum) (h := T.heap) (Q := fun v h L => Fr Z.heap.size L ∧ ∃ M', Qc v M' ∧ Rep Z h M') (hM [] _ r) C.2.1 w5 w6 hf hl) q1 q3 (g := mkF E.2.2.2.1 pc Ls st) rfl (hsz.trans C.2.2.2.2.1.symm) (Steps.refl _) (argsL := as) (rest := rest) (len_ok hlen) hst (by show 2 * 0 + _ ≤ _; omega) (hb C.2.2.2.1 hd) (fun _ _ => ⟨rfl, rfl, hc, hs⟩)
  dsimp only [Pt.U, Pt.locs, Pt.cells, Pt.slots] at X' l' y' z' hst' hQ
  obtain ⟨FL, M', hQ', r'⟩ := hQ
  subst l' y' z' hk hn
  obtain ⟨s₂, v, L, h1, h2⟩ := hr v M' hQ' T' _ X' (F.app FL) r'
  exact ⟨s₂, v, L, hst'.trans (hq ▸ h1), h2⟩
theorem Go.callU (C : Cx Z x code maxL ret E) {a : Addr} {K owner : String} {z : MethodName} (w1 : (Cond.methodLink x.cls idx y).before a0 Z = true) (w2 : (Cond.sameMethod y.cls owner y.name y.desc).before a0 Z = true) (w2' : (Cond.declares ⟨owner, y.name, y.desc⟩).before a0 Z = true) (w3 : (Cond.selects K y z).before a0 Z = true) (w4 : (Cond.instanceMethod z).before a0 Z = true) (w5 : (Cond.code z bytes mL rt).before a0 Z = true) (w6 : (Cond.initialized z.cls).before a0 Z = true) (H : ∀ h, Rep Z h M → Exa Z h a K) (hM : Met l Z z bytes mL rt rm (.ref a :: as).toArray M Qc) (hst : st = as.reverse ++ .ref a :: rest)
    (hd : decode code pc = .ok (.invokevirtual idx, 3)) (hq : pc + 3 = q) (hy : owner ≠ "java/lang/invoke/MethodHandle" ∧ owner ≠ "java/lang/invoke/VarHandle") (hsz : Ls.size = maxL) {na W : Nat} (hlen : (parseMethodDescriptor y.desc).map (fun s => s.parameters.length) = some na) (hna : as.length = na) (hf : rm.frames + 1 ≤ R.frames) (hW : (rest.map fun v => v.category).sum = W) (hl : W + (mL + 11) + rm.locals ≤ R.locals) (hc : k + rm.cells ≤ R.cells) (hs : n + rm.slots ≤ R.slots) (hk : k + rm.cells = k') (hn : n + rm.slots = n')
    (hr : ∀ v M', Qc v M' → Go l Z R E Q M' k' n' q Ls (v.toList ++ rest)) : Go l Z R E Q M k n pc Ls st := by
  subst hna hW
  intro T locs X F r
  obtain ⟨_, _, q1, q2, q3⟩ := isOf C.2.1 (rfl : T.heap = T.heap) (H _ r)
  obtain ⟨v, _, ⟨T', L', c', s'⟩, -, X', ⟨Lc, hQ, l', y', z'⟩, hst'⟩ := Stand.virtualBackUp X C.1 C.2.2.1 (mvT C.2.1 w1) (mvT C.2.1 w2) (mvT C.2.1 w2') hy (mvT C.2.1 w3) (mvT C.2.1 w4) (backOf (W := (rest.map fun v => v.category).sum) (h := T.heap) (Q := fun v h L => Fr Z.heap.size L ∧ ∃ M', Qc v M' ∧ Rep Z h M') (hM [] _ r) C.2.1 w5 w6 hf hl) q1 q3 (g := mkF E.2.2.2.1 pc Ls st) rfl (hsz.trans C.2.2.2.2.1.symm) (Steps.refl _) (argsL := as) (rest := rest) (len_ok hlen) hst (by show 2 * 0 + _ ≤ _; omega) (hb C.2.2.2.1 hd) (fun _ _ => ⟨rfl, rfl, hc, hs⟩)
  dsimp only [Pt.U, Pt.locs, Pt.cells, Pt.slots] at X' l' y' z' hst' hQ
  obtain ⟨FL, M', hQ', r'⟩ := hQ
  subst l' y' z' hk hn
  obtain ⟨s₂, v, L, h1, h2⟩ := hr v M' hQ' T' _ X' (F.app FL) r'
  exact ⟨s₂, v, L, hst'.trans (hq ▸ h1), h2⟩
theorem Go.callP (C : Cx Z x code maxL ret E) {a : Addr} {K : String} (w1 : (Cond.methodLink x.cls idx y).before a0 Z = true) (w2 : (Cond.instanceMethod y).before a0 Z = true) (w3 : (Cond.selects y.cls y y).before a0 Z = true) (w4 : (Cond.privateMethod y).before a0 Z = true) (w5 : (Cond.code y bytes mL rt).before a0 Z = true) (w6 : (Cond.initialized y.cls).before a0 Z = true) (H : ∀ h, Rep Z h M → Exa Z h a K) (hM : Met l Z y bytes mL rt rm (.ref a :: as).toArray M Qc) (hst : st = as.reverse ++ .ref a :: rest)
    (hd : decode code pc = .ok (.invokevirtual idx, 3)) (hq : pc + 3 = q) (hy : y.cls ≠ "java/lang/invoke/MethodHandle" ∧ y.cls ≠ "java/lang/invoke/VarHandle") (hsz : Ls.size = maxL) {na W : Nat} (hlen : (parseMethodDescriptor y.desc).map (fun s => s.parameters.length) = some na) (hna : as.length = na) (hf : rm.frames + 1 ≤ R.frames) (hW : (rest.map fun v => v.category).sum = W) (hl : W + (mL + 11) + rm.locals ≤ R.locals) (hc : k + rm.cells ≤ R.cells) (hs : n + rm.slots ≤ R.slots) (hk : k + rm.cells = k') (hn : n + rm.slots = n')
    (hr : ∀ v M', Qc v M' → Go l Z R E Q M' k' n' q Ls (v.toList ++ rest)) : Go l Z R E Q M k n pc Ls st := by
  subst hna hW
  intro T locs X F r
  obtain ⟨cq, q1, q2⟩ := (H _ r).cell
  obtain ⟨v, _, ⟨T', L', c', s'⟩, -, X', ⟨Lc, hQ, l', y', z'⟩, hst'⟩ := Stand.privateBack X C.1 C.2.2.1 (mvT C.2.1 w1) (mvT C.2.1 w2) (mvT C.2.1 w3) (Cond.privateMethod_at (mvP C.2.1 w4 (args := #[]))) (mvT C.2.1 w5) hy (backOf (W := (rest.map fun v => v.category).sum) (h := T.heap) (Q := fun v h L => Fr Z.heap.size L ∧ ∃ M', Qc v M' ∧ Rep Z h M') (hM [] _ r) C.2.1 w5 w6 hf hl) (g := mkF E.2.2.2.1 pc Ls st) rfl (hsz.trans C.2.2.2.2.1.symm) (Steps.refl _) q1 q2 (argsL := as) (rest := rest) (len_ok hlen) hst (by show 2 * 0 + _ ≤ _; omega) (hb C.2.2.2.1 hd) (fun _ _ => ⟨rfl, rfl, hc, hs⟩)
  dsimp only [Pt.U, Pt.locs, Pt.cells, Pt.slots] at X' l' y' z' hst' hQ
  obtain ⟨FL, M', hQ', r'⟩ := hQ
  subst l' y' z' hk hn
  obtain ⟨s₂, v, L, h1, h2⟩ := hr v M' hQ' T' _ X' (F.app FL) r'
  exact ⟨s₂, v, L, hst'.trans (hq ▸ h1), h2⟩
end Calls
/-! returns -/
theorem Go.ret0 (C : Cx Z x code maxL ret E) (hret : ret = none) (hd : decode code pc = .ok (.return_, 1)) (hc : k ≤ R.cells) (hs : n ≤ R.slots) (hQ : Q none M) : Go l Z R E Q M k n pc Ls [] := by
  intro T locs X F r
  obtain ⟨fs, hr, hrun, hended, hW, hsame⟩ := Stand.leave X (v := none) (fun _ => rfl) C.2.2.2.2.2.2.1
  exact ⟨_, none, locs, Stand.returnOut X C.1 (C.2.2.2.2.2.1.trans hret) (hb C.2.2.2.1 hd) hr, hrun, hended, F, ⟨M, hQ, r⟩, ⟨_, rfl⟩, hW, hsame.mono hc hs⟩
theorem Go.retW (C : Cx Z x code maxL ret E) {t : FieldType} {i : Instr} {w : Value} (hret : ret = some t) (hn : narrow t w = w)
    (hi : (i = .ireturn ∧ (t = .int ∨ t = .boolean ∨ t = .byte ∨ t = .char ∨ t = .short) ∧ ∃ z, w = .int z) ∨ (i = .lreturn ∧ t = .long ∧ ∃ z, w = .long z) ∨ (i = .dreturn ∧ t = .double ∧ ∃ z, w = .double z) ∨ (i = .freturn ∧ t = .float ∧ ∃ z, w = .float z) ∨ (i = .areturn ∧ t.isReference = true ∧ w.isRef = true))
    (hd : decode code pc = .ok (i, 1)) (hc : k ≤ R.cells) (hs : n ≤ R.slots) (hQ : Q (some w) M) : Go l Z R E Q M k n pc Ls (w :: st) := by
  intro T locs X F r
  obtain ⟨fs, hr, hrun, hended, hW, hsame⟩ := Stand.leave X (v := some w) (fun h => by rw [C.2.2.2.2.2.1, hret] at h; cases h) C.2.2.2.2.2.2.1
  exact ⟨_, some w, locs, retOut X C.1 (C.2.2.2.2.2.1.trans hret) hn hi (hb C.2.2.2.1 hd) hr, hrun, hended, F, ⟨M, hQ, r⟩, ⟨_, rfl⟩, hW, hsame.mono hc hs⟩
theorem Go.retI (C : Cx Z x code maxL ret E) {z : Int32} (hret : ret = some .int) (hd : decode code pc = .ok (.ireturn, 1)) (hc : k ≤ R.cells) (hs : n ≤ R.slots) (hQ : Q (some (.int z)) M) : Go l Z R E Q M k n pc Ls (.int z :: st) :=
  Go.retW C hret rfl (Or.inl ⟨rfl, Or.inl rfl, _, rfl⟩) hd hc hs hQ
theorem Go.retL (C : Cx Z x code maxL ret E) {z : Int64} (hret : ret = some .long) (hd : decode code pc = .ok (.lreturn, 1)) (hc : k ≤ R.cells) (hs : n ≤ R.slots) (hQ : Q (some (.long z)) M) : Go l Z R E Q M k n pc Ls (.long z :: st) :=
  Go.retW C hret rfl (Or.inr (Or.inl ⟨rfl, rfl, _, rfl⟩)) hd hc hs hQ
theorem Go.retZ (C : Cx Z x code maxL ret E) {z : Int32} (hret : ret = some .boolean) (hz : z &&& 1 = z) (hd : decode code pc = .ok (.ireturn, 1)) (hc : k ≤ R.cells) (hs : n ≤ R.slots) (hQ : Q (some (.int z)) M) : Go l Z R E Q M k n pc Ls (.int z :: st) :=
  Go.retW C hret (congrArg Value.int hz) (Or.inl ⟨rfl, Or.inr (Or.inl rfl), _, rfl⟩) hd hc hs hQ
theorem Go.retA (C : Cx Z x code maxL ret E) {t : FieldType} {w : Value} (hret : ret = some t) (ht : t.isReference = true) (hw : w.isRef = true) (hd : decode code pc = .ok (.areturn, 1)) (hc : k ≤ R.cells) (hs : n ≤ R.slots) (hQ : Q (some w) M) : Go l Z R E Q M k n pc Ls (w :: st) :=
  Go.retW C hret (by cases t <;> first | (cases ht; done) | rfl) (Or.inr (Or.inr (Or.inr (Or.inr ⟨rfl, ht, hw⟩)))) hd hc hs hQ
end Walk
theorem nar_ref {t : FieldType} {v : Value} (h : v.isRef = true) : narrow t v = v := by rcases ref_cases h with rfl | ⟨a, rfl⟩ <;> cases t <;> rfl
theorem fit_obj {K : String} {v : Value} (h : v.isRef = true) : fits (.object K) v = true := by rcases ref_cases h with rfl | ⟨a, rfl⟩ <;> rfl
theorem fld_of_eq {Z : State} {args : Array Value} {t : Term} {a : Addr} {C nm d : String} {k : Int32} (ev : t.eval args Z none [] Z = some (.ref a)) (h : (Cond.eq (.field t C nm d) (.int k)).value args Z none Z [] = some true) : Fld Z Z.heap a C nm d (.int k) := by
  obtain ⟨x, y, h1, h2, h3, h4⟩ := cmp_v (Or.inl h)
  have h2' : (Term.int k).eval args Z none [] Z = some (.int k) := rfl
  have hy : y = .int k := Option.some.inj (h2.symm.trans h2')
  subst hy
  obtain ⟨z, rfl⟩ := h4
  have : z = k := by
    have h5 : (Cond.eq (.field t C nm d) (.int k)).value args Z none Z [] = some (decide (z = k)) := by simp [Cond.value, h1, h2]
    rw [h5] at h
    exact of_decide_eq_true (Option.some.inj h)
  subst this
  rw [fld_at ev] at h1
  exact Fld.start h1
theorem mask_nn (x : Int32) : ¬ (x &&& 2147483647) < 0 := fun h => absurd ((XT.and_neg32 _ _).mp h).2 (by decide)
theorem rem_mask (x d : Int32) (hd : 0 < d.toInt) : 0 ≤ ((x &&& 2147483647) % d).toInt ∧ ((x &&& 2147483647) % d).toInt < d.toInt := by
  have h := mask_nn x
  rw [XT.negI32] at h
  rw [Int32.toInt_mod, Int.tmod_eq_emod_of_nonneg (by omega)]
  exact ⟨Int.emod_nonneg _ (by omega), Int.emod_lt_of_pos _ hd⟩
theorem bool_ok {b : Int32} (h : b = 0 ∨ b = 1) : narrow .boolean (.int b) = .int b ∧ fits .boolean (.int b) = true := by rcases h with rfl | rfl <;> exact ⟨rfl, rfl⟩
theorem ite01 {P : Prop} [Decidable P] : (if P then (1 : Int32) else 0) = 0 ∨ (if P then (1 : Int32) else 0) = 1 := by split <;> simp
theorem ite10 {P : Prop} [Decidable P] : (if P then (0 : Int32) else 1) = 0 ∨ (if P then (0 : Int32) else 1) = 1 := by split <;> simp
theorem and1 {b : Int32} (h : b = 0 ∨ b = 1) : b &&& 1 = b := by rcases h with rfl | rfl <;> rfl
theorem fld_ev {Z : State} {args : Array Value} {t : Term} {a : Addr} {C nm d : String} {v : Value} (ev : t.eval args Z none [] Z = some (.ref a)) (h : (Term.field t C nm d).eval args Z none [] Z = some v) : Fld Z Z.heap a C nm d v := Fld.start ((fld_at ev).symm.trans h)
theorem eq_int {Z : State} {args : Array Value} {idx : List Nat} {t u : Term} {k : Int32} (hu : u.eval args Z none idx Z = some (.int k)) (h : (Cond.eq t u).value args Z none Z idx = some true) : t.eval args Z none idx Z = some (.int k) := by
  obtain ⟨x, y, h1, h2, h3, h4⟩ := cmp_v (Or.inl h)
  have hy : y = .int k := Option.some.inj (h2.symm.trans hu)
  subst hy
  obtain ⟨z, rfl⟩ := h4
  have : z = k := by
    have h5 : (Cond.eq t u).value args Z none Z idx = some (decide (z = k)) := by simp [Cond.value, h1, h2]
    rw [h5] at h
    exact of_decide_eq_true (Option.some.inj h)
  rw [h1, this]
theorem int_of_eq {Z : State} {args : Array Value} {idx : List Nat} {t : Term} {k : Int32} (h : (Cond.eq t (.int k)).value args Z none Z idx = some true) : t.eval args Z none idx Z = some (.int k) := by
  obtain ⟨x, y, h1, h2, h3, h4⟩ := cmp_v (Or.inl h)
  have h2' : (Term.int k).eval args Z none idx Z = some (.int k) := rfl
  have hy : y = .int k := Option.some.inj (h2.symm.trans h2')
  subst hy
  obtain ⟨z, rfl⟩ := h4
  have : z = k := by
    have h5 : (Cond.eq t (.int k)).value args Z none Z idx = some (decide (z = k)) := by simp [Cond.value, h1, h2]
    rw [h5] at h
    exact of_decide_eq_true (Option.some.inj h)
  rw [h1, this]
theorem len_of_eq {Z : State} {args : Array Value} {t : Term} {a : Addr} {c : Cell} {ty : FieldType} {k : Int32} (ev : t.eval args Z none [] Z = some (.ref a)) (A : Arr Z Z.heap a c ty) (h : (Cond.eq (.length t) (.int k)).value args Z none Z [] = some true) : c.slots.toList.length.toInt32 = k ∧ c.slots.toList.length < 2 ^ 31 := by
  have h1 := int_of_eq h
  have e5 := A.fin (Vm.Alike.refl _)
  rw [Array.length_toList]
  by_cases hl : c.slots.size < 2 ^ 31
  · rw [len_f ev e5 hl] at h1
    exact ⟨Value.int.inj (Option.some.inj h1), hl⟩
  · exfalso
    simp [Term.eval, ev, e5, hl] at h1
theorem elem_of_eq {Z : State} {args : Array Value} {t : Term} {a : Addr} {c : Cell} {ty : FieldType} {i k : Int32} (ev : t.eval args Z none [] Z = some (.ref a)) (A : Arr Z Z.heap a c ty) (h : (Cond.eq (.elem t (.int i)) (.int k)).value args Z none Z [] = some true) : c.slots.toList[i.toNatClampNeg]? = some (.int k) := by
  have h1 := int_of_eq h
  have h2 := elem_in (j := i) h1 ev rfl A.1
  rw [Array.getElem?_toList]
  exact h2.2
theorem ge0 {x : Int32} (h : 0 ≤ x.toInt) : ¬ x < 0 := fun q => by rw [XT.negI32] at q; omega
theorem rep0 (s : State) : Rep s s.heap [] := ⟨⟨Nat.le_refl _, fun _ _ q => q⟩, fun i x h => by simp at h, List.nodup_nil⟩
end Jvm.Own
namespace Jvm.Pilot.@@N@@
open Jvm Jvm.ClassFile Sem Op Lib Jvm.Free Jvm.Stand Jvm.LawKit Jvm.RoadKit Bundle Jvm.Own Jvm.Pilot.@@N@@.Jvm.D
theorem dc_prog_18_method_6_0 : decode prog_18_method_6_code 0 = .ok (.iload_n 1, 1) := by decide +kernel
theorem dc_prog_18_method_6_1 : decode prog_18_method_6_code 1 = .ok (.aload_n 0, 1) := by decide +kernel
theorem dc_prog_18_method_6_2 : decode prog_18_method_6_code 2 = .ok (.getfield 108, 3) := by decide +kernel
theorem dc_prog_18_method_6_5 : decode prog_18_method_6_code 5 = .ok (.if_icmp .lt 15, 3) := by decide +kernel
theorem dc_prog_18_method_6_20 : decode prog_18_method_6_code 20 = .ok (.iconst 0, 1) := by decide +kernel
theorem dc_prog_18_method_6_21 : decode prog_18_method_6_code 21 = .ok (.ireturn, 1) := by decide +kernel
theorem dc_prog_18_method_6_8 : decode prog_18_method_6_code 8 = .ok (.iload_n 1, 1) := by decide +kernel
theorem dc_prog_18_method_6_9 : decode prog_18_method_6_code 9 = .ok (.aload_n 0, 1) := by decide +kernel
theorem dc_prog_18_method_6_10 : decode prog_18_method_6_code 10 = .ok (.getfield 111, 3) := by decide +kernel
theorem dc_prog_18_method_6_13 : decode prog_18_method_6_code 13 = .ok (.if_icmp .gt 7, 3) := by decide +kernel
theorem dc_prog_18_method_6_16 : decode prog_18_method_6_code 16 = .ok (.iconst 1, 1) := by decide +kernel
theorem dc_prog_18_method_6_17 : decode prog_18_method_6_code 17 = .ok (.goto 4, 3) := by decide +kernel
theorem pn_0 : plainName "com/example/mirrored_message_log/mirroredmessagelog/protocol/ApiKey" = true := by first | (simp [plainName, overriddenIn]; done) | decide +kernel
set_option maxRecDepth 65536 in
set_option maxHeartbeats 40000000 in
theorem m_serves (l : Launch) (Z : State) (a0 : Array Value) (hw : ∀ d ∈ tables_1, d.before a0 Z = true) (F : List Ent) (a : Addr) (v lo hi : Int32) (F1 : Fld Z Z.heap a "com/example/mirrored_message_log/mirroredmessagelog/protocol/ApiKey" "minVersion" "S" (.int lo)) (F2 : Fld Z Z.heap a "com/example/mirrored_message_log/mirroredmessagelog/protocol/ApiKey" "maxVersion" "S" (.int hi)) :
    Met l Z (⟨"com/example/mirrored_message_log/mirroredmessagelog/protocol/ApiKey", "serves", "(S)Z"⟩ : MethodName) prog_18_method_6_code 2 (some .boolean) { frames := 0, cells := 0, slots := 0, locals := 0 } #[(.ref a), (.int v)] (F) (fun r M' => r = some (.int (if ¬ v < lo ∧ ¬ hi < v then 1 else 0)) ∧ M' = F) := by
  refine Met.of_go pn_0 (Ls := #[.val (.ref a), .val (.int v)]) (fun m => by first | rfl | (simp [entryFrame, mkF, argsToLocals, Value.category, maxLocals]; done)) ?_
  intro E C
  refine Go.iloadN C dc_prog_18_method_6_0 (q := 1) rfl rfl ?_
  refine Go.aloadN C dc_prog_18_method_6_1 (q := 2) rfl rfl rfl ?_
  refine Go.getF C (host := "") (Or.inl (wd hw 59 rfl)) Via.refl (fun _ r => (F1).ext r.1) dc_prog_18_method_6_2 (q := 5) rfl ?_
  refine Go.icmp C dc_prog_18_method_6_5 (by decide) (q := 20) rfl (q' := 8) rfl (fun (h5_1 : v < lo) => ?_) (fun (h5_1 : ¬ v < lo) => ?_)
  · refine Go.iconst C dc_prog_18_method_6_20 (q := 21) rfl (v := (0 : Int32)) rfl ?_
    refine Go.retZ C rfl (by decide) dc_prog_18_method_6_21 (by decide) (by decide) ?_
    exact ⟨by simp_all, rfl⟩
  · refine Go.iloadN C dc_prog_18_method_6_8 (q := 9) rfl rfl ?_
    refine Go.aloadN C dc_prog_18_method_6_9 (q := 10) rfl rfl rfl ?_
    refine Go.getF C (host := "") (Or.inl (wd hw 61 rfl)) Via.refl (fun _ r => (F2).ext r.1) dc_prog_18_method_6_10 (q := 13) rfl ?_
    refine Go.icmp C dc_prog_18_method_6_13 (by decide) (q := 20) rfl (q' := 16) rfl (fun (h13_2 : hi < v) => ?_) (fun (h13_2 : ¬ hi < v) => ?_)
    · refine Go.iconst C dc_prog_18_method_6_20 (q := 21) rfl (v := (0 : Int32)) rfl ?_
      refine Go.retZ C rfl (by decide) dc_prog_18_method_6_21 (by decide) (by decide) ?_
      exact ⟨by simp_all, rfl⟩
    · refine Go.iconst C dc_prog_18_method_6_16 (q := 17) rfl (v := (1 : Int32)) rfl ?_
      refine Go.goto C dc_prog_18_method_6_17 (by decide) (q := 21) rfl ?_
      refine Go.retZ C rfl (by decide) dc_prog_18_method_6_21 (by decide) (by decide) ?_
      exact ⟨by simp_all, rfl⟩
set_option maxHeartbeats 40000000 in
theorem own_elemN (Z : State) (n : Nat) (h : n < 24) (s_PRODUCE s_FETCH s_LIST_OFFSETS s_METADATA s_OFFSET_COMMIT s_OFFSET_FETCH s_FIND_COORDINATOR s_JOIN_GROUP s_HEARTBEAT s_LEAVE_GROUP s_SYNC_GROUP s_DESCRIBE_GROUPS s_LIST_GROUPS s_API_VERSIONS s_CREATE_TOPICS s_DELETE_TOPICS s_INIT_PRODUCER_ID s_WATCH_STATE s_CHANGE_IN_SYNC s_EPOCH_END s_ALLOCATE_PRODUCER_IDS s_MEMBER_CHALLENGE s_MEMBER_PROOF s_READ_STATE : Addr) (A_PRODUCE : Fld Z Z.heap s_PRODUCE "com/example/mirrored_message_log/mirroredmessagelog/protocol/ApiKey" "minVersion" "S" (.int (0 : Int32))) (B_PRODUCE : Fld Z Z.heap s_PRODUCE "com/example/mirrored_message_log/mirroredmessagelog/protocol/ApiKey" "maxVersion" "S" (.int (7 : Int32))) (E_PRODUCE : Exa Z Z.heap s_PRODUCE "com/example/mirrored_message_log/mirroredmessagelog/protocol/ApiKey") (A_FETCH : Fld Z Z.heap s_FETCH "com/example/mirrored_message_log/mirroredmessagelog/protocol/ApiKey" "minVersion" "S" (.int (4 : Int32))) (B_FETCH : Fld Z Z.heap s_FETCH "com/example/mirrored_message_log/mirroredmessagelog/protocol/ApiKey" "maxVersion" "S" (.int (11 : Int32))) (E_FETCH : Exa Z Z.heap s_FETCH "com/example/mirrored_message_log/mirroredmessagelog/protocol/ApiKey") (A_LIST_OFFSETS : Fld Z Z.heap s_LIST_OFFSETS "com/example/mirrored_message_log/mirroredmessagelog/protocol/ApiKey" "minVersion" "S" (.int (1 : Int32))) (B_LIST_OFFSETS : Fld Z Z.heap s_LIST_OFFSETS "com/example/mirrored_message_log/mirroredmessagelog/protocol/ApiKey" "maxVersion" "S" (.int (2 : Int32))) (E_LIST_OFFSETS : Exa Z Z.heap s_LIST_OFFSETS "com/example/mirrored_message_log/mirroredmessagelog/protocol/ApiKey") (A_METADATA : Fld Z Z.heap s_METADATA "com/example/mirrored_message_log/mirroredmessagelog/protocol/ApiKey" "minVersion" "S" (.int (0 : Int32))) (B_METADATA : Fld Z Z.heap s_METADATA "com/example/mirrored_message_log/mirroredmessagelog/protocol/ApiKey" "maxVersion" "S" (.int (4 : Int32))) (E_METADATA : Exa Z Z.heap s_METADATA "com/example/mirrored_message_log/mirroredmessagelog/protocol/ApiKey") (A_OFFSET_COMMIT : Fld Z Z.heap s_OFFSET_COMMIT "com/example/mirrored_message_log/mirroredmessagelog/protocol/ApiKey" "minVersion" "S" (.int (2 : Int32))) (B_OFFSET_COMMIT : Fld Z Z.heap s_OFFSET_COMMIT "com/example/mirrored_message_log/mirroredmessagelog/protocol/ApiKey" "maxVersion" "S" (.int (7 : Int32))) (E_OFFSET_COMMIT : Exa Z Z.heap s_OFFSET_COMMIT "com/example/mirrored_message_log/mirroredmessagelog/protocol/ApiKey") (A_OFFSET_FETCH : Fld Z Z.heap s_OFFSET_FETCH "com/example/mirrored_message_log/mirroredmessagelog/protocol/ApiKey" "minVersion" "S" (.int (1 : Int32))) (B_OFFSET_FETCH : Fld Z Z.heap s_OFFSET_FETCH "com/example/mirrored_message_log/mirroredmessagelog/protocol/ApiKey" "maxVersion" "S" (.int (5 : Int32))) (E_OFFSET_FETCH : Exa Z Z.heap s_OFFSET_FETCH "com/example/mirrored_message_log/mirroredmessagelog/protocol/ApiKey") (A_FIND_COORDINATOR : Fld Z Z.heap s_FIND_COORDINATOR "com/example/mirrored_message_log/mirroredmessagelog/protocol/ApiKey" "minVersion" "S" (.int (0 : Int32))) (B_FIND_COORDINATOR : Fld Z Z.heap s_FIND_COORDINATOR "com/example/mirrored_message_log/mirroredmessagelog/protocol/ApiKey" "maxVersion" "S" (.int (2 : Int32))) (E_FIND_COORDINATOR : Exa Z Z.heap s_FIND_COORDINATOR "com/example/mirrored_message_log/mirroredmessagelog/protocol/ApiKey") (A_JOIN_GROUP : Fld Z Z.heap s_JOIN_GROUP "com/example/mirrored_message_log/mirroredmessagelog/protocol/ApiKey" "minVersion" "S" (.int (0 : Int32))) (B_JOIN_GROUP : Fld Z Z.heap s_JOIN_GROUP "com/example/mirrored_message_log/mirroredmessagelog/protocol/ApiKey" "maxVersion" "S" (.int (5 : Int32))) (E_JOIN_GROUP : Exa Z Z.heap s_JOIN_GROUP "com/example/mirrored_message_log/mirroredmessagelog/protocol/ApiKey") (A_HEARTBEAT : Fld Z Z.heap s_HEARTBEAT "com/example/mirrored_message_log/mirroredmessagelog/protocol/ApiKey" "minVersion" "S" (.int (0 : Int32))) (B_HEARTBEAT : Fld Z Z.heap s_HEARTBEAT "com/example/mirrored_message_log/mirroredmessagelog/protocol/ApiKey" "maxVersion" "S" (.int (3 : Int32))) (E_HEARTBEAT : Exa Z Z.heap s_HEARTBEAT "com/example/mirrored_message_log/mirroredmessagelog/protocol/ApiKey") (A_LEAVE_GROUP : Fld Z Z.heap s_LEAVE_GROUP "com/example/mirrored_message_log/mirroredmessagelog/protocol/ApiKey" "minVersion" "S" (.int (0 : Int32))) (B_LEAVE_GROUP : Fld Z Z.heap s_LEAVE_GROUP "com/example/mirrored_message_log/mirroredmessagelog/protocol/ApiKey" "maxVersion" "S" (.int (1 : Int32))) (E_LEAVE_GROUP : Exa Z Z.heap s_LEAVE_GROUP "com/example/mirrored_message_log/mirroredmessagelog/protocol/ApiKey") (A_SYNC_GROUP : Fld Z Z.heap s_SYNC_GROUP "com/example/mirrored_message_log/mirroredmessagelog/protocol/ApiKey" "minVersion" "S" (.int (0 : Int32))) (B_SYNC_GROUP : Fld Z Z.heap s_SYNC_GROUP "com/example/mirrored_message_log/mirroredmessagelog/protocol/ApiKey" "maxVersion" "S" (.int (3 : Int32))) (E_SYNC_GROUP : Exa Z Z.heap s_SYNC_GROUP "com/example/mirrored_message_log/mirroredmessagelog/protocol/ApiKey") (A_DESCRIBE_GROUPS : Fld Z Z.heap s_DESCRIBE_GROUPS "com/example/mirrored_message_log/mirroredmessagelog/protocol/ApiKey" "minVersion" "S" (.int (0 : Int32))) (B_DESCRIBE_GROUPS : Fld Z Z.heap s_DESCRIBE_GROUPS "com/example/mirrored_message_log/mirroredmessagelog/protocol/ApiKey" "maxVersion" "S" (.int (2 : Int32))) (E_DESCRIBE_GROUPS : Exa Z Z.heap s_DESCRIBE_GROUPS "com/example/mirrored_message_log/mirroredmessagelog/protocol/ApiKey") (A_LIST_GROUPS : Fld Z Z.heap s_LIST_GROUPS "com/example/mirrored_message_log/mirroredmessagelog/protocol/ApiKey" "minVersion" "S" (.int (0 : Int32))) (B_LIST_GROUPS : Fld Z Z.heap s_LIST_GROUPS "com/example/mirrored_message_log/mirroredmessagelog/protocol/ApiKey" "maxVersion" "S" (.int (2 : Int32))) (E_LIST_GROUPS : Exa Z Z.heap s_LIST_GROUPS "com/example/mirrored_message_log/mirroredmessagelog/protocol/ApiKey") (A_API_VERSIONS : Fld Z Z.heap s_API_VERSIONS "com/example/mirrored_message_log/mirroredmessagelog/protocol/ApiKey" "minVersion" "S" (.int (0 : Int32))) (B_API_VERSIONS : Fld Z Z.heap s_API_VERSIONS "com/example/mirrored_message_log/mirroredmessagelog/protocol/ApiKey" "maxVersion" "S" (.int (3 : Int32))) (E_API_VERSIONS : Exa Z Z.heap s_API_VERSIONS "com/example/mirrored_message_log/mirroredmessagelog/protocol/ApiKey") (A_CREATE_TOPICS : Fld Z Z.heap s_CREATE_TOPICS "com/example/mirrored_message_log/mirroredmessagelog/protocol/ApiKey" "minVersion" "S" (.int (2 : Int32))) (B_CREATE_TOPICS : Fld Z Z.heap s_CREATE_TOPICS "com/example/mirrored_message_log/mirroredmessagelog/protocol/ApiKey" "maxVersion" "S" (.int (4 : Int32))) (E_CREATE_TOPICS : Exa Z Z.heap s_CREATE_TOPICS "com/example/mirrored_message_log/mirroredmessagelog/protocol/ApiKey") (A_DELETE_TOPICS : Fld Z Z.heap s_DELETE_TOPICS "com/example/mirrored_message_log/mirroredmessagelog/protocol/ApiKey" "minVersion" "S" (.int (0 : Int32))) (B_DELETE_TOPICS : Fld Z Z.heap s_DELETE_TOPICS "com/example/mirrored_message_log/mirroredmessagelog/protocol/ApiKey" "maxVersion" "S" (.int (3 : Int32))) (E_DELETE_TOPICS : Exa Z Z.heap s_DELETE_TOPICS "com/example/mirrored_message_log/mirroredmessagelog/protocol/ApiKey") (A_INIT_PRODUCER_ID : Fld Z Z.heap s_INIT_PRODUCER_ID "com/example/mirrored_message_log/mirroredmessagelog/protocol/ApiKey" "minVersion" "S" (.int (0 : Int32))) (B_INIT_PRODUCER_ID : Fld Z Z.heap s_INIT_PRODUCER_ID "com/example/mirrored_message_log/mirroredmessagelog/protocol/ApiKey" "maxVersion" "S" (.int (1 : Int32))) (E_INIT_PRODUCER_ID : Exa Z Z.heap s_INIT_PRODUCER_ID "com/example/mirrored_message_log/mirroredmessagelog/protocol/ApiKey") (A_WATCH_STATE : Fld Z Z.heap s_WATCH_STATE "com/example/mirrored_message_log/mirroredmessagelog/protocol/ApiKey" "minVersion" "S" (.int (4 : Int32))) (B_WATCH_STATE : Fld Z Z.heap s_WATCH_STATE "com/example/mirrored_message_log/mirroredmessagelog/protocol/ApiKey" "maxVersion" "S" (.int (4 : Int32))) (E_WATCH_STATE : Exa Z Z.heap s_WATCH_STATE "com/example/mirrored_message_log/mirroredmessagelog/protocol/ApiKey") (A_CHANGE_IN_SYNC : Fld Z Z.heap s_CHANGE_IN_SYNC "com/example/mirrored_message_log/mirroredmessagelog/protocol/ApiKey" "minVersion" "S" (.int (1 : Int32))) (B_CHANGE_IN_SYNC : Fld Z Z.heap s_CHANGE_IN_SYNC "com/example/mirrored_message_log/mirroredmessagelog/protocol/ApiKey" "maxVersion" "S" (.int (1 : Int32))) (E_CHANGE_IN_SYNC : Exa Z Z.heap s_CHANGE_IN_SYNC "com/example/mirrored_message_log/mirroredmessagelog/protocol/ApiKey") (A_EPOCH_END : Fld Z Z.heap s_EPOCH_END "com/example/mirrored_message_log/mirroredmessagelog/protocol/ApiKey" "minVersion" "S" (.int (0 : Int32))) (B_EPOCH_END : Fld Z Z.heap s_EPOCH_END "com/example/mirrored_message_log/mirroredmessagelog/protocol/ApiKey" "maxVersion" "S" (.int (0 : Int32))) (E_EPOCH_END : Exa Z Z.heap s_EPOCH_END "com/example/mirrored_message_log/mirroredmessagelog/protocol/ApiKey") (A_ALLOCATE_PRODUCER_IDS : Fld Z Z.heap s_ALLOCATE_PRODUCER_IDS "com/example/mirrored_message_log/mirroredmessagelog/protocol/ApiKey" "minVersion" "S" (.int (0 : Int32))) (B_ALLOCATE_PRODUCER_IDS : Fld Z Z.heap s_ALLOCATE_PRODUCER_IDS "com/example/mirrored_message_log/mirroredmessagelog/protocol/ApiKey" "maxVersion" "S" (.int (0 : Int32))) (E_ALLOCATE_PRODUCER_IDS : Exa Z Z.heap s_ALLOCATE_PRODUCER_IDS "com/example/mirrored_message_log/mirroredmessagelog/protocol/ApiKey") (A_MEMBER_CHALLENGE : Fld Z Z.heap s_MEMBER_CHALLENGE "com/example/mirrored_message_log/mirroredmessagelog/protocol/ApiKey" "minVersion" "S" (.int (0 : Int32))) (B_MEMBER_CHALLENGE : Fld Z Z.heap s_MEMBER_CHALLENGE "com/example/mirrored_message_log/mirroredmessagelog/protocol/ApiKey" "maxVersion" "S" (.int (0 : Int32))) (E_MEMBER_CHALLENGE : Exa Z Z.heap s_MEMBER_CHALLENGE "com/example/mirrored_message_log/mirroredmessagelog/protocol/ApiKey") (A_MEMBER_PROOF : Fld Z Z.heap s_MEMBER_PROOF "com/example/mirrored_message_log/mirroredmessagelog/protocol/ApiKey" "minVersion" "S" (.int (0 : Int32))) (B_MEMBER_PROOF : Fld Z Z.heap s_MEMBER_PROOF "com/example/mirrored_message_log/mirroredmessagelog/protocol/ApiKey" "maxVersion" "S" (.int (0 : Int32))) (E_MEMBER_PROOF : Exa Z Z.heap s_MEMBER_PROOF "com/example/mirrored_message_log/mirroredmessagelog/protocol/ApiKey") (A_READ_STATE : Fld Z Z.heap s_READ_STATE "com/example/mirrored_message_log/mirroredmessagelog/protocol/ApiKey" "minVersion" "S" (.int (2 : Int32))) (B_READ_STATE : Fld Z Z.heap s_READ_STATE "com/example/mirrored_message_log/mirroredmessagelog/protocol/ApiKey" "maxVersion" "S" (.int (2 : Int32))) (E_READ_STATE : Exa Z Z.heap s_READ_STATE "com/example/mirrored_message_log/mirroredmessagelog/protocol/ApiKey") :
    ∃ a lo hi, ([(.ref s_PRODUCE), (.ref s_FETCH), (.ref s_LIST_OFFSETS), (.ref s_METADATA), (.ref s_OFFSET_COMMIT), (.ref s_OFFSET_FETCH), (.ref s_FIND_COORDINATOR), (.ref s_JOIN_GROUP), (.ref s_HEARTBEAT), (.ref s_LEAVE_GROUP), (.ref s_SYNC_GROUP), (.ref s_DESCRIBE_GROUPS), (.ref s_LIST_GROUPS), (.ref s_API_VERSIONS), (.ref s_CREATE_TOPICS), (.ref s_DELETE_TOPICS), (.ref s_INIT_PRODUCER_ID), (.ref s_WATCH_STATE), (.ref s_CHANGE_IN_SYNC), (.ref s_EPOCH_END), (.ref s_ALLOCATE_PRODUCER_IDS), (.ref s_MEMBER_CHALLENGE), (.ref s_MEMBER_PROOF), (.ref s_READ_STATE)] : List Value)[n]? = some (.ref a) ∧ ([(.int (0 : Int32)), (.int (4 : Int32)), (.int (1 : Int32)), (.int (0 : Int32)), (.int (2 : Int32)), (.int (1 : Int32)), (.int (0 : Int32)), (.int (0 : Int32)), (.int (0 : Int32)), (.int (0 : Int32)), (.int (0 : Int32)), (.int (0 : Int32)), (.int (0 : Int32)), (.int (0 : Int32)), (.int (2 : Int32)), (.int (0 : Int32)), (.int (0 : Int32)), (.int (4 : Int32)), (.int (1 : Int32)), (.int (0 : Int32)), (.int (0 : Int32)), (.int (0 : Int32)), (.int (0 : Int32)), (.int (2 : Int32))] : List Value)[n]? = some (.int lo) ∧ ([(.int (7 : Int32)), (.int (11 : Int32)), (.int (2 : Int32)), (.int (4 : Int32)), (.int (7 : Int32)), (.int (5 : Int32)), (.int (2 : Int32)), (.int (5 : Int32)), (.int (3 : Int32)), (.int (1 : Int32)), (.int (3 : Int32)), (.int (2 : Int32)), (.int (2 : Int32)), (.int (3 : Int32)), (.int (4 : Int32)), (.int (3 : Int32)), (.int (1 : Int32)), (.int (4 : Int32)), (.int (1 : Int32)), (.int (0 : Int32)), (.int (0 : Int32)), (.int (0 : Int32)), (.int (0 : Int32)), (.int (2 : Int32))] : List Value)[n]? = some (.int hi) ∧ Fld Z Z.heap a "com/example/mirrored_message_log/mirroredmessagelog/protocol/ApiKey" "minVersion" "S" (.int lo) ∧ Fld Z Z.heap a "com/example/mirrored_message_log/mirroredmessagelog/protocol/ApiKey" "maxVersion" "S" (.int hi) ∧ Exa Z Z.heap a "com/example/mirrored_message_log/mirroredmessagelog/protocol/ApiKey" := by
  match n, h with
  | 0, _ => exact ⟨s_PRODUCE, 0, 7, rfl, rfl, rfl, A_PRODUCE, B_PRODUCE, E_PRODUCE⟩
  | 1, _ => exact ⟨s_FETCH, 4, 11, rfl, rfl, rfl, A_FETCH, B_FETCH, E_FETCH⟩
  | 2, _ => exact ⟨s_LIST_OFFSETS, 1, 2, rfl, rfl, rfl, A_LIST_OFFSETS, B_LIST_OFFSETS, E_LIST_OFFSETS⟩
  | 3, _ => exact ⟨s_METADATA, 0, 4, rfl, rfl, rfl, A_METADATA, B_METADATA, E_METADATA⟩
  | 4, _ => exact ⟨s_OFFSET_COMMIT, 2, 7, rfl, rfl, rfl, A_OFFSET_COMMIT, B_OFFSET_COMMIT, E_OFFSET_COMMIT⟩
  | 5, _ => exact ⟨s_OFFSET_FETCH, 1, 5, rfl, rfl, rfl, A_OFFSET_FETCH, B_OFFSET_FETCH, E_OFFSET_FETCH⟩
  | 6, _ => exact ⟨s_FIND_COORDINATOR, 0, 2, rfl, rfl, rfl, A_FIND_COORDINATOR, B_FIND_COORDINATOR, E_FIND_COORDINATOR⟩
  | 7, _ => exact ⟨s_JOIN_GROUP, 0, 5, rfl, rfl, rfl, A_JOIN_GROUP, B_JOIN_GROUP, E_JOIN_GROUP⟩
  | 8, _ => exact ⟨s_HEARTBEAT, 0, 3, rfl, rfl, rfl, A_HEARTBEAT, B_HEARTBEAT, E_HEARTBEAT⟩
  | 9, _ => exact ⟨s_LEAVE_GROUP, 0, 1, rfl, rfl, rfl, A_LEAVE_GROUP, B_LEAVE_GROUP, E_LEAVE_GROUP⟩
  | 10, _ => exact ⟨s_SYNC_GROUP, 0, 3, rfl, rfl, rfl, A_SYNC_GROUP, B_SYNC_GROUP, E_SYNC_GROUP⟩
  | 11, _ => exact ⟨s_DESCRIBE_GROUPS, 0, 2, rfl, rfl, rfl, A_DESCRIBE_GROUPS, B_DESCRIBE_GROUPS, E_DESCRIBE_GROUPS⟩
  | 12, _ => exact ⟨s_LIST_GROUPS, 0, 2, rfl, rfl, rfl, A_LIST_GROUPS, B_LIST_GROUPS, E_LIST_GROUPS⟩
  | 13, _ => exact ⟨s_API_VERSIONS, 0, 3, rfl, rfl, rfl, A_API_VERSIONS, B_API_VERSIONS, E_API_VERSIONS⟩
  | 14, _ => exact ⟨s_CREATE_TOPICS, 2, 4, rfl, rfl, rfl, A_CREATE_TOPICS, B_CREATE_TOPICS, E_CREATE_TOPICS⟩
  | 15, _ => exact ⟨s_DELETE_TOPICS, 0, 3, rfl, rfl, rfl, A_DELETE_TOPICS, B_DELETE_TOPICS, E_DELETE_TOPICS⟩
  | 16, _ => exact ⟨s_INIT_PRODUCER_ID, 0, 1, rfl, rfl, rfl, A_INIT_PRODUCER_ID, B_INIT_PRODUCER_ID, E_INIT_PRODUCER_ID⟩
  | 17, _ => exact ⟨s_WATCH_STATE, 4, 4, rfl, rfl, rfl, A_WATCH_STATE, B_WATCH_STATE, E_WATCH_STATE⟩
  | 18, _ => exact ⟨s_CHANGE_IN_SYNC, 1, 1, rfl, rfl, rfl, A_CHANGE_IN_SYNC, B_CHANGE_IN_SYNC, E_CHANGE_IN_SYNC⟩
  | 19, _ => exact ⟨s_EPOCH_END, 0, 0, rfl, rfl, rfl, A_EPOCH_END, B_EPOCH_END, E_EPOCH_END⟩
  | 20, _ => exact ⟨s_ALLOCATE_PRODUCER_IDS, 0, 0, rfl, rfl, rfl, A_ALLOCATE_PRODUCER_IDS, B_ALLOCATE_PRODUCER_IDS, E_ALLOCATE_PRODUCER_IDS⟩
  | 21, _ => exact ⟨s_MEMBER_CHALLENGE, 0, 0, rfl, rfl, rfl, A_MEMBER_CHALLENGE, B_MEMBER_CHALLENGE, E_MEMBER_CHALLENGE⟩
  | 22, _ => exact ⟨s_MEMBER_PROOF, 0, 0, rfl, rfl, rfl, A_MEMBER_PROOF, B_MEMBER_PROOF, E_MEMBER_PROOF⟩
  | 23, _ => exact ⟨s_READ_STATE, 2, 2, rfl, rfl, rfl, A_READ_STATE, B_READ_STATE, E_READ_STATE⟩
  | n + 24, h => exact absurd h (by omega)
theorem own_ltN (i : Int32) (h : 0 ≤ i.toInt ∧ i.toInt < (24 : Int32).toInt) : i.toNatClampNeg < 24 := by
  have e : (24 : Int32).toInt = 24 := by decide
  have e2 : i.toNatClampNeg = i.toInt.toNat := rfl
  omega
theorem pn_1 : plainName "com/example/mirrored_message_log/mirroredmessagelog/protocol/ApiKeyServesPinLaw" = true := by first | (simp [plainName, overriddenIn]; done) | decide +kernel
set_option maxRecDepth 65536 in
set_option maxHeartbeats 40000000 in
theorem m_law (l : Launch) (Z : State) (a0 : Array Value) (hw : ∀ d ∈ tables_1, d.before a0 Z = true) (which version : Int32) (s_PRODUCE s_FETCH s_LIST_OFFSETS s_METADATA s_OFFSET_COMMIT s_OFFSET_FETCH s_FIND_COORDINATOR s_JOIN_GROUP s_HEARTBEAT s_LEAVE_GROUP s_SYNC_GROUP s_DESCRIBE_GROUPS s_LIST_GROUPS s_API_VERSIONS s_CREATE_TOPICS s_DELETE_TOPICS s_INIT_PRODUCER_ID s_WATCH_STATE s_CHANGE_IN_SYNC s_EPOCH_END s_ALLOCATE_PRODUCER_IDS s_MEMBER_CHALLENGE s_MEMBER_PROOF s_READ_STATE : Addr) (S_s_PRODUCE : Sta Z Z.heap "com/example/mirrored_message_log/mirroredmessagelog/protocol/ApiKey" "PRODUCE" "Lcom/example/mirrored_message_log/mirroredmessagelog/protocol/ApiKey;" (.ref s_PRODUCE)) (E_s_PRODUCE : Exa Z Z.heap s_PRODUCE "com/example/mirrored_message_log/mirroredmessagelog/protocol/ApiKey") (F_s_PRODUCE_minVersion : Fld Z Z.heap s_PRODUCE "com/example/mirrored_message_log/mirroredmessagelog/protocol/ApiKey" "minVersion" "S" (.int (0 : Int32))) (F_s_PRODUCE_maxVersion : Fld Z Z.heap s_PRODUCE "com/example/mirrored_message_log/mirroredmessagelog/protocol/ApiKey" "maxVersion" "S" (.int (7 : Int32))) (S_s_FETCH : Sta Z Z.heap "com/example/mirrored_message_log/mirroredmessagelog/protocol/ApiKey" "FETCH" "Lcom/example/mirrored_message_log/mirroredmessagelog/protocol/ApiKey;" (.ref s_FETCH)) (E_s_FETCH : Exa Z Z.heap s_FETCH "com/example/mirrored_message_log/mirroredmessagelog/protocol/ApiKey") (F_s_FETCH_minVersion : Fld Z Z.heap s_FETCH "com/example/mirrored_message_log/mirroredmessagelog/protocol/ApiKey" "minVersion" "S" (.int (4 : Int32))) (F_s_FETCH_maxVersion : Fld Z Z.heap s_FETCH "com/example/mirrored_message_log/mirroredmessagelog/protocol/ApiKey" "maxVersion" "S" (.int (11 : Int32))) (S_s_LIST_OFFSETS : Sta Z Z.heap "com/example/mirrored_message_log/mirroredmessagelog/protocol/ApiKey" "LIST_OFFSETS" "Lcom/example/mirrored_message_log/mirroredmessagelog/protocol/ApiKey;" (.ref s_LIST_OFFSETS)) (E_s_LIST_OFFSETS : Exa Z Z.heap s_LIST_OFFSETS "com/example/mirrored_message_log/mirroredmessagelog/protocol/ApiKey") (F_s_LIST_OFFSETS_minVersion : Fld Z Z.heap s_LIST_OFFSETS "com/example/mirrored_message_log/mirroredmessagelog/protocol/ApiKey" "minVersion" "S" (.int (1 : Int32))) (F_s_LIST_OFFSETS_maxVersion : Fld Z Z.heap s_LIST_OFFSETS "com/example/mirrored_message_log/mirroredmessagelog/protocol/ApiKey" "maxVersion" "S" (.int (2 : Int32))) (S_s_METADATA : Sta Z Z.heap "com/example/mirrored_message_log/mirroredmessagelog/protocol/ApiKey" "METADATA" "Lcom/example/mirrored_message_log/mirroredmessagelog/protocol/ApiKey;" (.ref s_METADATA)) (E_s_METADATA : Exa Z Z.heap s_METADATA "com/example/mirrored_message_log/mirroredmessagelog/protocol/ApiKey") (F_s_METADATA_minVersion : Fld Z Z.heap s_METADATA "com/example/mirrored_message_log/mirroredmessagelog/protocol/ApiKey" "minVersion" "S" (.int (0 : Int32))) (F_s_METADATA_maxVersion : Fld Z Z.heap s_METADATA "com/example/mirrored_message_log/mirroredmessagelog/protocol/ApiKey" "maxVersion" "S" (.int (4 : Int32))) (S_s_OFFSET_COMMIT : Sta Z Z.heap "com/example/mirrored_message_log/mirroredmessagelog/protocol/ApiKey" "OFFSET_COMMIT" "Lcom/example/mirrored_message_log/mirroredmessagelog/protocol/ApiKey;" (.ref s_OFFSET_COMMIT)) (E_s_OFFSET_COMMIT : Exa Z Z.heap s_OFFSET_COMMIT "com/example/mirrored_message_log/mirroredmessagelog/protocol/ApiKey") (F_s_OFFSET_COMMIT_minVersion : Fld Z Z.heap s_OFFSET_COMMIT "com/example/mirrored_message_log/mirroredmessagelog/protocol/ApiKey" "minVersion" "S" (.int (2 : Int32))) (F_s_OFFSET_COMMIT_maxVersion : Fld Z Z.heap s_OFFSET_COMMIT "com/example/mirrored_message_log/mirroredmessagelog/protocol/ApiKey" "maxVersion" "S" (.int (7 : Int32))) (S_s_OFFSET_FETCH : Sta Z Z.heap "com/example/mirrored_message_log/mirroredmessagelog/protocol/ApiKey" "OFFSET_FETCH" "Lcom/example/mirrored_message_log/mirroredmessagelog/protocol/ApiKey;" (.ref s_OFFSET_FETCH)) (E_s_OFFSET_FETCH : Exa Z Z.heap s_OFFSET_FETCH "com/example/mirrored_message_log/mirroredmessagelog/protocol/ApiKey") (F_s_OFFSET_FETCH_minVersion : Fld Z Z.heap s_OFFSET_FETCH "com/example/mirrored_message_log/mirroredmessagelog/protocol/ApiKey" "minVersion" "S" (.int (1 : Int32))) (F_s_OFFSET_FETCH_maxVersion : Fld Z Z.heap s_OFFSET_FETCH "com/example/mirrored_message_log/mirroredmessagelog/protocol/ApiKey" "maxVersion" "S" (.int (5 : Int32))) (S_s_FIND_COORDINATOR : Sta Z Z.heap "com/example/mirrored_message_log/mirroredmessagelog/protocol/ApiKey" "FIND_COORDINATOR" "Lcom/example/mirrored_message_log/mirroredmessagelog/protocol/ApiKey;" (.ref s_FIND_COORDINATOR)) (E_s_FIND_COORDINATOR : Exa Z Z.heap s_FIND_COORDINATOR "com/example/mirrored_message_log/mirroredmessagelog/protocol/ApiKey") (F_s_FIND_COORDINATOR_minVersion : Fld Z Z.heap s_FIND_COORDINATOR "com/example/mirrored_message_log/mirroredmessagelog/protocol/ApiKey" "minVersion" "S" (.int (0 : Int32))) (F_s_FIND_COORDINATOR_maxVersion : Fld Z Z.heap s_FIND_COORDINATOR "com/example/mirrored_message_log/mirroredmessagelog/protocol/ApiKey" "maxVersion" "S" (.int (2 : Int32))) (S_s_JOIN_GROUP : Sta Z Z.heap "com/example/mirrored_message_log/mirroredmessagelog/protocol/ApiKey" "JOIN_GROUP" "Lcom/example/mirrored_message_log/mirroredmessagelog/protocol/ApiKey;" (.ref s_JOIN_GROUP)) (E_s_JOIN_GROUP : Exa Z Z.heap s_JOIN_GROUP "com/example/mirrored_message_log/mirroredmessagelog/protocol/ApiKey") (F_s_JOIN_GROUP_minVersion : Fld Z Z.heap s_JOIN_GROUP "com/example/mirrored_message_log/mirroredmessagelog/protocol/ApiKey" "minVersion" "S" (.int (0 : Int32))) (F_s_JOIN_GROUP_maxVersion : Fld Z Z.heap s_JOIN_GROUP "com/example/mirrored_message_log/mirroredmessagelog/protocol/ApiKey" "maxVersion" "S" (.int (5 : Int32))) (S_s_HEARTBEAT : Sta Z Z.heap "com/example/mirrored_message_log/mirroredmessagelog/protocol/ApiKey" "HEARTBEAT" "Lcom/example/mirrored_message_log/mirroredmessagelog/protocol/ApiKey;" (.ref s_HEARTBEAT)) (E_s_HEARTBEAT : Exa Z Z.heap s_HEARTBEAT "com/example/mirrored_message_log/mirroredmessagelog/protocol/ApiKey") (F_s_HEARTBEAT_minVersion : Fld Z Z.heap s_HEARTBEAT "com/example/mirrored_message_log/mirroredmessagelog/protocol/ApiKey" "minVersion" "S" (.int (0 : Int32))) (F_s_HEARTBEAT_maxVersion : Fld Z Z.heap s_HEARTBEAT "com/example/mirrored_message_log/mirroredmessagelog/protocol/ApiKey" "maxVersion" "S" (.int (3 : Int32))) (S_s_LEAVE_GROUP : Sta Z Z.heap "com/example/mirrored_message_log/mirroredmessagelog/protocol/ApiKey" "LEAVE_GROUP" "Lcom/example/mirrored_message_log/mirroredmessagelog/protocol/ApiKey;" (.ref s_LEAVE_GROUP)) (E_s_LEAVE_GROUP : Exa Z Z.heap s_LEAVE_GROUP "com/example/mirrored_message_log/mirroredmessagelog/protocol/ApiKey") (F_s_LEAVE_GROUP_minVersion : Fld Z Z.heap s_LEAVE_GROUP "com/example/mirrored_message_log/mirroredmessagelog/protocol/ApiKey" "minVersion" "S" (.int (0 : Int32))) (F_s_LEAVE_GROUP_maxVersion : Fld Z Z.heap s_LEAVE_GROUP "com/example/mirrored_message_log/mirroredmessagelog/protocol/ApiKey" "maxVersion" "S" (.int (1 : Int32))) (S_s_SYNC_GROUP : Sta Z Z.heap "com/example/mirrored_message_log/mirroredmessagelog/protocol/ApiKey" "SYNC_GROUP" "Lcom/example/mirrored_message_log/mirroredmessagelog/protocol/ApiKey;" (.ref s_SYNC_GROUP)) (E_s_SYNC_GROUP : Exa Z Z.heap s_SYNC_GROUP "com/example/mirrored_message_log/mirroredmessagelog/protocol/ApiKey") (F_s_SYNC_GROUP_minVersion : Fld Z Z.heap s_SYNC_GROUP "com/example/mirrored_message_log/mirroredmessagelog/protocol/ApiKey" "minVersion" "S" (.int (0 : Int32))) (F_s_SYNC_GROUP_maxVersion : Fld Z Z.heap s_SYNC_GROUP "com/example/mirrored_message_log/mirroredmessagelog/protocol/ApiKey" "maxVersion" "S" (.int (3 : Int32))) (S_s_DESCRIBE_GROUPS : Sta Z Z.heap "com/example/mirrored_message_log/mirroredmessagelog/protocol/ApiKey" "DESCRIBE_GROUPS" "Lcom/example/mirrored_message_log/mirroredmessagelog/protocol/ApiKey;" (.ref s_DESCRIBE_GROUPS)) (E_s_DESCRIBE_GROUPS : Exa Z Z.heap s_DESCRIBE_GROUPS "com/example/mirrored_message_log/mirroredmessagelog/protocol/ApiKey") (F_s_DESCRIBE_GROUPS_minVersion : Fld Z Z.heap s_DESCRIBE_GROUPS "com/example/mirrored_message_log/mirroredmessagelog/protocol/ApiKey" "minVersion" "S" (.int (0 : Int32))) (F_s_DESCRIBE_GROUPS_maxVersion : Fld Z Z.heap s_DESCRIBE_GROUPS "com/example/mirrored_message_log/mirroredmessagelog/protocol/ApiKey" "maxVersion" "S" (.int (2 : Int32))) (S_s_LIST_GROUPS : Sta Z Z.heap "com/example/mirrored_message_log/mirroredmessagelog/protocol/ApiKey" "LIST_GROUPS" "Lcom/example/mirrored_message_log/mirroredmessagelog/protocol/ApiKey;" (.ref s_LIST_GROUPS)) (E_s_LIST_GROUPS : Exa Z Z.heap s_LIST_GROUPS "com/example/mirrored_message_log/mirroredmessagelog/protocol/ApiKey") (F_s_LIST_GROUPS_minVersion : Fld Z Z.heap s_LIST_GROUPS "com/example/mirrored_message_log/mirroredmessagelog/protocol/ApiKey" "minVersion" "S" (.int (0 : Int32))) (F_s_LIST_GROUPS_maxVersion : Fld Z Z.heap s_LIST_GROUPS "com/example/mirrored_message_log/mirroredmessagelog/protocol/ApiKey" "maxVersion" "S" (.int (2 : Int32))) (S_s_API_VERSIONS : Sta Z Z.heap "com/example/mirrored_message_log/mirroredmessagelog/protocol/ApiKey" "API_VERSIONS" "Lcom/example/mirrored_message_log/mirroredmessagelog/protocol/ApiKey;" (.ref s_API_VERSIONS)) (E_s_API_VERSIONS : Exa Z Z.heap s_API_VERSIONS "com/example/mirrored_message_log/mirroredmessagelog/protocol/ApiKey") (F_s_API_VERSIONS_minVersion : Fld Z Z.heap s_API_VERSIONS "com/example/mirrored_message_log/mirroredmessagelog/protocol/ApiKey" "minVersion" "S" (.int (0 : Int32))) (F_s_API_VERSIONS_maxVersion : Fld Z Z.heap s_API_VERSIONS "com/example/mirrored_message_log/mirroredmessagelog/protocol/ApiKey" "maxVersion" "S" (.int (3 : Int32))) (S_s_CREATE_TOPICS : Sta Z Z.heap "com/example/mirrored_message_log/mirroredmessagelog/protocol/ApiKey" "CREATE_TOPICS" "Lcom/example/mirrored_message_log/mirroredmessagelog/protocol/ApiKey;" (.ref s_CREATE_TOPICS)) (E_s_CREATE_TOPICS : Exa Z Z.heap s_CREATE_TOPICS "com/example/mirrored_message_log/mirroredmessagelog/protocol/ApiKey") (F_s_CREATE_TOPICS_minVersion : Fld Z Z.heap s_CREATE_TOPICS "com/example/mirrored_message_log/mirroredmessagelog/protocol/ApiKey" "minVersion" "S" (.int (2 : Int32))) (F_s_CREATE_TOPICS_maxVersion : Fld Z Z.heap s_CREATE_TOPICS "com/example/mirrored_message_log/mirroredmessagelog/protocol/ApiKey" "maxVersion" "S" (.int (4 : Int32))) (S_s_DELETE_TOPICS : Sta Z Z.heap "com/example/mirrored_message_log/mirroredmessagelog/protocol/ApiKey" "DELETE_TOPICS" "Lcom/example/mirrored_message_log/mirroredmessagelog/protocol/ApiKey;" (.ref s_DELETE_TOPICS)) (E_s_DELETE_TOPICS : Exa Z Z.heap s_DELETE_TOPICS "com/example/mirrored_message_log/mirroredmessagelog/protocol/ApiKey") (F_s_DELETE_TOPICS_minVersion : Fld Z Z.heap s_DELETE_TOPICS "com/example/mirrored_message_log/mirroredmessagelog/protocol/ApiKey" "minVersion" "S" (.int (0 : Int32))) (F_s_DELETE_TOPICS_maxVersion : Fld Z Z.heap s_DELETE_TOPICS "com/example/mirrored_message_log/mirroredmessagelog/protocol/ApiKey" "maxVersion" "S" (.int (3 : Int32))) (S_s_INIT_PRODUCER_ID : Sta Z Z.heap "com/example/mirrored_message_log/mirroredmessagelog/protocol/ApiKey" "INIT_PRODUCER_ID" "Lcom/example/mirrored_message_log/mirroredmessagelog/protocol/ApiKey;" (.ref s_INIT_PRODUCER_ID)) (E_s_INIT_PRODUCER_ID : Exa Z Z.heap s_INIT_PRODUCER_ID "com/example/mirrored_message_log/mirroredmessagelog/protocol/ApiKey") (F_s_INIT_PRODUCER_ID_minVersion : Fld Z Z.heap s_INIT_PRODUCER_ID "com/example/mirrored_message_log/mirroredmessagelog/protocol/ApiKey" "minVersion" "S" (.int (0 : Int32))) (F_s_INIT_PRODUCER_ID_maxVersion : Fld Z Z.heap s_INIT_PRODUCER_ID "com/example/mirrored_message_log/mirroredmessagelog/protocol/ApiKey" "maxVersion" "S" (.int (1 : Int32))) (S_s_WATCH_STATE : Sta Z Z.heap "com/example/mirrored_message_log/mirroredmessagelog/protocol/ApiKey" "WATCH_STATE" "Lcom/example/mirrored_message_log/mirroredmessagelog/protocol/ApiKey;" (.ref s_WATCH_STATE)) (E_s_WATCH_STATE : Exa Z Z.heap s_WATCH_STATE "com/example/mirrored_message_log/mirroredmessagelog/protocol/ApiKey") (F_s_WATCH_STATE_minVersion : Fld Z Z.heap s_WATCH_STATE "com/example/mirrored_message_log/mirroredmessagelog/protocol/ApiKey" "minVersion" "S" (.int (4 : Int32))) (F_s_WATCH_STATE_maxVersion : Fld Z Z.heap s_WATCH_STATE "com/example/mirrored_message_log/mirroredmessagelog/protocol/ApiKey" "maxVersion" "S" (.int (4 : Int32))) (S_s_CHANGE_IN_SYNC : Sta Z Z.heap "com/example/mirrored_message_log/mirroredmessagelog/protocol/ApiKey" "CHANGE_IN_SYNC" "Lcom/example/mirrored_message_log/mirroredmessagelog/protocol/ApiKey;" (.ref s_CHANGE_IN_SYNC)) (E_s_CHANGE_IN_SYNC : Exa Z Z.heap s_CHANGE_IN_SYNC "com/example/mirrored_message_log/mirroredmessagelog/protocol/ApiKey") (F_s_CHANGE_IN_SYNC_minVersion : Fld Z Z.heap s_CHANGE_IN_SYNC "com/example/mirrored_message_log/mirroredmessagelog/protocol/ApiKey" "minVersion" "S" (.int (1 : Int32))) (F_s_CHANGE_IN_SYNC_maxVersion : Fld Z Z.heap s_CHANGE_IN_SYNC "com/example/mirrored_message_log/mirroredmessagelog/protocol/ApiKey" "maxVersion" "S" (.int (1 : Int32))) (S_s_EPOCH_END : Sta Z Z.heap "com/example/mirrored_message_log/mirroredmessagelog/protocol/ApiKey" "EPOCH_END" "Lcom/example/mirrored_message_log/mirroredmessagelog/protocol/ApiKey;" (.ref s_EPOCH_END)) (E_s_EPOCH_END : Exa Z Z.heap s_EPOCH_END "com/example/mirrored_message_log/mirroredmessagelog/protocol/ApiKey") (F_s_EPOCH_END_minVersion : Fld Z Z.heap s_EPOCH_END "com/example/mirrored_message_log/mirroredmessagelog/protocol/ApiKey" "minVersion" "S" (.int (0 : Int32))) (F_s_EPOCH_END_maxVersion : Fld Z Z.heap s_EPOCH_END "com/example/mirrored_message_log/mirroredmessagelog/protocol/ApiKey" "maxVersion" "S" (.int (0 : Int32))) (S_s_ALLOCATE_PRODUCER_IDS : Sta Z Z.heap "com/example/mirrored_message_log/mirroredmessagelog/protocol/ApiKey" "ALLOCATE_PRODUCER_IDS" "Lcom/example/mirrored_message_log/mirroredmessagelog/protocol/ApiKey;" (.ref s_ALLOCATE_PRODUCER_IDS)) (E_s_ALLOCATE_PRODUCER_IDS : Exa Z Z.heap s_ALLOCATE_PRODUCER_IDS "com/example/mirrored_message_log/mirroredmessagelog/protocol/ApiKey") (F_s_ALLOCATE_PRODUCER_IDS_minVersion : Fld Z Z.heap s_ALLOCATE_PRODUCER_IDS "com/example/mirrored_message_log/mirroredmessagelog/protocol/ApiKey" "minVersion" "S" (.int (0 : Int32))) (F_s_ALLOCATE_PRODUCER_IDS_maxVersion : Fld Z Z.heap s_ALLOCATE_PRODUCER_IDS "com/example/mirrored_message_log/mirroredmessagelog/protocol/ApiKey" "maxVersion" "S" (.int (0 : Int32))) (S_s_MEMBER_CHALLENGE : Sta Z Z.heap "com/example/mirrored_message_log/mirroredmessagelog/protocol/ApiKey" "MEMBER_CHALLENGE" "Lcom/example/mirrored_message_log/mirroredmessagelog/protocol/ApiKey;" (.ref s_MEMBER_CHALLENGE)) (E_s_MEMBER_CHALLENGE : Exa Z Z.heap s_MEMBER_CHALLENGE "com/example/mirrored_message_log/mirroredmessagelog/protocol/ApiKey") (F_s_MEMBER_CHALLENGE_minVersion : Fld Z Z.heap s_MEMBER_CHALLENGE "com/example/mirrored_message_log/mirroredmessagelog/protocol/ApiKey" "minVersion" "S" (.int (0 : Int32))) (F_s_MEMBER_CHALLENGE_maxVersion : Fld Z Z.heap s_MEMBER_CHALLENGE "com/example/mirrored_message_log/mirroredmessagelog/protocol/ApiKey" "maxVersion" "S" (.int (0 : Int32))) (S_s_MEMBER_PROOF : Sta Z Z.heap "com/example/mirrored_message_log/mirroredmessagelog/protocol/ApiKey" "MEMBER_PROOF" "Lcom/example/mirrored_message_log/mirroredmessagelog/protocol/ApiKey;" (.ref s_MEMBER_PROOF)) (E_s_MEMBER_PROOF : Exa Z Z.heap s_MEMBER_PROOF "com/example/mirrored_message_log/mirroredmessagelog/protocol/ApiKey") (F_s_MEMBER_PROOF_minVersion : Fld Z Z.heap s_MEMBER_PROOF "com/example/mirrored_message_log/mirroredmessagelog/protocol/ApiKey" "minVersion" "S" (.int (0 : Int32))) (F_s_MEMBER_PROOF_maxVersion : Fld Z Z.heap s_MEMBER_PROOF "com/example/mirrored_message_log/mirroredmessagelog/protocol/ApiKey" "maxVersion" "S" (.int (0 : Int32))) (S_s_READ_STATE : Sta Z Z.heap "com/example/mirrored_message_log/mirroredmessagelog/protocol/ApiKey" "READ_STATE" "Lcom/example/mirrored_message_log/mirroredmessagelog/protocol/ApiKey;" (.ref s_READ_STATE)) (E_s_READ_STATE : Exa Z Z.heap s_READ_STATE "com/example/mirrored_message_log/mirroredmessagelog/protocol/ApiKey") (F_s_READ_STATE_minVersion : Fld Z Z.heap s_READ_STATE "com/example/mirrored_message_log/mirroredmessagelog/protocol/ApiKey" "minVersion" "S" (.int (2 : Int32))) (F_s_READ_STATE_maxVersion : Fld Z Z.heap s_READ_STATE "com/example/mirrored_message_log/mirroredmessagelog/protocol/ApiKey" "maxVersion" "S" (.int (2 : Int32))) :
    Met l Z x code maxLocals ret room_1 #[(.int which), (.int version)] ([]) (fun v _ => v = some (.int 1)) := by
  refine Met.of_go pn_1 (Ls := #[.val (.int which), .val (.int version), .unset, .unset, .unset, .unset, .unset, .unset, .unset, .unset]) (fun m => by first | rfl | (simp [entryFrame, mkF, argsToLocals, Value.category, maxLocals]; done)) ?_
  intro E C
  refine Go.bipush C at_0 (q := 2) rfl (v := (24 : Int32)) (by decide) ?_
  refine Go.anewarray C (wd hw 0 rfl) (wd hw 1 rfl) (by decide) (cap := 24) (by decide) (by decide) (vs := [.null, .null, .null, .null, .null, .null, .null, .null, .null, .null, .null, .null, .null, .null, .null, .null, .null, .null, .null, .null, .null, .null, .null, .null]) rfl at_2 (q := 5) rfl (by decide) (by decide) (k' := 1) (n' := 24) rfl rfl (fun o1 => ?_)
  refine Go.dup C at_5 (q := 6) rfl rfl ?_
  refine Go.iconst C at_6 (q := 7) rfl (v := (0 : Int32)) rfl ?_
  refine Go.getS C (host := "") (Or.inl (wd hw 2 rfl)) Via.refl S_s_PRODUCE at_7 (q := 10) rfl ?_
  refine Go.aastore C (i := 0) rfl (by decide) (show (0 : Int32).toNatClampNeg < 24 from by decide) (fun _ r => Or.inr ⟨_, rfl, Ins.self ((E_s_PRODUCE).ext r.1)⟩) at_10 (q := 11) rfl (M' := ((o1, .inr (.object "com/example/mirrored_message_log/mirroredmessagelog/protocol/ApiKey", [(.ref s_PRODUCE), .null, .null, .null, .null, .null, .null, .null, .null, .null, .null, .null, .null, .null, .null, .null, .null, .null, .null, .null, .null, .null, .null, .null])) :: [])) rfl ?_
  refine Go.dup C at_11 (q := 12) rfl rfl ?_
  refine Go.iconst C at_12 (q := 13) rfl (v := (1 : Int32)) rfl ?_
  refine Go.getS C (host := "") (Or.inl (wd hw 6 rfl)) Via.refl S_s_FETCH at_13 (q := 16) rfl ?_
  refine Go.aastore C (i := 0) rfl (by decide) (show (1 : Int32).toNatClampNeg < 24 from by decide) (fun _ r => Or.inr ⟨_, rfl, Ins.self ((E_s_FETCH).ext r.1)⟩) at_16 (q := 17) rfl (M' := ((o1, .inr (.object "com/example/mirrored_message_log/mirroredmessagelog/protocol/ApiKey", [(.ref s_PRODUCE), (.ref s_FETCH), .null, .null, .null, .null, .null, .null, .null, .null, .null, .null, .null, .null, .null, .null, .null, .null, .null, .null, .null, .null, .null, .null])) :: [])) rfl ?_
  refine Go.dup C at_17 (q := 18) rfl rfl ?_
  refine Go.iconst C at_18 (q := 19) rfl (v := (2 : Int32)) rfl ?_
  refine Go.getS C (host := "") (Or.inl (wd hw 8 rfl)) Via.refl S_s_LIST_OFFSETS at_19 (q := 22) rfl ?_
  refine Go.aastore C (i := 0) rfl (by decide) (show (2 : Int32).toNatClampNeg < 24 from by decide) (fun _ r => Or.inr ⟨_, rfl, Ins.self ((E_s_LIST_OFFSETS).ext r.1)⟩) at_22 (q := 23) rfl (M' := ((o1, .inr (.object "com/example/mirrored_message_log/mirroredmessagelog/protocol/ApiKey", [(.ref s_PRODUCE), (.ref s_FETCH), (.ref s_LIST_OFFSETS), .null, .null, .null, .null, .null, .null, .null, .null, .null, .null, .null, .null, .null, .null, .null, .null, .null, .null, .null, .null, .null])) :: [])) rfl ?_
  refine Go.dup C at_23 (q := 24) rfl rfl ?_
  refine Go.iconst C at_24 (q := 25) rfl (v := (3 : Int32)) rfl ?_
  refine Go.getS C (host := "") (Or.inl (wd hw 10 rfl)) Via.refl S_s_METADATA at_25 (q := 28) rfl ?_
  refine Go.aastore C (i := 0) rfl (by decide) (show (3 : Int32).toNatClampNeg < 24 from by decide) (fun _ r => Or.inr ⟨_, rfl, Ins.self ((E_s_METADATA).ext r.1)⟩) at_28 (q := 29) rfl (M' := ((o1, .inr (.object "com/example/mirrored_message_log/mirroredmessagelog/protocol/ApiKey", [(.ref s_PRODUCE), (.ref s_FETCH), (.ref s_LIST_OFFSETS), (.ref s_METADATA), .null, .null, .null, .null, .null, .null, .null, .null, .null, .null, .null, .null, .null, .null, .null, .null, .null, .null, .null, .null])) :: [])) rfl ?_
  refine Go.dup C at_29 (q := 30) rfl rfl ?_
  refine Go.iconst C at_30 (q := 31) rfl (v := (4 : Int32)) rfl ?_
  refine Go.getS C (host := "") (Or.inl (wd hw 12 rfl)) Via.refl S_s_OFFSET_COMMIT at_31 (q := 34) rfl ?_
  refine Go.aastore C (i := 0) rfl (by decide) (show (4 : Int32).toNatClampNeg < 24 from by decide) (fun _ r => Or.inr ⟨_, rfl, Ins.self ((E_s_OFFSET_COMMIT).ext r.1)⟩) at_34 (q := 35) rfl (M' := ((o1, .inr (.object "com/example/mirrored_message_log/mirroredmessagelog/protocol/ApiKey", [(.ref s_PRODUCE), (.ref s_FETCH), (.ref s_LIST_OFFSETS), (.ref s_METADATA), (.ref s_OFFSET_COMMIT), .null, .null, .null, .null, .null, .null, .null, .null, .null, .null, .null, .null, .null, .null, .null, .null, .null, .null, .null])) :: [])) rfl ?_
  refine Go.dup C at_35 (q := 36) rfl rfl ?_
  refine Go.iconst C at_36 (q := 37) rfl (v := (5 : Int32)) rfl ?_
  refine Go.getS C (host := "") (Or.inl (wd hw 14 rfl)) Via.refl S_s_OFFSET_FETCH at_37 (q := 40) rfl ?_
  refine Go.aastore C (i := 0) rfl (by decide) (show (5 : Int32).toNatClampNeg < 24 from by decide) (fun _ r => Or.inr ⟨_, rfl, Ins.self ((E_s_OFFSET_FETCH).ext r.1)⟩) at_40 (q := 41) rfl (M' := ((o1, .inr (.object "com/example/mirrored_message_log/mirroredmessagelog/protocol/ApiKey", [(.ref s_PRODUCE), (.ref s_FETCH), (.ref s_LIST_OFFSETS), (.ref s_METADATA), (.ref s_OFFSET_COMMIT), (.ref s_OFFSET_FETCH), .null, .null, .null, .null, .null, .null, .null, .null, .null, .null, .null, .null, .null, .null, .null, .null, .null, .null])) :: [])) rfl ?_
  refine Go.dup C at_41 (q := 42) rfl rfl ?_
  refine Go.bipush C at_42 (q := 44) rfl (v := (6 : Int32)) (by decide) ?_
  refine Go.getS C (host := "") (Or.inl (wd hw 16 rfl)) Via.refl S_s_FIND_COORDINATOR at_44 (q := 47) rfl ?_
  refine Go.aastore C (i := 0) rfl (by decide) (show (6 : Int32).toNatClampNeg < 24 from by decide) (fun _ r => Or.inr ⟨_, rfl, Ins.self ((E_s_FIND_COORDINATOR).ext r.1)⟩) at_47 (q := 48) rfl (M' := ((o1, .inr (.object "com/example/mirrored_message_log/mirroredmessagelog/protocol/ApiKey", [(.ref s_PRODUCE), (.ref s_FETCH), (.ref s_LIST_OFFSETS), (.ref s_METADATA), (.ref s_OFFSET_COMMIT), (.ref s_OFFSET_FETCH), (.ref s_FIND_COORDINATOR), .null, .null, .null, .null, .null, .null, .null, .null, .null, .null, .null, .null, .null, .null, .null, .null, .null])) :: [])) rfl ?_
  refine Go.dup C at_48 (q := 49) rfl rfl ?_
  refine Go.bipush C at_49 (q := 51) rfl (v := (7 : Int32)) (by decide) ?_
  refine Go.getS C (host := "") (Or.inl (wd hw 18 rfl)) Via.refl S_s_JOIN_GROUP at_51 (q := 54) rfl ?_
  refine Go.aastore C (i := 0) rfl (by decide) (show (7 : Int32).toNatClampNeg < 24 from by decide) (fun _ r => Or.inr ⟨_, rfl, Ins.self ((E_s_JOIN_GROUP).ext r.1)⟩) at_54 (q := 55) rfl (M' := ((o1, .inr (.object "com/example/mirrored_message_log/mirroredmessagelog/protocol/ApiKey", [(.ref s_PRODUCE), (.ref s_FETCH), (.ref s_LIST_OFFSETS), (.ref s_METADATA), (.ref s_OFFSET_COMMIT), (.ref s_OFFSET_FETCH), (.ref s_FIND_COORDINATOR), (.ref s_JOIN_GROUP), .null, .null, .null, .null, .null, .null, .null, .null, .null, .null, .null, .null, .null, .null, .null, .null])) :: [])) rfl ?_
  refine Go.dup C at_55 (q := 56) rfl rfl ?_
  refine Go.bipush C at_56 (q := 58) rfl (v := (8 : Int32)) (by decide) ?_
  refine Go.getS C (host := "") (Or.inl (wd hw 20 rfl)) Via.refl S_s_HEARTBEAT at_58 (q := 61) rfl ?_
  refine Go.aastore C (i := 0) rfl (by decide) (show (8 : Int32).toNatClampNeg < 24 from by decide) (fun _ r => Or.inr ⟨_, rfl, Ins.self ((E_s_HEARTBEAT).ext r.1)⟩) at_61 (q := 62) rfl (M' := ((o1, .inr (.object "com/example/mirrored_message_log/mirroredmessagelog/protocol/ApiKey", [(.ref s_PRODUCE), (.ref s_FETCH), (.ref s_LIST_OFFSETS), (.ref s_METADATA), (.ref s_OFFSET_COMMIT), (.ref s_OFFSET_FETCH), (.ref s_FIND_COORDINATOR), (.ref s_JOIN_GROUP), (.ref s_HEARTBEAT), .null, .null, .null, .null, .null, .null, .null, .null, .null, .null, .null, .null, .null, .null, .null])) :: [])) rfl ?_
  refine Go.dup C at_62 (q := 63) rfl rfl ?_
  refine Go.bipush C at_63 (q := 65) rfl (v := (9 : Int32)) (by decide) ?_
  refine Go.getS C (host := "") (Or.inl (wd hw 22 rfl)) Via.refl S_s_LEAVE_GROUP at_65 (q := 68) rfl ?_
  refine Go.aastore C (i := 0) rfl (by decide) (show (9 : Int32).toNatClampNeg < 24 from by decide) (fun _ r => Or.inr ⟨_, rfl, Ins.self ((E_s_LEAVE_GROUP).ext r.1)⟩) at_68 (q := 69) rfl (M' := ((o1, .inr (.object "com/example/mirrored_message_log/mirroredmessagelog/protocol/ApiKey", [(.ref s_PRODUCE), (.ref s_FETCH), (.ref s_LIST_OFFSETS), (.ref s_METADATA), (.ref s_OFFSET_COMMIT), (.ref s_OFFSET_FETCH), (.ref s_FIND_COORDINATOR), (.ref s_JOIN_GROUP), (.ref s_HEARTBEAT), (.ref s_LEAVE_GROUP), .null, .null, .null, .null, .null, .null, .null, .null, .null, .null, .null, .null, .null, .null])) :: [])) rfl ?_
  refine Go.dup C at_69 (q := 70) rfl rfl ?_
  refine Go.bipush C at_70 (q := 72) rfl (v := (10 : Int32)) (by decide) ?_
  refine Go.getS C (host := "") (Or.inl (wd hw 24 rfl)) Via.refl S_s_SYNC_GROUP at_72 (q := 75) rfl ?_
  refine Go.aastore C (i := 0) rfl (by decide) (show (10 : Int32).toNatClampNeg < 24 from by decide) (fun _ r => Or.inr ⟨_, rfl, Ins.self ((E_s_SYNC_GROUP).ext r.1)⟩) at_75 (q := 76) rfl (M' := ((o1, .inr (.object "com/example/mirrored_message_log/mirroredmessagelog/protocol/ApiKey", [(.ref s_PRODUCE), (.ref s_FETCH), (.ref s_LIST_OFFSETS), (.ref s_METADATA), (.ref s_OFFSET_COMMIT), (.ref s_OFFSET_FETCH), (.ref s_FIND_COORDINATOR), (.ref s_JOIN_GROUP), (.ref s_HEARTBEAT), (.ref s_LEAVE_GROUP), (.ref s_SYNC_GROUP), .null, .null, .null, .null, .null, .null, .null, .null, .null, .null, .null, .null, .null])) :: [])) rfl ?_
  refine Go.dup C at_76 (q := 77) rfl rfl ?_
  refine Go.bipush C at_77 (q := 79) rfl (v := (11 : Int32)) (by decide) ?_
  refine Go.getS C (host := "") (Or.inl (wd hw 26 rfl)) Via.refl S_s_DESCRIBE_GROUPS at_79 (q := 82) rfl ?_
  refine Go.aastore C (i := 0) rfl (by decide) (show (11 : Int32).toNatClampNeg < 24 from by decide) (fun _ r => Or.inr ⟨_, rfl, Ins.self ((E_s_DESCRIBE_GROUPS).ext r.1)⟩) at_82 (q := 83) rfl (M' := ((o1, .inr (.object "com/example/mirrored_message_log/mirroredmessagelog/protocol/ApiKey", [(.ref s_PRODUCE), (.ref s_FETCH), (.ref s_LIST_OFFSETS), (.ref s_METADATA), (.ref s_OFFSET_COMMIT), (.ref s_OFFSET_FETCH), (.ref s_FIND_COORDINATOR), (.ref s_JOIN_GROUP), (.ref s_HEARTBEAT), (.ref s_LEAVE_GROUP), (.ref s_SYNC_GROUP), (.ref s_DESCRIBE_GROUPS), .null, .null, .null, .null, .null, .null, .null, .null, .null, .null, .null, .null])) :: [])) rfl ?_
  refine Go.dup C at_83 (q := 84) rfl rfl ?_
  refine Go.bipush C at_84 (q := 86) rfl (v := (12 : Int32)) (by decide) ?_
  refine Go.getS C (host := "") (Or.inl (wd hw 28 rfl)) Via.refl S_s_LIST_GROUPS at_86 (q := 89) rfl ?_
  refine Go.aastore C (i := 0) rfl (by decide) (show (12 : Int32).toNatClampNeg < 24 from by decide) (fun _ r => Or.inr ⟨_, rfl, Ins.self ((E_s_LIST_GROUPS).ext r.1)⟩) at_89 (q := 90) rfl (M' := ((o1, .inr (.object "com/example/mirrored_message_log/mirroredmessagelog/protocol/ApiKey", [(.ref s_PRODUCE), (.ref s_FETCH), (.ref s_LIST_OFFSETS), (.ref s_METADATA), (.ref s_OFFSET_COMMIT), (.ref s_OFFSET_FETCH), (.ref s_FIND_COORDINATOR), (.ref s_JOIN_GROUP), (.ref s_HEARTBEAT), (.ref s_LEAVE_GROUP), (.ref s_SYNC_GROUP), (.ref s_DESCRIBE_GROUPS), (.ref s_LIST_GROUPS), .null, .null, .null, .null, .null, .null, .null, .null, .null, .null, .null])) :: [])) rfl ?_
  refine Go.dup C at_90 (q := 91) rfl rfl ?_
  refine Go.bipush C at_91 (q := 93) rfl (v := (13 : Int32)) (by decide) ?_
  refine Go.getS C (host := "") (Or.inl (wd hw 30 rfl)) Via.refl S_s_API_VERSIONS at_93 (q := 96) rfl ?_
  refine Go.aastore C (i := 0) rfl (by decide) (show (13 : Int32).toNatClampNeg < 24 from by decide) (fun _ r => Or.inr ⟨_, rfl, Ins.self ((E_s_API_VERSIONS).ext r.1)⟩) at_96 (q := 97) rfl (M' := ((o1, .inr (.object "com/example/mirrored_message_log/mirroredmessagelog/protocol/ApiKey", [(.ref s_PRODUCE), (.ref s_FETCH), (.ref s_LIST_OFFSETS), (.ref s_METADATA), (.ref s_OFFSET_COMMIT), (.ref s_OFFSET_FETCH), (.ref s_FIND_COORDINATOR), (.ref s_JOIN_GROUP), (.ref s_HEARTBEAT), (.ref s_LEAVE_GROUP), (.ref s_SYNC_GROUP), (.ref s_DESCRIBE_GROUPS), (.ref s_LIST_GROUPS), (.ref s_API_VERSIONS), .null, .null, .null, .null, .null, .null, .null, .null, .null, .null])) :: [])) rfl ?_
  refine Go.dup C at_97 (q := 98) rfl rfl ?_
  refine Go.bipush C at_98 (q := 100) rfl (v := (14 : Int32)) (by decide) ?_
  refine Go.getS C (host := "") (Or.inl (wd hw 32 rfl)) Via.refl S_s_CREATE_TOPICS at_100 (q := 103) rfl ?_
  refine Go.aastore C (i := 0) rfl (by decide) (show (14 : Int32).toNatClampNeg < 24 from by decide) (fun _ r => Or.inr ⟨_, rfl, Ins.self ((E_s_CREATE_TOPICS).ext r.1)⟩) at_103 (q := 104) rfl (M' := ((o1, .inr (.object "com/example/mirrored_message_log/mirroredmessagelog/protocol/ApiKey", [(.ref s_PRODUCE), (.ref s_FETCH), (.ref s_LIST_OFFSETS), (.ref s_METADATA), (.ref s_OFFSET_COMMIT), (.ref s_OFFSET_FETCH), (.ref s_FIND_COORDINATOR), (.ref s_JOIN_GROUP), (.ref s_HEARTBEAT), (.ref s_LEAVE_GROUP), (.ref s_SYNC_GROUP), (.ref s_DESCRIBE_GROUPS), (.ref s_LIST_GROUPS), (.ref s_API_VERSIONS), (.ref s_CREATE_TOPICS), .null, .null, .null, .null, .null, .null, .null, .null, .null])) :: [])) rfl ?_
  refine Go.dup C at_104 (q := 105) rfl rfl ?_
  refine Go.bipush C at_105 (q := 107) rfl (v := (15 : Int32)) (by decide) ?_
  refine Go.getS C (host := "") (Or.inl (wd hw 34 rfl)) Via.refl S_s_DELETE_TOPICS at_107 (q := 110) rfl ?_
  refine Go.aastore C (i := 0) rfl (by decide) (show (15 : Int32).toNatClampNeg < 24 from by decide) (fun _ r => Or.inr ⟨_, rfl, Ins.self ((E_s_DELETE_TOPICS).ext r.1)⟩) at_110 (q := 111) rfl (M' := ((o1, .inr (.object "com/example/mirrored_message_log/mirroredmessagelog/protocol/ApiKey", [(.ref s_PRODUCE), (.ref s_FETCH), (.ref s_LIST_OFFSETS), (.ref s_METADATA), (.ref s_OFFSET_COMMIT), (.ref s_OFFSET_FETCH), (.ref s_FIND_COORDINATOR), (.ref s_JOIN_GROUP), (.ref s_HEARTBEAT), (.ref s_LEAVE_GROUP), (.ref s_SYNC_GROUP), (.ref s_DESCRIBE_GROUPS), (.ref s_LIST_GROUPS), (.ref s_API_VERSIONS), (.ref s_CREATE_TOPICS), (.ref s_DELETE_TOPICS), .null, .null, .null, .null, .null, .null, .null, .null])) :: [])) rfl ?_
  refine Go.dup C at_111 (q := 112) rfl rfl ?_
  refine Go.bipush C at_112 (q := 114) rfl (v := (16 : Int32)) (by decide) ?_
  refine Go.getS C (host := "") (Or.inl (wd hw 36 rfl)) Via.refl S_s_INIT_PRODUCER_ID at_114 (q := 117) rfl ?_
  refine Go.aastore C (i := 0) rfl (by decide) (show (16 : Int32).toNatClampNeg < 24 from by decide) (fun _ r => Or.inr ⟨_, rfl, Ins.self ((E_s_INIT_PRODUCER_ID).ext r.1)⟩) at_117 (q := 118) rfl (M' := ((o1, .inr (.object "com/example/mirrored_message_log/mirroredmessagelog/protocol/ApiKey", [(.ref s_PRODUCE), (.ref s_FETCH), (.ref s_LIST_OFFSETS), (.ref s_METADATA), (.ref s_OFFSET_COMMIT), (.ref s_OFFSET_FETCH), (.ref s_FIND_COORDINATOR), (.ref s_JOIN_GROUP), (.ref s_HEARTBEAT), (.ref s_LEAVE_GROUP), (.ref s_SYNC_GROUP), (.ref s_DESCRIBE_GROUPS), (.ref s_LIST_GROUPS), (.ref s_API_VERSIONS), (.ref s_CREATE_TOPICS), (.ref s_DELETE_TOPICS), (.ref s_INIT_PRODUCER_ID), .null, .null, .null, .null, .null, .null, .null])) :: [])) rfl ?_
  refine Go.dup C at_118 (q := 119) rfl rfl ?_
  refine Go.bipush C at_119 (q := 121) rfl (v := (17 : Int32)) (by decide) ?_
  refine Go.getS C (host := "") (Or.inl (wd hw 38 rfl)) Via.refl S_s_WATCH_STATE at_121 (q := 124) rfl ?_
  refine Go.aastore C (i := 0) rfl (by decide) (show (17 : Int32).toNatClampNeg < 24 from by decide) (fun _ r => Or.inr ⟨_, rfl, Ins.self ((E_s_WATCH_STATE).ext r.1)⟩) at_124 (q := 125) rfl (M' := ((o1, .inr (.object "com/example/mirrored_message_log/mirroredmessagelog/protocol/ApiKey", [(.ref s_PRODUCE), (.ref s_FETCH), (.ref s_LIST_OFFSETS), (.ref s_METADATA), (.ref s_OFFSET_COMMIT), (.ref s_OFFSET_FETCH), (.ref s_FIND_COORDINATOR), (.ref s_JOIN_GROUP), (.ref s_HEARTBEAT), (.ref s_LEAVE_GROUP), (.ref s_SYNC_GROUP), (.ref s_DESCRIBE_GROUPS), (.ref s_LIST_GROUPS), (.ref s_API_VERSIONS), (.ref s_CREATE_TOPICS), (.ref s_DELETE_TOPICS), (.ref s_INIT_PRODUCER_ID), (.ref s_WATCH_STATE), .null, .null, .null, .null, .null, .null])) :: [])) rfl ?_
  refine Go.dup C at_125 (q := 126) rfl rfl ?_
  refine Go.bipush C at_126 (q := 128) rfl (v := (18 : Int32)) (by decide) ?_
  refine Go.getS C (host := "") (Or.inl (wd hw 40 rfl)) Via.refl S_s_CHANGE_IN_SYNC at_128 (q := 131) rfl ?_
  refine Go.aastore C (i := 0) rfl (by decide) (show (18 : Int32).toNatClampNeg < 24 from by decide) (fun _ r => Or.inr ⟨_, rfl, Ins.self ((E_s_CHANGE_IN_SYNC).ext r.1)⟩) at_131 (q := 132) rfl (M' := ((o1, .inr (.object "com/example/mirrored_message_log/mirroredmessagelog/protocol/ApiKey", [(.ref s_PRODUCE), (.ref s_FETCH), (.ref s_LIST_OFFSETS), (.ref s_METADATA), (.ref s_OFFSET_COMMIT), (.ref s_OFFSET_FETCH), (.ref s_FIND_COORDINATOR), (.ref s_JOIN_GROUP), (.ref s_HEARTBEAT), (.ref s_LEAVE_GROUP), (.ref s_SYNC_GROUP), (.ref s_DESCRIBE_GROUPS), (.ref s_LIST_GROUPS), (.ref s_API_VERSIONS), (.ref s_CREATE_TOPICS), (.ref s_DELETE_TOPICS), (.ref s_INIT_PRODUCER_ID), (.ref s_WATCH_STATE), (.ref s_CHANGE_IN_SYNC), .null, .null, .null, .null, .null])) :: [])) rfl ?_
  refine Go.dup C at_132 (q := 133) rfl rfl ?_
  refine Go.bipush C at_133 (q := 135) rfl (v := (19 : Int32)) (by decide) ?_
  refine Go.getS C (host := "") (Or.inl (wd hw 42 rfl)) Via.refl S_s_EPOCH_END at_135 (q := 138) rfl ?_
  refine Go.aastore C (i := 0) rfl (by decide) (show (19 : Int32).toNatClampNeg < 24 from by decide) (fun _ r => Or.inr ⟨_, rfl, Ins.self ((E_s_EPOCH_END).ext r.1)⟩) at_138 (q := 139) rfl (M' := ((o1, .inr (.object "com/example/mirrored_message_log/mirroredmessagelog/protocol/ApiKey", [(.ref s_PRODUCE), (.ref s_FETCH), (.ref s_LIST_OFFSETS), (.ref s_METADATA), (.ref s_OFFSET_COMMIT), (.ref s_OFFSET_FETCH), (.ref s_FIND_COORDINATOR), (.ref s_JOIN_GROUP), (.ref s_HEARTBEAT), (.ref s_LEAVE_GROUP), (.ref s_SYNC_GROUP), (.ref s_DESCRIBE_GROUPS), (.ref s_LIST_GROUPS), (.ref s_API_VERSIONS), (.ref s_CREATE_TOPICS), (.ref s_DELETE_TOPICS), (.ref s_INIT_PRODUCER_ID), (.ref s_WATCH_STATE), (.ref s_CHANGE_IN_SYNC), (.ref s_EPOCH_END), .null, .null, .null, .null])) :: [])) rfl ?_
  refine Go.dup C at_139 (q := 140) rfl rfl ?_
  refine Go.bipush C at_140 (q := 142) rfl (v := (20 : Int32)) (by decide) ?_
  refine Go.getS C (host := "") (Or.inl (wd hw 44 rfl)) Via.refl S_s_ALLOCATE_PRODUCER_IDS at_142 (q := 145) rfl ?_
  refine Go.aastore C (i := 0) rfl (by decide) (show (20 : Int32).toNatClampNeg < 24 from by decide) (fun _ r => Or.inr ⟨_, rfl, Ins.self ((E_s_ALLOCATE_PRODUCER_IDS).ext r.1)⟩) at_145 (q := 146) rfl (M' := ((o1, .inr (.object "com/example/mirrored_message_log/mirroredmessagelog/protocol/ApiKey", [(.ref s_PRODUCE), (.ref s_FETCH), (.ref s_LIST_OFFSETS), (.ref s_METADATA), (.ref s_OFFSET_COMMIT), (.ref s_OFFSET_FETCH), (.ref s_FIND_COORDINATOR), (.ref s_JOIN_GROUP), (.ref s_HEARTBEAT), (.ref s_LEAVE_GROUP), (.ref s_SYNC_GROUP), (.ref s_DESCRIBE_GROUPS), (.ref s_LIST_GROUPS), (.ref s_API_VERSIONS), (.ref s_CREATE_TOPICS), (.ref s_DELETE_TOPICS), (.ref s_INIT_PRODUCER_ID), (.ref s_WATCH_STATE), (.ref s_CHANGE_IN_SYNC), (.ref s_EPOCH_END), (.ref s_ALLOCATE_PRODUCER_IDS), .null, .null, .null])) :: [])) rfl ?_
  refine Go.dup C at_146 (q := 147) rfl rfl ?_
  refine Go.bipush C at_147 (q := 149) rfl (v := (21 : Int32)) (by decide) ?_
  refine Go.getS C (host := "") (Or.inl (wd hw 46 rfl)) Via.refl S_s_MEMBER_CHALLENGE at_149 (q := 152) rfl ?_
  refine Go.aastore C (i := 0) rfl (by decide) (show (21 : Int32).toNatClampNeg < 24 from by decide) (fun _ r => Or.inr ⟨_, rfl, Ins.self ((E_s_MEMBER_CHALLENGE).ext r.1)⟩) at_152 (q := 153) rfl (M' := ((o1, .inr (.object "com/example/mirrored_message_log/mirroredmessagelog/protocol/ApiKey", [(.ref s_PRODUCE), (.ref s_FETCH), (.ref s_LIST_OFFSETS), (.ref s_METADATA), (.ref s_OFFSET_COMMIT), (.ref s_OFFSET_FETCH), (.ref s_FIND_COORDINATOR), (.ref s_JOIN_GROUP), (.ref s_HEARTBEAT), (.ref s_LEAVE_GROUP), (.ref s_SYNC_GROUP), (.ref s_DESCRIBE_GROUPS), (.ref s_LIST_GROUPS), (.ref s_API_VERSIONS), (.ref s_CREATE_TOPICS), (.ref s_DELETE_TOPICS), (.ref s_INIT_PRODUCER_ID), (.ref s_WATCH_STATE), (.ref s_CHANGE_IN_SYNC), (.ref s_EPOCH_END), (.ref s_ALLOCATE_PRODUCER_IDS), (.ref s_MEMBER_CHALLENGE), .null, .null])) :: [])) rfl ?_
  refine Go.dup C at_153 (q := 154) rfl rfl ?_
  refine Go.bipush C at_154 (q := 156) rfl (v := (22 : Int32)) (by decide) ?_
  refine Go.getS C (host := "") (Or.inl (wd hw 48 rfl)) Via.refl S_s_MEMBER_PROOF at_156 (q := 159) rfl ?_
  refine Go.aastore C (i := 0) rfl (by decide) (show (22 : Int32).toNatClampNeg < 24 from by decide) (fun _ r => Or.inr ⟨_, rfl, Ins.self ((E_s_MEMBER_PROOF).ext r.1)⟩) at_159 (q := 160) rfl (M' := ((o1, .inr (.object "com/example/mirrored_message_log/mirroredmessagelog/protocol/ApiKey", [(.ref s_PRODUCE), (.ref s_FETCH), (.ref s_LIST_OFFSETS), (.ref s_METADATA), (.ref s_OFFSET_COMMIT), (.ref s_OFFSET_FETCH), (.ref s_FIND_COORDINATOR), (.ref s_JOIN_GROUP), (.ref s_HEARTBEAT), (.ref s_LEAVE_GROUP), (.ref s_SYNC_GROUP), (.ref s_DESCRIBE_GROUPS), (.ref s_LIST_GROUPS), (.ref s_API_VERSIONS), (.ref s_CREATE_TOPICS), (.ref s_DELETE_TOPICS), (.ref s_INIT_PRODUCER_ID), (.ref s_WATCH_STATE), (.ref s_CHANGE_IN_SYNC), (.ref s_EPOCH_END), (.ref s_ALLOCATE_PRODUCER_IDS), (.ref s_MEMBER_CHALLENGE), (.ref s_MEMBER_PROOF), .null])) :: [])) rfl ?_
  refine Go.dup C at_160 (q := 161) rfl rfl ?_
  refine Go.bipush C at_161 (q := 163) rfl (v := (23 : Int32)) (by decide) ?_
  refine Go.getS C (host := "") (Or.inl (wd hw 50 rfl)) Via.refl S_s_READ_STATE at_163 (q := 166) rfl ?_
  refine Go.aastore C (i := 0) rfl (by decide) (show (23 : Int32).toNatClampNeg < 24 from by decide) (fun _ r => Or.inr ⟨_, rfl, Ins.self ((E_s_READ_STATE).ext r.1)⟩) at_166 (q := 167) rfl (M' := ((o1, .inr (.object "com/example/mirrored_message_log/mirroredmessagelog/protocol/ApiKey", [(.ref s_PRODUCE), (.ref s_FETCH), (.ref s_LIST_OFFSETS), (.ref s_METADATA), (.ref s_OFFSET_COMMIT), (.ref s_OFFSET_FETCH), (.ref s_FIND_COORDINATOR), (.ref s_JOIN_GROUP), (.ref s_HEARTBEAT), (.ref s_LEAVE_GROUP), (.ref s_SYNC_GROUP), (.ref s_DESCRIBE_GROUPS), (.ref s_LIST_GROUPS), (.ref s_API_VERSIONS), (.ref s_CREATE_TOPICS), (.ref s_DELETE_TOPICS), (.ref s_INIT_PRODUCER_ID), (.ref s_WATCH_STATE), (.ref s_CHANGE_IN_SYNC), (.ref s_EPOCH_END), (.ref s_ALLOCATE_PRODUCER_IDS), (.ref s_MEMBER_CHALLENGE), (.ref s_MEMBER_PROOF), (.ref s_READ_STATE)])) :: [])) rfl ?_
  refine Go.astoreN C at_167 (q := 168) rfl rfl (Ls' := #[.val (.int which), .val (.int version), .val (.ref o1), .unset, .unset, .unset, .unset, .unset, .unset, .unset]) rfl ?_
  refine Go.bipush C at_168 (q := 170) rfl (v := (24 : Int32)) (by decide) ?_
  refine Go.newarray C (ty := .int) (wd hw 52 rfl) rfl (by simp) (by decide) (cap := 24) (by decide) (by decide) (vs := [(.int (0 : Int32)), (.int (0 : Int32)), (.int (0 : Int32)), (.int (0 : Int32)), (.int (0 : Int32)), (.int (0 : Int32)), (.int (0 : Int32)), (.int (0 : Int32)), (.int (0 : Int32)), (.int (0 : Int32)), (.int (0 : Int32)), (.int (0 : Int32)), (.int (0 : Int32)), (.int (0 : Int32)), (.int (0 : Int32)), (.int (0 : Int32)), (.int (0 : Int32)), (.int (0 : Int32)), (.int (0 : Int32)), (.int (0 : Int32)), (.int (0 : Int32)), (.int (0 : Int32)), (.int (0 : Int32)), (.int (0 : Int32))]) rfl at_170 (q := 172) rfl (by decide) (by decide) (k' := 2) (n' := 48) rfl rfl (fun o2 => ?_)
  refine Go.dup C at_172 (q := 173) rfl rfl ?_
  refine Go.iconst C at_173 (q := 174) rfl (v := (0 : Int32)) rfl ?_
  refine Go.iconst C at_174 (q := 175) rfl (v := (0 : Int32)) rfl ?_
  refine Go.iastore C (i := 0) rfl (by decide) (show (0 : Int32).toNatClampNeg < 24 from by decide) (w' := (.int (0 : Int32))) rfl at_175 (q := 176) rfl (M' := ((o2, .inr (.int, [(.int (0 : Int32)), (.int (0 : Int32)), (.int (0 : Int32)), (.int (0 : Int32)), (.int (0 : Int32)), (.int (0 : Int32)), (.int (0 : Int32)), (.int (0 : Int32)), (.int (0 : Int32)), (.int (0 : Int32)), (.int (0 : Int32)), (.int (0 : Int32)), (.int (0 : Int32)), (.int (0 : Int32)), (.int (0 : Int32)), (.int (0 : Int32)), (.int (0 : Int32)), (.int (0 : Int32)), (.int (0 : Int32)), (.int (0 : Int32)), (.int (0 : Int32)), (.int (0 : Int32)), (.int (0 : Int32)), (.int (0 : Int32))])) :: (o1, .inr (.object "com/example/mirrored_message_log/mirroredmessagelog/protocol/ApiKey", [(.ref s_PRODUCE), (.ref s_FETCH), (.ref s_LIST_OFFSETS), (.ref s_METADATA), (.ref s_OFFSET_COMMIT), (.ref s_OFFSET_FETCH), (.ref s_FIND_COORDINATOR), (.ref s_JOIN_GROUP), (.ref s_HEARTBEAT), (.ref s_LEAVE_GROUP), (.ref s_SYNC_GROUP), (.ref s_DESCRIBE_GROUPS), (.ref s_LIST_GROUPS), (.ref s_API_VERSIONS), (.ref s_CREATE_TOPICS), (.ref s_DELETE_TOPICS), (.ref s_INIT_PRODUCER_ID), (.ref s_WATCH_STATE), (.ref s_CHANGE_IN_SYNC), (.ref s_EPOCH_END), (.ref s_ALLOCATE_PRODUCER_IDS), (.ref s_MEMBER_CHALLENGE), (.ref s_MEMBER_PROOF), (.ref s_READ_STATE)])) :: [])) rfl ?_
  refine Go.dup C at_176 (q := 177) rfl rfl ?_
  refine Go.iconst C at_177 (q := 178) rfl (v := (1 : Int32)) rfl ?_
  refine Go.iconst C at_178 (q := 179) rfl (v := (4 : Int32)) rfl ?_
  refine Go.iastore C (i := 0) rfl (by decide) (show (1 : Int32).toNatClampNeg < 24 from by decide) (w' := (.int (4 : Int32))) rfl at_179 (q := 180) rfl (M' := ((o2, .inr (.int, [(.int (0 : Int32)), (.int (4 : Int32)), (.int (0 : Int32)), (.int (0 : Int32)), (.int (0 : Int32)), (.int (0 : Int32)), (.int (0 : Int32)), (.int (0 : Int32)), (.int (0 : Int32)), (.int (0 : Int32)), (.int (0 : Int32)), (.int (0 : Int32)), (.int (0 : Int32)), (.int (0 : Int32)), (.int (0 : Int32)), (.int (0 : Int32)), (.int (0 : Int32)), (.int (0 : Int32)), (.int (0 : Int32)), (.int (0 : Int32)), (.int (0 : Int32)), (.int (0 : Int32)), (.int (0 : Int32)), (.int (0 : Int32))])) :: (o1, .inr (.object "com/example/mirrored_message_log/mirroredmessagelog/protocol/ApiKey", [(.ref s_PRODUCE), (.ref s_FETCH), (.ref s_LIST_OFFSETS), (.ref s_METADATA), (.ref s_OFFSET_COMMIT), (.ref s_OFFSET_FETCH), (.ref s_FIND_COORDINATOR), (.ref s_JOIN_GROUP), (.ref s_HEARTBEAT), (.ref s_LEAVE_GROUP), (.ref s_SYNC_GROUP), (.ref s_DESCRIBE_GROUPS), (.ref s_LIST_GROUPS), (.ref s_API_VERSIONS), (.ref s_CREATE_TOPICS), (.ref s_DELETE_TOPICS), (.ref s_INIT_PRODUCER_ID), (.ref s_WATCH_STATE), (.ref s_CHANGE_IN_SYNC), (.ref s_EPOCH_END), (.ref s_ALLOCATE_PRODUCER_IDS), (.ref s_MEMBER_CHALLENGE), (.ref s_MEMBER_PROOF), (.ref s_READ_STATE)])) :: [])) rfl ?_
  refine Go.dup C at_180 (q := 181) rfl rfl ?_
  refine Go.iconst C at_181 (q := 182) rfl (v := (2 : Int32)) rfl ?_
  refine Go.iconst C at_182 (q := 183) rfl (v := (1 : Int32)) rfl ?_
  refine Go.iastore C (i := 0) rfl (by decide) (show (2 : Int32).toNatClampNeg < 24 from by decide) (w' := (.int (1 : Int32))) rfl at_183 (q := 184) rfl (M' := ((o2, .inr (.int, [(.int (0 : Int32)), (.int (4 : Int32)), (.int (1 : Int32)), (.int (0 : Int32)), (.int (0 : Int32)), (.int (0 : Int32)), (.int (0 : Int32)), (.int (0 : Int32)), (.int (0 : Int32)), (.int (0 : Int32)), (.int (0 : Int32)), (.int (0 : Int32)), (.int (0 : Int32)), (.int (0 : Int32)), (.int (0 : Int32)), (.int (0 : Int32)), (.int (0 : Int32)), (.int (0 : Int32)), (.int (0 : Int32)), (.int (0 : Int32)), (.int (0 : Int32)), (.int (0 : Int32)), (.int (0 : Int32)), (.int (0 : Int32))])) :: (o1, .inr (.object "com/example/mirrored_message_log/mirroredmessagelog/protocol/ApiKey", [(.ref s_PRODUCE), (.ref s_FETCH), (.ref s_LIST_OFFSETS), (.ref s_METADATA), (.ref s_OFFSET_COMMIT), (.ref s_OFFSET_FETCH), (.ref s_FIND_COORDINATOR), (.ref s_JOIN_GROUP), (.ref s_HEARTBEAT), (.ref s_LEAVE_GROUP), (.ref s_SYNC_GROUP), (.ref s_DESCRIBE_GROUPS), (.ref s_LIST_GROUPS), (.ref s_API_VERSIONS), (.ref s_CREATE_TOPICS), (.ref s_DELETE_TOPICS), (.ref s_INIT_PRODUCER_ID), (.ref s_WATCH_STATE), (.ref s_CHANGE_IN_SYNC), (.ref s_EPOCH_END), (.ref s_ALLOCATE_PRODUCER_IDS), (.ref s_MEMBER_CHALLENGE), (.ref s_MEMBER_PROOF), (.ref s_READ_STATE)])) :: [])) rfl ?_
  refine Go.dup C at_184 (q := 185) rfl rfl ?_
  refine Go.iconst C at_185 (q := 186) rfl (v := (3 : Int32)) rfl ?_
  refine Go.iconst C at_186 (q := 187) rfl (v := (0 : Int32)) rfl ?_
  refine Go.iastore C (i := 0) rfl (by decide) (show (3 : Int32).toNatClampNeg < 24 from by decide) (w' := (.int (0 : Int32))) rfl at_187 (q := 188) rfl (M' := ((o2, .inr (.int, [(.int (0 : Int32)), (.int (4 : Int32)), (.int (1 : Int32)), (.int (0 : Int32)), (.int (0 : Int32)), (.int (0 : Int32)), (.int (0 : Int32)), (.int (0 : Int32)), (.int (0 : Int32)), (.int (0 : Int32)), (.int (0 : Int32)), (.int (0 : Int32)), (.int (0 : Int32)), (.int (0 : Int32)), (.int (0 : Int32)), (.int (0 : Int32)), (.int (0 : Int32)), (.int (0 : Int32)), (.int (0 : Int32)), (.int (0 : Int32)), (.int (0 : Int32)), (.int (0 : Int32)), (.int (0 : Int32)), (.int (0 : Int32))])) :: (o1, .inr (.object "com/example/mirrored_message_log/mirroredmessagelog/protocol/ApiKey", [(.ref s_PRODUCE), (.ref s_FETCH), (.ref s_LIST_OFFSETS), (.ref s_METADATA), (.ref s_OFFSET_COMMIT), (.ref s_OFFSET_FETCH), (.ref s_FIND_COORDINATOR), (.ref s_JOIN_GROUP), (.ref s_HEARTBEAT), (.ref s_LEAVE_GROUP), (.ref s_SYNC_GROUP), (.ref s_DESCRIBE_GROUPS), (.ref s_LIST_GROUPS), (.ref s_API_VERSIONS), (.ref s_CREATE_TOPICS), (.ref s_DELETE_TOPICS), (.ref s_INIT_PRODUCER_ID), (.ref s_WATCH_STATE), (.ref s_CHANGE_IN_SYNC), (.ref s_EPOCH_END), (.ref s_ALLOCATE_PRODUCER_IDS), (.ref s_MEMBER_CHALLENGE), (.ref s_MEMBER_PROOF), (.ref s_READ_STATE)])) :: [])) rfl ?_
  refine Go.dup C at_188 (q := 189) rfl rfl ?_
  refine Go.iconst C at_189 (q := 190) rfl (v := (4 : Int32)) rfl ?_
  refine Go.iconst C at_190 (q := 191) rfl (v := (2 : Int32)) rfl ?_
  refine Go.iastore C (i := 0) rfl (by decide) (show (4 : Int32).toNatClampNeg < 24 from by decide) (w' := (.int (2 : Int32))) rfl at_191 (q := 192) rfl (M' := ((o2, .inr (.int, [(.int (0 : Int32)), (.int (4 : Int32)), (.int (1 : Int32)), (.int (0 : Int32)), (.int (2 : Int32)), (.int (0 : Int32)), (.int (0 : Int32)), (.int (0 : Int32)), (.int (0 : Int32)), (.int (0 : Int32)), (.int (0 : Int32)), (.int (0 : Int32)), (.int (0 : Int32)), (.int (0 : Int32)), (.int (0 : Int32)), (.int (0 : Int32)), (.int (0 : Int32)), (.int (0 : Int32)), (.int (0 : Int32)), (.int (0 : Int32)), (.int (0 : Int32)), (.int (0 : Int32)), (.int (0 : Int32)), (.int (0 : Int32))])) :: (o1, .inr (.object "com/example/mirrored_message_log/mirroredmessagelog/protocol/ApiKey", [(.ref s_PRODUCE), (.ref s_FETCH), (.ref s_LIST_OFFSETS), (.ref s_METADATA), (.ref s_OFFSET_COMMIT), (.ref s_OFFSET_FETCH), (.ref s_FIND_COORDINATOR), (.ref s_JOIN_GROUP), (.ref s_HEARTBEAT), (.ref s_LEAVE_GROUP), (.ref s_SYNC_GROUP), (.ref s_DESCRIBE_GROUPS), (.ref s_LIST_GROUPS), (.ref s_API_VERSIONS), (.ref s_CREATE_TOPICS), (.ref s_DELETE_TOPICS), (.ref s_INIT_PRODUCER_ID), (.ref s_WATCH_STATE), (.ref s_CHANGE_IN_SYNC), (.ref s_EPOCH_END), (.ref s_ALLOCATE_PRODUCER_IDS), (.ref s_MEMBER_CHALLENGE), (.ref s_MEMBER_PROOF), (.ref s_READ_STATE)])) :: [])) rfl ?_
  refine Go.dup C at_192 (q := 193) rfl rfl ?_
  refine Go.iconst C at_193 (q := 194) rfl (v := (5 : Int32)) rfl ?_
  refine Go.iconst C at_194 (q := 195) rfl (v := (1 : Int32)) rfl ?_
  refine Go.iastore C (i := 0) rfl (by decide) (show (5 : Int32).toNatClampNeg < 24 from by decide) (w' := (.int (1 : Int32))) rfl at_195 (q := 196) rfl (M' := ((o2, .inr (.int, [(.int (0 : Int32)), (.int (4 : Int32)), (.int (1 : Int32)), (.int (0 : Int32)), (.int (2 : Int32)), (.int (1 : Int32)), (.int (0 : Int32)), (.int (0 : Int32)), (.int (0 : Int32)), (.int (0 : Int32)), (.int (0 : Int32)), (.int (0 : Int32)), (.int (0 : Int32)), (.int (0 : Int32)), (.int (0 : Int32)), (.int (0 : Int32)), (.int (0 : Int32)), (.int (0 : Int32)), (.int (0 : Int32)), (.int (0 : Int32)), (.int (0 : Int32)), (.int (0 : Int32)), (.int (0 : Int32)), (.int (0 : Int32))])) :: (o1, .inr (.object "com/example/mirrored_message_log/mirroredmessagelog/protocol/ApiKey", [(.ref s_PRODUCE), (.ref s_FETCH), (.ref s_LIST_OFFSETS), (.ref s_METADATA), (.ref s_OFFSET_COMMIT), (.ref s_OFFSET_FETCH), (.ref s_FIND_COORDINATOR), (.ref s_JOIN_GROUP), (.ref s_HEARTBEAT), (.ref s_LEAVE_GROUP), (.ref s_SYNC_GROUP), (.ref s_DESCRIBE_GROUPS), (.ref s_LIST_GROUPS), (.ref s_API_VERSIONS), (.ref s_CREATE_TOPICS), (.ref s_DELETE_TOPICS), (.ref s_INIT_PRODUCER_ID), (.ref s_WATCH_STATE), (.ref s_CHANGE_IN_SYNC), (.ref s_EPOCH_END), (.ref s_ALLOCATE_PRODUCER_IDS), (.ref s_MEMBER_CHALLENGE), (.ref s_MEMBER_PROOF), (.ref s_READ_STATE)])) :: [])) rfl ?_
  refine Go.dup C at_196 (q := 197) rfl rfl ?_
  refine Go.bipush C at_197 (q := 199) rfl (v := (6 : Int32)) (by decide) ?_
  refine Go.iconst C at_199 (q := 200) rfl (v := (0 : Int32)) rfl ?_
  refine Go.iastore C (i := 0) rfl (by decide) (show (6 : Int32).toNatClampNeg < 24 from by decide) (w' := (.int (0 : Int32))) rfl at_200 (q := 201) rfl (M' := ((o2, .inr (.int, [(.int (0 : Int32)), (.int (4 : Int32)), (.int (1 : Int32)), (.int (0 : Int32)), (.int (2 : Int32)), (.int (1 : Int32)), (.int (0 : Int32)), (.int (0 : Int32)), (.int (0 : Int32)), (.int (0 : Int32)), (.int (0 : Int32)), (.int (0 : Int32)), (.int (0 : Int32)), (.int (0 : Int32)), (.int (0 : Int32)), (.int (0 : Int32)), (.int (0 : Int32)), (.int (0 : Int32)), (.int (0 : Int32)), (.int (0 : Int32)), (.int (0 : Int32)), (.int (0 : Int32)), (.int (0 : Int32)), (.int (0 : Int32))])) :: (o1, .inr (.object "com/example/mirrored_message_log/mirroredmessagelog/protocol/ApiKey", [(.ref s_PRODUCE), (.ref s_FETCH), (.ref s_LIST_OFFSETS), (.ref s_METADATA), (.ref s_OFFSET_COMMIT), (.ref s_OFFSET_FETCH), (.ref s_FIND_COORDINATOR), (.ref s_JOIN_GROUP), (.ref s_HEARTBEAT), (.ref s_LEAVE_GROUP), (.ref s_SYNC_GROUP), (.ref s_DESCRIBE_GROUPS), (.ref s_LIST_GROUPS), (.ref s_API_VERSIONS), (.ref s_CREATE_TOPICS), (.ref s_DELETE_TOPICS), (.ref s_INIT_PRODUCER_ID), (.ref s_WATCH_STATE), (.ref s_CHANGE_IN_SYNC), (.ref s_EPOCH_END), (.ref s_ALLOCATE_PRODUCER_IDS), (.ref s_MEMBER_CHALLENGE), (.ref s_MEMBER_PROOF), (.ref s_READ_STATE)])) :: [])) rfl ?_
  refine Go.dup C at_201 (q := 202) rfl rfl ?_
  refine Go.bipush C at_202 (q := 204) rfl (v := (7 : Int32)) (by decide) ?_
  refine Go.iconst C at_204 (q := 205) rfl (v := (0 : Int32)) rfl ?_
  refine Go.iastore C (i := 0) rfl (by decide) (show (7 : Int32).toNatClampNeg < 24 from by decide) (w' := (.int (0 : Int32))) rfl at_205 (q := 206) rfl (M' := ((o2, .inr (.int, [(.int (0 : Int32)), (.int (4 : Int32)), (.int (1 : Int32)), (.int (0 : Int32)), (.int (2 : Int32)), (.int (1 : Int32)), (.int (0 : Int32)), (.int (0 : Int32)), (.int (0 : Int32)), (.int (0 : Int32)), (.int (0 : Int32)), (.int (0 : Int32)), (.int (0 : Int32)), (.int (0 : Int32)), (.int (0 : Int32)), (.int (0 : Int32)), (.int (0 : Int32)), (.int (0 : Int32)), (.int (0 : Int32)), (.int (0 : Int32)), (.int (0 : Int32)), (.int (0 : Int32)), (.int (0 : Int32)), (.int (0 : Int32))])) :: (o1, .inr (.object "com/example/mirrored_message_log/mirroredmessagelog/protocol/ApiKey", [(.ref s_PRODUCE), (.ref s_FETCH), (.ref s_LIST_OFFSETS), (.ref s_METADATA), (.ref s_OFFSET_COMMIT), (.ref s_OFFSET_FETCH), (.ref s_FIND_COORDINATOR), (.ref s_JOIN_GROUP), (.ref s_HEARTBEAT), (.ref s_LEAVE_GROUP), (.ref s_SYNC_GROUP), (.ref s_DESCRIBE_GROUPS), (.ref s_LIST_GROUPS), (.ref s_API_VERSIONS), (.ref s_CREATE_TOPICS), (.ref s_DELETE_TOPICS), (.ref s_INIT_PRODUCER_ID), (.ref s_WATCH_STATE), (.ref s_CHANGE_IN_SYNC), (.ref s_EPOCH_END), (.ref s_ALLOCATE_PRODUCER_IDS), (.ref s_MEMBER_CHALLENGE), (.ref s_MEMBER_PROOF), (.ref s_READ_STATE)])) :: [])) rfl ?_
  refine Go.dup C at_206 (q := 207) rfl rfl ?_
  refine Go.bipush C at_207 (q := 209) rfl (v := (8 : Int32)) (by decide) ?_
  refine Go.iconst C at_209 (q := 210) rfl (v := (0 : Int32)) rfl ?_
  refine Go.iastore C (i := 0) rfl (by decide) (show (8 : Int32).toNatClampNeg < 24 from by decide) (w' := (.int (0 : Int32))) rfl at_210 (q := 211) rfl (M' := ((o2, .inr (.int, [(.int (0 : Int32)), (.int (4 : Int32)), (.int (1 : Int32)), (.int (0 : Int32)), (.int (2 : Int32)), (.int (1 : Int32)), (.int (0 : Int32)), (.int (0 : Int32)), (.int (0 : Int32)), (.int (0 : Int32)), (.int (0 : Int32)), (.int (0 : Int32)), (.int (0 : Int32)), (.int (0 : Int32)), (.int (0 : Int32)), (.int (0 : Int32)), (.int (0 : Int32)), (.int (0 : Int32)), (.int (0 : Int32)), (.int (0 : Int32)), (.int (0 : Int32)), (.int (0 : Int32)), (.int (0 : Int32)), (.int (0 : Int32))])) :: (o1, .inr (.object "com/example/mirrored_message_log/mirroredmessagelog/protocol/ApiKey", [(.ref s_PRODUCE), (.ref s_FETCH), (.ref s_LIST_OFFSETS), (.ref s_METADATA), (.ref s_OFFSET_COMMIT), (.ref s_OFFSET_FETCH), (.ref s_FIND_COORDINATOR), (.ref s_JOIN_GROUP), (.ref s_HEARTBEAT), (.ref s_LEAVE_GROUP), (.ref s_SYNC_GROUP), (.ref s_DESCRIBE_GROUPS), (.ref s_LIST_GROUPS), (.ref s_API_VERSIONS), (.ref s_CREATE_TOPICS), (.ref s_DELETE_TOPICS), (.ref s_INIT_PRODUCER_ID), (.ref s_WATCH_STATE), (.ref s_CHANGE_IN_SYNC), (.ref s_EPOCH_END), (.ref s_ALLOCATE_PRODUCER_IDS), (.ref s_MEMBER_CHALLENGE), (.ref s_MEMBER_PROOF), (.ref s_READ_STATE)])) :: [])) rfl ?_
  refine Go.dup C at_211 (q := 212) rfl rfl ?_
  refine Go.bipush C at_212 (q := 214) rfl (v := (9 : Int32)) (by decide) ?_
  refine Go.iconst C at_214 (q := 215) rfl (v := (0 : Int32)) rfl ?_
  refine Go.iastore C (i := 0) rfl (by decide) (show (9 : Int32).toNatClampNeg < 24 from by decide) (w' := (.int (0 : Int32))) rfl at_215 (q := 216) rfl (M' := ((o2, .inr (.int, [(.int (0 : Int32)), (.int (4 : Int32)), (.int (1 : Int32)), (.int (0 : Int32)), (.int (2 : Int32)), (.int (1 : Int32)), (.int (0 : Int32)), (.int (0 : Int32)), (.int (0 : Int32)), (.int (0 : Int32)), (.int (0 : Int32)), (.int (0 : Int32)), (.int (0 : Int32)), (.int (0 : Int32)), (.int (0 : Int32)), (.int (0 : Int32)), (.int (0 : Int32)), (.int (0 : Int32)), (.int (0 : Int32)), (.int (0 : Int32)), (.int (0 : Int32)), (.int (0 : Int32)), (.int (0 : Int32)), (.int (0 : Int32))])) :: (o1, .inr (.object "com/example/mirrored_message_log/mirroredmessagelog/protocol/ApiKey", [(.ref s_PRODUCE), (.ref s_FETCH), (.ref s_LIST_OFFSETS), (.ref s_METADATA), (.ref s_OFFSET_COMMIT), (.ref s_OFFSET_FETCH), (.ref s_FIND_COORDINATOR), (.ref s_JOIN_GROUP), (.ref s_HEARTBEAT), (.ref s_LEAVE_GROUP), (.ref s_SYNC_GROUP), (.ref s_DESCRIBE_GROUPS), (.ref s_LIST_GROUPS), (.ref s_API_VERSIONS), (.ref s_CREATE_TOPICS), (.ref s_DELETE_TOPICS), (.ref s_INIT_PRODUCER_ID), (.ref s_WATCH_STATE), (.ref s_CHANGE_IN_SYNC), (.ref s_EPOCH_END), (.ref s_ALLOCATE_PRODUCER_IDS), (.ref s_MEMBER_CHALLENGE), (.ref s_MEMBER_PROOF), (.ref s_READ_STATE)])) :: [])) rfl ?_
  refine Go.dup C at_216 (q := 217) rfl rfl ?_
  refine Go.bipush C at_217 (q := 219) rfl (v := (10 : Int32)) (by decide) ?_
  refine Go.iconst C at_219 (q := 220) rfl (v := (0 : Int32)) rfl ?_
  refine Go.iastore C (i := 0) rfl (by decide) (show (10 : Int32).toNatClampNeg < 24 from by decide) (w' := (.int (0 : Int32))) rfl at_220 (q := 221) rfl (M' := ((o2, .inr (.int, [(.int (0 : Int32)), (.int (4 : Int32)), (.int (1 : Int32)), (.int (0 : Int32)), (.int (2 : Int32)), (.int (1 : Int32)), (.int (0 : Int32)), (.int (0 : Int32)), (.int (0 : Int32)), (.int (0 : Int32)), (.int (0 : Int32)), (.int (0 : Int32)), (.int (0 : Int32)), (.int (0 : Int32)), (.int (0 : Int32)), (.int (0 : Int32)), (.int (0 : Int32)), (.int (0 : Int32)), (.int (0 : Int32)), (.int (0 : Int32)), (.int (0 : Int32)), (.int (0 : Int32)), (.int (0 : Int32)), (.int (0 : Int32))])) :: (o1, .inr (.object "com/example/mirrored_message_log/mirroredmessagelog/protocol/ApiKey", [(.ref s_PRODUCE), (.ref s_FETCH), (.ref s_LIST_OFFSETS), (.ref s_METADATA), (.ref s_OFFSET_COMMIT), (.ref s_OFFSET_FETCH), (.ref s_FIND_COORDINATOR), (.ref s_JOIN_GROUP), (.ref s_HEARTBEAT), (.ref s_LEAVE_GROUP), (.ref s_SYNC_GROUP), (.ref s_DESCRIBE_GROUPS), (.ref s_LIST_GROUPS), (.ref s_API_VERSIONS), (.ref s_CREATE_TOPICS), (.ref s_DELETE_TOPICS), (.ref s_INIT_PRODUCER_ID), (.ref s_WATCH_STATE), (.ref s_CHANGE_IN_SYNC), (.ref s_EPOCH_END), (.ref s_ALLOCATE_PRODUCER_IDS), (.ref s_MEMBER_CHALLENGE), (.ref s_MEMBER_PROOF), (.ref s_READ_STATE)])) :: [])) rfl ?_
  refine Go.dup C at_221 (q := 222) rfl rfl ?_
  refine Go.bipush C at_222 (q := 224) rfl (v := (11 : Int32)) (by decide) ?_
  refine Go.iconst C at_224 (q := 225) rfl (v := (0 : Int32)) rfl ?_
  refine Go.iastore C (i := 0) rfl (by decide) (show (11 : Int32).toNatClampNeg < 24 from by decide) (w' := (.int (0 : Int32))) rfl at_225 (q := 226) rfl (M' := ((o2, .inr (.int, [(.int (0 : Int32)), (.int (4 : Int32)), (.int (1 : Int32)), (.int (0 : Int32)), (.int (2 : Int32)), (.int (1 : Int32)), (.int (0 : Int32)), (.int (0 : Int32)), (.int (0 : Int32)), (.int (0 : Int32)), (.int (0 : Int32)), (.int (0 : Int32)), (.int (0 : Int32)), (.int (0 : Int32)), (.int (0 : Int32)), (.int (0 : Int32)), (.int (0 : Int32)), (.int (0 : Int32)), (.int (0 : Int32)), (.int (0 : Int32)), (.int (0 : Int32)), (.int (0 : Int32)), (.int (0 : Int32)), (.int (0 : Int32))])) :: (o1, .inr (.object "com/example/mirrored_message_log/mirroredmessagelog/protocol/ApiKey", [(.ref s_PRODUCE), (.ref s_FETCH), (.ref s_LIST_OFFSETS), (.ref s_METADATA), (.ref s_OFFSET_COMMIT), (.ref s_OFFSET_FETCH), (.ref s_FIND_COORDINATOR), (.ref s_JOIN_GROUP), (.ref s_HEARTBEAT), (.ref s_LEAVE_GROUP), (.ref s_SYNC_GROUP), (.ref s_DESCRIBE_GROUPS), (.ref s_LIST_GROUPS), (.ref s_API_VERSIONS), (.ref s_CREATE_TOPICS), (.ref s_DELETE_TOPICS), (.ref s_INIT_PRODUCER_ID), (.ref s_WATCH_STATE), (.ref s_CHANGE_IN_SYNC), (.ref s_EPOCH_END), (.ref s_ALLOCATE_PRODUCER_IDS), (.ref s_MEMBER_CHALLENGE), (.ref s_MEMBER_PROOF), (.ref s_READ_STATE)])) :: [])) rfl ?_
  refine Go.dup C at_226 (q := 227) rfl rfl ?_
  refine Go.bipush C at_227 (q := 229) rfl (v := (12 : Int32)) (by decide) ?_
  refine Go.iconst C at_229 (q := 230) rfl (v := (0 : Int32)) rfl ?_
  refine Go.iastore C (i := 0) rfl (by decide) (show (12 : Int32).toNatClampNeg < 24 from by decide) (w' := (.int (0 : Int32))) rfl at_230 (q := 231) rfl (M' := ((o2, .inr (.int, [(.int (0 : Int32)), (.int (4 : Int32)), (.int (1 : Int32)), (.int (0 : Int32)), (.int (2 : Int32)), (.int (1 : Int32)), (.int (0 : Int32)), (.int (0 : Int32)), (.int (0 : Int32)), (.int (0 : Int32)), (.int (0 : Int32)), (.int (0 : Int32)), (.int (0 : Int32)), (.int (0 : Int32)), (.int (0 : Int32)), (.int (0 : Int32)), (.int (0 : Int32)), (.int (0 : Int32)), (.int (0 : Int32)), (.int (0 : Int32)), (.int (0 : Int32)), (.int (0 : Int32)), (.int (0 : Int32)), (.int (0 : Int32))])) :: (o1, .inr (.object "com/example/mirrored_message_log/mirroredmessagelog/protocol/ApiKey", [(.ref s_PRODUCE), (.ref s_FETCH), (.ref s_LIST_OFFSETS), (.ref s_METADATA), (.ref s_OFFSET_COMMIT), (.ref s_OFFSET_FETCH), (.ref s_FIND_COORDINATOR), (.ref s_JOIN_GROUP), (.ref s_HEARTBEAT), (.ref s_LEAVE_GROUP), (.ref s_SYNC_GROUP), (.ref s_DESCRIBE_GROUPS), (.ref s_LIST_GROUPS), (.ref s_API_VERSIONS), (.ref s_CREATE_TOPICS), (.ref s_DELETE_TOPICS), (.ref s_INIT_PRODUCER_ID), (.ref s_WATCH_STATE), (.ref s_CHANGE_IN_SYNC), (.ref s_EPOCH_END), (.ref s_ALLOCATE_PRODUCER_IDS), (.ref s_MEMBER_CHALLENGE), (.ref s_MEMBER_PROOF), (.ref s_READ_STATE)])) :: [])) rfl ?_
  refine Go.dup C at_231 (q := 232) rfl rfl ?_
  refine Go.bipush C at_232 (q := 234) rfl (v := (13 : Int32)) (by decide) ?_
  refine Go.iconst C at_234 (q := 235) rfl (v := (0 : Int32)) rfl ?_
  refine Go.iastore C (i := 0) rfl (by decide) (show (13 : Int32).toNatClampNeg < 24 from by decide) (w' := (.int (0 : Int32))) rfl at_235 (q := 236) rfl (M' := ((o2, .inr (.int, [(.int (0 : Int32)), (.int (4 : Int32)), (.int (1 : Int32)), (.int (0 : Int32)), (.int (2 : Int32)), (.int (1 : Int32)), (.int (0 : Int32)), (.int (0 : Int32)), (.int (0 : Int32)), (.int (0 : Int32)), (.int (0 : Int32)), (.int (0 : Int32)), (.int (0 : Int32)), (.int (0 : Int32)), (.int (0 : Int32)), (.int (0 : Int32)), (.int (0 : Int32)), (.int (0 : Int32)), (.int (0 : Int32)), (.int (0 : Int32)), (.int (0 : Int32)), (.int (0 : Int32)), (.int (0 : Int32)), (.int (0 : Int32))])) :: (o1, .inr (.object "com/example/mirrored_message_log/mirroredmessagelog/protocol/ApiKey", [(.ref s_PRODUCE), (.ref s_FETCH), (.ref s_LIST_OFFSETS), (.ref s_METADATA), (.ref s_OFFSET_COMMIT), (.ref s_OFFSET_FETCH), (.ref s_FIND_COORDINATOR), (.ref s_JOIN_GROUP), (.ref s_HEARTBEAT), (.ref s_LEAVE_GROUP), (.ref s_SYNC_GROUP), (.ref s_DESCRIBE_GROUPS), (.ref s_LIST_GROUPS), (.ref s_API_VERSIONS), (.ref s_CREATE_TOPICS), (.ref s_DELETE_TOPICS), (.ref s_INIT_PRODUCER_ID), (.ref s_WATCH_STATE), (.ref s_CHANGE_IN_SYNC), (.ref s_EPOCH_END), (.ref s_ALLOCATE_PRODUCER_IDS), (.ref s_MEMBER_CHALLENGE), (.ref s_MEMBER_PROOF), (.ref s_READ_STATE)])) :: [])) rfl ?_
  refine Go.dup C at_236 (q := 237) rfl rfl ?_
  refine Go.bipush C at_237 (q := 239) rfl (v := (14 : Int32)) (by decide) ?_
  refine Go.iconst C at_239 (q := 240) rfl (v := (2 : Int32)) rfl ?_
  refine Go.iastore C (i := 0) rfl (by decide) (show (14 : Int32).toNatClampNeg < 24 from by decide) (w' := (.int (2 : Int32))) rfl at_240 (q := 241) rfl (M' := ((o2, .inr (.int, [(.int (0 : Int32)), (.int (4 : Int32)), (.int (1 : Int32)), (.int (0 : Int32)), (.int (2 : Int32)), (.int (1 : Int32)), (.int (0 : Int32)), (.int (0 : Int32)), (.int (0 : Int32)), (.int (0 : Int32)), (.int (0 : Int32)), (.int (0 : Int32)), (.int (0 : Int32)), (.int (0 : Int32)), (.int (2 : Int32)), (.int (0 : Int32)), (.int (0 : Int32)), (.int (0 : Int32)), (.int (0 : Int32)), (.int (0 : Int32)), (.int (0 : Int32)), (.int (0 : Int32)), (.int (0 : Int32)), (.int (0 : Int32))])) :: (o1, .inr (.object "com/example/mirrored_message_log/mirroredmessagelog/protocol/ApiKey", [(.ref s_PRODUCE), (.ref s_FETCH), (.ref s_LIST_OFFSETS), (.ref s_METADATA), (.ref s_OFFSET_COMMIT), (.ref s_OFFSET_FETCH), (.ref s_FIND_COORDINATOR), (.ref s_JOIN_GROUP), (.ref s_HEARTBEAT), (.ref s_LEAVE_GROUP), (.ref s_SYNC_GROUP), (.ref s_DESCRIBE_GROUPS), (.ref s_LIST_GROUPS), (.ref s_API_VERSIONS), (.ref s_CREATE_TOPICS), (.ref s_DELETE_TOPICS), (.ref s_INIT_PRODUCER_ID), (.ref s_WATCH_STATE), (.ref s_CHANGE_IN_SYNC), (.ref s_EPOCH_END), (.ref s_ALLOCATE_PRODUCER_IDS), (.ref s_MEMBER_CHALLENGE), (.ref s_MEMBER_PROOF), (.ref s_READ_STATE)])) :: [])) rfl ?_
  refine Go.dup C at_241 (q := 242) rfl rfl ?_
  refine Go.bipush C at_242 (q := 244) rfl (v := (15 : Int32)) (by decide) ?_
  refine Go.iconst C at_244 (q := 245) rfl (v := (0 : Int32)) rfl ?_
  refine Go.iastore C (i := 0) rfl (by decide) (show (15 : Int32).toNatClampNeg < 24 from by decide) (w' := (.int (0 : Int32))) rfl at_245 (q := 246) rfl (M' := ((o2, .inr (.int, [(.int (0 : Int32)), (.int (4 : Int32)), (.int (1 : Int32)), (.int (0 : Int32)), (.int (2 : Int32)), (.int (1 : Int32)), (.int (0 : Int32)), (.int (0 : Int32)), (.int (0 : Int32)), (.int (0 : Int32)), (.int (0 : Int32)), (.int (0 : Int32)), (.int (0 : Int32)), (.int (0 : Int32)), (.int (2 : Int32)), (.int (0 : Int32)), (.int (0 : Int32)), (.int (0 : Int32)), (.int (0 : Int32)), (.int (0 : Int32)), (.int (0 : Int32)), (.int (0 : Int32)), (.int (0 : Int32)), (.int (0 : Int32))])) :: (o1, .inr (.object "com/example/mirrored_message_log/mirroredmessagelog/protocol/ApiKey", [(.ref s_PRODUCE), (.ref s_FETCH), (.ref s_LIST_OFFSETS), (.ref s_METADATA), (.ref s_OFFSET_COMMIT), (.ref s_OFFSET_FETCH), (.ref s_FIND_COORDINATOR), (.ref s_JOIN_GROUP), (.ref s_HEARTBEAT), (.ref s_LEAVE_GROUP), (.ref s_SYNC_GROUP), (.ref s_DESCRIBE_GROUPS), (.ref s_LIST_GROUPS), (.ref s_API_VERSIONS), (.ref s_CREATE_TOPICS), (.ref s_DELETE_TOPICS), (.ref s_INIT_PRODUCER_ID), (.ref s_WATCH_STATE), (.ref s_CHANGE_IN_SYNC), (.ref s_EPOCH_END), (.ref s_ALLOCATE_PRODUCER_IDS), (.ref s_MEMBER_CHALLENGE), (.ref s_MEMBER_PROOF), (.ref s_READ_STATE)])) :: [])) rfl ?_
  refine Go.dup C at_246 (q := 247) rfl rfl ?_
  refine Go.bipush C at_247 (q := 249) rfl (v := (16 : Int32)) (by decide) ?_
  refine Go.iconst C at_249 (q := 250) rfl (v := (0 : Int32)) rfl ?_
  refine Go.iastore C (i := 0) rfl (by decide) (show (16 : Int32).toNatClampNeg < 24 from by decide) (w' := (.int (0 : Int32))) rfl at_250 (q := 251) rfl (M' := ((o2, .inr (.int, [(.int (0 : Int32)), (.int (4 : Int32)), (.int (1 : Int32)), (.int (0 : Int32)), (.int (2 : Int32)), (.int (1 : Int32)), (.int (0 : Int32)), (.int (0 : Int32)), (.int (0 : Int32)), (.int (0 : Int32)), (.int (0 : Int32)), (.int (0 : Int32)), (.int (0 : Int32)), (.int (0 : Int32)), (.int (2 : Int32)), (.int (0 : Int32)), (.int (0 : Int32)), (.int (0 : Int32)), (.int (0 : Int32)), (.int (0 : Int32)), (.int (0 : Int32)), (.int (0 : Int32)), (.int (0 : Int32)), (.int (0 : Int32))])) :: (o1, .inr (.object "com/example/mirrored_message_log/mirroredmessagelog/protocol/ApiKey", [(.ref s_PRODUCE), (.ref s_FETCH), (.ref s_LIST_OFFSETS), (.ref s_METADATA), (.ref s_OFFSET_COMMIT), (.ref s_OFFSET_FETCH), (.ref s_FIND_COORDINATOR), (.ref s_JOIN_GROUP), (.ref s_HEARTBEAT), (.ref s_LEAVE_GROUP), (.ref s_SYNC_GROUP), (.ref s_DESCRIBE_GROUPS), (.ref s_LIST_GROUPS), (.ref s_API_VERSIONS), (.ref s_CREATE_TOPICS), (.ref s_DELETE_TOPICS), (.ref s_INIT_PRODUCER_ID), (.ref s_WATCH_STATE), (.ref s_CHANGE_IN_SYNC), (.ref s_EPOCH_END), (.ref s_ALLOCATE_PRODUCER_IDS), (.ref s_MEMBER_CHALLENGE), (.ref s_MEMBER_PROOF), (.ref s_READ_STATE)])) :: [])) rfl ?_
  refine Go.dup C at_251 (q := 252) rfl rfl ?_
  refine Go.bipush C at_252 (q := 254) rfl (v := (17 : Int32)) (by decide) ?_
  refine Go.iconst C at_254 (q := 255) rfl (v := (4 : Int32)) rfl ?_
  refine Go.iastore C (i := 0) rfl (by decide) (show (17 : Int32).toNatClampNeg < 24 from by decide) (w' := (.int (4 : Int32))) rfl at_255 (q := 256) rfl (M' := ((o2, .inr (.int, [(.int (0 : Int32)), (.int (4 : Int32)), (.int (1 : Int32)), (.int (0 : Int32)), (.int (2 : Int32)), (.int (1 : Int32)), (.int (0 : Int32)), (.int (0 : Int32)), (.int (0 : Int32)), (.int (0 : Int32)), (.int (0 : Int32)), (.int (0 : Int32)), (.int (0 : Int32)), (.int (0 : Int32)), (.int (2 : Int32)), (.int (0 : Int32)), (.int (0 : Int32)), (.int (4 : Int32)), (.int (0 : Int32)), (.int (0 : Int32)), (.int (0 : Int32)), (.int (0 : Int32)), (.int (0 : Int32)), (.int (0 : Int32))])) :: (o1, .inr (.object "com/example/mirrored_message_log/mirroredmessagelog/protocol/ApiKey", [(.ref s_PRODUCE), (.ref s_FETCH), (.ref s_LIST_OFFSETS), (.ref s_METADATA), (.ref s_OFFSET_COMMIT), (.ref s_OFFSET_FETCH), (.ref s_FIND_COORDINATOR), (.ref s_JOIN_GROUP), (.ref s_HEARTBEAT), (.ref s_LEAVE_GROUP), (.ref s_SYNC_GROUP), (.ref s_DESCRIBE_GROUPS), (.ref s_LIST_GROUPS), (.ref s_API_VERSIONS), (.ref s_CREATE_TOPICS), (.ref s_DELETE_TOPICS), (.ref s_INIT_PRODUCER_ID), (.ref s_WATCH_STATE), (.ref s_CHANGE_IN_SYNC), (.ref s_EPOCH_END), (.ref s_ALLOCATE_PRODUCER_IDS), (.ref s_MEMBER_CHALLENGE), (.ref s_MEMBER_PROOF), (.ref s_READ_STATE)])) :: [])) rfl ?_
  refine Go.dup C at_256 (q := 257) rfl rfl ?_
  refine Go.bipush C at_257 (q := 259) rfl (v := (18 : Int32)) (by decide) ?_
  refine Go.iconst C at_259 (q := 260) rfl (v := (1 : Int32)) rfl ?_
  refine Go.iastore C (i := 0) rfl (by decide) (show (18 : Int32).toNatClampNeg < 24 from by decide) (w' := (.int (1 : Int32))) rfl at_260 (q := 261) rfl (M' := ((o2, .inr (.int, [(.int (0 : Int32)), (.int (4 : Int32)), (.int (1 : Int32)), (.int (0 : Int32)), (.int (2 : Int32)), (.int (1 : Int32)), (.int (0 : Int32)), (.int (0 : Int32)), (.int (0 : Int32)), (.int (0 : Int32)), (.int (0 : Int32)), (.int (0 : Int32)), (.int (0 : Int32)), (.int (0 : Int32)), (.int (2 : Int32)), (.int (0 : Int32)), (.int (0 : Int32)), (.int (4 : Int32)), (.int (1 : Int32)), (.int (0 : Int32)), (.int (0 : Int32)), (.int (0 : Int32)), (.int (0 : Int32)), (.int (0 : Int32))])) :: (o1, .inr (.object "com/example/mirrored_message_log/mirroredmessagelog/protocol/ApiKey", [(.ref s_PRODUCE), (.ref s_FETCH), (.ref s_LIST_OFFSETS), (.ref s_METADATA), (.ref s_OFFSET_COMMIT), (.ref s_OFFSET_FETCH), (.ref s_FIND_COORDINATOR), (.ref s_JOIN_GROUP), (.ref s_HEARTBEAT), (.ref s_LEAVE_GROUP), (.ref s_SYNC_GROUP), (.ref s_DESCRIBE_GROUPS), (.ref s_LIST_GROUPS), (.ref s_API_VERSIONS), (.ref s_CREATE_TOPICS), (.ref s_DELETE_TOPICS), (.ref s_INIT_PRODUCER_ID), (.ref s_WATCH_STATE), (.ref s_CHANGE_IN_SYNC), (.ref s_EPOCH_END), (.ref s_ALLOCATE_PRODUCER_IDS), (.ref s_MEMBER_CHALLENGE), (.ref s_MEMBER_PROOF), (.ref s_READ_STATE)])) :: [])) rfl ?_
  refine Go.dup C at_261 (q := 262) rfl rfl ?_
  refine Go.bipush C at_262 (q := 264) rfl (v := (19 : Int32)) (by decide) ?_
  refine Go.iconst C at_264 (q := 265) rfl (v := (0 : Int32)) rfl ?_
  refine Go.iastore C (i := 0) rfl (by decide) (show (19 : Int32).toNatClampNeg < 24 from by decide) (w' := (.int (0 : Int32))) rfl at_265 (q := 266) rfl (M' := ((o2, .inr (.int, [(.int (0 : Int32)), (.int (4 : Int32)), (.int (1 : Int32)), (.int (0 : Int32)), (.int (2 : Int32)), (.int (1 : Int32)), (.int (0 : Int32)), (.int (0 : Int32)), (.int (0 : Int32)), (.int (0 : Int32)), (.int (0 : Int32)), (.int (0 : Int32)), (.int (0 : Int32)), (.int (0 : Int32)), (.int (2 : Int32)), (.int (0 : Int32)), (.int (0 : Int32)), (.int (4 : Int32)), (.int (1 : Int32)), (.int (0 : Int32)), (.int (0 : Int32)), (.int (0 : Int32)), (.int (0 : Int32)), (.int (0 : Int32))])) :: (o1, .inr (.object "com/example/mirrored_message_log/mirroredmessagelog/protocol/ApiKey", [(.ref s_PRODUCE), (.ref s_FETCH), (.ref s_LIST_OFFSETS), (.ref s_METADATA), (.ref s_OFFSET_COMMIT), (.ref s_OFFSET_FETCH), (.ref s_FIND_COORDINATOR), (.ref s_JOIN_GROUP), (.ref s_HEARTBEAT), (.ref s_LEAVE_GROUP), (.ref s_SYNC_GROUP), (.ref s_DESCRIBE_GROUPS), (.ref s_LIST_GROUPS), (.ref s_API_VERSIONS), (.ref s_CREATE_TOPICS), (.ref s_DELETE_TOPICS), (.ref s_INIT_PRODUCER_ID), (.ref s_WATCH_STATE), (.ref s_CHANGE_IN_SYNC), (.ref s_EPOCH_END), (.ref s_ALLOCATE_PRODUCER_IDS), (.ref s_MEMBER_CHALLENGE), (.ref s_MEMBER_PROOF), (.ref s_READ_STATE)])) :: [])) rfl ?_
  refine Go.dup C at_266 (q := 267) rfl rfl ?_
  refine Go.bipush C at_267 (q := 269) rfl (v := (20 : Int32)) (by decide) ?_
  refine Go.iconst C at_269 (q := 270) rfl (v := (0 : Int32)) rfl ?_
  refine Go.iastore C (i := 0) rfl (by decide) (show (20 : Int32).toNatClampNeg < 24 from by decide) (w' := (.int (0 : Int32))) rfl at_270 (q := 271) rfl (M' := ((o2, .inr (.int, [(.int (0 : Int32)), (.int (4 : Int32)), (.int (1 : Int32)), (.int (0 : Int32)), (.int (2 : Int32)), (.int (1 : Int32)), (.int (0 : Int32)), (.int (0 : Int32)), (.int (0 : Int32)), (.int (0 : Int32)), (.int (0 : Int32)), (.int (0 : Int32)), (.int (0 : Int32)), (.int (0 : Int32)), (.int (2 : Int32)), (.int (0 : Int32)), (.int (0 : Int32)), (.int (4 : Int32)), (.int (1 : Int32)), (.int (0 : Int32)), (.int (0 : Int32)), (.int (0 : Int32)), (.int (0 : Int32)), (.int (0 : Int32))])) :: (o1, .inr (.object "com/example/mirrored_message_log/mirroredmessagelog/protocol/ApiKey", [(.ref s_PRODUCE), (.ref s_FETCH), (.ref s_LIST_OFFSETS), (.ref s_METADATA), (.ref s_OFFSET_COMMIT), (.ref s_OFFSET_FETCH), (.ref s_FIND_COORDINATOR), (.ref s_JOIN_GROUP), (.ref s_HEARTBEAT), (.ref s_LEAVE_GROUP), (.ref s_SYNC_GROUP), (.ref s_DESCRIBE_GROUPS), (.ref s_LIST_GROUPS), (.ref s_API_VERSIONS), (.ref s_CREATE_TOPICS), (.ref s_DELETE_TOPICS), (.ref s_INIT_PRODUCER_ID), (.ref s_WATCH_STATE), (.ref s_CHANGE_IN_SYNC), (.ref s_EPOCH_END), (.ref s_ALLOCATE_PRODUCER_IDS), (.ref s_MEMBER_CHALLENGE), (.ref s_MEMBER_PROOF), (.ref s_READ_STATE)])) :: [])) rfl ?_
  refine Go.dup C at_271 (q := 272) rfl rfl ?_
  refine Go.bipush C at_272 (q := 274) rfl (v := (21 : Int32)) (by decide) ?_
  refine Go.iconst C at_274 (q := 275) rfl (v := (0 : Int32)) rfl ?_
  refine Go.iastore C (i := 0) rfl (by decide) (show (21 : Int32).toNatClampNeg < 24 from by decide) (w' := (.int (0 : Int32))) rfl at_275 (q := 276) rfl (M' := ((o2, .inr (.int, [(.int (0 : Int32)), (.int (4 : Int32)), (.int (1 : Int32)), (.int (0 : Int32)), (.int (2 : Int32)), (.int (1 : Int32)), (.int (0 : Int32)), (.int (0 : Int32)), (.int (0 : Int32)), (.int (0 : Int32)), (.int (0 : Int32)), (.int (0 : Int32)), (.int (0 : Int32)), (.int (0 : Int32)), (.int (2 : Int32)), (.int (0 : Int32)), (.int (0 : Int32)), (.int (4 : Int32)), (.int (1 : Int32)), (.int (0 : Int32)), (.int (0 : Int32)), (.int (0 : Int32)), (.int (0 : Int32)), (.int (0 : Int32))])) :: (o1, .inr (.object "com/example/mirrored_message_log/mirroredmessagelog/protocol/ApiKey", [(.ref s_PRODUCE), (.ref s_FETCH), (.ref s_LIST_OFFSETS), (.ref s_METADATA), (.ref s_OFFSET_COMMIT), (.ref s_OFFSET_FETCH), (.ref s_FIND_COORDINATOR), (.ref s_JOIN_GROUP), (.ref s_HEARTBEAT), (.ref s_LEAVE_GROUP), (.ref s_SYNC_GROUP), (.ref s_DESCRIBE_GROUPS), (.ref s_LIST_GROUPS), (.ref s_API_VERSIONS), (.ref s_CREATE_TOPICS), (.ref s_DELETE_TOPICS), (.ref s_INIT_PRODUCER_ID), (.ref s_WATCH_STATE), (.ref s_CHANGE_IN_SYNC), (.ref s_EPOCH_END), (.ref s_ALLOCATE_PRODUCER_IDS), (.ref s_MEMBER_CHALLENGE), (.ref s_MEMBER_PROOF), (.ref s_READ_STATE)])) :: [])) rfl ?_
  refine Go.dup C at_276 (q := 277) rfl rfl ?_
  refine Go.bipush C at_277 (q := 279) rfl (v := (22 : Int32)) (by decide) ?_
  refine Go.iconst C at_279 (q := 280) rfl (v := (0 : Int32)) rfl ?_
  refine Go.iastore C (i := 0) rfl (by decide) (show (22 : Int32).toNatClampNeg < 24 from by decide) (w' := (.int (0 : Int32))) rfl at_280 (q := 281) rfl (M' := ((o2, .inr (.int, [(.int (0 : Int32)), (.int (4 : Int32)), (.int (1 : Int32)), (.int (0 : Int32)), (.int (2 : Int32)), (.int (1 : Int32)), (.int (0 : Int32)), (.int (0 : Int32)), (.int (0 : Int32)), (.int (0 : Int32)), (.int (0 : Int32)), (.int (0 : Int32)), (.int (0 : Int32)), (.int (0 : Int32)), (.int (2 : Int32)), (.int (0 : Int32)), (.int (0 : Int32)), (.int (4 : Int32)), (.int (1 : Int32)), (.int (0 : Int32)), (.int (0 : Int32)), (.int (0 : Int32)), (.int (0 : Int32)), (.int (0 : Int32))])) :: (o1, .inr (.object "com/example/mirrored_message_log/mirroredmessagelog/protocol/ApiKey", [(.ref s_PRODUCE), (.ref s_FETCH), (.ref s_LIST_OFFSETS), (.ref s_METADATA), (.ref s_OFFSET_COMMIT), (.ref s_OFFSET_FETCH), (.ref s_FIND_COORDINATOR), (.ref s_JOIN_GROUP), (.ref s_HEARTBEAT), (.ref s_LEAVE_GROUP), (.ref s_SYNC_GROUP), (.ref s_DESCRIBE_GROUPS), (.ref s_LIST_GROUPS), (.ref s_API_VERSIONS), (.ref s_CREATE_TOPICS), (.ref s_DELETE_TOPICS), (.ref s_INIT_PRODUCER_ID), (.ref s_WATCH_STATE), (.ref s_CHANGE_IN_SYNC), (.ref s_EPOCH_END), (.ref s_ALLOCATE_PRODUCER_IDS), (.ref s_MEMBER_CHALLENGE), (.ref s_MEMBER_PROOF), (.ref s_READ_STATE)])) :: [])) rfl ?_
  refine Go.dup C at_281 (q := 282) rfl rfl ?_
  refine Go.bipush C at_282 (q := 284) rfl (v := (23 : Int32)) (by decide) ?_
  refine Go.iconst C at_284 (q := 285) rfl (v := (2 : Int32)) rfl ?_
  refine Go.iastore C (i := 0) rfl (by decide) (show (23 : Int32).toNatClampNeg < 24 from by decide) (w' := (.int (2 : Int32))) rfl at_285 (q := 286) rfl (M' := ((o2, .inr (.int, [(.int (0 : Int32)), (.int (4 : Int32)), (.int (1 : Int32)), (.int (0 : Int32)), (.int (2 : Int32)), (.int (1 : Int32)), (.int (0 : Int32)), (.int (0 : Int32)), (.int (0 : Int32)), (.int (0 : Int32)), (.int (0 : Int32)), (.int (0 : Int32)), (.int (0 : Int32)), (.int (0 : Int32)), (.int (2 : Int32)), (.int (0 : Int32)), (.int (0 : Int32)), (.int (4 : Int32)), (.int (1 : Int32)), (.int (0 : Int32)), (.int (0 : Int32)), (.int (0 : Int32)), (.int (0 : Int32)), (.int (2 : Int32))])) :: (o1, .inr (.object "com/example/mirrored_message_log/mirroredmessagelog/protocol/ApiKey", [(.ref s_PRODUCE), (.ref s_FETCH), (.ref s_LIST_OFFSETS), (.ref s_METADATA), (.ref s_OFFSET_COMMIT), (.ref s_OFFSET_FETCH), (.ref s_FIND_COORDINATOR), (.ref s_JOIN_GROUP), (.ref s_HEARTBEAT), (.ref s_LEAVE_GROUP), (.ref s_SYNC_GROUP), (.ref s_DESCRIBE_GROUPS), (.ref s_LIST_GROUPS), (.ref s_API_VERSIONS), (.ref s_CREATE_TOPICS), (.ref s_DELETE_TOPICS), (.ref s_INIT_PRODUCER_ID), (.ref s_WATCH_STATE), (.ref s_CHANGE_IN_SYNC), (.ref s_EPOCH_END), (.ref s_ALLOCATE_PRODUCER_IDS), (.ref s_MEMBER_CHALLENGE), (.ref s_MEMBER_PROOF), (.ref s_READ_STATE)])) :: [])) rfl ?_
  refine Go.astoreN C at_286 (q := 287) rfl rfl (Ls' := #[.val (.int which), .val (.int version), .val (.ref o1), .val (.ref o2), .unset, .unset, .unset, .unset, .unset, .unset]) rfl ?_
  refine Go.bipush C at_287 (q := 289) rfl (v := (24 : Int32)) (by decide) ?_
  refine Go.newarray C (ty := .int) (wd hw 52 rfl) rfl (by simp) (by decide) (cap := 24) (by decide) (by decide) (vs := [(.int (0 : Int32)), (.int (0 : Int32)), (.int (0 : Int32)), (.int (0 : Int32)), (.int (0 : Int32)), (.int (0 : Int32)), (.int (0 : Int32)), (.int (0 : Int32)), (.int (0 : Int32)), (.int (0 : Int32)), (.int (0 : Int32)), (.int (0 : Int32)), (.int (0 : Int32)), (.int (0 : Int32)), (.int (0 : Int32)), (.int (0 : Int32)), (.int (0 : Int32)), (.int (0 : Int32)), (.int (0 : Int32)), (.int (0 : Int32)), (.int (0 : Int32)), (.int (0 : Int32)), (.int (0 : Int32)), (.int (0 : Int32))]) rfl at_289 (q := 291) rfl (by decide) (by decide) (k' := 3) (n' := 72) rfl rfl (fun o3 => ?_)
  refine Go.dup C at_291 (q := 292) rfl rfl ?_
  refine Go.iconst C at_292 (q := 293) rfl (v := (0 : Int32)) rfl ?_
  refine Go.bipush C at_293 (q := 295) rfl (v := (7 : Int32)) (by decide) ?_
  refine Go.iastore C (i := 0) rfl (by decide) (show (0 : Int32).toNatClampNeg < 24 from by decide) (w' := (.int (7 : Int32))) rfl at_295 (q := 296) rfl (M' := ((o3, .inr (.int, [(.int (7 : Int32)), (.int (0 : Int32)), (.int (0 : Int32)), (.int (0 : Int32)), (.int (0 : Int32)), (.int (0 : Int32)), (.int (0 : Int32)), (.int (0 : Int32)), (.int (0 : Int32)), (.int (0 : Int32)), (.int (0 : Int32)), (.int (0 : Int32)), (.int (0 : Int32)), (.int (0 : Int32)), (.int (0 : Int32)), (.int (0 : Int32)), (.int (0 : Int32)), (.int (0 : Int32)), (.int (0 : Int32)), (.int (0 : Int32)), (.int (0 : Int32)), (.int (0 : Int32)), (.int (0 : Int32)), (.int (0 : Int32))])) :: (o2, .inr (.int, [(.int (0 : Int32)), (.int (4 : Int32)), (.int (1 : Int32)), (.int (0 : Int32)), (.int (2 : Int32)), (.int (1 : Int32)), (.int (0 : Int32)), (.int (0 : Int32)), (.int (0 : Int32)), (.int (0 : Int32)), (.int (0 : Int32)), (.int (0 : Int32)), (.int (0 : Int32)), (.int (0 : Int32)), (.int (2 : Int32)), (.int (0 : Int32)), (.int (0 : Int32)), (.int (4 : Int32)), (.int (1 : Int32)), (.int (0 : Int32)), (.int (0 : Int32)), (.int (0 : Int32)), (.int (0 : Int32)), (.int (2 : Int32))])) :: (o1, .inr (.object "com/example/mirrored_message_log/mirroredmessagelog/protocol/ApiKey", [(.ref s_PRODUCE), (.ref s_FETCH), (.ref s_LIST_OFFSETS), (.ref s_METADATA), (.ref s_OFFSET_COMMIT), (.ref s_OFFSET_FETCH), (.ref s_FIND_COORDINATOR), (.ref s_JOIN_GROUP), (.ref s_HEARTBEAT), (.ref s_LEAVE_GROUP), (.ref s_SYNC_GROUP), (.ref s_DESCRIBE_GROUPS), (.ref s_LIST_GROUPS), (.ref s_API_VERSIONS), (.ref s_CREATE_TOPICS), (.ref s_DELETE_TOPICS), (.ref s_INIT_PRODUCER_ID), (.ref s_WATCH_STATE), (.ref s_CHANGE_IN_SYNC), (.ref s_EPOCH_END), (.ref s_ALLOCATE_PRODUCER_IDS), (.ref s_MEMBER_CHALLENGE), (.ref s_MEMBER_PROOF), (.ref s_READ_STATE)])) :: [])) rfl ?_
  refine Go.dup C at_296 (q := 297) rfl rfl ?_
  refine Go.iconst C at_297 (q := 298) rfl (v := (1 : Int32)) rfl ?_
  refine Go.bipush C at_298 (q := 300) rfl (v := (11 : Int32)) (by decide) ?_
  refine Go.iastore C (i := 0) rfl (by decide) (show (1 : Int32).toNatClampNeg < 24 from by decide) (w' := (.int (11 : Int32))) rfl at_300 (q := 301) rfl (M' := ((o3, .inr (.int, [(.int (7 : Int32)), (.int (11 : Int32)), (.int (0 : Int32)), (.int (0 : Int32)), (.int (0 : Int32)), (.int (0 : Int32)), (.int (0 : Int32)), (.int (0 : Int32)), (.int (0 : Int32)), (.int (0 : Int32)), (.int (0 : Int32)), (.int (0 : Int32)), (.int (0 : Int32)), (.int (0 : Int32)), (.int (0 : Int32)), (.int (0 : Int32)), (.int (0 : Int32)), (.int (0 : Int32)), (.int (0 : Int32)), (.int (0 : Int32)), (.int (0 : Int32)), (.int (0 : Int32)), (.int (0 : Int32)), (.int (0 : Int32))])) :: (o2, .inr (.int, [(.int (0 : Int32)), (.int (4 : Int32)), (.int (1 : Int32)), (.int (0 : Int32)), (.int (2 : Int32)), (.int (1 : Int32)), (.int (0 : Int32)), (.int (0 : Int32)), (.int (0 : Int32)), (.int (0 : Int32)), (.int (0 : Int32)), (.int (0 : Int32)), (.int (0 : Int32)), (.int (0 : Int32)), (.int (2 : Int32)), (.int (0 : Int32)), (.int (0 : Int32)), (.int (4 : Int32)), (.int (1 : Int32)), (.int (0 : Int32)), (.int (0 : Int32)), (.int (0 : Int32)), (.int (0 : Int32)), (.int (2 : Int32))])) :: (o1, .inr (.object "com/example/mirrored_message_log/mirroredmessagelog/protocol/ApiKey", [(.ref s_PRODUCE), (.ref s_FETCH), (.ref s_LIST_OFFSETS), (.ref s_METADATA), (.ref s_OFFSET_COMMIT), (.ref s_OFFSET_FETCH), (.ref s_FIND_COORDINATOR), (.ref s_JOIN_GROUP), (.ref s_HEARTBEAT), (.ref s_LEAVE_GROUP), (.ref s_SYNC_GROUP), (.ref s_DESCRIBE_GROUPS), (.ref s_LIST_GROUPS), (.ref s_API_VERSIONS), (.ref s_CREATE_TOPICS), (.ref s_DELETE_TOPICS), (.ref s_INIT_PRODUCER_ID), (.ref s_WATCH_STATE), (.ref s_CHANGE_IN_SYNC), (.ref s_EPOCH_END), (.ref s_ALLOCATE_PRODUCER_IDS), (.ref s_MEMBER_CHALLENGE), (.ref s_MEMBER_PROOF), (.ref s_READ_STATE)])) :: [])) rfl ?_
  refine Go.dup C at_301 (q := 302) rfl rfl ?_
  refine Go.iconst C at_302 (q := 303) rfl (v := (2 : Int32)) rfl ?_
  refine Go.iconst C at_303 (q := 304) rfl (v := (2 : Int32)) rfl ?_
  refine Go.iastore C (i := 0) rfl (by decide) (show (2 : Int32).toNatClampNeg < 24 from by decide) (w' := (.int (2 : Int32))) rfl at_304 (q := 305) rfl (M' := ((o3, .inr (.int, [(.int (7 : Int32)), (.int (11 : Int32)), (.int (2 : Int32)), (.int (0 : Int32)), (.int (0 : Int32)), (.int (0 : Int32)), (.int (0 : Int32)), (.int (0 : Int32)), (.int (0 : Int32)), (.int (0 : Int32)), (.int (0 : Int32)), (.int (0 : Int32)), (.int (0 : Int32)), (.int (0 : Int32)), (.int (0 : Int32)), (.int (0 : Int32)), (.int (0 : Int32)), (.int (0 : Int32)), (.int (0 : Int32)), (.int (0 : Int32)), (.int (0 : Int32)), (.int (0 : Int32)), (.int (0 : Int32)), (.int (0 : Int32))])) :: (o2, .inr (.int, [(.int (0 : Int32)), (.int (4 : Int32)), (.int (1 : Int32)), (.int (0 : Int32)), (.int (2 : Int32)), (.int (1 : Int32)), (.int (0 : Int32)), (.int (0 : Int32)), (.int (0 : Int32)), (.int (0 : Int32)), (.int (0 : Int32)), (.int (0 : Int32)), (.int (0 : Int32)), (.int (0 : Int32)), (.int (2 : Int32)), (.int (0 : Int32)), (.int (0 : Int32)), (.int (4 : Int32)), (.int (1 : Int32)), (.int (0 : Int32)), (.int (0 : Int32)), (.int (0 : Int32)), (.int (0 : Int32)), (.int (2 : Int32))])) :: (o1, .inr (.object "com/example/mirrored_message_log/mirroredmessagelog/protocol/ApiKey", [(.ref s_PRODUCE), (.ref s_FETCH), (.ref s_LIST_OFFSETS), (.ref s_METADATA), (.ref s_OFFSET_COMMIT), (.ref s_OFFSET_FETCH), (.ref s_FIND_COORDINATOR), (.ref s_JOIN_GROUP), (.ref s_HEARTBEAT), (.ref s_LEAVE_GROUP), (.ref s_SYNC_GROUP), (.ref s_DESCRIBE_GROUPS), (.ref s_LIST_GROUPS), (.ref s_API_VERSIONS), (.ref s_CREATE_TOPICS), (.ref s_DELETE_TOPICS), (.ref s_INIT_PRODUCER_ID), (.ref s_WATCH_STATE), (.ref s_CHANGE_IN_SYNC), (.ref s_EPOCH_END), (.ref s_ALLOCATE_PRODUCER_IDS), (.ref s_MEMBER_CHALLENGE), (.ref s_MEMBER_PROOF), (.ref s_READ_STATE)])) :: [])) rfl ?_
  refine Go.dup C at_305 (q := 306) rfl rfl ?_
  refine Go.iconst C at_306 (q := 307) rfl (v := (3 : Int32)) rfl ?_
  refine Go.iconst C at_307 (q := 308) rfl (v := (4 : Int32)) rfl ?_
  refine Go.iastore C (i := 0) rfl (by decide) (show (3 : Int32).toNatClampNeg < 24 from by decide) (w' := (.int (4 : Int32))) rfl at_308 (q := 309) rfl (M' := ((o3, .inr (.int, [(.int (7 : Int32)), (.int (11 : Int32)), (.int (2 : Int32)), (.int (4 : Int32)), (.int (0 : Int32)), (.int (0 : Int32)), (.int (0 : Int32)), (.int (0 : Int32)), (.int (0 : Int32)), (.int (0 : Int32)), (.int (0 : Int32)), (.int (0 : Int32)), (.int (0 : Int32)), (.int (0 : Int32)), (.int (0 : Int32)), (.int (0 : Int32)), (.int (0 : Int32)), (.int (0 : Int32)), (.int (0 : Int32)), (.int (0 : Int32)), (.int (0 : Int32)), (.int (0 : Int32)), (.int (0 : Int32)), (.int (0 : Int32))])) :: (o2, .inr (.int, [(.int (0 : Int32)), (.int (4 : Int32)), (.int (1 : Int32)), (.int (0 : Int32)), (.int (2 : Int32)), (.int (1 : Int32)), (.int (0 : Int32)), (.int (0 : Int32)), (.int (0 : Int32)), (.int (0 : Int32)), (.int (0 : Int32)), (.int (0 : Int32)), (.int (0 : Int32)), (.int (0 : Int32)), (.int (2 : Int32)), (.int (0 : Int32)), (.int (0 : Int32)), (.int (4 : Int32)), (.int (1 : Int32)), (.int (0 : Int32)), (.int (0 : Int32)), (.int (0 : Int32)), (.int (0 : Int32)), (.int (2 : Int32))])) :: (o1, .inr (.object "com/example/mirrored_message_log/mirroredmessagelog/protocol/ApiKey", [(.ref s_PRODUCE), (.ref s_FETCH), (.ref s_LIST_OFFSETS), (.ref s_METADATA), (.ref s_OFFSET_COMMIT), (.ref s_OFFSET_FETCH), (.ref s_FIND_COORDINATOR), (.ref s_JOIN_GROUP), (.ref s_HEARTBEAT), (.ref s_LEAVE_GROUP), (.ref s_SYNC_GROUP), (.ref s_DESCRIBE_GROUPS), (.ref s_LIST_GROUPS), (.ref s_API_VERSIONS), (.ref s_CREATE_TOPICS), (.ref s_DELETE_TOPICS), (.ref s_INIT_PRODUCER_ID), (.ref s_WATCH_STATE), (.ref s_CHANGE_IN_SYNC), (.ref s_EPOCH_END), (.ref s_ALLOCATE_PRODUCER_IDS), (.ref s_MEMBER_CHALLENGE), (.ref s_MEMBER_PROOF), (.ref s_READ_STATE)])) :: [])) rfl ?_
  refine Go.dup C at_309 (q := 310) rfl rfl ?_
  refine Go.iconst C at_310 (q := 311) rfl (v := (4 : Int32)) rfl ?_
  refine Go.bipush C at_311 (q := 313) rfl (v := (7 : Int32)) (by decide) ?_
  refine Go.iastore C (i := 0) rfl (by decide) (show (4 : Int32).toNatClampNeg < 24 from by decide) (w' := (.int (7 : Int32))) rfl at_313 (q := 314) rfl (M' := ((o3, .inr (.int, [(.int (7 : Int32)), (.int (11 : Int32)), (.int (2 : Int32)), (.int (4 : Int32)), (.int (7 : Int32)), (.int (0 : Int32)), (.int (0 : Int32)), (.int (0 : Int32)), (.int (0 : Int32)), (.int (0 : Int32)), (.int (0 : Int32)), (.int (0 : Int32)), (.int (0 : Int32)), (.int (0 : Int32)), (.int (0 : Int32)), (.int (0 : Int32)), (.int (0 : Int32)), (.int (0 : Int32)), (.int (0 : Int32)), (.int (0 : Int32)), (.int (0 : Int32)), (.int (0 : Int32)), (.int (0 : Int32)), (.int (0 : Int32))])) :: (o2, .inr (.int, [(.int (0 : Int32)), (.int (4 : Int32)), (.int (1 : Int32)), (.int (0 : Int32)), (.int (2 : Int32)), (.int (1 : Int32)), (.int (0 : Int32)), (.int (0 : Int32)), (.int (0 : Int32)), (.int (0 : Int32)), (.int (0 : Int32)), (.int (0 : Int32)), (.int (0 : Int32)), (.int (0 : Int32)), (.int (2 : Int32)), (.int (0 : Int32)), (.int (0 : Int32)), (.int (4 : Int32)), (.int (1 : Int32)), (.int (0 : Int32)), (.int (0 : Int32)), (.int (0 : Int32)), (.int (0 : Int32)), (.int (2 : Int32))])) :: (o1, .inr (.object "com/example/mirrored_message_log/mirroredmessagelog/protocol/ApiKey", [(.ref s_PRODUCE), (.ref s_FETCH), (.ref s_LIST_OFFSETS), (.ref s_METADATA), (.ref s_OFFSET_COMMIT), (.ref s_OFFSET_FETCH), (.ref s_FIND_COORDINATOR), (.ref s_JOIN_GROUP), (.ref s_HEARTBEAT), (.ref s_LEAVE_GROUP), (.ref s_SYNC_GROUP), (.ref s_DESCRIBE_GROUPS), (.ref s_LIST_GROUPS), (.ref s_API_VERSIONS), (.ref s_CREATE_TOPICS), (.ref s_DELETE_TOPICS), (.ref s_INIT_PRODUCER_ID), (.ref s_WATCH_STATE), (.ref s_CHANGE_IN_SYNC), (.ref s_EPOCH_END), (.ref s_ALLOCATE_PRODUCER_IDS), (.ref s_MEMBER_CHALLENGE), (.ref s_MEMBER_PROOF), (.ref s_READ_STATE)])) :: [])) rfl ?_
  refine Go.dup C at_314 (q := 315) rfl rfl ?_
  refine Go.iconst C at_315 (q := 316) rfl (v := (5 : Int32)) rfl ?_
  refine Go.iconst C at_316 (q := 317) rfl (v := (5 : Int32)) rfl ?_
  refine Go.iastore C (i := 0) rfl (by decide) (show (5 : Int32).toNatClampNeg < 24 from by decide) (w' := (.int (5 : Int32))) rfl at_317 (q := 318) rfl (M' := ((o3, .inr (.int, [(.int (7 : Int32)), (.int (11 : Int32)), (.int (2 : Int32)), (.int (4 : Int32)), (.int (7 : Int32)), (.int (5 : Int32)), (.int (0 : Int32)), (.int (0 : Int32)), (.int (0 : Int32)), (.int (0 : Int32)), (.int (0 : Int32)), (.int (0 : Int32)), (.int (0 : Int32)), (.int (0 : Int32)), (.int (0 : Int32)), (.int (0 : Int32)), (.int (0 : Int32)), (.int (0 : Int32)), (.int (0 : Int32)), (.int (0 : Int32)), (.int (0 : Int32)), (.int (0 : Int32)), (.int (0 : Int32)), (.int (0 : Int32))])) :: (o2, .inr (.int, [(.int (0 : Int32)), (.int (4 : Int32)), (.int (1 : Int32)), (.int (0 : Int32)), (.int (2 : Int32)), (.int (1 : Int32)), (.int (0 : Int32)), (.int (0 : Int32)), (.int (0 : Int32)), (.int (0 : Int32)), (.int (0 : Int32)), (.int (0 : Int32)), (.int (0 : Int32)), (.int (0 : Int32)), (.int (2 : Int32)), (.int (0 : Int32)), (.int (0 : Int32)), (.int (4 : Int32)), (.int (1 : Int32)), (.int (0 : Int32)), (.int (0 : Int32)), (.int (0 : Int32)), (.int (0 : Int32)), (.int (2 : Int32))])) :: (o1, .inr (.object "com/example/mirrored_message_log/mirroredmessagelog/protocol/ApiKey", [(.ref s_PRODUCE), (.ref s_FETCH), (.ref s_LIST_OFFSETS), (.ref s_METADATA), (.ref s_OFFSET_COMMIT), (.ref s_OFFSET_FETCH), (.ref s_FIND_COORDINATOR), (.ref s_JOIN_GROUP), (.ref s_HEARTBEAT), (.ref s_LEAVE_GROUP), (.ref s_SYNC_GROUP), (.ref s_DESCRIBE_GROUPS), (.ref s_LIST_GROUPS), (.ref s_API_VERSIONS), (.ref s_CREATE_TOPICS), (.ref s_DELETE_TOPICS), (.ref s_INIT_PRODUCER_ID), (.ref s_WATCH_STATE), (.ref s_CHANGE_IN_SYNC), (.ref s_EPOCH_END), (.ref s_ALLOCATE_PRODUCER_IDS), (.ref s_MEMBER_CHALLENGE), (.ref s_MEMBER_PROOF), (.ref s_READ_STATE)])) :: [])) rfl ?_
  refine Go.dup C at_318 (q := 319) rfl rfl ?_
  refine Go.bipush C at_319 (q := 321) rfl (v := (6 : Int32)) (by decide) ?_
  refine Go.iconst C at_321 (q := 322) rfl (v := (2 : Int32)) rfl ?_
  refine Go.iastore C (i := 0) rfl (by decide) (show (6 : Int32).toNatClampNeg < 24 from by decide) (w' := (.int (2 : Int32))) rfl at_322 (q := 323) rfl (M' := ((o3, .inr (.int, [(.int (7 : Int32)), (.int (11 : Int32)), (.int (2 : Int32)), (.int (4 : Int32)), (.int (7 : Int32)), (.int (5 : Int32)), (.int (2 : Int32)), (.int (0 : Int32)), (.int (0 : Int32)), (.int (0 : Int32)), (.int (0 : Int32)), (.int (0 : Int32)), (.int (0 : Int32)), (.int (0 : Int32)), (.int (0 : Int32)), (.int (0 : Int32)), (.int (0 : Int32)), (.int (0 : Int32)), (.int (0 : Int32)), (.int (0 : Int32)), (.int (0 : Int32)), (.int (0 : Int32)), (.int (0 : Int32)), (.int (0 : Int32))])) :: (o2, .inr (.int, [(.int (0 : Int32)), (.int (4 : Int32)), (.int (1 : Int32)), (.int (0 : Int32)), (.int (2 : Int32)), (.int (1 : Int32)), (.int (0 : Int32)), (.int (0 : Int32)), (.int (0 : Int32)), (.int (0 : Int32)), (.int (0 : Int32)), (.int (0 : Int32)), (.int (0 : Int32)), (.int (0 : Int32)), (.int (2 : Int32)), (.int (0 : Int32)), (.int (0 : Int32)), (.int (4 : Int32)), (.int (1 : Int32)), (.int (0 : Int32)), (.int (0 : Int32)), (.int (0 : Int32)), (.int (0 : Int32)), (.int (2 : Int32))])) :: (o1, .inr (.object "com/example/mirrored_message_log/mirroredmessagelog/protocol/ApiKey", [(.ref s_PRODUCE), (.ref s_FETCH), (.ref s_LIST_OFFSETS), (.ref s_METADATA), (.ref s_OFFSET_COMMIT), (.ref s_OFFSET_FETCH), (.ref s_FIND_COORDINATOR), (.ref s_JOIN_GROUP), (.ref s_HEARTBEAT), (.ref s_LEAVE_GROUP), (.ref s_SYNC_GROUP), (.ref s_DESCRIBE_GROUPS), (.ref s_LIST_GROUPS), (.ref s_API_VERSIONS), (.ref s_CREATE_TOPICS), (.ref s_DELETE_TOPICS), (.ref s_INIT_PRODUCER_ID), (.ref s_WATCH_STATE), (.ref s_CHANGE_IN_SYNC), (.ref s_EPOCH_END), (.ref s_ALLOCATE_PRODUCER_IDS), (.ref s_MEMBER_CHALLENGE), (.ref s_MEMBER_PROOF), (.ref s_READ_STATE)])) :: [])) rfl ?_
  refine Go.dup C at_323 (q := 324) rfl rfl ?_
  refine Go.bipush C at_324 (q := 326) rfl (v := (7 : Int32)) (by decide) ?_
  refine Go.iconst C at_326 (q := 327) rfl (v := (5 : Int32)) rfl ?_
  refine Go.iastore C (i := 0) rfl (by decide) (show (7 : Int32).toNatClampNeg < 24 from by decide) (w' := (.int (5 : Int32))) rfl at_327 (q := 328) rfl (M' := ((o3, .inr (.int, [(.int (7 : Int32)), (.int (11 : Int32)), (.int (2 : Int32)), (.int (4 : Int32)), (.int (7 : Int32)), (.int (5 : Int32)), (.int (2 : Int32)), (.int (5 : Int32)), (.int (0 : Int32)), (.int (0 : Int32)), (.int (0 : Int32)), (.int (0 : Int32)), (.int (0 : Int32)), (.int (0 : Int32)), (.int (0 : Int32)), (.int (0 : Int32)), (.int (0 : Int32)), (.int (0 : Int32)), (.int (0 : Int32)), (.int (0 : Int32)), (.int (0 : Int32)), (.int (0 : Int32)), (.int (0 : Int32)), (.int (0 : Int32))])) :: (o2, .inr (.int, [(.int (0 : Int32)), (.int (4 : Int32)), (.int (1 : Int32)), (.int (0 : Int32)), (.int (2 : Int32)), (.int (1 : Int32)), (.int (0 : Int32)), (.int (0 : Int32)), (.int (0 : Int32)), (.int (0 : Int32)), (.int (0 : Int32)), (.int (0 : Int32)), (.int (0 : Int32)), (.int (0 : Int32)), (.int (2 : Int32)), (.int (0 : Int32)), (.int (0 : Int32)), (.int (4 : Int32)), (.int (1 : Int32)), (.int (0 : Int32)), (.int (0 : Int32)), (.int (0 : Int32)), (.int (0 : Int32)), (.int (2 : Int32))])) :: (o1, .inr (.object "com/example/mirrored_message_log/mirroredmessagelog/protocol/ApiKey", [(.ref s_PRODUCE), (.ref s_FETCH), (.ref s_LIST_OFFSETS), (.ref s_METADATA), (.ref s_OFFSET_COMMIT), (.ref s_OFFSET_FETCH), (.ref s_FIND_COORDINATOR), (.ref s_JOIN_GROUP), (.ref s_HEARTBEAT), (.ref s_LEAVE_GROUP), (.ref s_SYNC_GROUP), (.ref s_DESCRIBE_GROUPS), (.ref s_LIST_GROUPS), (.ref s_API_VERSIONS), (.ref s_CREATE_TOPICS), (.ref s_DELETE_TOPICS), (.ref s_INIT_PRODUCER_ID), (.ref s_WATCH_STATE), (.ref s_CHANGE_IN_SYNC), (.ref s_EPOCH_END), (.ref s_ALLOCATE_PRODUCER_IDS), (.ref s_MEMBER_CHALLENGE), (.ref s_MEMBER_PROOF), (.ref s_READ_STATE)])) :: [])) rfl ?_
  refine Go.dup C at_328 (q := 329) rfl rfl ?_
  refine Go.bipush C at_329 (q := 331) rfl (v := (8 : Int32)) (by decide) ?_
  refine Go.iconst C at_331 (q := 332) rfl (v := (3 : Int32)) rfl ?_
  refine Go.iastore C (i := 0) rfl (by decide) (show (8 : Int32).toNatClampNeg < 24 from by decide) (w' := (.int (3 : Int32))) rfl at_332 (q := 333) rfl (M' := ((o3, .inr (.int, [(.int (7 : Int32)), (.int (11 : Int32)), (.int (2 : Int32)), (.int (4 : Int32)), (.int (7 : Int32)), (.int (5 : Int32)), (.int (2 : Int32)), (.int (5 : Int32)), (.int (3 : Int32)), (.int (0 : Int32)), (.int (0 : Int32)), (.int (0 : Int32)), (.int (0 : Int32)), (.int (0 : Int32)), (.int (0 : Int32)), (.int (0 : Int32)), (.int (0 : Int32)), (.int (0 : Int32)), (.int (0 : Int32)), (.int (0 : Int32)), (.int (0 : Int32)), (.int (0 : Int32)), (.int (0 : Int32)), (.int (0 : Int32))])) :: (o2, .inr (.int, [(.int (0 : Int32)), (.int (4 : Int32)), (.int (1 : Int32)), (.int (0 : Int32)), (.int (2 : Int32)), (.int (1 : Int32)), (.int (0 : Int32)), (.int (0 : Int32)), (.int (0 : Int32)), (.int (0 : Int32)), (.int (0 : Int32)), (.int (0 : Int32)), (.int (0 : Int32)), (.int (0 : Int32)), (.int (2 : Int32)), (.int (0 : Int32)), (.int (0 : Int32)), (.int (4 : Int32)), (.int (1 : Int32)), (.int (0 : Int32)), (.int (0 : Int32)), (.int (0 : Int32)), (.int (0 : Int32)), (.int (2 : Int32))])) :: (o1, .inr (.object "com/example/mirrored_message_log/mirroredmessagelog/protocol/ApiKey", [(.ref s_PRODUCE), (.ref s_FETCH), (.ref s_LIST_OFFSETS), (.ref s_METADATA), (.ref s_OFFSET_COMMIT), (.ref s_OFFSET_FETCH), (.ref s_FIND_COORDINATOR), (.ref s_JOIN_GROUP), (.ref s_HEARTBEAT), (.ref s_LEAVE_GROUP), (.ref s_SYNC_GROUP), (.ref s_DESCRIBE_GROUPS), (.ref s_LIST_GROUPS), (.ref s_API_VERSIONS), (.ref s_CREATE_TOPICS), (.ref s_DELETE_TOPICS), (.ref s_INIT_PRODUCER_ID), (.ref s_WATCH_STATE), (.ref s_CHANGE_IN_SYNC), (.ref s_EPOCH_END), (.ref s_ALLOCATE_PRODUCER_IDS), (.ref s_MEMBER_CHALLENGE), (.ref s_MEMBER_PROOF), (.ref s_READ_STATE)])) :: [])) rfl ?_
  refine Go.dup C at_333 (q := 334) rfl rfl ?_
  refine Go.bipush C at_334 (q := 336) rfl (v := (9 : Int32)) (by decide) ?_
  refine Go.iconst C at_336 (q := 337) rfl (v := (1 : Int32)) rfl ?_
  refine Go.iastore C (i := 0) rfl (by decide) (show (9 : Int32).toNatClampNeg < 24 from by decide) (w' := (.int (1 : Int32))) rfl at_337 (q := 338) rfl (M' := ((o3, .inr (.int, [(.int (7 : Int32)), (.int (11 : Int32)), (.int (2 : Int32)), (.int (4 : Int32)), (.int (7 : Int32)), (.int (5 : Int32)), (.int (2 : Int32)), (.int (5 : Int32)), (.int (3 : Int32)), (.int (1 : Int32)), (.int (0 : Int32)), (.int (0 : Int32)), (.int (0 : Int32)), (.int (0 : Int32)), (.int (0 : Int32)), (.int (0 : Int32)), (.int (0 : Int32)), (.int (0 : Int32)), (.int (0 : Int32)), (.int (0 : Int32)), (.int (0 : Int32)), (.int (0 : Int32)), (.int (0 : Int32)), (.int (0 : Int32))])) :: (o2, .inr (.int, [(.int (0 : Int32)), (.int (4 : Int32)), (.int (1 : Int32)), (.int (0 : Int32)), (.int (2 : Int32)), (.int (1 : Int32)), (.int (0 : Int32)), (.int (0 : Int32)), (.int (0 : Int32)), (.int (0 : Int32)), (.int (0 : Int32)), (.int (0 : Int32)), (.int (0 : Int32)), (.int (0 : Int32)), (.int (2 : Int32)), (.int (0 : Int32)), (.int (0 : Int32)), (.int (4 : Int32)), (.int (1 : Int32)), (.int (0 : Int32)), (.int (0 : Int32)), (.int (0 : Int32)), (.int (0 : Int32)), (.int (2 : Int32))])) :: (o1, .inr (.object "com/example/mirrored_message_log/mirroredmessagelog/protocol/ApiKey", [(.ref s_PRODUCE), (.ref s_FETCH), (.ref s_LIST_OFFSETS), (.ref s_METADATA), (.ref s_OFFSET_COMMIT), (.ref s_OFFSET_FETCH), (.ref s_FIND_COORDINATOR), (.ref s_JOIN_GROUP), (.ref s_HEARTBEAT), (.ref s_LEAVE_GROUP), (.ref s_SYNC_GROUP), (.ref s_DESCRIBE_GROUPS), (.ref s_LIST_GROUPS), (.ref s_API_VERSIONS), (.ref s_CREATE_TOPICS), (.ref s_DELETE_TOPICS), (.ref s_INIT_PRODUCER_ID), (.ref s_WATCH_STATE), (.ref s_CHANGE_IN_SYNC), (.ref s_EPOCH_END), (.ref s_ALLOCATE_PRODUCER_IDS), (.ref s_MEMBER_CHALLENGE), (.ref s_MEMBER_PROOF), (.ref s_READ_STATE)])) :: [])) rfl ?_
  refine Go.dup C at_338 (q := 339) rfl rfl ?_
  refine Go.bipush C at_339 (q := 341) rfl (v := (10 : Int32)) (by decide) ?_
  refine Go.iconst C at_341 (q := 342) rfl (v := (3 : Int32)) rfl ?_
  refine Go.iastore C (i := 0) rfl (by decide) (show (10 : Int32).toNatClampNeg < 24 from by decide) (w' := (.int (3 : Int32))) rfl at_342 (q := 343) rfl (M' := ((o3, .inr (.int, [(.int (7 : Int32)), (.int (11 : Int32)), (.int (2 : Int32)), (.int (4 : Int32)), (.int (7 : Int32)), (.int (5 : Int32)), (.int (2 : Int32)), (.int (5 : Int32)), (.int (3 : Int32)), (.int (1 : Int32)), (.int (3 : Int32)), (.int (0 : Int32)), (.int (0 : Int32)), (.int (0 : Int32)), (.int (0 : Int32)), (.int (0 : Int32)), (.int (0 : Int32)), (.int (0 : Int32)), (.int (0 : Int32)), (.int (0 : Int32)), (.int (0 : Int32)), (.int (0 : Int32)), (.int (0 : Int32)), (.int (0 : Int32))])) :: (o2, .inr (.int, [(.int (0 : Int32)), (.int (4 : Int32)), (.int (1 : Int32)), (.int (0 : Int32)), (.int (2 : Int32)), (.int (1 : Int32)), (.int (0 : Int32)), (.int (0 : Int32)), (.int (0 : Int32)), (.int (0 : Int32)), (.int (0 : Int32)), (.int (0 : Int32)), (.int (0 : Int32)), (.int (0 : Int32)), (.int (2 : Int32)), (.int (0 : Int32)), (.int (0 : Int32)), (.int (4 : Int32)), (.int (1 : Int32)), (.int (0 : Int32)), (.int (0 : Int32)), (.int (0 : Int32)), (.int (0 : Int32)), (.int (2 : Int32))])) :: (o1, .inr (.object "com/example/mirrored_message_log/mirroredmessagelog/protocol/ApiKey", [(.ref s_PRODUCE), (.ref s_FETCH), (.ref s_LIST_OFFSETS), (.ref s_METADATA), (.ref s_OFFSET_COMMIT), (.ref s_OFFSET_FETCH), (.ref s_FIND_COORDINATOR), (.ref s_JOIN_GROUP), (.ref s_HEARTBEAT), (.ref s_LEAVE_GROUP), (.ref s_SYNC_GROUP), (.ref s_DESCRIBE_GROUPS), (.ref s_LIST_GROUPS), (.ref s_API_VERSIONS), (.ref s_CREATE_TOPICS), (.ref s_DELETE_TOPICS), (.ref s_INIT_PRODUCER_ID), (.ref s_WATCH_STATE), (.ref s_CHANGE_IN_SYNC), (.ref s_EPOCH_END), (.ref s_ALLOCATE_PRODUCER_IDS), (.ref s_MEMBER_CHALLENGE), (.ref s_MEMBER_PROOF), (.ref s_READ_STATE)])) :: [])) rfl ?_
  refine Go.dup C at_343 (q := 344) rfl rfl ?_
  refine Go.bipush C at_344 (q := 346) rfl (v := (11 : Int32)) (by decide) ?_
  refine Go.iconst C at_346 (q := 347) rfl (v := (2 : Int32)) rfl ?_
  refine Go.iastore C (i := 0) rfl (by decide) (show (11 : Int32).toNatClampNeg < 24 from by decide) (w' := (.int (2 : Int32))) rfl at_347 (q := 348) rfl (M' := ((o3, .inr (.int, [(.int (7 : Int32)), (.int (11 : Int32)), (.int (2 : Int32)), (.int (4 : Int32)), (.int (7 : Int32)), (.int (5 : Int32)), (.int (2 : Int32)), (.int (5 : Int32)), (.int (3 : Int32)), (.int (1 : Int32)), (.int (3 : Int32)), (.int (2 : Int32)), (.int (0 : Int32)), (.int (0 : Int32)), (.int (0 : Int32)), (.int (0 : Int32)), (.int (0 : Int32)), (.int (0 : Int32)), (.int (0 : Int32)), (.int (0 : Int32)), (.int (0 : Int32)), (.int (0 : Int32)), (.int (0 : Int32)), (.int (0 : Int32))])) :: (o2, .inr (.int, [(.int (0 : Int32)), (.int (4 : Int32)), (.int (1 : Int32)), (.int (0 : Int32)), (.int (2 : Int32)), (.int (1 : Int32)), (.int (0 : Int32)), (.int (0 : Int32)), (.int (0 : Int32)), (.int (0 : Int32)), (.int (0 : Int32)), (.int (0 : Int32)), (.int (0 : Int32)), (.int (0 : Int32)), (.int (2 : Int32)), (.int (0 : Int32)), (.int (0 : Int32)), (.int (4 : Int32)), (.int (1 : Int32)), (.int (0 : Int32)), (.int (0 : Int32)), (.int (0 : Int32)), (.int (0 : Int32)), (.int (2 : Int32))])) :: (o1, .inr (.object "com/example/mirrored_message_log/mirroredmessagelog/protocol/ApiKey", [(.ref s_PRODUCE), (.ref s_FETCH), (.ref s_LIST_OFFSETS), (.ref s_METADATA), (.ref s_OFFSET_COMMIT), (.ref s_OFFSET_FETCH), (.ref s_FIND_COORDINATOR), (.ref s_JOIN_GROUP), (.ref s_HEARTBEAT), (.ref s_LEAVE_GROUP), (.ref s_SYNC_GROUP), (.ref s_DESCRIBE_GROUPS), (.ref s_LIST_GROUPS), (.ref s_API_VERSIONS), (.ref s_CREATE_TOPICS), (.ref s_DELETE_TOPICS), (.ref s_INIT_PRODUCER_ID), (.ref s_WATCH_STATE), (.ref s_CHANGE_IN_SYNC), (.ref s_EPOCH_END), (.ref s_ALLOCATE_PRODUCER_IDS), (.ref s_MEMBER_CHALLENGE), (.ref s_MEMBER_PROOF), (.ref s_READ_STATE)])) :: [])) rfl ?_
  refine Go.dup C at_348 (q := 349) rfl rfl ?_
  refine Go.bipush C at_349 (q := 351) rfl (v := (12 : Int32)) (by decide) ?_
  refine Go.iconst C at_351 (q := 352) rfl (v := (2 : Int32)) rfl ?_
  refine Go.iastore C (i := 0) rfl (by decide) (show (12 : Int32).toNatClampNeg < 24 from by decide) (w' := (.int (2 : Int32))) rfl at_352 (q := 353) rfl (M' := ((o3, .inr (.int, [(.int (7 : Int32)), (.int (11 : Int32)), (.int (2 : Int32)), (.int (4 : Int32)), (.int (7 : Int32)), (.int (5 : Int32)), (.int (2 : Int32)), (.int (5 : Int32)), (.int (3 : Int32)), (.int (1 : Int32)), (.int (3 : Int32)), (.int (2 : Int32)), (.int (2 : Int32)), (.int (0 : Int32)), (.int (0 : Int32)), (.int (0 : Int32)), (.int (0 : Int32)), (.int (0 : Int32)), (.int (0 : Int32)), (.int (0 : Int32)), (.int (0 : Int32)), (.int (0 : Int32)), (.int (0 : Int32)), (.int (0 : Int32))])) :: (o2, .inr (.int, [(.int (0 : Int32)), (.int (4 : Int32)), (.int (1 : Int32)), (.int (0 : Int32)), (.int (2 : Int32)), (.int (1 : Int32)), (.int (0 : Int32)), (.int (0 : Int32)), (.int (0 : Int32)), (.int (0 : Int32)), (.int (0 : Int32)), (.int (0 : Int32)), (.int (0 : Int32)), (.int (0 : Int32)), (.int (2 : Int32)), (.int (0 : Int32)), (.int (0 : Int32)), (.int (4 : Int32)), (.int (1 : Int32)), (.int (0 : Int32)), (.int (0 : Int32)), (.int (0 : Int32)), (.int (0 : Int32)), (.int (2 : Int32))])) :: (o1, .inr (.object "com/example/mirrored_message_log/mirroredmessagelog/protocol/ApiKey", [(.ref s_PRODUCE), (.ref s_FETCH), (.ref s_LIST_OFFSETS), (.ref s_METADATA), (.ref s_OFFSET_COMMIT), (.ref s_OFFSET_FETCH), (.ref s_FIND_COORDINATOR), (.ref s_JOIN_GROUP), (.ref s_HEARTBEAT), (.ref s_LEAVE_GROUP), (.ref s_SYNC_GROUP), (.ref s_DESCRIBE_GROUPS), (.ref s_LIST_GROUPS), (.ref s_API_VERSIONS), (.ref s_CREATE_TOPICS), (.ref s_DELETE_TOPICS), (.ref s_INIT_PRODUCER_ID), (.ref s_WATCH_STATE), (.ref s_CHANGE_IN_SYNC), (.ref s_EPOCH_END), (.ref s_ALLOCATE_PRODUCER_IDS), (.ref s_MEMBER_CHALLENGE), (.ref s_MEMBER_PROOF), (.ref s_READ_STATE)])) :: [])) rfl ?_
  refine Go.dup C at_353 (q := 354) rfl rfl ?_
  refine Go.bipush C at_354 (q := 356) rfl (v := (13 : Int32)) (by decide) ?_
  refine Go.iconst C at_356 (q := 357) rfl (v := (3 : Int32)) rfl ?_
  refine Go.iastore C (i := 0) rfl (by decide) (show (13 : Int32).toNatClampNeg < 24 from by decide) (w' := (.int (3 : Int32))) rfl at_357 (q := 358) rfl (M' := ((o3, .inr (.int, [(.int (7 : Int32)), (.int (11 : Int32)), (.int (2 : Int32)), (.int (4 : Int32)), (.int (7 : Int32)), (.int (5 : Int32)), (.int (2 : Int32)), (.int (5 : Int32)), (.int (3 : Int32)), (.int (1 : Int32)), (.int (3 : Int32)), (.int (2 : Int32)), (.int (2 : Int32)), (.int (3 : Int32)), (.int (0 : Int32)), (.int (0 : Int32)), (.int (0 : Int32)), (.int (0 : Int32)), (.int (0 : Int32)), (.int (0 : Int32)), (.int (0 : Int32)), (.int (0 : Int32)), (.int (0 : Int32)), (.int (0 : Int32))])) :: (o2, .inr (.int, [(.int (0 : Int32)), (.int (4 : Int32)), (.int (1 : Int32)), (.int (0 : Int32)), (.int (2 : Int32)), (.int (1 : Int32)), (.int (0 : Int32)), (.int (0 : Int32)), (.int (0 : Int32)), (.int (0 : Int32)), (.int (0 : Int32)), (.int (0 : Int32)), (.int (0 : Int32)), (.int (0 : Int32)), (.int (2 : Int32)), (.int (0 : Int32)), (.int (0 : Int32)), (.int (4 : Int32)), (.int (1 : Int32)), (.int (0 : Int32)), (.int (0 : Int32)), (.int (0 : Int32)), (.int (0 : Int32)), (.int (2 : Int32))])) :: (o1, .inr (.object "com/example/mirrored_message_log/mirroredmessagelog/protocol/ApiKey", [(.ref s_PRODUCE), (.ref s_FETCH), (.ref s_LIST_OFFSETS), (.ref s_METADATA), (.ref s_OFFSET_COMMIT), (.ref s_OFFSET_FETCH), (.ref s_FIND_COORDINATOR), (.ref s_JOIN_GROUP), (.ref s_HEARTBEAT), (.ref s_LEAVE_GROUP), (.ref s_SYNC_GROUP), (.ref s_DESCRIBE_GROUPS), (.ref s_LIST_GROUPS), (.ref s_API_VERSIONS), (.ref s_CREATE_TOPICS), (.ref s_DELETE_TOPICS), (.ref s_INIT_PRODUCER_ID), (.ref s_WATCH_STATE), (.ref s_CHANGE_IN_SYNC), (.ref s_EPOCH_END), (.ref s_ALLOCATE_PRODUCER_IDS), (.ref s_MEMBER_CHALLENGE), (.ref s_MEMBER_PROOF), (.ref s_READ_STATE)])) :: [])) rfl ?_
  refine Go.dup C at_358 (q := 359) rfl rfl ?_
  refine Go.bipush C at_359 (q := 361) rfl (v := (14 : Int32)) (by decide) ?_
  refine Go.iconst C at_361 (q := 362) rfl (v := (4 : Int32)) rfl ?_
  refine Go.iastore C (i := 0) rfl (by decide) (show (14 : Int32).toNatClampNeg < 24 from by decide) (w' := (.int (4 : Int32))) rfl at_362 (q := 363) rfl (M' := ((o3, .inr (.int, [(.int (7 : Int32)), (.int (11 : Int32)), (.int (2 : Int32)), (.int (4 : Int32)), (.int (7 : Int32)), (.int (5 : Int32)), (.int (2 : Int32)), (.int (5 : Int32)), (.int (3 : Int32)), (.int (1 : Int32)), (.int (3 : Int32)), (.int (2 : Int32)), (.int (2 : Int32)), (.int (3 : Int32)), (.int (4 : Int32)), (.int (0 : Int32)), (.int (0 : Int32)), (.int (0 : Int32)), (.int (0 : Int32)), (.int (0 : Int32)), (.int (0 : Int32)), (.int (0 : Int32)), (.int (0 : Int32)), (.int (0 : Int32))])) :: (o2, .inr (.int, [(.int (0 : Int32)), (.int (4 : Int32)), (.int (1 : Int32)), (.int (0 : Int32)), (.int (2 : Int32)), (.int (1 : Int32)), (.int (0 : Int32)), (.int (0 : Int32)), (.int (0 : Int32)), (.int (0 : Int32)), (.int (0 : Int32)), (.int (0 : Int32)), (.int (0 : Int32)), (.int (0 : Int32)), (.int (2 : Int32)), (.int (0 : Int32)), (.int (0 : Int32)), (.int (4 : Int32)), (.int (1 : Int32)), (.int (0 : Int32)), (.int (0 : Int32)), (.int (0 : Int32)), (.int (0 : Int32)), (.int (2 : Int32))])) :: (o1, .inr (.object "com/example/mirrored_message_log/mirroredmessagelog/protocol/ApiKey", [(.ref s_PRODUCE), (.ref s_FETCH), (.ref s_LIST_OFFSETS), (.ref s_METADATA), (.ref s_OFFSET_COMMIT), (.ref s_OFFSET_FETCH), (.ref s_FIND_COORDINATOR), (.ref s_JOIN_GROUP), (.ref s_HEARTBEAT), (.ref s_LEAVE_GROUP), (.ref s_SYNC_GROUP), (.ref s_DESCRIBE_GROUPS), (.ref s_LIST_GROUPS), (.ref s_API_VERSIONS), (.ref s_CREATE_TOPICS), (.ref s_DELETE_TOPICS), (.ref s_INIT_PRODUCER_ID), (.ref s_WATCH_STATE), (.ref s_CHANGE_IN_SYNC), (.ref s_EPOCH_END), (.ref s_ALLOCATE_PRODUCER_IDS), (.ref s_MEMBER_CHALLENGE), (.ref s_MEMBER_PROOF), (.ref s_READ_STATE)])) :: [])) rfl ?_
  refine Go.dup C at_363 (q := 364) rfl rfl ?_
  refine Go.bipush C at_364 (q := 366) rfl (v := (15 : Int32)) (by decide) ?_
  refine Go.iconst C at_366 (q := 367) rfl (v := (3 : Int32)) rfl ?_
  refine Go.iastore C (i := 0) rfl (by decide) (show (15 : Int32).toNatClampNeg < 24 from by decide) (w' := (.int (3 : Int32))) rfl at_367 (q := 368) rfl (M' := ((o3, .inr (.int, [(.int (7 : Int32)), (.int (11 : Int32)), (.int (2 : Int32)), (.int (4 : Int32)), (.int (7 : Int32)), (.int (5 : Int32)), (.int (2 : Int32)), (.int (5 : Int32)), (.int (3 : Int32)), (.int (1 : Int32)), (.int (3 : Int32)), (.int (2 : Int32)), (.int (2 : Int32)), (.int (3 : Int32)), (.int (4 : Int32)), (.int (3 : Int32)), (.int (0 : Int32)), (.int (0 : Int32)), (.int (0 : Int32)), (.int (0 : Int32)), (.int (0 : Int32)), (.int (0 : Int32)), (.int (0 : Int32)), (.int (0 : Int32))])) :: (o2, .inr (.int, [(.int (0 : Int32)), (.int (4 : Int32)), (.int (1 : Int32)), (.int (0 : Int32)), (.int (2 : Int32)), (.int (1 : Int32)), (.int (0 : Int32)), (.int (0 : Int32)), (.int (0 : Int32)), (.int (0 : Int32)), (.int (0 : Int32)), (.int (0 : Int32)), (.int (0 : Int32)), (.int (0 : Int32)), (.int (2 : Int32)), (.int (0 : Int32)), (.int (0 : Int32)), (.int (4 : Int32)), (.int (1 : Int32)), (.int (0 : Int32)), (.int (0 : Int32)), (.int (0 : Int32)), (.int (0 : Int32)), (.int (2 : Int32))])) :: (o1, .inr (.object "com/example/mirrored_message_log/mirroredmessagelog/protocol/ApiKey", [(.ref s_PRODUCE), (.ref s_FETCH), (.ref s_LIST_OFFSETS), (.ref s_METADATA), (.ref s_OFFSET_COMMIT), (.ref s_OFFSET_FETCH), (.ref s_FIND_COORDINATOR), (.ref s_JOIN_GROUP), (.ref s_HEARTBEAT), (.ref s_LEAVE_GROUP), (.ref s_SYNC_GROUP), (.ref s_DESCRIBE_GROUPS), (.ref s_LIST_GROUPS), (.ref s_API_VERSIONS), (.ref s_CREATE_TOPICS), (.ref s_DELETE_TOPICS), (.ref s_INIT_PRODUCER_ID), (.ref s_WATCH_STATE), (.ref s_CHANGE_IN_SYNC), (.ref s_EPOCH_END), (.ref s_ALLOCATE_PRODUCER_IDS), (.ref s_MEMBER_CHALLENGE), (.ref s_MEMBER_PROOF), (.ref s_READ_STATE)])) :: [])) rfl ?_
  refine Go.dup C at_368 (q := 369) rfl rfl ?_
  refine Go.bipush C at_369 (q := 371) rfl (v := (16 : Int32)) (by decide) ?_
  refine Go.iconst C at_371 (q := 372) rfl (v := (1 : Int32)) rfl ?_
  refine Go.iastore C (i := 0) rfl (by decide) (show (16 : Int32).toNatClampNeg < 24 from by decide) (w' := (.int (1 : Int32))) rfl at_372 (q := 373) rfl (M' := ((o3, .inr (.int, [(.int (7 : Int32)), (.int (11 : Int32)), (.int (2 : Int32)), (.int (4 : Int32)), (.int (7 : Int32)), (.int (5 : Int32)), (.int (2 : Int32)), (.int (5 : Int32)), (.int (3 : Int32)), (.int (1 : Int32)), (.int (3 : Int32)), (.int (2 : Int32)), (.int (2 : Int32)), (.int (3 : Int32)), (.int (4 : Int32)), (.int (3 : Int32)), (.int (1 : Int32)), (.int (0 : Int32)), (.int (0 : Int32)), (.int (0 : Int32)), (.int (0 : Int32)), (.int (0 : Int32)), (.int (0 : Int32)), (.int (0 : Int32))])) :: (o2, .inr (.int, [(.int (0 : Int32)), (.int (4 : Int32)), (.int (1 : Int32)), (.int (0 : Int32)), (.int (2 : Int32)), (.int (1 : Int32)), (.int (0 : Int32)), (.int (0 : Int32)), (.int (0 : Int32)), (.int (0 : Int32)), (.int (0 : Int32)), (.int (0 : Int32)), (.int (0 : Int32)), (.int (0 : Int32)), (.int (2 : Int32)), (.int (0 : Int32)), (.int (0 : Int32)), (.int (4 : Int32)), (.int (1 : Int32)), (.int (0 : Int32)), (.int (0 : Int32)), (.int (0 : Int32)), (.int (0 : Int32)), (.int (2 : Int32))])) :: (o1, .inr (.object "com/example/mirrored_message_log/mirroredmessagelog/protocol/ApiKey", [(.ref s_PRODUCE), (.ref s_FETCH), (.ref s_LIST_OFFSETS), (.ref s_METADATA), (.ref s_OFFSET_COMMIT), (.ref s_OFFSET_FETCH), (.ref s_FIND_COORDINATOR), (.ref s_JOIN_GROUP), (.ref s_HEARTBEAT), (.ref s_LEAVE_GROUP), (.ref s_SYNC_GROUP), (.ref s_DESCRIBE_GROUPS), (.ref s_LIST_GROUPS), (.ref s_API_VERSIONS), (.ref s_CREATE_TOPICS), (.ref s_DELETE_TOPICS), (.ref s_INIT_PRODUCER_ID), (.ref s_WATCH_STATE), (.ref s_CHANGE_IN_SYNC), (.ref s_EPOCH_END), (.ref s_ALLOCATE_PRODUCER_IDS), (.ref s_MEMBER_CHALLENGE), (.ref s_MEMBER_PROOF), (.ref s_READ_STATE)])) :: [])) rfl ?_
  refine Go.dup C at_373 (q := 374) rfl rfl ?_
  refine Go.bipush C at_374 (q := 376) rfl (v := (17 : Int32)) (by decide) ?_
  refine Go.iconst C at_376 (q := 377) rfl (v := (4 : Int32)) rfl ?_
  refine Go.iastore C (i := 0) rfl (by decide) (show (17 : Int32).toNatClampNeg < 24 from by decide) (w' := (.int (4 : Int32))) rfl at_377 (q := 378) rfl (M' := ((o3, .inr (.int, [(.int (7 : Int32)), (.int (11 : Int32)), (.int (2 : Int32)), (.int (4 : Int32)), (.int (7 : Int32)), (.int (5 : Int32)), (.int (2 : Int32)), (.int (5 : Int32)), (.int (3 : Int32)), (.int (1 : Int32)), (.int (3 : Int32)), (.int (2 : Int32)), (.int (2 : Int32)), (.int (3 : Int32)), (.int (4 : Int32)), (.int (3 : Int32)), (.int (1 : Int32)), (.int (4 : Int32)), (.int (0 : Int32)), (.int (0 : Int32)), (.int (0 : Int32)), (.int (0 : Int32)), (.int (0 : Int32)), (.int (0 : Int32))])) :: (o2, .inr (.int, [(.int (0 : Int32)), (.int (4 : Int32)), (.int (1 : Int32)), (.int (0 : Int32)), (.int (2 : Int32)), (.int (1 : Int32)), (.int (0 : Int32)), (.int (0 : Int32)), (.int (0 : Int32)), (.int (0 : Int32)), (.int (0 : Int32)), (.int (0 : Int32)), (.int (0 : Int32)), (.int (0 : Int32)), (.int (2 : Int32)), (.int (0 : Int32)), (.int (0 : Int32)), (.int (4 : Int32)), (.int (1 : Int32)), (.int (0 : Int32)), (.int (0 : Int32)), (.int (0 : Int32)), (.int (0 : Int32)), (.int (2 : Int32))])) :: (o1, .inr (.object "com/example/mirrored_message_log/mirroredmessagelog/protocol/ApiKey", [(.ref s_PRODUCE), (.ref s_FETCH), (.ref s_LIST_OFFSETS), (.ref s_METADATA), (.ref s_OFFSET_COMMIT), (.ref s_OFFSET_FETCH), (.ref s_FIND_COORDINATOR), (.ref s_JOIN_GROUP), (.ref s_HEARTBEAT), (.ref s_LEAVE_GROUP), (.ref s_SYNC_GROUP), (.ref s_DESCRIBE_GROUPS), (.ref s_LIST_GROUPS), (.ref s_API_VERSIONS), (.ref s_CREATE_TOPICS), (.ref s_DELETE_TOPICS), (.ref s_INIT_PRODUCER_ID), (.ref s_WATCH_STATE), (.ref s_CHANGE_IN_SYNC), (.ref s_EPOCH_END), (.ref s_ALLOCATE_PRODUCER_IDS), (.ref s_MEMBER_CHALLENGE), (.ref s_MEMBER_PROOF), (.ref s_READ_STATE)])) :: [])) rfl ?_
  refine Go.dup C at_378 (q := 379) rfl rfl ?_
  refine Go.bipush C at_379 (q := 381) rfl (v := (18 : Int32)) (by decide) ?_
  refine Go.iconst C at_381 (q := 382) rfl (v := (1 : Int32)) rfl ?_
  refine Go.iastore C (i := 0) rfl (by decide) (show (18 : Int32).toNatClampNeg < 24 from by decide) (w' := (.int (1 : Int32))) rfl at_382 (q := 383) rfl (M' := ((o3, .inr (.int, [(.int (7 : Int32)), (.int (11 : Int32)), (.int (2 : Int32)), (.int (4 : Int32)), (.int (7 : Int32)), (.int (5 : Int32)), (.int (2 : Int32)), (.int (5 : Int32)), (.int (3 : Int32)), (.int (1 : Int32)), (.int (3 : Int32)), (.int (2 : Int32)), (.int (2 : Int32)), (.int (3 : Int32)), (.int (4 : Int32)), (.int (3 : Int32)), (.int (1 : Int32)), (.int (4 : Int32)), (.int (1 : Int32)), (.int (0 : Int32)), (.int (0 : Int32)), (.int (0 : Int32)), (.int (0 : Int32)), (.int (0 : Int32))])) :: (o2, .inr (.int, [(.int (0 : Int32)), (.int (4 : Int32)), (.int (1 : Int32)), (.int (0 : Int32)), (.int (2 : Int32)), (.int (1 : Int32)), (.int (0 : Int32)), (.int (0 : Int32)), (.int (0 : Int32)), (.int (0 : Int32)), (.int (0 : Int32)), (.int (0 : Int32)), (.int (0 : Int32)), (.int (0 : Int32)), (.int (2 : Int32)), (.int (0 : Int32)), (.int (0 : Int32)), (.int (4 : Int32)), (.int (1 : Int32)), (.int (0 : Int32)), (.int (0 : Int32)), (.int (0 : Int32)), (.int (0 : Int32)), (.int (2 : Int32))])) :: (o1, .inr (.object "com/example/mirrored_message_log/mirroredmessagelog/protocol/ApiKey", [(.ref s_PRODUCE), (.ref s_FETCH), (.ref s_LIST_OFFSETS), (.ref s_METADATA), (.ref s_OFFSET_COMMIT), (.ref s_OFFSET_FETCH), (.ref s_FIND_COORDINATOR), (.ref s_JOIN_GROUP), (.ref s_HEARTBEAT), (.ref s_LEAVE_GROUP), (.ref s_SYNC_GROUP), (.ref s_DESCRIBE_GROUPS), (.ref s_LIST_GROUPS), (.ref s_API_VERSIONS), (.ref s_CREATE_TOPICS), (.ref s_DELETE_TOPICS), (.ref s_INIT_PRODUCER_ID), (.ref s_WATCH_STATE), (.ref s_CHANGE_IN_SYNC), (.ref s_EPOCH_END), (.ref s_ALLOCATE_PRODUCER_IDS), (.ref s_MEMBER_CHALLENGE), (.ref s_MEMBER_PROOF), (.ref s_READ_STATE)])) :: [])) rfl ?_
  refine Go.dup C at_383 (q := 384) rfl rfl ?_
  refine Go.bipush C at_384 (q := 386) rfl (v := (19 : Int32)) (by decide) ?_
  refine Go.iconst C at_386 (q := 387) rfl (v := (0 : Int32)) rfl ?_
  refine Go.iastore C (i := 0) rfl (by decide) (show (19 : Int32).toNatClampNeg < 24 from by decide) (w' := (.int (0 : Int32))) rfl at_387 (q := 388) rfl (M' := ((o3, .inr (.int, [(.int (7 : Int32)), (.int (11 : Int32)), (.int (2 : Int32)), (.int (4 : Int32)), (.int (7 : Int32)), (.int (5 : Int32)), (.int (2 : Int32)), (.int (5 : Int32)), (.int (3 : Int32)), (.int (1 : Int32)), (.int (3 : Int32)), (.int (2 : Int32)), (.int (2 : Int32)), (.int (3 : Int32)), (.int (4 : Int32)), (.int (3 : Int32)), (.int (1 : Int32)), (.int (4 : Int32)), (.int (1 : Int32)), (.int (0 : Int32)), (.int (0 : Int32)), (.int (0 : Int32)), (.int (0 : Int32)), (.int (0 : Int32))])) :: (o2, .inr (.int, [(.int (0 : Int32)), (.int (4 : Int32)), (.int (1 : Int32)), (.int (0 : Int32)), (.int (2 : Int32)), (.int (1 : Int32)), (.int (0 : Int32)), (.int (0 : Int32)), (.int (0 : Int32)), (.int (0 : Int32)), (.int (0 : Int32)), (.int (0 : Int32)), (.int (0 : Int32)), (.int (0 : Int32)), (.int (2 : Int32)), (.int (0 : Int32)), (.int (0 : Int32)), (.int (4 : Int32)), (.int (1 : Int32)), (.int (0 : Int32)), (.int (0 : Int32)), (.int (0 : Int32)), (.int (0 : Int32)), (.int (2 : Int32))])) :: (o1, .inr (.object "com/example/mirrored_message_log/mirroredmessagelog/protocol/ApiKey", [(.ref s_PRODUCE), (.ref s_FETCH), (.ref s_LIST_OFFSETS), (.ref s_METADATA), (.ref s_OFFSET_COMMIT), (.ref s_OFFSET_FETCH), (.ref s_FIND_COORDINATOR), (.ref s_JOIN_GROUP), (.ref s_HEARTBEAT), (.ref s_LEAVE_GROUP), (.ref s_SYNC_GROUP), (.ref s_DESCRIBE_GROUPS), (.ref s_LIST_GROUPS), (.ref s_API_VERSIONS), (.ref s_CREATE_TOPICS), (.ref s_DELETE_TOPICS), (.ref s_INIT_PRODUCER_ID), (.ref s_WATCH_STATE), (.ref s_CHANGE_IN_SYNC), (.ref s_EPOCH_END), (.ref s_ALLOCATE_PRODUCER_IDS), (.ref s_MEMBER_CHALLENGE), (.ref s_MEMBER_PROOF), (.ref s_READ_STATE)])) :: [])) rfl ?_
  refine Go.dup C at_388 (q := 389) rfl rfl ?_
  refine Go.bipush C at_389 (q := 391) rfl (v := (20 : Int32)) (by decide) ?_
  refine Go.iconst C at_391 (q := 392) rfl (v := (0 : Int32)) rfl ?_
  refine Go.iastore C (i := 0) rfl (by decide) (show (20 : Int32).toNatClampNeg < 24 from by decide) (w' := (.int (0 : Int32))) rfl at_392 (q := 393) rfl (M' := ((o3, .inr (.int, [(.int (7 : Int32)), (.int (11 : Int32)), (.int (2 : Int32)), (.int (4 : Int32)), (.int (7 : Int32)), (.int (5 : Int32)), (.int (2 : Int32)), (.int (5 : Int32)), (.int (3 : Int32)), (.int (1 : Int32)), (.int (3 : Int32)), (.int (2 : Int32)), (.int (2 : Int32)), (.int (3 : Int32)), (.int (4 : Int32)), (.int (3 : Int32)), (.int (1 : Int32)), (.int (4 : Int32)), (.int (1 : Int32)), (.int (0 : Int32)), (.int (0 : Int32)), (.int (0 : Int32)), (.int (0 : Int32)), (.int (0 : Int32))])) :: (o2, .inr (.int, [(.int (0 : Int32)), (.int (4 : Int32)), (.int (1 : Int32)), (.int (0 : Int32)), (.int (2 : Int32)), (.int (1 : Int32)), (.int (0 : Int32)), (.int (0 : Int32)), (.int (0 : Int32)), (.int (0 : Int32)), (.int (0 : Int32)), (.int (0 : Int32)), (.int (0 : Int32)), (.int (0 : Int32)), (.int (2 : Int32)), (.int (0 : Int32)), (.int (0 : Int32)), (.int (4 : Int32)), (.int (1 : Int32)), (.int (0 : Int32)), (.int (0 : Int32)), (.int (0 : Int32)), (.int (0 : Int32)), (.int (2 : Int32))])) :: (o1, .inr (.object "com/example/mirrored_message_log/mirroredmessagelog/protocol/ApiKey", [(.ref s_PRODUCE), (.ref s_FETCH), (.ref s_LIST_OFFSETS), (.ref s_METADATA), (.ref s_OFFSET_COMMIT), (.ref s_OFFSET_FETCH), (.ref s_FIND_COORDINATOR), (.ref s_JOIN_GROUP), (.ref s_HEARTBEAT), (.ref s_LEAVE_GROUP), (.ref s_SYNC_GROUP), (.ref s_DESCRIBE_GROUPS), (.ref s_LIST_GROUPS), (.ref s_API_VERSIONS), (.ref s_CREATE_TOPICS), (.ref s_DELETE_TOPICS), (.ref s_INIT_PRODUCER_ID), (.ref s_WATCH_STATE), (.ref s_CHANGE_IN_SYNC), (.ref s_EPOCH_END), (.ref s_ALLOCATE_PRODUCER_IDS), (.ref s_MEMBER_CHALLENGE), (.ref s_MEMBER_PROOF), (.ref s_READ_STATE)])) :: [])) rfl ?_
  refine Go.dup C at_393 (q := 394) rfl rfl ?_
  refine Go.bipush C at_394 (q := 396) rfl (v := (21 : Int32)) (by decide) ?_
  refine Go.iconst C at_396 (q := 397) rfl (v := (0 : Int32)) rfl ?_
  refine Go.iastore C (i := 0) rfl (by decide) (show (21 : Int32).toNatClampNeg < 24 from by decide) (w' := (.int (0 : Int32))) rfl at_397 (q := 398) rfl (M' := ((o3, .inr (.int, [(.int (7 : Int32)), (.int (11 : Int32)), (.int (2 : Int32)), (.int (4 : Int32)), (.int (7 : Int32)), (.int (5 : Int32)), (.int (2 : Int32)), (.int (5 : Int32)), (.int (3 : Int32)), (.int (1 : Int32)), (.int (3 : Int32)), (.int (2 : Int32)), (.int (2 : Int32)), (.int (3 : Int32)), (.int (4 : Int32)), (.int (3 : Int32)), (.int (1 : Int32)), (.int (4 : Int32)), (.int (1 : Int32)), (.int (0 : Int32)), (.int (0 : Int32)), (.int (0 : Int32)), (.int (0 : Int32)), (.int (0 : Int32))])) :: (o2, .inr (.int, [(.int (0 : Int32)), (.int (4 : Int32)), (.int (1 : Int32)), (.int (0 : Int32)), (.int (2 : Int32)), (.int (1 : Int32)), (.int (0 : Int32)), (.int (0 : Int32)), (.int (0 : Int32)), (.int (0 : Int32)), (.int (0 : Int32)), (.int (0 : Int32)), (.int (0 : Int32)), (.int (0 : Int32)), (.int (2 : Int32)), (.int (0 : Int32)), (.int (0 : Int32)), (.int (4 : Int32)), (.int (1 : Int32)), (.int (0 : Int32)), (.int (0 : Int32)), (.int (0 : Int32)), (.int (0 : Int32)), (.int (2 : Int32))])) :: (o1, .inr (.object "com/example/mirrored_message_log/mirroredmessagelog/protocol/ApiKey", [(.ref s_PRODUCE), (.ref s_FETCH), (.ref s_LIST_OFFSETS), (.ref s_METADATA), (.ref s_OFFSET_COMMIT), (.ref s_OFFSET_FETCH), (.ref s_FIND_COORDINATOR), (.ref s_JOIN_GROUP), (.ref s_HEARTBEAT), (.ref s_LEAVE_GROUP), (.ref s_SYNC_GROUP), (.ref s_DESCRIBE_GROUPS), (.ref s_LIST_GROUPS), (.ref s_API_VERSIONS), (.ref s_CREATE_TOPICS), (.ref s_DELETE_TOPICS), (.ref s_INIT_PRODUCER_ID), (.ref s_WATCH_STATE), (.ref s_CHANGE_IN_SYNC), (.ref s_EPOCH_END), (.ref s_ALLOCATE_PRODUCER_IDS), (.ref s_MEMBER_CHALLENGE), (.ref s_MEMBER_PROOF), (.ref s_READ_STATE)])) :: [])) rfl ?_
  refine Go.dup C at_398 (q := 399) rfl rfl ?_
  refine Go.bipush C at_399 (q := 401) rfl (v := (22 : Int32)) (by decide) ?_
  refine Go.iconst C at_401 (q := 402) rfl (v := (0 : Int32)) rfl ?_
  refine Go.iastore C (i := 0) rfl (by decide) (show (22 : Int32).toNatClampNeg < 24 from by decide) (w' := (.int (0 : Int32))) rfl at_402 (q := 403) rfl (M' := ((o3, .inr (.int, [(.int (7 : Int32)), (.int (11 : Int32)), (.int (2 : Int32)), (.int (4 : Int32)), (.int (7 : Int32)), (.int (5 : Int32)), (.int (2 : Int32)), (.int (5 : Int32)), (.int (3 : Int32)), (.int (1 : Int32)), (.int (3 : Int32)), (.int (2 : Int32)), (.int (2 : Int32)), (.int (3 : Int32)), (.int (4 : Int32)), (.int (3 : Int32)), (.int (1 : Int32)), (.int (4 : Int32)), (.int (1 : Int32)), (.int (0 : Int32)), (.int (0 : Int32)), (.int (0 : Int32)), (.int (0 : Int32)), (.int (0 : Int32))])) :: (o2, .inr (.int, [(.int (0 : Int32)), (.int (4 : Int32)), (.int (1 : Int32)), (.int (0 : Int32)), (.int (2 : Int32)), (.int (1 : Int32)), (.int (0 : Int32)), (.int (0 : Int32)), (.int (0 : Int32)), (.int (0 : Int32)), (.int (0 : Int32)), (.int (0 : Int32)), (.int (0 : Int32)), (.int (0 : Int32)), (.int (2 : Int32)), (.int (0 : Int32)), (.int (0 : Int32)), (.int (4 : Int32)), (.int (1 : Int32)), (.int (0 : Int32)), (.int (0 : Int32)), (.int (0 : Int32)), (.int (0 : Int32)), (.int (2 : Int32))])) :: (o1, .inr (.object "com/example/mirrored_message_log/mirroredmessagelog/protocol/ApiKey", [(.ref s_PRODUCE), (.ref s_FETCH), (.ref s_LIST_OFFSETS), (.ref s_METADATA), (.ref s_OFFSET_COMMIT), (.ref s_OFFSET_FETCH), (.ref s_FIND_COORDINATOR), (.ref s_JOIN_GROUP), (.ref s_HEARTBEAT), (.ref s_LEAVE_GROUP), (.ref s_SYNC_GROUP), (.ref s_DESCRIBE_GROUPS), (.ref s_LIST_GROUPS), (.ref s_API_VERSIONS), (.ref s_CREATE_TOPICS), (.ref s_DELETE_TOPICS), (.ref s_INIT_PRODUCER_ID), (.ref s_WATCH_STATE), (.ref s_CHANGE_IN_SYNC), (.ref s_EPOCH_END), (.ref s_ALLOCATE_PRODUCER_IDS), (.ref s_MEMBER_CHALLENGE), (.ref s_MEMBER_PROOF), (.ref s_READ_STATE)])) :: [])) rfl ?_
  refine Go.dup C at_403 (q := 404) rfl rfl ?_
  refine Go.bipush C at_404 (q := 406) rfl (v := (23 : Int32)) (by decide) ?_
  refine Go.iconst C at_406 (q := 407) rfl (v := (2 : Int32)) rfl ?_
  refine Go.iastore C (i := 0) rfl (by decide) (show (23 : Int32).toNatClampNeg < 24 from by decide) (w' := (.int (2 : Int32))) rfl at_407 (q := 408) rfl (M' := ((o3, .inr (.int, [(.int (7 : Int32)), (.int (11 : Int32)), (.int (2 : Int32)), (.int (4 : Int32)), (.int (7 : Int32)), (.int (5 : Int32)), (.int (2 : Int32)), (.int (5 : Int32)), (.int (3 : Int32)), (.int (1 : Int32)), (.int (3 : Int32)), (.int (2 : Int32)), (.int (2 : Int32)), (.int (3 : Int32)), (.int (4 : Int32)), (.int (3 : Int32)), (.int (1 : Int32)), (.int (4 : Int32)), (.int (1 : Int32)), (.int (0 : Int32)), (.int (0 : Int32)), (.int (0 : Int32)), (.int (0 : Int32)), (.int (2 : Int32))])) :: (o2, .inr (.int, [(.int (0 : Int32)), (.int (4 : Int32)), (.int (1 : Int32)), (.int (0 : Int32)), (.int (2 : Int32)), (.int (1 : Int32)), (.int (0 : Int32)), (.int (0 : Int32)), (.int (0 : Int32)), (.int (0 : Int32)), (.int (0 : Int32)), (.int (0 : Int32)), (.int (0 : Int32)), (.int (0 : Int32)), (.int (2 : Int32)), (.int (0 : Int32)), (.int (0 : Int32)), (.int (4 : Int32)), (.int (1 : Int32)), (.int (0 : Int32)), (.int (0 : Int32)), (.int (0 : Int32)), (.int (0 : Int32)), (.int (2 : Int32))])) :: (o1, .inr (.object "com/example/mirrored_message_log/mirroredmessagelog/protocol/ApiKey", [(.ref s_PRODUCE), (.ref s_FETCH), (.ref s_LIST_OFFSETS), (.ref s_METADATA), (.ref s_OFFSET_COMMIT), (.ref s_OFFSET_FETCH), (.ref s_FIND_COORDINATOR), (.ref s_JOIN_GROUP), (.ref s_HEARTBEAT), (.ref s_LEAVE_GROUP), (.ref s_SYNC_GROUP), (.ref s_DESCRIBE_GROUPS), (.ref s_LIST_GROUPS), (.ref s_API_VERSIONS), (.ref s_CREATE_TOPICS), (.ref s_DELETE_TOPICS), (.ref s_INIT_PRODUCER_ID), (.ref s_WATCH_STATE), (.ref s_CHANGE_IN_SYNC), (.ref s_EPOCH_END), (.ref s_ALLOCATE_PRODUCER_IDS), (.ref s_MEMBER_CHALLENGE), (.ref s_MEMBER_PROOF), (.ref s_READ_STATE)])) :: [])) rfl ?_
  refine Go.astore C at_408 (q := 410) rfl rfl (Ls' := #[.val (.int which), .val (.int version), .val (.ref o1), .val (.ref o2), .val (.ref o3), .unset, .unset, .unset, .unset, .unset]) rfl ?_
  refine Go.iloadN C at_410 (q := 411) rfl rfl ?_
  refine Go.ldcI C (v := (2147483647 : Int32)) (wd hw 53 rfl) at_411 (q := 413) rfl ?_
  refine Go.iand C at_413 (q := 414) rfl ?_
  refine Go.bipush C at_414 (q := 416) rfl (v := (24 : Int32)) (by decide) ?_
  refine Go.irem C at_416 (q := 417) rfl (by decide) ?_
  refine Go.istore C at_417 (q := 419) rfl (Ls' := #[.val (.int which), .val (.int version), .val (.ref o1), .val (.ref o2), .val (.ref o3), .val (.int ((which &&& (2147483647 : Int32)) % (24 : Int32))), .unset, .unset, .unset, .unset]) rfl ?_
  refine Go.iloadN C at_419 (q := 420) rfl rfl ?_
  refine Go.i2s C at_420 (q := 421) rfl ?_
  refine Go.istore C at_421 (q := 423) rfl (Ls' := #[.val (.int which), .val (.int version), .val (.ref o1), .val (.ref o2), .val (.ref o3), .val (.int ((which &&& (2147483647 : Int32)) % (24 : Int32))), .val (.int version.toInt16.toInt32), .unset, .unset, .unset]) rfl ?_
  refine Go.iload C at_423 (q := 425) rfl rfl ?_
  refine Go.istore C at_425 (q := 427) rfl (Ls' := #[.val (.int which), .val (.int version), .val (.ref o1), .val (.ref o2), .val (.ref o3), .val (.int ((which &&& (2147483647 : Int32)) % (24 : Int32))), .val (.int version.toInt16.toInt32), .val (.int version.toInt16.toInt32), .unset, .unset]) rfl ?_
  refine Go.aloadN C at_427 (q := 428) rfl rfl rfl ?_
  refine Go.iload C at_428 (q := 430) rfl rfl ?_
  obtain ⟨ea, lo, hi, he1, he2, he3, he4, he5, he6⟩ := own_elemN Z ((which &&& (2147483647 : Int32)) % (24 : Int32)).toNatClampNeg (own_ltN _ (rem_mask which 24 (by decide))) s_PRODUCE s_FETCH s_LIST_OFFSETS s_METADATA s_OFFSET_COMMIT s_OFFSET_FETCH s_FIND_COORDINATOR s_JOIN_GROUP s_HEARTBEAT s_LEAVE_GROUP s_SYNC_GROUP s_DESCRIBE_GROUPS s_LIST_GROUPS s_API_VERSIONS s_CREATE_TOPICS s_DELETE_TOPICS s_INIT_PRODUCER_ID s_WATCH_STATE s_CHANGE_IN_SYNC s_EPOCH_END s_ALLOCATE_PRODUCER_IDS s_MEMBER_CHALLENGE s_MEMBER_PROOF s_READ_STATE F_s_PRODUCE_minVersion F_s_PRODUCE_maxVersion E_s_PRODUCE F_s_FETCH_minVersion F_s_FETCH_maxVersion E_s_FETCH F_s_LIST_OFFSETS_minVersion F_s_LIST_OFFSETS_maxVersion E_s_LIST_OFFSETS F_s_METADATA_minVersion F_s_METADATA_maxVersion E_s_METADATA F_s_OFFSET_COMMIT_minVersion F_s_OFFSET_COMMIT_maxVersion E_s_OFFSET_COMMIT F_s_OFFSET_FETCH_minVersion F_s_OFFSET_FETCH_maxVersion E_s_OFFSET_FETCH F_s_FIND_COORDINATOR_minVersion F_s_FIND_COORDINATOR_maxVersion E_s_FIND_COORDINATOR F_s_JOIN_GROUP_minVersion F_s_JOIN_GROUP_maxVersion E_s_JOIN_GROUP F_s_HEARTBEAT_minVersion F_s_HEARTBEAT_maxVersion E_s_HEARTBEAT F_s_LEAVE_GROUP_minVersion F_s_LEAVE_GROUP_maxVersion E_s_LEAVE_GROUP F_s_SYNC_GROUP_minVersion F_s_SYNC_GROUP_maxVersion E_s_SYNC_GROUP F_s_DESCRIBE_GROUPS_minVersion F_s_DESCRIBE_GROUPS_maxVersion E_s_DESCRIBE_GROUPS F_s_LIST_GROUPS_minVersion F_s_LIST_GROUPS_maxVersion E_s_LIST_GROUPS F_s_API_VERSIONS_minVersion F_s_API_VERSIONS_maxVersion E_s_API_VERSIONS F_s_CREATE_TOPICS_minVersion F_s_CREATE_TOPICS_maxVersion E_s_CREATE_TOPICS F_s_DELETE_TOPICS_minVersion F_s_DELETE_TOPICS_maxVersion E_s_DELETE_TOPICS F_s_INIT_PRODUCER_ID_minVersion F_s_INIT_PRODUCER_ID_maxVersion E_s_INIT_PRODUCER_ID F_s_WATCH_STATE_minVersion F_s_WATCH_STATE_maxVersion E_s_WATCH_STATE F_s_CHANGE_IN_SYNC_minVersion F_s_CHANGE_IN_SYNC_maxVersion E_s_CHANGE_IN_SYNC F_s_EPOCH_END_minVersion F_s_EPOCH_END_maxVersion E_s_EPOCH_END F_s_ALLOCATE_PRODUCER_IDS_minVersion F_s_ALLOCATE_PRODUCER_IDS_maxVersion E_s_ALLOCATE_PRODUCER_IDS F_s_MEMBER_CHALLENGE_minVersion F_s_MEMBER_CHALLENGE_maxVersion E_s_MEMBER_CHALLENGE F_s_MEMBER_PROOF_minVersion F_s_MEMBER_PROOF_maxVersion E_s_MEMBER_PROOF F_s_READ_STATE_minVersion F_s_READ_STATE_maxVersion E_s_READ_STATE
  refine Go.iaload C (fun _ r => r.arr 1 rfl) (ge0 (rem_mask which 24 (by decide)).1) (v := (.int lo)) he2 at_430 (q := 431) rfl ?_
  refine Go.iload C at_431 (q := 433) rfl rfl ?_
  refine Go.joinI (q := 451) (Ls' := #[.val (.int which), .val (.int version), .val (.ref o1), .val (.ref o2), .val (.ref o3), .val (.int ((which &&& (2147483647 : Int32)) % (24 : Int32))), .val (.int version.toInt16.toInt32), .val (.int version.toInt16.toInt32), .unset, .unset]) (st' := []) ((if ¬ version.toInt16.toInt32 < lo ∧ ¬ hi < version.toInt16.toInt32 then (1 : Int32) else 0)) ?_ (fun J451_313 => ?_)
  · refine Go.istore C at_451 (q := 453) rfl (Ls' := #[.val (.int which), .val (.int version), .val (.ref o1), .val (.ref o2), .val (.ref o3), .val (.int ((which &&& (2147483647 : Int32)) % (24 : Int32))), .val (.int version.toInt16.toInt32), .val (.int version.toInt16.toInt32), .val (.int (if ¬ version.toInt16.toInt32 < lo ∧ ¬ hi < version.toInt16.toInt32 then (1 : Int32) else 0)), .unset]) rfl ?_
    refine Go.aloadN C at_453 (q := 454) rfl rfl rfl ?_
    refine Go.iload C at_454 (q := 456) rfl rfl ?_
    refine Go.aaload C (fun _ r => r.arr 2 rfl) rfl (ge0 (rem_mask which 24 (by decide)).1) (v := (.ref ea)) he1 at_456 (q := 457) rfl ?_
    refine Go.iload C at_457 (q := 459) rfl rfl ?_
    refine Go.callV C (y := (⟨"com/example/mirrored_message_log/mirroredmessagelog/protocol/ApiKey", "serves", "(S)Z"⟩ : MethodName)) (z := (⟨"com/example/mirrored_message_log/mirroredmessagelog/protocol/ApiKey", "serves", "(S)Z"⟩ : MethodName)) (a := ea) (as := [(.int version.toInt16.toInt32)]) (rest := []) (wd hw 54 rfl) (wd hw 55 rfl) (nf_sel (z := (⟨"com/example/mirrored_message_log/mirroredmessagelog/protocol/ApiKey", "serves", "(S)Z"⟩ : MethodName)) (wd hw 57 rfl)) (wd hw 57 rfl) (wd hw 56 rfl) (wd hw 58 rfl) (wd hw 3 rfl) (fun _ r => (he6).ext r.1) (m_serves l Z a0 hw _ ea version.toInt16.toInt32 lo hi he4 he5) rfl at_459 (q := 462) rfl (by decide) rfl (na := 1) (by decide +kernel) rfl (by decide) (W := 0) rfl (by decide) (by decide) (by decide) (k' := 3) (n' := 72) rfl rfl ?_
    rintro _ _ ⟨rfl, rfl⟩
    show Go _ _ _ _ _ _ _ _ _ _ [(.int (if ¬ version.toInt16.toInt32 < lo ∧ ¬ hi < version.toInt16.toInt32 then (1 : Int32) else 0))]
    refine Go.istore C at_462 (q := 464) rfl (Ls' := #[.val (.int which), .val (.int version), .val (.ref o1), .val (.ref o2), .val (.ref o3), .val (.int ((which &&& (2147483647 : Int32)) % (24 : Int32))), .val (.int version.toInt16.toInt32), .val (.int version.toInt16.toInt32), .val (.int (if ¬ version.toInt16.toInt32 < lo ∧ ¬ hi < version.toInt16.toInt32 then (1 : Int32) else 0)), .val (.int (if ¬ version.toInt16.toInt32 < lo ∧ ¬ hi < version.toInt16.toInt32 then (1 : Int32) else 0))]) rfl ?_
    refine Go.iload C at_464 (q := 466) rfl rfl ?_
    refine Go.iload C at_466 (q := 468) rfl rfl ?_
    refine Go.icmpNo C at_468 (q := 471) rfl (XT.ii_ne_f rfl) ?_
    refine Go.iconst C at_471 (q := 472) rfl (v := (1 : Int32)) rfl ?_
    refine Go.goto C at_472 (by decide) (q := 476) rfl ?_
    refine Go.retZ C rfl (by decide) at_476 (by decide) (by decide) ?_
    exact rfl
  · refine Go.icmp C at_433 (by decide) (q := 450) rfl (q' := 436) rfl (fun (h433_1 : version.toInt16.toInt32 < lo) => ?_) (fun (h433_1 : ¬ version.toInt16.toInt32 < lo) => ?_)
    · refine Go.iconst C at_450 (q := 451) rfl (v := (0 : Int32)) rfl ?_
      exact J451_313 _ (by exact (if_neg (fun q => by first | exact h433_1 q.1 | exact q.1 h433_1)).symm)
    · refine Go.iload C at_436 (q := 438) rfl rfl ?_
      refine Go.aload C at_438 (q := 440) rfl rfl rfl ?_
      refine Go.iload C at_440 (q := 442) rfl rfl ?_
      refine Go.iaload C (fun _ r => r.arr 0 rfl) (ge0 (rem_mask which 24 (by decide)).1) (v := (.int hi)) he3 at_442 (q := 443) rfl ?_
      refine Go.icmp C at_443 (by decide) (q := 450) rfl (q' := 446) rfl (fun (h443_2 : hi < version.toInt16.toInt32) => ?_) (fun (h443_2 : ¬ hi < version.toInt16.toInt32) => ?_)
      · refine Go.iconst C at_450 (q := 451) rfl (v := (0 : Int32)) rfl ?_
        exact J451_313 _ (by exact (if_neg (fun q => by first | exact h443_2 q.2 | exact q.2 h443_2)).symm)
      · refine Go.iconst C at_446 (q := 447) rfl (v := (1 : Int32)) rfl ?_
        refine Go.goto C at_447 (by decide) (q := 451) rfl ?_
        exact J451_313 _ (by exact (if_pos ⟨h433_1, h443_2⟩).symm)
set_option maxRecDepth 65536 in
set_option maxHeartbeats 40000000 in
theorem comes_1 {Post : Tables → Env → Array Value → State → Outcome → State → Prop} (hpost : ∀ tb e args s v u, (limb_1_1.after args s (.returned v) u = true ∧ limb_1_2.after args s (.returned v) u = true ∧ True) → FrameEnd s (.returned v) u (Jvm.fieldLocs frame_1_writes args s ++ Jvm.arrayLocs frame_1_arrays args s ++ Jvm.staticLocs frame_1_statics s) 16 256 → Post tb e args s (.returned v) u) :
    ArmFor flags0 classFile x code maxLocals ret World_1 tables_1 room_1 Calls_1 rest_1 Pre_1 Post := by
  intro l hfl _ _ p e ha hc hk s m args below hf hA hF happ hP
  obtain ⟨hcalls, hrest, hpre⟩ := hP
  obtain ⟨-, -, -, hnamed, -, -, -, hat⟩ := (Spec.applies_iff hf).mp happ
  obtain ⟨hg, hn⟩ := and_e (Cond.before_iff.mp (show (Jvm.Cond.and given_1 narrow_1).before args s = true from hpre))
  obtain ⟨hcount, hg⟩ := and_e hg
  obtain ⟨w0, w1, rfl⟩ : ∃ w0 w1 : Value, args = #[w0, w1] := by
    have hs : args.size = 2 := by simpa [Cond.value, given_1] using hcount
    obtain ⟨L⟩ := args
    match L, hs with
    | [w0, w1], _ => exact ⟨w0, w1, rfl⟩
  have hw := fun d (hd : d ∈ tables_1) => atoms_spec (ws := Jvm.Cond.code x code maxLocals ret :: tables_1) hat d (List.mem_cons_of_mem _ hd)
  obtain ⟨g0, hg⟩ := and_e hg
  obtain ⟨which, e0⟩ := is_v g0
  obtain rfl : w0 = (.int which) := Option.some.inj e0
  have g1 := hg
  obtain ⟨version, e1⟩ := is_v g1
  obtain rfl : w1 = (.int version) := Option.some.inj e1
  obtain ⟨n0, hn⟩ := and_e hn
  obtain ⟨n1, hn⟩ := and_e hn
  obtain ⟨n2, hn⟩ := and_e hn
  obtain ⟨n3, hn⟩ := and_e hn
  obtain ⟨n4, hn⟩ := and_e hn
  obtain ⟨n5, hn⟩ := and_e hn
  obtain ⟨n6, hn⟩ := and_e hn
  obtain ⟨n7, hn⟩ := and_e hn
  obtain ⟨n8, hn⟩ := and_e hn
  obtain ⟨n9, hn⟩ := and_e hn
  obtain ⟨n10, hn⟩ := and_e hn
  obtain ⟨n11, hn⟩ := and_e hn
  obtain ⟨n12, hn⟩ := and_e hn
  obtain ⟨n13, hn⟩ := and_e hn
  obtain ⟨n14, hn⟩ := and_e hn
  obtain ⟨n15, hn⟩ := and_e hn
  obtain ⟨n16, hn⟩ := and_e hn
  obtain ⟨n17, hn⟩ := and_e hn
  obtain ⟨n18, hn⟩ := and_e hn
  obtain ⟨n19, hn⟩ := and_e hn
  obtain ⟨n20, hn⟩ := and_e hn
  obtain ⟨n21, hn⟩ := and_e hn
  obtain ⟨n22, hn⟩ := and_e hn
  obtain ⟨n23, hn⟩ := and_e hn
  obtain ⟨n24, hn⟩ := and_e hn
  obtain ⟨n25, hn⟩ := and_e hn
  obtain ⟨n26, hn⟩ := and_e hn
  obtain ⟨n27, hn⟩ := and_e hn
  obtain ⟨n28, hn⟩ := and_e hn
  obtain ⟨n29, hn⟩ := and_e hn
  obtain ⟨n30, hn⟩ := and_e hn
  obtain ⟨n31, hn⟩ := and_e hn
  obtain ⟨n32, hn⟩ := and_e hn
  obtain ⟨n33, hn⟩ := and_e hn
  obtain ⟨n34, hn⟩ := and_e hn
  obtain ⟨n35, hn⟩ := and_e hn
  obtain ⟨n36, hn⟩ := and_e hn
  obtain ⟨n37, hn⟩ := and_e hn
  obtain ⟨n38, hn⟩ := and_e hn
  obtain ⟨n39, hn⟩ := and_e hn
  obtain ⟨n40, hn⟩ := and_e hn
  obtain ⟨n41, hn⟩ := and_e hn
  obtain ⟨n42, hn⟩ := and_e hn
  obtain ⟨n43, hn⟩ := and_e hn
  obtain ⟨n44, hn⟩ := and_e hn
  obtain ⟨n45, hn⟩ := and_e hn
  obtain ⟨n46, hn⟩ := and_e hn
  obtain ⟨n47, hn⟩ := and_e hn
  obtain ⟨n48, hn⟩ := and_e hn
  obtain ⟨n49, hn⟩ := and_e hn
  obtain ⟨n50, hn⟩ := and_e hn
  obtain ⟨n51, hn⟩ := and_e hn
  obtain ⟨n52, hn⟩ := and_e hn
  obtain ⟨n53, hn⟩ := and_e hn
  obtain ⟨n54, hn⟩ := and_e hn
  obtain ⟨n55, hn⟩ := and_e hn
  obtain ⟨n56, hn⟩ := and_e hn
  obtain ⟨n57, hn⟩ := and_e hn
  obtain ⟨n58, hn⟩ := and_e hn
  obtain ⟨n59, hn⟩ := and_e hn
  obtain ⟨n60, hn⟩ := and_e hn
  obtain ⟨n61, hn⟩ := and_e hn
  obtain ⟨n62, hn⟩ := and_e hn
  obtain ⟨n63, hn⟩ := and_e hn
  obtain ⟨n64, hn⟩ := and_e hn
  obtain ⟨n65, hn⟩ := and_e hn
  obtain ⟨n66, hn⟩ := and_e hn
  obtain ⟨n67, hn⟩ := and_e hn
  obtain ⟨n68, hn⟩ := and_e hn
  obtain ⟨n69, hn⟩ := and_e hn
  obtain ⟨n70, hn⟩ := and_e hn
  have n71 := hn
  obtain ⟨s_PRODUCE, ev_s_PRODUCE⟩ := exa_v n0
  have S_s_PRODUCE := Sta.start ev_s_PRODUCE (Or.inr ⟨(wd hw 3 rfl), (wd hw 4 rfl)⟩)
  have E_s_PRODUCE := Exa.start ev_s_PRODUCE n0
  have F_s_PRODUCE_minVersion := fld_of_eq ev_s_PRODUCE n24
  have F_s_PRODUCE_maxVersion := fld_of_eq ev_s_PRODUCE n25
  obtain ⟨s_FETCH, ev_s_FETCH⟩ := exa_v n1
  have S_s_FETCH := Sta.start ev_s_FETCH (Or.inr ⟨(wd hw 3 rfl), (wd hw 7 rfl)⟩)
  have E_s_FETCH := Exa.start ev_s_FETCH n1
  have F_s_FETCH_minVersion := fld_of_eq ev_s_FETCH n47
  have F_s_FETCH_maxVersion := fld_of_eq ev_s_FETCH n53
  obtain ⟨s_LIST_OFFSETS, ev_s_LIST_OFFSETS⟩ := exa_v n2
  have S_s_LIST_OFFSETS := Sta.start ev_s_LIST_OFFSETS (Or.inr ⟨(wd hw 3 rfl), (wd hw 9 rfl)⟩)
  have E_s_LIST_OFFSETS := Exa.start ev_s_LIST_OFFSETS n2
  have F_s_LIST_OFFSETS_minVersion := fld_of_eq ev_s_LIST_OFFSETS n49
  have F_s_LIST_OFFSETS_maxVersion := fld_of_eq ev_s_LIST_OFFSETS n50
  obtain ⟨s_METADATA, ev_s_METADATA⟩ := exa_v n3
  have S_s_METADATA := Sta.start ev_s_METADATA (Or.inr ⟨(wd hw 3 rfl), (wd hw 11 rfl)⟩)
  have E_s_METADATA := Exa.start ev_s_METADATA n3
  have F_s_METADATA_minVersion := fld_of_eq ev_s_METADATA n38
  have F_s_METADATA_maxVersion := fld_of_eq ev_s_METADATA n39
  obtain ⟨s_OFFSET_COMMIT, ev_s_OFFSET_COMMIT⟩ := exa_v n4
  have S_s_OFFSET_COMMIT := Sta.start ev_s_OFFSET_COMMIT (Or.inr ⟨(wd hw 3 rfl), (wd hw 13 rfl)⟩)
  have E_s_OFFSET_COMMIT := Exa.start ev_s_OFFSET_COMMIT n4
  have F_s_OFFSET_COMMIT_minVersion := fld_of_eq ev_s_OFFSET_COMMIT n63
  have F_s_OFFSET_COMMIT_maxVersion := fld_of_eq ev_s_OFFSET_COMMIT n64
  obtain ⟨s_OFFSET_FETCH, ev_s_OFFSET_FETCH⟩ := exa_v n5
  have S_s_OFFSET_FETCH := Sta.start ev_s_OFFSET_FETCH (Or.inr ⟨(wd hw 3 rfl), (wd hw 15 rfl)⟩)
  have E_s_OFFSET_FETCH := Exa.start ev_s_OFFSET_FETCH n5
  have F_s_OFFSET_FETCH_minVersion := fld_of_eq ev_s_OFFSET_FETCH n56
  have F_s_OFFSET_FETCH_maxVersion := fld_of_eq ev_s_OFFSET_FETCH n57
  obtain ⟨s_FIND_COORDINATOR, ev_s_FIND_COORDINATOR⟩ := exa_v n6
  have S_s_FIND_COORDINATOR := Sta.start ev_s_FIND_COORDINATOR (Or.inr ⟨(wd hw 3 rfl), (wd hw 17 rfl)⟩)
  have E_s_FIND_COORDINATOR := Exa.start ev_s_FIND_COORDINATOR n6
  have F_s_FIND_COORDINATOR_minVersion := fld_of_eq ev_s_FIND_COORDINATOR n34
  have F_s_FIND_COORDINATOR_maxVersion := fld_of_eq ev_s_FIND_COORDINATOR n35
  obtain ⟨s_JOIN_GROUP, ev_s_JOIN_GROUP⟩ := exa_v n7
  have S_s_JOIN_GROUP := Sta.start ev_s_JOIN_GROUP (Or.inr ⟨(wd hw 3 rfl), (wd hw 19 rfl)⟩)
  have E_s_JOIN_GROUP := Exa.start ev_s_JOIN_GROUP n7
  have F_s_JOIN_GROUP_minVersion := fld_of_eq ev_s_JOIN_GROUP n46
  have F_s_JOIN_GROUP_maxVersion := fld_of_eq ev_s_JOIN_GROUP n52
  obtain ⟨s_HEARTBEAT, ev_s_HEARTBEAT⟩ := exa_v n8
  have S_s_HEARTBEAT := Sta.start ev_s_HEARTBEAT (Or.inr ⟨(wd hw 3 rfl), (wd hw 21 rfl)⟩)
  have E_s_HEARTBEAT := Exa.start ev_s_HEARTBEAT n8
  have F_s_HEARTBEAT_minVersion := fld_of_eq ev_s_HEARTBEAT n29
  have F_s_HEARTBEAT_maxVersion := fld_of_eq ev_s_HEARTBEAT n41
  obtain ⟨s_LEAVE_GROUP, ev_s_LEAVE_GROUP⟩ := exa_v n9
  have S_s_LEAVE_GROUP := Sta.start ev_s_LEAVE_GROUP (Or.inr ⟨(wd hw 3 rfl), (wd hw 23 rfl)⟩)
  have E_s_LEAVE_GROUP := Exa.start ev_s_LEAVE_GROUP n9
  have F_s_LEAVE_GROUP_minVersion := fld_of_eq ev_s_LEAVE_GROUP n42
  have F_s_LEAVE_GROUP_maxVersion := fld_of_eq ev_s_LEAVE_GROUP n43
  obtain ⟨s_SYNC_GROUP, ev_s_SYNC_GROUP⟩ := exa_v n10
  have S_s_SYNC_GROUP := Sta.start ev_s_SYNC_GROUP (Or.inr ⟨(wd hw 3 rfl), (wd hw 25 rfl)⟩)
  have E_s_SYNC_GROUP := Exa.start ev_s_SYNC_GROUP n10
  have F_s_SYNC_GROUP_minVersion := fld_of_eq ev_s_SYNC_GROUP n54
  have F_s_SYNC_GROUP_maxVersion := fld_of_eq ev_s_SYNC_GROUP n55
  obtain ⟨s_DESCRIBE_GROUPS, ev_s_DESCRIBE_GROUPS⟩ := exa_v n11
  have S_s_DESCRIBE_GROUPS := Sta.start ev_s_DESCRIBE_GROUPS (Or.inr ⟨(wd hw 3 rfl), (wd hw 27 rfl)⟩)
  have E_s_DESCRIBE_GROUPS := Exa.start ev_s_DESCRIBE_GROUPS n11
  have F_s_DESCRIBE_GROUPS_minVersion := fld_of_eq ev_s_DESCRIBE_GROUPS n58
  have F_s_DESCRIBE_GROUPS_maxVersion := fld_of_eq ev_s_DESCRIBE_GROUPS n68
  obtain ⟨s_LIST_GROUPS, ev_s_LIST_GROUPS⟩ := exa_v n12
  have S_s_LIST_GROUPS := Sta.start ev_s_LIST_GROUPS (Or.inr ⟨(wd hw 3 rfl), (wd hw 29 rfl)⟩)
  have E_s_LIST_GROUPS := Exa.start ev_s_LIST_GROUPS n12
  have F_s_LIST_GROUPS_minVersion := fld_of_eq ev_s_LIST_GROUPS n27
  have F_s_LIST_GROUPS_maxVersion := fld_of_eq ev_s_LIST_GROUPS n28
  obtain ⟨s_API_VERSIONS, ev_s_API_VERSIONS⟩ := exa_v n13
  have S_s_API_VERSIONS := Sta.start ev_s_API_VERSIONS (Or.inr ⟨(wd hw 3 rfl), (wd hw 31 rfl)⟩)
  have E_s_API_VERSIONS := Exa.start ev_s_API_VERSIONS n13
  have F_s_API_VERSIONS_minVersion := fld_of_eq ev_s_API_VERSIONS n32
  have F_s_API_VERSIONS_maxVersion := fld_of_eq ev_s_API_VERSIONS n33
  obtain ⟨s_CREATE_TOPICS, ev_s_CREATE_TOPICS⟩ := exa_v n14
  have S_s_CREATE_TOPICS := Sta.start ev_s_CREATE_TOPICS (Or.inr ⟨(wd hw 3 rfl), (wd hw 33 rfl)⟩)
  have E_s_CREATE_TOPICS := Exa.start ev_s_CREATE_TOPICS n14
  have F_s_CREATE_TOPICS_minVersion := fld_of_eq ev_s_CREATE_TOPICS n26
  have F_s_CREATE_TOPICS_maxVersion := fld_of_eq ev_s_CREATE_TOPICS n59
  obtain ⟨s_DELETE_TOPICS, ev_s_DELETE_TOPICS⟩ := exa_v n15
  have S_s_DELETE_TOPICS := Sta.start ev_s_DELETE_TOPICS (Or.inr ⟨(wd hw 3 rfl), (wd hw 35 rfl)⟩)
  have E_s_DELETE_TOPICS := Exa.start ev_s_DELETE_TOPICS n15
  have F_s_DELETE_TOPICS_minVersion := fld_of_eq ev_s_DELETE_TOPICS n40
  have F_s_DELETE_TOPICS_maxVersion := fld_of_eq ev_s_DELETE_TOPICS n62
  obtain ⟨s_INIT_PRODUCER_ID, ev_s_INIT_PRODUCER_ID⟩ := exa_v n16
  have S_s_INIT_PRODUCER_ID := Sta.start ev_s_INIT_PRODUCER_ID (Or.inr ⟨(wd hw 3 rfl), (wd hw 37 rfl)⟩)
  have E_s_INIT_PRODUCER_ID := Exa.start ev_s_INIT_PRODUCER_ID n16
  have F_s_INIT_PRODUCER_ID_minVersion := fld_of_eq ev_s_INIT_PRODUCER_ID n30
  have F_s_INIT_PRODUCER_ID_maxVersion := fld_of_eq ev_s_INIT_PRODUCER_ID n31
  obtain ⟨s_WATCH_STATE, ev_s_WATCH_STATE⟩ := exa_v n17
  have S_s_WATCH_STATE := Sta.start ev_s_WATCH_STATE (Or.inr ⟨(wd hw 3 rfl), (wd hw 39 rfl)⟩)
  have E_s_WATCH_STATE := Exa.start ev_s_WATCH_STATE n17
  have F_s_WATCH_STATE_minVersion := fld_of_eq ev_s_WATCH_STATE n70
  have F_s_WATCH_STATE_maxVersion := fld_of_eq ev_s_WATCH_STATE n71
  obtain ⟨s_CHANGE_IN_SYNC, ev_s_CHANGE_IN_SYNC⟩ := exa_v n18
  have S_s_CHANGE_IN_SYNC := Sta.start ev_s_CHANGE_IN_SYNC (Or.inr ⟨(wd hw 3 rfl), (wd hw 41 rfl)⟩)
  have E_s_CHANGE_IN_SYNC := Exa.start ev_s_CHANGE_IN_SYNC n18
  have F_s_CHANGE_IN_SYNC_minVersion := fld_of_eq ev_s_CHANGE_IN_SYNC n51
  have F_s_CHANGE_IN_SYNC_maxVersion := fld_of_eq ev_s_CHANGE_IN_SYNC n65
  obtain ⟨s_EPOCH_END, ev_s_EPOCH_END⟩ := exa_v n19
  have S_s_EPOCH_END := Sta.start ev_s_EPOCH_END (Or.inr ⟨(wd hw 3 rfl), (wd hw 43 rfl)⟩)
  have E_s_EPOCH_END := Exa.start ev_s_EPOCH_END n19
  have F_s_EPOCH_END_minVersion := fld_of_eq ev_s_EPOCH_END n66
  have F_s_EPOCH_END_maxVersion := fld_of_eq ev_s_EPOCH_END n67
  obtain ⟨s_ALLOCATE_PRODUCER_IDS, ev_s_ALLOCATE_PRODUCER_IDS⟩ := exa_v n20
  have S_s_ALLOCATE_PRODUCER_IDS := Sta.start ev_s_ALLOCATE_PRODUCER_IDS (Or.inr ⟨(wd hw 3 rfl), (wd hw 45 rfl)⟩)
  have E_s_ALLOCATE_PRODUCER_IDS := Exa.start ev_s_ALLOCATE_PRODUCER_IDS n20
  have F_s_ALLOCATE_PRODUCER_IDS_minVersion := fld_of_eq ev_s_ALLOCATE_PRODUCER_IDS n60
  have F_s_ALLOCATE_PRODUCER_IDS_maxVersion := fld_of_eq ev_s_ALLOCATE_PRODUCER_IDS n61
  obtain ⟨s_MEMBER_CHALLENGE, ev_s_MEMBER_CHALLENGE⟩ := exa_v n21
  have S_s_MEMBER_CHALLENGE := Sta.start ev_s_MEMBER_CHALLENGE (Or.inr ⟨(wd hw 3 rfl), (wd hw 47 rfl)⟩)
  have E_s_MEMBER_CHALLENGE := Exa.start ev_s_MEMBER_CHALLENGE n21
  have F_s_MEMBER_CHALLENGE_minVersion := fld_of_eq ev_s_MEMBER_CHALLENGE n44
  have F_s_MEMBER_CHALLENGE_maxVersion := fld_of_eq ev_s_MEMBER_CHALLENGE n45
  obtain ⟨s_MEMBER_PROOF, ev_s_MEMBER_PROOF⟩ := exa_v n22
  have S_s_MEMBER_PROOF := Sta.start ev_s_MEMBER_PROOF (Or.inr ⟨(wd hw 3 rfl), (wd hw 49 rfl)⟩)
  have E_s_MEMBER_PROOF := Exa.start ev_s_MEMBER_PROOF n22
  have F_s_MEMBER_PROOF_minVersion := fld_of_eq ev_s_MEMBER_PROOF n48
  have F_s_MEMBER_PROOF_maxVersion := fld_of_eq ev_s_MEMBER_PROOF n69
  obtain ⟨s_READ_STATE, ev_s_READ_STATE⟩ := exa_v n23
  have S_s_READ_STATE := Sta.start ev_s_READ_STATE (Or.inr ⟨(wd hw 3 rfl), (wd hw 51 rfl)⟩)
  have E_s_READ_STATE := Exa.start ev_s_READ_STATE n23
  have F_s_READ_STATE_minVersion := fld_of_eq ev_s_READ_STATE n36
  have F_s_READ_STATE_maxVersion := fld_of_eq ev_s_READ_STATE n37
  obtain ⟨n, o, h1, h2, h3, _, L, rfl, ⟨N, _, rfl, -⟩, hq⟩ := m_law l s _ hw which version s_PRODUCE s_FETCH s_LIST_OFFSETS s_METADATA s_OFFSET_COMMIT s_OFFSET_FETCH s_FIND_COORDINATOR s_JOIN_GROUP s_HEARTBEAT s_LEAVE_GROUP s_SYNC_GROUP s_DESCRIBE_GROUPS s_LIST_GROUPS s_API_VERSIONS s_CREATE_TOPICS s_DELETE_TOPICS s_INIT_PRODUCER_ID s_WATCH_STATE s_CHANGE_IN_SYNC s_EPOCH_END s_ALLOCATE_PRODUCER_IDS s_MEMBER_CHALLENGE s_MEMBER_PROOF s_READ_STATE S_s_PRODUCE E_s_PRODUCE F_s_PRODUCE_minVersion F_s_PRODUCE_maxVersion S_s_FETCH E_s_FETCH F_s_FETCH_minVersion F_s_FETCH_maxVersion S_s_LIST_OFFSETS E_s_LIST_OFFSETS F_s_LIST_OFFSETS_minVersion F_s_LIST_OFFSETS_maxVersion S_s_METADATA E_s_METADATA F_s_METADATA_minVersion F_s_METADATA_maxVersion S_s_OFFSET_COMMIT E_s_OFFSET_COMMIT F_s_OFFSET_COMMIT_minVersion F_s_OFFSET_COMMIT_maxVersion S_s_OFFSET_FETCH E_s_OFFSET_FETCH F_s_OFFSET_FETCH_minVersion F_s_OFFSET_FETCH_maxVersion S_s_FIND_COORDINATOR E_s_FIND_COORDINATOR F_s_FIND_COORDINATOR_minVersion F_s_FIND_COORDINATOR_maxVersion S_s_JOIN_GROUP E_s_JOIN_GROUP F_s_JOIN_GROUP_minVersion F_s_JOIN_GROUP_maxVersion S_s_HEARTBEAT E_s_HEARTBEAT F_s_HEARTBEAT_minVersion F_s_HEARTBEAT_maxVersion S_s_LEAVE_GROUP E_s_LEAVE_GROUP F_s_LEAVE_GROUP_minVersion F_s_LEAVE_GROUP_maxVersion S_s_SYNC_GROUP E_s_SYNC_GROUP F_s_SYNC_GROUP_minVersion F_s_SYNC_GROUP_maxVersion S_s_DESCRIBE_GROUPS E_s_DESCRIBE_GROUPS F_s_DESCRIBE_GROUPS_minVersion F_s_DESCRIBE_GROUPS_maxVersion S_s_LIST_GROUPS E_s_LIST_GROUPS F_s_LIST_GROUPS_minVersion F_s_LIST_GROUPS_maxVersion S_s_API_VERSIONS E_s_API_VERSIONS F_s_API_VERSIONS_minVersion F_s_API_VERSIONS_maxVersion S_s_CREATE_TOPICS E_s_CREATE_TOPICS F_s_CREATE_TOPICS_minVersion F_s_CREATE_TOPICS_maxVersion S_s_DELETE_TOPICS E_s_DELETE_TOPICS F_s_DELETE_TOPICS_minVersion F_s_DELETE_TOPICS_maxVersion S_s_INIT_PRODUCER_ID E_s_INIT_PRODUCER_ID F_s_INIT_PRODUCER_ID_minVersion F_s_INIT_PRODUCER_ID_maxVersion S_s_WATCH_STATE E_s_WATCH_STATE F_s_WATCH_STATE_minVersion F_s_WATCH_STATE_maxVersion S_s_CHANGE_IN_SYNC E_s_CHANGE_IN_SYNC F_s_CHANGE_IN_SYNC_minVersion F_s_CHANGE_IN_SYNC_maxVersion S_s_EPOCH_END E_s_EPOCH_END F_s_EPOCH_END_minVersion F_s_EPOCH_END_maxVersion S_s_ALLOCATE_PRODUCER_IDS E_s_ALLOCATE_PRODUCER_IDS F_s_ALLOCATE_PRODUCER_IDS_minVersion F_s_ALLOCATE_PRODUCER_IDS_maxVersion S_s_MEMBER_CHALLENGE E_s_MEMBER_CHALLENGE F_s_MEMBER_CHALLENGE_minVersion F_s_MEMBER_CHALLENGE_maxVersion S_s_MEMBER_PROOF E_s_MEMBER_PROOF F_s_MEMBER_PROOF_minVersion F_s_MEMBER_PROOF_maxVersion S_s_READ_STATE E_s_READ_STATE F_s_READ_STATE_minVersion F_s_READ_STATE_maxVersion tables_1 s.heap (rep0 s) p e ha hc hk s m _ below hf ((Spec.applies_iff_loose hf).mp happ).1 ⟨rfl, State.Warmed39.refl s, rfl⟩ trivial
  refine ⟨n, _, h1, h2, h3, hpost _ _ _ _ _ _ ⟨Cond.after_iff.mpr rfl, Cond.after_iff.mpr (eq_i res_at (Term.int_eval (1)) rfl), trivial⟩ ⟨hq.1, hq.2.1, (hq.2.2.sift fun y hy => Or.inr (N y hy)).mono (by decide) (by decide)⟩⟩
theorem main_1_1 : Claimed_1_1 := comes_1 fun _ _ _ _ _ _ h hF => ⟨h.1, hF⟩
theorem main_1_2 : Claimed_1_2 := comes_1 fun _ _ _ _ _ _ h hF => ⟨h.2.1, hF⟩
end Jvm.Pilot.@@N@@
namespace Jvm.Pilot.@@N@@
open Jvm Jvm.ClassFile Sem Op Lib Jvm.Free Jvm.Stand Jvm.Pilot.@@N@@.Jvm.D
/-! MADE BY PROGRAM (witnessworld.py) out of the Statement's table words and the real class files: 13 classes; the members and pool entries that the words name. The judged class is class 1, her method 1. -/
namespace start1
open Jvm.ClassFile
def u (s : String) : CpInfo := .utf8 (stringToUtf16 s)
/-- a pool by its gaps: so many unusable entries, then the entry; so many at the end -/
def gap : Nat → List CpInfo → List CpInfo
  | 0, r => r
  | n + 1, r => .unusable :: gap n r
def poolList (es : List (Nat × CpInfo)) (last : Nat) : List CpInfo := es.foldr (fun e r => gap e.1 (e.2 :: r)) (gap last [])
def pool (es : List (Nat × CpInfo)) (last : Nat) : Array CpInfo := ⟨poolList es last⟩
def fileOf (pool : Array CpInfo) (this : Nat) (attrs : Array Attribute := #[]) (ms : Array MethodInfo := #[]) (fl : Nat := 33) (sup : Nat := 0) (ifs : Array Nat := #[]) (fds : Array FieldInfo := #[]) : ClassFile where
  minorVersion := 0
  majorVersion := 65
  constantPool := pool
  accessFlags := fl
  thisClass := this
  superClass := sup
  interfaces := ifs
  fields := fds
  methods := ms
  attributes := attrs
def plain (name : String) (sup : Option ClassId) : Class where
  name := name
  kind := .ordinary
  loader := none
  accessFlags := 33
  super := sup
  interfaces := #[]
  cf := none
  fields := #[]
  methods := #[]
  instanceTypes := #[]
  staticTypes := #[]
  resolved := #[]
  callSites := []
  init := .initialized
  statics := none
  mirror := none

def pool0 : Array CpInfo := pool [(5, u "<init>"), (0, u "()V"), (1, .class_ 10), (1, u "java/lang/Object")] 113

def k0m0 : Method := { name := "<init>", desc := "()V", sig := { parameters := [], returnType := none }, accessFlags := 1, code := none }
/-- java/lang/Object -/
def k0 : Class := { plain "java/lang/Object" none with
  accessFlags := 33
  interfaces := #[]
  cf := some (fileOf pool0 8 #[] #[{ accessFlags := 1, nameIndex := 5, descriptorIndex := 6, attributes := #[] }] 33 0 #[] #[])
  fields := #[]
  methods := #[k0m0]
  instanceTypes := #[]
  staticTypes := #[]
  resolved := Array.replicate 124 none
  statics := none }

def pool1 : Array CpInfo := pool [(2, .class_ 4), (1, u "java/lang/Object"), (0, u "<init>"), (0, u "()V"), (0, .class_ 8), (0, u "com/example/mirrored_message_log/mirroredmessagelog/protocol/ApiKey"), (0, .fieldref 7 10), (0, .nameAndType 11 12), (0, u "PRODUCE"), (0, u "Lcom/example/mirrored_message_log/mirroredmessagelog/protocol/ApiKey;"), (0, .fieldref 7 14), (0, .nameAndType 15 12), (0, u "FETCH"), (0, .fieldref 7 17), (0, .nameAndType 18 12), (0, u "LIST_OFFSETS"), (0, .fieldref 7 20), (0, .nameAndType 21 12), (0, u "METADATA"), (0, .fieldref 7 23), (0, .nameAndType 24 12), (0, u "OFFSET_COMMIT"), (0, .fieldref 7 26), (0, .nameAndType 27 12), (0, u "OFFSET_FETCH"), (0, .fieldref 7 29), (0, .nameAndType 30 12), (0, u "FIND_COORDINATOR"), (0, .fieldref 7 32), (0, .nameAndType 33 12), (0, u "JOIN_GROUP"), (0, .fieldref 7 35), (0, .nameAndType 36 12), (0, u "HEARTBEAT"), (0, .fieldref 7 38), (0, .nameAndType 39 12), (0, u "LEAVE_GROUP"), (0, .fieldref 7 41), (0, .nameAndType 42 12), (0, u "SYNC_GROUP"), (0, .fieldref 7 44), (0, .nameAndType 45 12), (0, u "DESCRIBE_GROUPS"), (0, .fieldref 7 47), (0, .nameAndType 48 12), (0, u "LIST_GROUPS"), (0, .fieldref 7 50), (0, .nameAndType 51 12), (0, u "API_VERSIONS"), (0, .fieldref 7 53), (0, .nameAndType 54 12), (0, u "CREATE_TOPICS"), (0, .fieldref 7 56), (0, .nameAndType 57 12), (0, u "DELETE_TOPICS"), (0, .fieldref 7 59), (0, .nameAndType 60 12), (0, u "INIT_PRODUCER_ID"), (0, .fieldref 7 62), (0, .nameAndType 63 12), (0, u "WATCH_STATE"), (0, .fieldref 7 65), (0, .nameAndType 66 12), (0, u "CHANGE_IN_SYNC"), (0, .fieldref 7 68), (0, .nameAndType 69 12), (0, u "EPOCH_END"), (0, .fieldref 7 71), (0, .nameAndType 72 12), (0, u "ALLOCATE_PRODUCER_IDS"), (0, .fieldref 7 74), (0, .nameAndType 75 12), (0, u "MEMBER_CHALLENGE"), (0, .fieldref 7 77), (0, .nameAndType 78 12), (0, u "MEMBER_PROOF"), (0, .fieldref 7 80), (0, .nameAndType 81 12), (0, u "READ_STATE"), (0, .integer 2147483647), (0, .methodref 7 84), (0, .nameAndType 85 86), (0, u "serves"), (0, u "(S)Z"), (0, .class_ 88), (0, u "com/example/mirrored_message_log/mirroredmessagelog/protocol/ApiKeyServesPinLaw"), (2, u "law"), (0, u "(II)Z")] 7

def k1m0 : Method := { name := "<init>", desc := "()V", sig := { parameters := [], returnType := none }, accessFlags := 2, code := none }
def k1c1 : Code := { maxStack := 4, maxLocals := 10, code := code, exceptionTable := #[], attributes := #[] }
def k1m1 : Method := { name := "law", desc := "(II)Z", sig := { parameters := [.int, .int], returnType := some .boolean }, accessFlags := 9, code := some k1c1 }
/-- com/example/mirrored_message_log/mirroredmessagelog/protocol/ApiKeyServesPinLaw -/
def k1 : Class := { plain "com/example/mirrored_message_log/mirroredmessagelog/protocol/ApiKeyServesPinLaw" (some 0) with
  accessFlags := 49
  interfaces := #[]
  cf := some (fileOf pool1 87 #[] #[{ accessFlags := 2, nameIndex := 5, descriptorIndex := 6, attributes := #[] }, { accessFlags := 9, nameIndex := 91, descriptorIndex := 92, attributes := #[] }] 49 2 #[] #[])
  fields := #[]
  methods := #[k1m0, k1m1]
  instanceTypes := #[]
  staticTypes := #[]
  resolved := Array.replicate 100 none
  statics := none }

def pool2 : Array CpInfo := pool [(1, .class_ 2), (0, u "java/lang/constant/Constable"), (0, .class_ 4), (0, u "java/lang/Object")] 6

/-- java/lang/constant/Constable -/
def k2 : Class := { plain "java/lang/constant/Constable" (some 0) with
  accessFlags := 1537
  interfaces := #[]
  cf := some (fileOf pool2 1 #[] #[] 1537 3 #[] #[])
  fields := #[]
  methods := #[]
  instanceTypes := #[]
  staticTypes := #[]
  resolved := Array.replicate 11 none
  statics := none }

def pool3 : Array CpInfo := pool [(1, .class_ 2), (0, u "java/lang/Comparable"), (0, .class_ 4), (0, u "java/lang/Object")] 7

/-- java/lang/Comparable -/
def k3 : Class := { plain "java/lang/Comparable" (some 0) with
  accessFlags := 1537
  interfaces := #[]
  cf := some (fileOf pool3 1 #[] #[] 1537 3 #[] #[])
  fields := #[]
  methods := #[]
  instanceTypes := #[]
  staticTypes := #[]
  resolved := Array.replicate 12 none
  statics := none }

def pool4 : Array CpInfo := pool [(1, .class_ 2), (0, u "java/io/Serializable"), (0, .class_ 4), (0, u "java/lang/Object")] 2

/-- java/io/Serializable -/
def k4 : Class := { plain "java/io/Serializable" (some 0) with
  accessFlags := 1537
  interfaces := #[]
  cf := some (fileOf pool4 1 #[] #[] 1537 3 #[] #[])
  fields := #[]
  methods := #[]
  instanceTypes := #[]
  staticTypes := #[]
  resolved := Array.replicate 7 none
  statics := none }

def pool5 : Array CpInfo := pool [(2, .class_ 4), (1, u "java/lang/Enum"), (0, u "name"), (0, u "Ljava/lang/String;"), (2, u "ordinal"), (0, u "I"), (1, .class_ 14), (1, u "java/lang/Object"), (4, u "hash"), (86, .class_ 108), (1, u "java/lang/Enum$EnumDesc"), (2, .class_ 112), (0, u "java/lang/constant/Constable"), (0, .class_ 114), (0, u "java/lang/Comparable"), (0, .class_ 116), (0, u "java/io/Serializable")] 87

/-- java/lang/Enum -/
def k5 : Class := { plain "java/lang/Enum" (some 0) with
  accessFlags := 1057
  interfaces := #[2, 3, 4]
  cf := some (fileOf pool5 2 #[.nestMembers #[106]] #[] 1057 12 #[111, 113, 115] #[{ accessFlags := 18, nameIndex := 5, descriptorIndex := 6, attributes := #[] }, { accessFlags := 18, nameIndex := 9, descriptorIndex := 10, attributes := #[] }, { accessFlags := 2, nameIndex := 19, descriptorIndex := 10, attributes := #[] }])
  fields := #[{ name := "name", type := (.object "java/lang/String"), accessFlags := 18, slot := 0, constantValue := 0 }, { name := "ordinal", type := .int, accessFlags := 18, slot := 1, constantValue := 0 }, { name := "hash", type := .int, accessFlags := 2, slot := 2, constantValue := 0 }]
  methods := #[]
  instanceTypes := #[(.object "java/lang/String"), .int, .int]
  staticTypes := #[]
  resolved := Array.replicate 204 none
  statics := none }

def pool6 : Array CpInfo := pool [(1, .class_ 2), (0, u "com/example/mirrored_message_log/mirroredmessagelog/protocol/ApiKey"), (2, u "PRODUCE"), (0, u "Lcom/example/mirrored_message_log/mirroredmessagelog/protocol/ApiKey;"), (2, u "FETCH"), (2, u "LIST_OFFSETS"), (2, u "METADATA"), (2, u "OFFSET_COMMIT"), (2, u "OFFSET_FETCH"), (2, u "FIND_COORDINATOR"), (2, u "JOIN_GROUP"), (2, u "HEARTBEAT"), (2, u "LEAVE_GROUP"), (2, u "SYNC_GROUP"), (2, u "DESCRIBE_GROUPS"), (2, u "LIST_GROUPS"), (2, u "API_VERSIONS"), (2, u "CREATE_TOPICS"), (2, u "DELETE_TOPICS"), (2, u "INIT_PRODUCER_ID"), (2, u "WATCH_STATE"), (2, u "CHANGE_IN_SYNC"), (2, u "EPOCH_END"), (2, u "ALLOCATE_PRODUCER_IDS"), (2, u "MEMBER_CHALLENGE"), (2, u "MEMBER_PROOF"), (2, u "READ_STATE"), (2, u "$VALUES"), (0, u "[Lcom/example/mirrored_message_log/mirroredmessagelog/protocol/ApiKey;"), (6, .class_ 88), (1, u "java/lang/Enum"), (3, .class_ 94), (1, u "com/example/mirrored_message_log/mirroredmessagelog/protocol/ApiKey$Sender"), (1, u "Lcom/example/mirrored_message_log/mirroredmessagelog/protocol/ApiKey$Sender;"), (9, u "key"), (0, u "S"), (0, .fieldref 1 109), (0, .nameAndType 110 107), (0, u "minVersion"), (0, .fieldref 1 112), (0, .nameAndType 113 107), (0, u "maxVersion"), (2, u "firstFlexibleVersion"), (2, u "sender"), (61, u "serves"), (0, u "(S)Z")] 17

def k6c0 : Code := { maxStack := 2, maxLocals := 2, code := prog_18_method_6_code, exceptionTable := #[], attributes := #[] }
def k6m0 : Method := { name := "serves", desc := "(S)Z", sig := { parameters := [.short], returnType := some .boolean }, accessFlags := 1, code := some k6c0 }
/-- com/example/mirrored_message_log/mirroredmessagelog/protocol/ApiKey -/
def k6 : Class := { plain "com/example/mirrored_message_log/mirroredmessagelog/protocol/ApiKey" (some 5) with
  accessFlags := 16433
  interfaces := #[]
  cf := some (fileOf pool6 1 #[.nestMembers #[92]] #[{ accessFlags := 1, nameIndex := 181, descriptorIndex := 182, attributes := #[] }] 16433 86 #[] #[{ accessFlags := 16409, nameIndex := 5, descriptorIndex := 6, attributes := #[] }, { accessFlags := 16409, nameIndex := 9, descriptorIndex := 6, attributes := #[] }, { accessFlags := 16409, nameIndex := 12, descriptorIndex := 6, attributes := #[] }, { accessFlags := 16409, nameIndex := 15, descriptorIndex := 6, attributes := #[] }, { accessFlags := 16409, nameIndex := 18, descriptorIndex := 6, attributes := #[] }, { accessFlags := 16409, nameIndex := 21, descriptorIndex := 6, attributes := #[] }, { accessFlags := 16409, nameIndex := 24, descriptorIndex := 6, attributes := #[] }, { accessFlags := 16409, nameIndex := 27, descriptorIndex := 6, attributes := #[] }, { accessFlags := 16409, nameIndex := 30, descriptorIndex := 6, attributes := #[] }, { accessFlags := 16409, nameIndex := 33, descriptorIndex := 6, attributes := #[] }, { accessFlags := 16409, nameIndex := 36, descriptorIndex := 6, attributes := #[] }, { accessFlags := 16409, nameIndex := 39, descriptorIndex := 6, attributes := #[] }, { accessFlags := 16409, nameIndex := 42, descriptorIndex := 6, attributes := #[] }, { accessFlags := 16409, nameIndex := 45, descriptorIndex := 6, attributes := #[] }, { accessFlags := 16409, nameIndex := 48, descriptorIndex := 6, attributes := #[] }, { accessFlags := 16409, nameIndex := 51, descriptorIndex := 6, attributes := #[] }, { accessFlags := 16409, nameIndex := 54, descriptorIndex := 6, attributes := #[] }, { accessFlags := 16409, nameIndex := 57, descriptorIndex := 6, attributes := #[] }, { accessFlags := 16409, nameIndex := 60, descriptorIndex := 6, attributes := #[] }, { accessFlags := 16409, nameIndex := 63, descriptorIndex := 6, attributes := #[] }, { accessFlags := 16409, nameIndex := 66, descriptorIndex := 6, attributes := #[] }, { accessFlags := 16409, nameIndex := 69, descriptorIndex := 6, attributes := #[] }, { accessFlags := 16409, nameIndex := 72, descriptorIndex := 6, attributes := #[] }, { accessFlags := 16409, nameIndex := 75, descriptorIndex := 6, attributes := #[] }, { accessFlags := 18, nameIndex := 106, descriptorIndex := 107, attributes := #[] }, { accessFlags := 18, nameIndex := 110, descriptorIndex := 107, attributes := #[] }, { accessFlags := 18, nameIndex := 113, descriptorIndex := 107, attributes := #[] }, { accessFlags := 18, nameIndex := 116, descriptorIndex := 107, attributes := #[] }, { accessFlags := 18, nameIndex := 119, descriptorIndex := 96, attributes := #[] }, { accessFlags := 4122, nameIndex := 78, descriptorIndex := 79, attributes := #[] }])
  fields := #[{ name := "PRODUCE", type := (.object "com/example/mirrored_message_log/mirroredmessagelog/protocol/ApiKey"), accessFlags := 16409, slot := 0, constantValue := 0 }, { name := "FETCH", type := (.object "com/example/mirrored_message_log/mirroredmessagelog/protocol/ApiKey"), accessFlags := 16409, slot := 1, constantValue := 0 }, { name := "LIST_OFFSETS", type := (.object "com/example/mirrored_message_log/mirroredmessagelog/protocol/ApiKey"), accessFlags := 16409, slot := 2, constantValue := 0 }, { name := "METADATA", type := (.object "com/example/mirrored_message_log/mirroredmessagelog/protocol/ApiKey"), accessFlags := 16409, slot := 3, constantValue := 0 }, { name := "OFFSET_COMMIT", type := (.object "com/example/mirrored_message_log/mirroredmessagelog/protocol/ApiKey"), accessFlags := 16409, slot := 4, constantValue := 0 }, { name := "OFFSET_FETCH", type := (.object "com/example/mirrored_message_log/mirroredmessagelog/protocol/ApiKey"), accessFlags := 16409, slot := 5, constantValue := 0 }, { name := "FIND_COORDINATOR", type := (.object "com/example/mirrored_message_log/mirroredmessagelog/protocol/ApiKey"), accessFlags := 16409, slot := 6, constantValue := 0 }, { name := "JOIN_GROUP", type := (.object "com/example/mirrored_message_log/mirroredmessagelog/protocol/ApiKey"), accessFlags := 16409, slot := 7, constantValue := 0 }, { name := "HEARTBEAT", type := (.object "com/example/mirrored_message_log/mirroredmessagelog/protocol/ApiKey"), accessFlags := 16409, slot := 8, constantValue := 0 }, { name := "LEAVE_GROUP", type := (.object "com/example/mirrored_message_log/mirroredmessagelog/protocol/ApiKey"), accessFlags := 16409, slot := 9, constantValue := 0 }, { name := "SYNC_GROUP", type := (.object "com/example/mirrored_message_log/mirroredmessagelog/protocol/ApiKey"), accessFlags := 16409, slot := 10, constantValue := 0 }, { name := "DESCRIBE_GROUPS", type := (.object "com/example/mirrored_message_log/mirroredmessagelog/protocol/ApiKey"), accessFlags := 16409, slot := 11, constantValue := 0 }, { name := "LIST_GROUPS", type := (.object "com/example/mirrored_message_log/mirroredmessagelog/protocol/ApiKey"), accessFlags := 16409, slot := 12, constantValue := 0 }, { name := "API_VERSIONS", type := (.object "com/example/mirrored_message_log/mirroredmessagelog/protocol/ApiKey"), accessFlags := 16409, slot := 13, constantValue := 0 }, { name := "CREATE_TOPICS", type := (.object "com/example/mirrored_message_log/mirroredmessagelog/protocol/ApiKey"), accessFlags := 16409, slot := 14, constantValue := 0 }, { name := "DELETE_TOPICS", type := (.object "com/example/mirrored_message_log/mirroredmessagelog/protocol/ApiKey"), accessFlags := 16409, slot := 15, constantValue := 0 }, { name := "INIT_PRODUCER_ID", type := (.object "com/example/mirrored_message_log/mirroredmessagelog/protocol/ApiKey"), accessFlags := 16409, slot := 16, constantValue := 0 }, { name := "WATCH_STATE", type := (.object "com/example/mirrored_message_log/mirroredmessagelog/protocol/ApiKey"), accessFlags := 16409, slot := 17, constantValue := 0 }, { name := "CHANGE_IN_SYNC", type := (.object "com/example/mirrored_message_log/mirroredmessagelog/protocol/ApiKey"), accessFlags := 16409, slot := 18, constantValue := 0 }, { name := "EPOCH_END", type := (.object "com/example/mirrored_message_log/mirroredmessagelog/protocol/ApiKey"), accessFlags := 16409, slot := 19, constantValue := 0 }, { name := "ALLOCATE_PRODUCER_IDS", type := (.object "com/example/mirrored_message_log/mirroredmessagelog/protocol/ApiKey"), accessFlags := 16409, slot := 20, constantValue := 0 }, { name := "MEMBER_CHALLENGE", type := (.object "com/example/mirrored_message_log/mirroredmessagelog/protocol/ApiKey"), accessFlags := 16409, slot := 21, constantValue := 0 }, { name := "MEMBER_PROOF", type := (.object "com/example/mirrored_message_log/mirroredmessagelog/protocol/ApiKey"), accessFlags := 16409, slot := 22, constantValue := 0 }, { name := "READ_STATE", type := (.object "com/example/mirrored_message_log/mirroredmessagelog/protocol/ApiKey"), accessFlags := 16409, slot := 23, constantValue := 0 }, { name := "key", type := .short, accessFlags := 18, slot := 3, constantValue := 0 }, { name := "minVersion", type := .short, accessFlags := 18, slot := 4, constantValue := 0 }, { name := "maxVersion", type := .short, accessFlags := 18, slot := 5, constantValue := 0 }, { name := "firstFlexibleVersion", type := .short, accessFlags := 18, slot := 6, constantValue := 0 }, { name := "sender", type := (.object "com/example/mirrored_message_log/mirroredmessagelog/protocol/ApiKey$Sender"), accessFlags := 18, slot := 7, constantValue := 0 }, { name := "$VALUES", type := (.array (.object "com/example/mirrored_message_log/mirroredmessagelog/protocol/ApiKey")), accessFlags := 4122, slot := 24, constantValue := 0 }]
  methods := #[k6m0]
  instanceTypes := #[(.object "java/lang/String"), .int, .int, .short, .short, .short, .short, (.object "com/example/mirrored_message_log/mirroredmessagelog/protocol/ApiKey$Sender")]
  staticTypes := #[(.object "com/example/mirrored_message_log/mirroredmessagelog/protocol/ApiKey"), (.object "com/example/mirrored_message_log/mirroredmessagelog/protocol/ApiKey"), (.object "com/example/mirrored_message_log/mirroredmessagelog/protocol/ApiKey"), (.object "com/example/mirrored_message_log/mirroredmessagelog/protocol/ApiKey"), (.object "com/example/mirrored_message_log/mirroredmessagelog/protocol/ApiKey"), (.object "com/example/mirrored_message_log/mirroredmessagelog/protocol/ApiKey"), (.object "com/example/mirrored_message_log/mirroredmessagelog/protocol/ApiKey"), (.object "com/example/mirrored_message_log/mirroredmessagelog/protocol/ApiKey"), (.object "com/example/mirrored_message_log/mirroredmessagelog/protocol/ApiKey"), (.object "com/example/mirrored_message_log/mirroredmessagelog/protocol/ApiKey"), (.object "com/example/mirrored_message_log/mirroredmessagelog/protocol/ApiKey"), (.object "com/example/mirrored_message_log/mirroredmessagelog/protocol/ApiKey"), (.object "com/example/mirrored_message_log/mirroredmessagelog/protocol/ApiKey"), (.object "com/example/mirrored_message_log/mirroredmessagelog/protocol/ApiKey"), (.object "com/example/mirrored_message_log/mirroredmessagelog/protocol/ApiKey"), (.object "com/example/mirrored_message_log/mirroredmessagelog/protocol/ApiKey"), (.object "com/example/mirrored_message_log/mirroredmessagelog/protocol/ApiKey"), (.object "com/example/mirrored_message_log/mirroredmessagelog/protocol/ApiKey"), (.object "com/example/mirrored_message_log/mirroredmessagelog/protocol/ApiKey"), (.object "com/example/mirrored_message_log/mirroredmessagelog/protocol/ApiKey"), (.object "com/example/mirrored_message_log/mirroredmessagelog/protocol/ApiKey"), (.object "com/example/mirrored_message_log/mirroredmessagelog/protocol/ApiKey"), (.object "com/example/mirrored_message_log/mirroredmessagelog/protocol/ApiKey"), (.object "com/example/mirrored_message_log/mirroredmessagelog/protocol/ApiKey"), (.array (.object "com/example/mirrored_message_log/mirroredmessagelog/protocol/ApiKey"))]
  resolved := Array.replicate 200 none
  statics := some 0 }

def pool7 : Array CpInfo := pool [(1, u "java/lang/Cloneable"), (0, .class_ 1), (0, u "java/lang/Object"), (0, .class_ 3)] 3

/-- java/lang/Cloneable -/
def k7 : Class := { plain "java/lang/Cloneable" (some 0) with
  accessFlags := 1537
  interfaces := #[]
  cf := some (fileOf pool7 2 #[] #[] 1537 4 #[] #[])
  fields := #[]
  methods := #[]
  instanceTypes := #[]
  staticTypes := #[]
  resolved := Array.replicate 8 none
  statics := none }

/-- the primitive byte -/
def k8 : Class := { plain "byte" none with kind := .primitive 'B', accessFlags := 0x411 }
/-- [B -/
def k9 : Class := { plain "[B" (some 0) with kind := .array 8 .byte, interfaces := #[7, 4], accessFlags := 1041 }

/-- the primitive int -/
def k10 : Class := { plain "int" none with kind := .primitive 'I', accessFlags := 0x411 }
/-- [I -/
def k11 : Class := { plain "[I" (some 0) with kind := .array 10 .int, interfaces := #[7, 4], accessFlags := 1041 }

/-- [Lcom/example/mirrored_message_log/mirroredmessagelog/protocol/ApiKey; -/
def k12 : Class := { plain "[Lcom/example/mirrored_message_log/mirroredmessagelog/protocol/ApiKey;" (some 0) with kind := .array 6 (.object "com/example/mirrored_message_log/mirroredmessagelog/protocol/ApiKey"), interfaces := #[7, 4], accessFlags := 1041 }

def heap : Heap := #[{ cls := 6, slots := #[.ref 1, .ref 2, .ref 3, .ref 4, .ref 5, .ref 6, .ref 7, .ref 8, .ref 9, .ref 10, .ref 11, .ref 12, .ref 13, .ref 14, .ref 15, .ref 16, .ref 17, .ref 18, .ref 19, .ref 20, .ref 21, .ref 22, .ref 23, .ref 24, .null], vm := .statics 6 },
  { cls := 6, slots := #[.null, .int 0, .int 0, .int 0, .int 0, .int 7, .int 0, .null], vm := .none },
  { cls := 6, slots := #[.null, .int 0, .int 0, .int 0, .int 4, .int 11, .int 0, .null], vm := .none },
  { cls := 6, slots := #[.null, .int 0, .int 0, .int 0, .int 1, .int 2, .int 0, .null], vm := .none },
  { cls := 6, slots := #[.null, .int 0, .int 0, .int 0, .int 0, .int 4, .int 0, .null], vm := .none },
  { cls := 6, slots := #[.null, .int 0, .int 0, .int 0, .int 2, .int 7, .int 0, .null], vm := .none },
  { cls := 6, slots := #[.null, .int 0, .int 0, .int 0, .int 1, .int 5, .int 0, .null], vm := .none },
  { cls := 6, slots := #[.null, .int 0, .int 0, .int 0, .int 0, .int 2, .int 0, .null], vm := .none },
  { cls := 6, slots := #[.null, .int 0, .int 0, .int 0, .int 0, .int 5, .int 0, .null], vm := .none },
  { cls := 6, slots := #[.null, .int 0, .int 0, .int 0, .int 0, .int 3, .int 0, .null], vm := .none },
  { cls := 6, slots := #[.null, .int 0, .int 0, .int 0, .int 0, .int 1, .int 0, .null], vm := .none },
  { cls := 6, slots := #[.null, .int 0, .int 0, .int 0, .int 0, .int 3, .int 0, .null], vm := .none },
  { cls := 6, slots := #[.null, .int 0, .int 0, .int 0, .int 0, .int 2, .int 0, .null], vm := .none },
  { cls := 6, slots := #[.null, .int 0, .int 0, .int 0, .int 0, .int 2, .int 0, .null], vm := .none },
  { cls := 6, slots := #[.null, .int 0, .int 0, .int 0, .int 0, .int 3, .int 0, .null], vm := .none },
  { cls := 6, slots := #[.null, .int 0, .int 0, .int 0, .int 2, .int 4, .int 0, .null], vm := .none },
  { cls := 6, slots := #[.null, .int 0, .int 0, .int 0, .int 0, .int 3, .int 0, .null], vm := .none },
  { cls := 6, slots := #[.null, .int 0, .int 0, .int 0, .int 0, .int 1, .int 0, .null], vm := .none },
  { cls := 6, slots := #[.null, .int 0, .int 0, .int 0, .int 4, .int 4, .int 0, .null], vm := .none },
  { cls := 6, slots := #[.null, .int 0, .int 0, .int 0, .int 1, .int 1, .int 0, .null], vm := .none },
  { cls := 6, slots := #[.null, .int 0, .int 0, .int 0, .int 0, .int 0, .int 0, .null], vm := .none },
  { cls := 6, slots := #[.null, .int 0, .int 0, .int 0, .int 0, .int 0, .int 0, .null], vm := .none },
  { cls := 6, slots := #[.null, .int 0, .int 0, .int 0, .int 0, .int 0, .int 0, .null], vm := .none },
  { cls := 6, slots := #[.null, .int 0, .int 0, .int 0, .int 0, .int 0, .int 0, .null], vm := .none },
  { cls := 6, slots := #[.null, .int 0, .int 0, .int 0, .int 2, .int 2, .int 0, .null], vm := .none }]
def classes : Array Class := #[k0, k1, k2, k3, k4, k5, k6, k7, k8, k9, k10, k11, k12]
def interned : List (Array UInt16 × Addr) := []
def slotsUsed : Nat := 217
def theMethod : MethodId := ⟨1, 1⟩
def args0 : Array Value := #[.int 5, .int 3]
def aboutOver (below : List Frame) : State where
  vm := { classes := classes, interned := interned.toArray }
  heap := heap
  slotsUsed := slotsUsed
  threads := #[{ frames := .invoking theMethod args0 :: below }]
def below0 : List Frame := [.native { method := ⟨0, 0⟩, args := #[] }]
def about1 : State := aboutOver below0
def p0 : Program := .bare "" "" ""
def e0 : Env := launch0.env 0 0 0
theorem w_frames : about1.frames = Frame.invoking theMethod args0 :: below0 := rfl
set_option maxRecDepth 65536 in
theorem w_args : argsFit about1.vm theMethod args0 = true := by decide +kernel
set_option maxRecDepth 65536 in
theorem w_heap : heapFits about1 = true := by decide +kernel
set_option maxRecDepth 65536 in
theorem w_runnable : about1.curStatus? = some .runnable := by decide +kernel
set_option maxRecDepth 65536 in
theorem w_alone : about1.alone = true := by decide +kernel
set_option maxRecDepth 65536 in
theorem w_named : about1.methodNamed? x = some theMethod := by decide +kernel
set_option maxRecDepth 65536 in
theorem w_hears : about1.hears theMethod below0 = true := by decide +kernel
set_option maxRecDepth 65536 in
theorem w_ripe : about1.ripe theMethod args0 below0 = true := by decide +kernel
theorem w_running : about1.status = .running := rfl
set_option maxRecDepth 65536 in
theorem w_room : about1.hasRoom e0.platform room_1 = true :=
  launch0.hasRoom_least _ room_1 (by decide +kernel) (by decide +kernel) (by decide +kernel) (by decide +kernel) (by decide +kernel) (by decide +kernel)
theorem allAtoms_all (ts : List Jvm.Cond) (a : Array Jvm.Value) (st : Jvm.State) : (allAtoms ts).before a st = ts.all (fun c => c.before a st) := by
  induction ts with
  | nil => rfl
  | cons c t ih =>
    show (Jvm.Cond.and c (allAtoms t)).before a st = _
    rw [Jvm.Cond.before_and, ih, List.all_cons]
def words1 : List Jvm.Cond := Jvm.Cond.code x code maxLocals ret :: tables_1
/-- a 'code' word, met by the world's own term for the bytes: nothing is compared byte by byte -/
theorem code_word {y : MethodName} {bytes : ByteArray} {mx : Nat} {rt : Option FieldType} {a : Array Value} {s : State} {m : MethodId} {meth : Method} {c : Code} (h1 : s.methodNamed? y = some m) (h2 : s.vm.method? m = some meth) (h3 : meth.code = some c) (h4 : c.code = bytes)
    (h5 : (c.maxLocals == mx && c.exceptionTable.isEmpty && decide (c.maxStack ≤ mostOperands) && decide (meth.sig.returnType = rt) && !meth.locks && decide (parseMethodDescriptor y.desc = some meth.sig)) = true) : (Jvm.Cond.code y bytes mx rt).before a s = true := by
  simp only [Bool.and_eq_true, beq_iff_eq, Bool.not_eq_true', decide_eq_true_eq] at h5
  obtain ⟨⟨⟨⟨⟨g1, g2⟩, g3⟩, g4⟩, g5⟩, g6⟩ := h5
  simp [Cond.before, Cond.holds, Cond.value, h1, h2, h3, h4, g1, g2, g3, g4, g5, g6]
def isCode : Jvm.Cond → Bool
  | .code _ _ _ _ => true
  | _ => false
theorem all_split {L : List Jvm.Cond} {P : Jvm.Cond → Bool} (h1 : L.all (fun c => isCode c || P c) = true) (h2 : ∀ c ∈ L.filter isCode, P c = true) : L.all P = true := by
  refine List.all_eq_true.mpr fun c hc => ?_
  have h := List.all_eq_true.mp h1 c hc
  rcases Bool.eq_false_or_eq_true (isCode c) with hi | hi
  · exact h2 c (List.mem_filter.mpr ⟨hc, hi⟩)
  · simpa [hi] using h
set_option maxRecDepth 65536 in
theorem w_c0 : (Jvm.Cond.code x code maxLocals ret).before args0 about1 = true := code_word (m := ⟨1, 1⟩) (meth := k1m1) (c := k1c1) (by decide +kernel) rfl rfl rfl (by decide +kernel)
set_option maxRecDepth 65536 in
theorem w_c1 : (Jvm.Cond.code ({ cls := "com/example/mirrored_message_log/mirroredmessagelog/protocol/ApiKey", name := "serves", desc := "(S)Z" } : Jvm.MethodName) prog_18_method_6_code (2 : Nat) (Option.some Jvm.ClassFile.FieldType.boolean)).before args0 about1 = true := code_word (m := ⟨6, 0⟩) (meth := k6m0) (c := k6c0) (by decide +kernel) rfl rfl rfl (by decide +kernel)
def codes1 : List Jvm.Cond := [Jvm.Cond.code x code maxLocals ret, Jvm.Cond.code ({ cls := "com/example/mirrored_message_log/mirroredmessagelog/protocol/ApiKey", name := "serves", desc := "(S)Z" } : Jvm.MethodName) prog_18_method_6_code (2 : Nat) (Option.some Jvm.ClassFile.FieldType.boolean)]
set_option maxRecDepth 65536 in
theorem codes_eq : words1.filter isCode = codes1 := rfl
theorem w_codes : ∀ c ∈ words1.filter isCode, c.before args0 about1 = true := by
  rw [codes_eq]
  intro c hc
  simp only [codes1, List.mem_cons, List.not_mem_nil, or_false] at hc
  rcases hc with rfl | rfl
  · exact w_c0
  · exact w_c1
set_option maxRecDepth 65536 in
theorem w_t1 : (words1.take 24).all (fun c => isCode c || c.before args0 about1) = true := by decide +kernel
set_option maxRecDepth 65536 in
theorem w_t2 : ((words1.drop 24).take 24).all (fun c => isCode c || c.before args0 about1) = true := by decide +kernel
set_option maxRecDepth 65536 in
theorem w_t3 : ((words1.drop 24).drop 24).all (fun c => isCode c || c.before args0 about1) = true := by decide +kernel
theorem w_tables : (allAtoms (Jvm.Cond.code x code maxLocals ret :: tables_1)).before args0 about1 = true := by
  rw [allAtoms_all]
  show words1.all (fun c => c.before args0 about1) = true
  refine all_split ?_ w_codes
  rw [← List.take_append_drop 24 words1, List.all_append, w_t1, ← List.take_append_drop 24 (words1.drop 24), List.all_append, w_t2, w_t3]
  rfl
set_option maxRecDepth 65536 in
theorem w_case : (Jvm.Cond.and given_1 narrow_1).before args0 about1 = true := by decide +kernel
theorem w_applies : (headSpec (Jvm.Cond.code x code maxLocals ret :: tables_1) room_1).applies x e0.platform about1 = true :=
  (Spec.applies_iff w_frames).mpr ⟨w_running, w_runnable, w_alone, w_named, w_hears, w_ripe, w_room, w_tables⟩
theorem atStart : AtStart classFile x code maxLocals ret World_1 tables_1 room_1 Calls_1 rest_1 Pre_1 launch0 p0 e0 about1 theMethod args0 below0 :=
  ⟨lists_1, trivial, launch0.admits_env _ _ _, launch0.least_env, fairChoices_fair.cas, fairChoices_fair.clock, w_frames, w_args, w_heap, w_applies, trivial, trivial, w_case⟩
end start1
theorem witness_1 : WitnessClaimed_1 := ⟨start1.p0, start1.e0, start1.about1, start1.theMethod, start1.args0, start1.below0, start1.atStart⟩
end Jvm.Pilot.@@N@@
