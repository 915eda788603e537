import JvmDerived
import JvmDerived.Pilot.@@N@@Statement
import JvmDerived.Pilot.@@N@@Code
set_option linter.unusedVariables false
set_option linter.unusedSimpArgs false
@@BLOCK:NumsL.lean.txt@@
namespace Jvm.Own
open Sem ClassFile Op Lib Jvm.Stand Jvm.Free Jvm.LawKit Jvm.RoadKit
/-! a list of owned cells (all made since the start), each with what it holds; the start's own heap stays as it was -/
abbrev FK := String × String × String
abbrev Fs := List (FK × Value)
abbrev Rec := (String × Fs) ⊕ (FieldType × List Value × Bool)
abbrev Ent := Addr × Rec
def slK (Z : State) (k : FK) : Nat := RoadKit.slotOf Z k.1 k.2.1 k.2.2
def Hold (Z : State) (h : Heap) (a : Addr) : Rec → Prop
  | .inl (C, fs) => Exa Z h a C ∧ (∀ (i : Nat) (f : FK × Value), fs[i]? = some f → Fld Z h a f.1.1 f.1.2.1 f.1.2.2 f.2) ∧ (fs.map fun f => slK Z f.1).Nodup
  | .inr (ty, vs, b) => ∃ c : Cell, Arr Z h a c ty ∧ c.slots.toList = vs ∧ (b = true → ∀ C, ty = .object C → Ovr Z c.cls C)
def Rep (Z : State) (h : Heap) (M : List Ent) : Prop := Ext Z.heap h ∧ (∀ (i : Nat) (x : Ent), M[i]? = some x → Z.heap.size ≤ x.1 ∧ Hold Z h x.1 x.2) ∧ (M.map fun x => x.1).Nodup
section Facts
variable {Z : State} {h h' : Heap} {a b : Addr} {sl k j : Nat} {v w : Value} {r : Rec} {M : List Ent} {C : String} {fs : Fs} {f : FK}
theorem Hold.other (W : Wr h h' a sl v) (H : Hold Z h b r) (hne : b ≠ a) : Hold Z h' b r := by
  rcases r with ⟨C, fs⟩ | ⟨ty, vs, b'⟩
  · exact ⟨H.1.wr W, fun i f hf => (H.2.1 i f hf).other W (Or.inl hne), H.2.2⟩
  · obtain ⟨c, A, q⟩ := H
    exact ⟨c, A.other W hne, q⟩
theorem Hold.ext (E : Ext h h') (H : Hold Z h b r) : Hold Z h' b r := by
  rcases r with ⟨C, fs⟩ | ⟨ty, vs, b'⟩
  · exact ⟨H.1.ext E, fun i f hf => (H.2.1 i f hf).ext E, H.2.2⟩
  · obtain ⟨c, A, q⟩ := H
    exact ⟨c, A.ext E, q⟩
theorem Hold.lt (H : Hold Z h b r) : b < h.size := by
  rcases r with ⟨C, fs⟩ | ⟨ty, vs, b'⟩
  · exact H.1.lt
  · obtain ⟨c, A, q⟩ := H
    exact A.lt
theorem nd_inj {α : Type} {L : List α} (hn : L.Nodup) {i j : Nat} {x : α} (h1 : L[i]? = some x) (h2 : L[j]? = some x) : i = j :=
  (List.getElem?_inj (List.getElem?_eq_some_iff.mp h1).1 hn).mp (h1.trans h2.symm)
theorem Rep.inj (R : Rep Z h M) {i j : Nat} {x y : Ent} (h1 : M[i]? = some x) (h2 : M[j]? = some y) (e : x.1 = y.1) : i = j :=
  nd_inj (x := x.1) R.2.2 (by rw [List.getElem?_map, h1]; rfl) (by rw [List.getElem?_map, h2, e]; rfl)
theorem Rep.ne (R : Rep Z h M) {i j : Nat} {x y : Ent} (h1 : M[i]? = some x) (h2 : M[j]? = some y) (e : i ≠ j) : x.1 ≠ y.1 := fun q => e (R.inj h1 h2 q)
theorem Rep.fresh (R : Rep Z h M) {i : Nat} {x : Ent} (h1 : M[i]? = some x) : Z.heap.size ≤ x.1 := (R.2.1 i x h1).1
theorem map_set_same {α β : Type} {g : α → β} {L : List α} {x y : α} (h1 : L[k]? = some x) (e : g y = g x) : (L.set k y).map g = L.map g := by
  apply List.ext_getElem?
  intro i
  simp only [List.getElem?_map, List.getElem?_set]
  by_cases q : k = i
  · subst q
    obtain ⟨hl, hx⟩ := List.getElem?_eq_some_iff.mp h1
    simp [hl, e, h1, hx]
  · simp [q]
theorem Rep.wrote (R : Rep Z h M) (hk : M[k]? = some (a, r)) (W : Wr h h' a sl v) {r' : Rec} (H : Hold Z h' a r') : Rep Z h' (M.set k (a, r')) := by
  have ha := R.fresh hk
  refine ⟨(Old.wr ⟨rfl, R.1⟩ W ha).2, fun i x hx => ?_, ?_⟩
  · rw [List.getElem?_set] at hx
    by_cases q : k = i
    · subst q
      rw [if_pos rfl] at hx
      split at hx
      · cases hx
        exact ⟨ha, H⟩
      · cases hx
    · rw [if_neg q] at hx
      have g := R.2.1 i x hx
      exact ⟨g.1, g.2.other W (R.ne hx hk (Ne.symm q))⟩
  · rw [map_set_same (g := fun x : Ent => x.1) (y := (a, r')) hk rfl]
    exact R.2.2
theorem Hold.put (H : Hold Z h a (.inl (C, fs))) (hj : fs[j]? = some (f, w)) (W : Wr h h' a (slK Z f) v) : Hold Z h' a (.inl (C, fs.set j (f, v))) := by
  refine ⟨H.1.wr W, fun i x hx => ?_, ?_⟩
  · rw [List.getElem?_set] at hx
    by_cases q : j = i
    · subst q
      rw [if_pos rfl] at hx
      split at hx
      · cases hx
        exact (H.2.1 _ _ hj).same W
      · cases hx
    · rw [if_neg q] at hx
      refine (H.2.1 i x hx).other W (Or.inr fun e => q ?_)
      exact nd_inj (x := slK Z f) H.2.2 (by rw [List.getElem?_map, hj]; rfl) (by rw [List.getElem?_map, hx]; exact congrArg some e)
  · rw [map_set_same (g := fun f : FK × Value => slK Z f.1) (y := (f, v)) hj rfl]
    exact H.2.2
theorem Hold.store {ty : FieldType} {vs : List Value} {b : Bool} (H : Hold Z h a (.inr (ty, vs, b))) (W : Wr h h' a j v) : Hold Z h' a (.inr (ty, vs.set j v, b)) := by
  obtain ⟨c, A, q, o⟩ := H
  refine ⟨_, A.same W, ?_, o⟩
  simp [Cell.setSlot, ← q]
theorem Rep.new (R : Rep Z h M) (E : Ext h h') (hs : a = h.size) {r : Rec} (H : Hold Z h' a r) : Rep Z h' ((a, r) :: M) := by
  refine ⟨(Old.ext ⟨rfl, R.1⟩ E).2, fun i x hx => ?_, ?_⟩
  · rcases i with _ | i
    · cases hx
      exact ⟨by rw [hs]; exact R.1.1, H⟩
    · have g := R.2.1 i x hx
      exact ⟨g.1, g.2.ext E⟩
  · rw [List.map_cons, List.nodup_cons]
    refine ⟨fun m => ?_, R.2.2⟩
    obtain ⟨x, hx, e⟩ := List.mem_map.mp m
    obtain ⟨i, hi⟩ := List.mem_iff_getElem?.mp hx
    have hlt := (R.2.1 i x hi).2.lt
    have e : x.1 = a := e
    rw [e, hs] at hlt
    exact Nat.lt_irrefl _ hlt
theorem nd_pick {α : Type} {N : List α} (hn : N.Nodup) (n : Nat) (idx : List Nat) (h1 : idx.Nodup) (h2 : ∀ i ∈ idx, i < n) : (idx.filterMap (fun i => N[i]?) ++ N.drop n).Nodup := by
  rw [List.nodup_append]
  refine ⟨?_, hn.sublist (List.drop_sublist n N), ?_⟩
  · refine List.Pairwise.filterMap (fun i => N[i]?) ?_ h1
    intro i j hij x hx y hy e
    subst e
    exact hij (nd_inj hn hx hy)
  · intro x hx y hy e
    subst e
    obtain ⟨i, hi, hx⟩ := List.mem_filterMap.mp hx
    obtain ⟨j, hj⟩ := List.mem_iff_getElem?.mp hy
    rw [List.getElem?_drop] at hj
    have := nd_inj hn hx hj
    have := h2 i hi
    omega
theorem Rep.pick (R : Rep Z h M) (n : Nat) (idx : List Nat) (h1 : idx.Nodup) (h2 : ∀ i ∈ idx, i < n) : Rep Z h (idx.filterMap (fun i => M[i]?) ++ M.drop n) := by
  refine ⟨R.1, fun i x hx => ?_, ?_⟩
  · have hm := List.mem_of_getElem? hx
    rcases List.mem_append.mp hm with q | q
    · obtain ⟨j, -, hj⟩ := List.mem_filterMap.mp q
      exact R.2.1 j x hj
    · obtain ⟨j, hj⟩ := List.mem_iff_getElem?.mp (List.mem_of_mem_drop q)
      exact R.2.1 j x hj
  · have := nd_pick R.2.2 n idx h1 h2
    rw [List.map_append, List.map_drop, List.map_filterMap]
    simpa [List.getElem?_map] using this
theorem Rep.fld {O nm d : String} (R : Rep Z h M) (k j : Nat) (hk : M[k]? = some (a, .inl (C, fs))) (hj : fs[j]? = some ((O, nm, d), v)) : Fld Z h a O nm d v := (R.2.1 k _ hk).2.2.1 j _ hj
theorem Rep.exa (R : Rep Z h M) (k : Nat) (hk : M[k]? = some (a, .inl (C, fs))) : Exa Z h a C := (R.2.1 k _ hk).2.1
end Facts
theorem wd {L : List Cond} {a0 : Array Value} {Z : State} {d : Cond} (hw : ∀ d ∈ L, d.before a0 Z = true) (i : Nat) (h : L[i]? = some d) : d.before a0 Z = true := hw d (List.mem_of_getElem? h)
/-! the walk -/
abbrev E0 := Program × Env × State × MethodId × Array Value × List Frame × Method × Code
def Cx (Z : State) (y : MethodName) (code : ByteArray) (maxL : Nat) (ret : Option FieldType) (E : E0) : Prop :=
  E.1.tables.exec = Jvm.exec ∧ Z.Warmed39 E.2.2.1.vm ∧ E.2.2.1.vm.findClass y.cls = some E.2.2.2.1.cls ∧ E.2.2.2.2.2.2.2.code = code ∧ E.2.2.2.2.2.2.2.maxLocals = maxL ∧ E.2.2.2.2.2.2.1.sig.returnType = ret ∧ E.2.2.2.2.2.2.1.locks = false ∧ E.2.2.2.2.2.2.1.name = y.name
abbrev PQ := Option Value → List Ent → Prop
def StE (l : Launch) (R : Room) (E : E0) (T : State) (locs : List Loc) (k n : Nat) : Prop :=
  Stand E.1 l E.2.1 R E.2.2.1 E.2.2.2.1 E.2.2.2.2.1 E.2.2.2.2.2.1 E.2.2.2.2.2.2.1 E.2.2.2.2.2.2.2 T locs k n
def Go (l : Launch) (Z : State) (R : Room) (E : E0) (Q : PQ) (M : List Ent) (k n pc : Nat) (Ls : Array Slot) (st : List Value) : Prop :=
  ∀ T locs, StE l R E T locs k n → Fr Z.heap.size locs → Rep Z T.heap M →
    ∃ s₂ v L, Steps E.1.tables E.2.1 E.2.2.2.2.2.1 (T.setTop (mkF E.2.2.2.1 pc Ls st)) s₂ ∧ s₂.status = .running ∧ Ended s₂ E.2.2.2.2.2.1 (.returned v) ∧ Fr Z.heap.size L ∧ (∃ M', Q v M' ∧ Rep Z s₂.heap M') ∧ FrameEnd E.2.2.1 (.returned v) s₂ L R.cells R.slots
def Met (l : Launch) (Z : State) (y : MethodName) (bytes : ByteArray) (maxL : Nat) (ret : Option FieldType) (rm : Room) (as : Array Value) (M : List Ent) (Q : PQ) : Prop :=
  ∀ (ws : List Cond) (h : Heap), Rep Z h M → MetFree l y (head1 (Cond.code y bytes maxL ret :: ws) rm) (fun a U => a = as ∧ Z.Warmed39 U.vm ∧ U.heap = h) (fun _ _ _ _ _ => True) (fun _ U o U' => ∃ v L, o = .returned v ∧ (Fr Z.heap.size L ∧ ∃ M', Q v M' ∧ Rep Z U'.heap M') ∧ FrameEnd U o U' L rm.cells rm.slots)
theorem Met.of_go {l : Launch} {Z : State} {y : MethodName} {bytes : ByteArray} {maxL : Nat} {ret : Option FieldType} {rm : Room} {as : Array Value} {M : List Ent} {Q : PQ} {Ls : Array Slot} (hp : plainFor y = true) (hef : ∀ m, entryFrame m as maxL = mkF m 0 Ls [])
    (H : ∀ E, Cx Z y bytes maxL ret E → Go l Z rm E Q M 0 0 0 Ls []) : Met l Z y bytes maxL ret rm as M Q := by
  intro ws h r
  refine MetFree.of_bodySF hp hisR ?_
  intro p e s m args below meth c s₁ Bd hml0 hP hK
  obtain ⟨rfl, hZ, hh⟩ := hP
  have X0 : Stand p l e rm s m args below meth c s₁ [] 0 0 := Stand.of_body Bd
  have e0 : s₁.heap = h := by rw [← hh, Bd.state]; rfl
  obtain ⟨s₂, v, L, h1, h2, h3, h4, h5, h6⟩ := H (p, e, s, m, args, below, meth, c) ⟨Bd.exec, hZ, findClass_of_methodNamed Bd.named, Bd.bytes, hml0, Bd.returns, Bd.notSynchronized, (name_of_methodNamed Bd.named Bd.method).1⟩ s₁ [] X0 (Fr.nil _) (by rw [e0]; exact r)
  exact ⟨s₂, .returned v, castTop (hef m) h1, h2, h3, v, L, rfl, ⟨h4, h5⟩, h6⟩
theorem Met.mono {l : Launch} {Z : State} {y : MethodName} {bytes : ByteArray} {maxL : Nat} {ret : Option FieldType} {rm : Room} {as : Array Value} {M : List Ent} {Q Q' : PQ} (H : Met l Z y bytes maxL ret rm as M Q) (hq : ∀ v M', Q v M' → Q' v M') : Met l Z y bytes maxL ret rm as M Q' := by
  intro ws h r p e ha hc hk s m args below hf happ hP hK
  obtain ⟨n, o, h1, h2, h3, v, L, h4, ⟨h5, M', h6, h7⟩, h8⟩ := H ws h r p e ha hc hk s m args below hf happ hP hK
  exact ⟨n, o, h1, h2, h3, v, L, h4, ⟨h5, M', hq _ _ h6, h7⟩, h8⟩
section Walk
variable {l : Launch} {Z : State} {R : Room} {E : E0} {Q : PQ} {M : List Ent} {k n pc q : Nat} {Ls Ls' : Array Slot} {st : List Value} {x : MethodName} {code : ByteArray} {maxL : Nat} {ret : Option FieldType} {a0 : Array Value}
theorem Go.plain {q : Nat} {Ls' : Array Slot} {st' : List Value} (hr : Go l Z R E Q M k n q Ls' st')
    (hs : ∀ T locs t, StE l R E T locs k n → Steps E.1.tables E.2.1 E.2.2.2.2.2.1 (T.setTop (mkF E.2.2.2.1 q Ls' st')) t → Steps E.1.tables E.2.1 E.2.2.2.2.2.1 (T.setTop (mkF E.2.2.2.1 pc Ls st)) t) : Go l Z R E Q M k n pc Ls st := by
  intro T locs X F r
  obtain ⟨s₂, v, L, h1, h2⟩ := hr T locs X F r
  exact ⟨s₂, v, L, hs _ _ _ X h1, h2⟩
theorem Go.rep {M' : List Ent} (h : ∀ h, Rep Z h M → Rep Z h M') (hr : Go l Z R E Q M' k n pc Ls st) : Go l Z R E Q M k n pc Ls st := fun T locs X F r => hr T locs X F (h _ r)
theorem Go.know {P : Prop} (h : ∀ h, Rep Z h M → P) (hr : P → Go l Z R E Q M k n pc Ls st) : Go l Z R E Q M k n pc Ls st := fun T locs X F r => hr (h _ r) T locs X F r
theorem Go.more {k' n' : Nat} (hk : k ≤ k') (hn : n ≤ n') (hr : Go l Z R E Q M k' n' pc Ls st) : Go l Z R E Q M k n pc Ls st := fun T locs X F r => hr T locs (X.more hk hn) F r
theorem Go.pick {M' : List Ent} (i : Nat) (idx : List Nat) (h1 : idx.Nodup) (h2 : ∀ j ∈ idx, j < i) (hM : idx.filterMap (fun i => M[i]?) ++ M.drop i = M') (hr : Go l Z R E Q M' k n pc Ls st) : Go l Z R E Q M k n pc Ls st :=
  Go.rep (fun _ r => hM ▸ r.pick i idx h1 h2) hr
theorem Go.joinI {q : Nat} {Ls' : Array Slot} {st' : List Value} (v : Int32) (hJ : Go l Z R E Q M k n q Ls' (.int v :: st')) (hr : (∀ c : Int32, c = v → Go l Z R E Q M k n q Ls' (.int c :: st')) → Go l Z R E Q M k n pc Ls st) : Go l Z R E Q M k n pc Ls st := hr fun c e => e ▸ hJ
theorem Go.joinJ {q : Nat} {Ls' : Array Slot} {st' : List Value} (v : Int64) (hJ : Go l Z R E Q M k n q Ls' (.long v :: st')) (hr : (∀ c : Int64, c = v → Go l Z R E Q M k n q Ls' (.long c :: st')) → Go l Z R E Q M k n pc Ls st) : Go l Z R E Q M k n pc Ls st := hr fun c e => e ▸ hJ
theorem Go.joinW {q : Nat} {Ls' : Array Slot} {st' : List Value} (hJ : Go l Z R E Q M k n q Ls' st') (hr : Go l Z R E Q M k n q Ls' st' → Go l Z R E Q M k n pc Ls st) : Go l Z R E Q M k n pc Ls st := hr hJ
theorem Go.castI {u w : Int32} (h : u = w) (hr : Go l Z R E Q M k n pc Ls (.int w :: st)) : Go l Z R E Q M k n pc Ls (.int u :: st) := h ▸ hr
theorem Go.castJ {u w : Int64} (h : u = w) (hr : Go l Z R E Q M k n pc Ls (.long w :: st)) : Go l Z R E Q M k n pc Ls (.long u :: st) := h ▸ hr
/-! plain steps -/
theorem Go.aloadN (C : Cx Z x code maxL ret E) {j : Fin 4} {v : Value} (hd : decode code pc = .ok (.aload_n j, 1)) (hq : pc + 1 = q) (hl : Ls[j.val]? = some (.val v)) (hv : v.isRef = true) (hr : Go l Z R E Q M k n q Ls (v :: st)) : Go l Z R E Q M k n pc Ls st :=
  Go.plain hr fun _ _ _ X s => XS.aloadN X.here C.1 rfl (hb C.2.2.2.1 hd) hl hv (hq ▸ s)
theorem Go.aload (C : Cx Z x code maxL ret E) {j : Nat} {v : Value} (hd : decode code pc = .ok (.aload j, 2)) (hq : pc + 2 = q) (hl : Ls[j]? = some (.val v)) (hv : v.isRef = true) (hr : Go l Z R E Q M k n q Ls (v :: st)) : Go l Z R E Q M k n pc Ls st :=
  Go.plain hr fun _ _ _ X s => XS.aload X.here C.1 rfl (hb C.2.2.2.1 hd) hl hv (hq ▸ s)
theorem Go.iloadN (C : Cx Z x code maxL ret E) {j : Fin 4} {v : Int32} (hd : decode code pc = .ok (.iload_n j, 1)) (hq : pc + 1 = q) (hl : Ls[j.val]? = some (.val (.int v))) (hr : Go l Z R E Q M k n q Ls (.int v :: st)) : Go l Z R E Q M k n pc Ls st :=
  Go.plain hr fun _ _ _ X s => XS.iloadN X.here C.1 rfl (hb C.2.2.2.1 hd) hl (hq ▸ s)
theorem Go.iload (C : Cx Z x code maxL ret E) {j : Nat} {v : Int32} (hd : decode code pc = .ok (.iload j, 2)) (hq : pc + 2 = q) (hl : Ls[j]? = some (.val (.int v))) (hr : Go l Z R E Q M k n q Ls (.int v :: st)) : Go l Z R E Q M k n pc Ls st :=
  Go.plain hr fun _ _ _ X s => XS.iload X.here C.1 rfl (hb C.2.2.2.1 hd) hl (hq ▸ s)
theorem Go.lloadN (C : Cx Z x code maxL ret E) {j : Fin 4} {v : Int64} (hd : decode code pc = .ok (.lload_n j, 1)) (hq : pc + 1 = q) (hl : Ls[j.val]? = some (.val (.long v))) (hr : Go l Z R E Q M k n q Ls (.long v :: st)) : Go l Z R E Q M k n pc Ls st :=
  Go.plain hr fun _ _ _ X s => XT.lloadN X.here C.1 rfl (hb C.2.2.2.1 hd) hl (hq ▸ s)
theorem Go.lload (C : Cx Z x code maxL ret E) {j : Nat} {v : Int64} (hd : decode code pc = .ok (.lload j, 2)) (hq : pc + 2 = q) (hl : Ls[j]? = some (.val (.long v))) (hr : Go l Z R E Q M k n q Ls (.long v :: st)) : Go l Z R E Q M k n pc Ls st :=
  Go.plain hr fun _ _ _ X s => XT.lload X.here C.1 rfl (hb C.2.2.2.1 hd) hl (hq ▸ s)
theorem Go.istoreN (C : Cx Z x code maxL ret E) {j : Fin 4} {v : Int32} (hd : decode code pc = .ok (.istore_n j, 1)) (hq : pc + 1 = q) (hl : storeLocals Ls j.val (.int v) = some Ls') (hr : Go l Z R E Q M k n q Ls' st) : Go l Z R E Q M k n pc Ls (.int v :: st) :=
  Go.plain hr fun _ _ _ X s => XS.istoreN X.here C.1 rfl (hb C.2.2.2.1 hd) rfl hl (hq ▸ s)
theorem Go.istore (C : Cx Z x code maxL ret E) {j : Nat} {v : Int32} (hd : decode code pc = .ok (.istore j, 2)) (hq : pc + 2 = q) (hl : storeLocals Ls j (.int v) = some Ls') (hr : Go l Z R E Q M k n q Ls' st) : Go l Z R E Q M k n pc Ls (.int v :: st) :=
  Go.plain hr fun _ _ _ X s => XS.istore X.here C.1 rfl (hb C.2.2.2.1 hd) rfl hl (hq ▸ s)
theorem Go.lstoreN (C : Cx Z x code maxL ret E) {j : Fin 4} {v : Int64} (hd : decode code pc = .ok (.lstore_n j, 1)) (hq : pc + 1 = q) (hl : storeLocals Ls j.val (.long v) = some Ls') (hr : Go l Z R E Q M k n q Ls' st) : Go l Z R E Q M k n pc Ls (.long v :: st) :=
  Go.plain hr fun _ _ _ X s => XT.lstoreN X.here C.1 rfl (hb C.2.2.2.1 hd) rfl hl (hq ▸ s)
theorem Go.lstore (C : Cx Z x code maxL ret E) {j : Nat} {v : Int64} (hd : decode code pc = .ok (.lstore j, 2)) (hq : pc + 2 = q) (hl : storeLocals Ls j (.long v) = some Ls') (hr : Go l Z R E Q M k n q Ls' st) : Go l Z R E Q M k n pc Ls (.long v :: st) :=
  Go.plain hr fun _ _ _ X s => XT.lstore X.here C.1 rfl (hb C.2.2.2.1 hd) rfl hl (hq ▸ s)
theorem Go.astoreN (C : Cx Z x code maxL ret E) {j : Fin 4} {v : Value} (hd : decode code pc = .ok (.astore_n j, 1)) (hq : pc + 1 = q) (hv : v.isRef = true) (hl : storeLocals Ls j.val v = some Ls') (hr : Go l Z R E Q M k n q Ls' st) : Go l Z R E Q M k n pc Ls (v :: st) :=
  Go.plain hr fun _ _ _ X s => XS.astoreN X.here C.1 rfl (hb C.2.2.2.1 hd) rfl hv hl (hq ▸ s)
theorem Go.astore (C : Cx Z x code maxL ret E) {j : Nat} {v : Value} (hd : decode code pc = .ok (.astore j, 2)) (hq : pc + 2 = q) (hv : v.isRef = true) (hl : storeLocals Ls j v = some Ls') (hr : Go l Z R E Q M k n q Ls' st) : Go l Z R E Q M k n pc Ls (v :: st) :=
  Go.plain hr fun _ _ _ X s => XS.astore X.here C.1 rfl (hb C.2.2.2.1 hd) rfl hv hl (hq ▸ s)
theorem Go.iconst (C : Cx Z x code maxL ret E) {i : Int} {v : Int32} (hd : decode code pc = .ok (.iconst i, 1)) (hq : pc + 1 = q) (hv : Int32.ofInt i = v) (hr : Go l Z R E Q M k n q Ls (.int v :: st)) : Go l Z R E Q M k n pc Ls st :=
  Go.plain hr fun _ _ _ X s => XS.iconst X.here C.1 rfl (hb C.2.2.2.1 hd) (hv ▸ hq ▸ s)
theorem Go.bipush (C : Cx Z x code maxL ret E) {i : Int} {v : Int32} (hd : decode code pc = .ok (.bipush i, 2)) (hq : pc + 2 = q) (hv : (Int8.ofInt i).toInt32 = v) (hr : Go l Z R E Q M k n q Ls (.int v :: st)) : Go l Z R E Q M k n pc Ls st :=
  Go.plain hr fun _ _ _ X s => XS.bipush X.here C.1 rfl (hb C.2.2.2.1 hd) (hv ▸ hq ▸ s)
theorem Go.sipush (C : Cx Z x code maxL ret E) {i : Int} {v : Int32} (hd : decode code pc = .ok (.sipush i, 3)) (hq : pc + 3 = q) (hv : (Int16.ofInt i).toInt32 = v) (hr : Go l Z R E Q M k n q Ls (.int v :: st)) : Go l Z R E Q M k n pc Ls st :=
  Go.plain hr fun _ _ _ X s => XS.sipush X.here C.1 rfl (hb C.2.2.2.1 hd) (hv ▸ hq ▸ s)
theorem Go.lconst (C : Cx Z x code maxL ret E) {i : Fin 2} {v : Int64} (hd : decode code pc = .ok (.lconst i, 1)) (hq : pc + 1 = q) (hv : Int64.ofNat i = v) (hr : Go l Z R E Q M k n q Ls (.long v :: st)) : Go l Z R E Q M k n pc Ls st :=
  Go.plain hr fun _ _ _ X s => XT.lconst X.here C.1 rfl (hb C.2.2.2.1 hd) (hv ▸ hq ▸ s)
theorem Go.aconstNull (C : Cx Z x code maxL ret E) (hd : decode code pc = .ok (.aconst_null, 1)) (hq : pc + 1 = q) (hr : Go l Z R E Q M k n q Ls (.null :: st)) : Go l Z R E Q M k n pc Ls st :=
  Go.plain hr fun _ _ _ X s => XS.aconstNull X.here C.1 rfl (hb C.2.2.2.1 hd) (hq ▸ s)
theorem Go.ldcI (C : Cx Z x code maxL ret E) {i : Nat} {v : Int32} (w : (Cond.constant x.cls i v).before a0 Z = true) (hd : decode code pc = .ok (.ldc i, 2)) (hq : pc + 2 = q) (hr : Go l Z R E Q M k n q Ls (.int v :: st)) : Go l Z R E Q M k n pc Ls st :=
  Go.plain hr fun _ _ _ X s => Stand.ldcI X C.1 C.2.2.1 (mv C.2.1 w) rfl (hb C.2.2.2.1 hd) (hq ▸ s)
theorem Go.ldcWI (C : Cx Z x code maxL ret E) {i : Nat} {v : Int32} (w : (Cond.constant x.cls i v).before a0 Z = true) (hd : decode code pc = .ok (.ldc_w i, 3)) (hq : pc + 3 = q) (hr : Go l Z R E Q M k n q Ls (.int v :: st)) : Go l Z R E Q M k n pc Ls st :=
  Go.plain hr fun _ _ _ X s => Stand.ldcWI X C.1 C.2.2.1 (mv C.2.1 w) rfl (hb C.2.2.2.1 hd) (hq ▸ s)
theorem Go.ldc2J (C : Cx Z x code maxL ret E) {i : Nat} {v : Int64} (w : (Cond.constantLong x.cls i v).before a0 Z = true) (hd : decode code pc = .ok (.ldc2_w i, 3)) (hq : pc + 3 = q) (hr : Go l Z R E Q M k n q Ls (.long v :: st)) : Go l Z R E Q M k n pc Ls st :=
  Go.plain hr fun _ _ _ X s => Stand.ldc2J X C.1 C.2.2.1 (mv C.2.1 w) rfl (hb C.2.2.2.1 hd) (hq ▸ s)
theorem Go.dup (C : Cx Z x code maxL ret E) {v : Value} (hd : decode code pc = .ok (.dup, 1)) (hq : pc + 1 = q) (hc : v.category = 1) (hr : Go l Z R E Q M k n q Ls (v :: v :: st)) : Go l Z R E Q M k n pc Ls (v :: st) :=
  Go.plain hr fun _ _ _ X s => XS.dup X.here C.1 rfl (hb C.2.2.2.1 hd) rfl hc (hq ▸ s)
theorem Go.dupX1 (C : Cx Z x code maxL ret E) {v w : Value} (hd : decode code pc = .ok (.dup_x1, 1)) (hq : pc + 1 = q) (hc : v.category = 1) (hc' : w.category = 1) (hr : Go l Z R E Q M k n q Ls (v :: w :: v :: st)) : Go l Z R E Q M k n pc Ls (v :: w :: st) :=
  Go.plain hr fun _ _ _ X s => XT.dupX1 X.here C.1 rfl (hb C.2.2.2.1 hd) rfl hc hc' (hq ▸ s)
theorem Go.dup2 (C : Cx Z x code maxL ret E) {v w : Value} (hd : decode code pc = .ok (.dup2, 1)) (hq : pc + 1 = q) (hc : v.category = 1) (hc' : w.category = 1) (hr : Go l Z R E Q M k n q Ls (v :: w :: v :: w :: st)) : Go l Z R E Q M k n pc Ls (v :: w :: st) :=
  Go.plain hr fun _ _ _ X s => XT.dup2 X.here C.1 rfl (hb C.2.2.2.1 hd) rfl hc hc' (hq ▸ s)
theorem Go.dup2L (C : Cx Z x code maxL ret E) {v : Int64} (hd : decode code pc = .ok (.dup2, 1)) (hq : pc + 1 = q) (hr : Go l Z R E Q M k n q Ls (.long v :: .long v :: st)) : Go l Z R E Q M k n pc Ls (.long v :: st) :=
  Go.plain hr fun _ _ _ X s => XT.dup2L X.here C.1 rfl (hb C.2.2.2.1 hd) rfl (hq ▸ s)
theorem Go.pop (C : Cx Z x code maxL ret E) {v : Value} (hd : decode code pc = .ok (.pop, 1)) (hq : pc + 1 = q) (hc : v.category = 1) (hr : Go l Z R E Q M k n q Ls st) : Go l Z R E Q M k n pc Ls (v :: st) :=
  Go.plain hr fun _ _ _ X s => XT.pop X.here C.1 rfl (hb C.2.2.2.1 hd) rfl hc (hq ▸ s)
theorem Go.iadd (C : Cx Z x code maxL ret E) {u : Int32} {v : Int32} (hd : decode code pc = .ok (.iadd, 1)) (hq : pc + 1 = q) (hr : Go l Z R E Q M k n q Ls (.int (u + v) :: st)) : Go l Z R E Q M k n pc Ls (.int v :: .int u :: st) :=
  Go.plain hr fun _ _ _ X s => XS.iadd X.here C.1 rfl (hb C.2.2.2.1 hd) rfl (hq ▸ s)
theorem Go.isub (C : Cx Z x code maxL ret E) {u : Int32} {v : Int32} (hd : decode code pc = .ok (.isub, 1)) (hq : pc + 1 = q) (hr : Go l Z R E Q M k n q Ls (.int (u - v) :: st)) : Go l Z R E Q M k n pc Ls (.int v :: .int u :: st) :=
  Go.plain hr fun _ _ _ X s => XS.isub X.here C.1 rfl (hb C.2.2.2.1 hd) rfl (hq ▸ s)
theorem Go.imul (C : Cx Z x code maxL ret E) {u : Int32} {v : Int32} (hd : decode code pc = .ok (.imul, 1)) (hq : pc + 1 = q) (hr : Go l Z R E Q M k n q Ls (.int (u * v) :: st)) : Go l Z R E Q M k n pc Ls (.int v :: .int u :: st) :=
  Go.plain hr fun _ _ _ X s => XS.imul X.here C.1 rfl (hb C.2.2.2.1 hd) rfl (hq ▸ s)
theorem Go.iand (C : Cx Z x code maxL ret E) {u : Int32} {v : Int32} (hd : decode code pc = .ok (.iand, 1)) (hq : pc + 1 = q) (hr : Go l Z R E Q M k n q Ls (.int (u &&& v) :: st)) : Go l Z R E Q M k n pc Ls (.int v :: .int u :: st) :=
  Go.plain hr fun _ _ _ X s => XS.iand X.here C.1 rfl (hb C.2.2.2.1 hd) rfl (hq ▸ s)
theorem Go.ior (C : Cx Z x code maxL ret E) {u : Int32} {v : Int32} (hd : decode code pc = .ok (.ior, 1)) (hq : pc + 1 = q) (hr : Go l Z R E Q M k n q Ls (.int (u ||| v) :: st)) : Go l Z R E Q M k n pc Ls (.int v :: .int u :: st) :=
  Go.plain hr fun _ _ _ X s => XT.ior X.here C.1 rfl (hb C.2.2.2.1 hd) rfl (hq ▸ s)
theorem Go.ixor (C : Cx Z x code maxL ret E) {u : Int32} {v : Int32} (hd : decode code pc = .ok (.ixor, 1)) (hq : pc + 1 = q) (hr : Go l Z R E Q M k n q Ls (.int (u ^^^ v) :: st)) : Go l Z R E Q M k n pc Ls (.int v :: .int u :: st) :=
  Go.plain hr fun _ _ _ X s => XT.ixor X.here C.1 rfl (hb C.2.2.2.1 hd) rfl (hq ▸ s)
theorem Go.ishl (C : Cx Z x code maxL ret E) {u : Int32} {v : Int32} (hd : decode code pc = .ok (.ishl, 1)) (hq : pc + 1 = q) (hr : Go l Z R E Q M k n q Ls (.int (u <<< (v &&& 31)) :: st)) : Go l Z R E Q M k n pc Ls (.int v :: .int u :: st) :=
  Go.plain hr fun _ _ _ X s => XT.ishl X.here C.1 rfl (hb C.2.2.2.1 hd) rfl (hq ▸ s)
theorem Go.ishr (C : Cx Z x code maxL ret E) {u : Int32} {v : Int32} (hd : decode code pc = .ok (.ishr, 1)) (hq : pc + 1 = q) (hr : Go l Z R E Q M k n q Ls (.int (u >>> (v &&& 31)) :: st)) : Go l Z R E Q M k n pc Ls (.int v :: .int u :: st) :=
  Go.plain hr fun _ _ _ X s => XT.ishr X.here C.1 rfl (hb C.2.2.2.1 hd) rfl (hq ▸ s)
theorem Go.iushr (C : Cx Z x code maxL ret E) {u : Int32} {v : Int32} (hd : decode code pc = .ok (.iushr, 1)) (hq : pc + 1 = q) (hr : Go l Z R E Q M k n q Ls (.int (XT.ushr u v) :: st)) : Go l Z R E Q M k n pc Ls (.int v :: .int u :: st) :=
  Go.plain hr fun _ _ _ X s => XT.iushr X.here C.1 rfl (hb C.2.2.2.1 hd) rfl (hq ▸ s)
theorem Go.ladd (C : Cx Z x code maxL ret E) {u : Int64} {v : Int64} (hd : decode code pc = .ok (.ladd, 1)) (hq : pc + 1 = q) (hr : Go l Z R E Q M k n q Ls (.long (u + v) :: st)) : Go l Z R E Q M k n pc Ls (.long v :: .long u :: st) :=
  Go.plain hr fun _ _ _ X s => XT.ladd X.here C.1 rfl (hb C.2.2.2.1 hd) rfl (hq ▸ s)
theorem Go.lsub (C : Cx Z x code maxL ret E) {u : Int64} {v : Int64} (hd : decode code pc = .ok (.lsub, 1)) (hq : pc + 1 = q) (hr : Go l Z R E Q M k n q Ls (.long (u - v) :: st)) : Go l Z R E Q M k n pc Ls (.long v :: .long u :: st) :=
  Go.plain hr fun _ _ _ X s => XT.lsub X.here C.1 rfl (hb C.2.2.2.1 hd) rfl (hq ▸ s)
theorem Go.lmul (C : Cx Z x code maxL ret E) {u : Int64} {v : Int64} (hd : decode code pc = .ok (.lmul, 1)) (hq : pc + 1 = q) (hr : Go l Z R E Q M k n q Ls (.long (u * v) :: st)) : Go l Z R E Q M k n pc Ls (.long v :: .long u :: st) :=
  Go.plain hr fun _ _ _ X s => XT.lmul X.here C.1 rfl (hb C.2.2.2.1 hd) rfl (hq ▸ s)
theorem Go.land (C : Cx Z x code maxL ret E) {u : Int64} {v : Int64} (hd : decode code pc = .ok (.land, 1)) (hq : pc + 1 = q) (hr : Go l Z R E Q M k n q Ls (.long (u &&& v) :: st)) : Go l Z R E Q M k n pc Ls (.long v :: .long u :: st) :=
  Go.plain hr fun _ _ _ X s => XT.land X.here C.1 rfl (hb C.2.2.2.1 hd) rfl (hq ▸ s)
theorem Go.lor (C : Cx Z x code maxL ret E) {u : Int64} {v : Int64} (hd : decode code pc = .ok (.lor, 1)) (hq : pc + 1 = q) (hr : Go l Z R E Q M k n q Ls (.long (u ||| v) :: st)) : Go l Z R E Q M k n pc Ls (.long v :: .long u :: st) :=
  Go.plain hr fun _ _ _ X s => XT.lor X.here C.1 rfl (hb C.2.2.2.1 hd) rfl (hq ▸ s)
theorem Go.lxor (C : Cx Z x code maxL ret E) {u : Int64} {v : Int64} (hd : decode code pc = .ok (.lxor, 1)) (hq : pc + 1 = q) (hr : Go l Z R E Q M k n q Ls (.long (u ^^^ v) :: st)) : Go l Z R E Q M k n pc Ls (.long v :: .long u :: st) :=
  Go.plain hr fun _ _ _ X s => XT.lxor X.here C.1 rfl (hb C.2.2.2.1 hd) rfl (hq ▸ s)
theorem Go.lshl (C : Cx Z x code maxL ret E) {u : Int64} {v : Int32} (hd : decode code pc = .ok (.lshl, 1)) (hq : pc + 1 = q) (hr : Go l Z R E Q M k n q Ls (.long (u <<< (v.toInt64 &&& 63)) :: st)) : Go l Z R E Q M k n pc Ls (.int v :: .long u :: st) :=
  Go.plain hr fun _ _ _ X s => XT.lshl X.here C.1 rfl (hb C.2.2.2.1 hd) rfl (hq ▸ s)
theorem Go.lshr (C : Cx Z x code maxL ret E) {u : Int64} {v : Int32} (hd : decode code pc = .ok (.lshr, 1)) (hq : pc + 1 = q) (hr : Go l Z R E Q M k n q Ls (.long (u >>> (v.toInt64 &&& 63)) :: st)) : Go l Z R E Q M k n pc Ls (.int v :: .long u :: st) :=
  Go.plain hr fun _ _ _ X s => XT.lshr X.here C.1 rfl (hb C.2.2.2.1 hd) rfl (hq ▸ s)
theorem Go.lushr (C : Cx Z x code maxL ret E) {u : Int64} {v : Int32} (hd : decode code pc = .ok (.lushr, 1)) (hq : pc + 1 = q) (hr : Go l Z R E Q M k n q Ls (.long (XT.ushrL u v) :: st)) : Go l Z R E Q M k n pc Ls (.int v :: .long u :: st) :=
  Go.plain hr fun _ _ _ X s => XT.lushr X.here C.1 rfl (hb C.2.2.2.1 hd) rfl (hq ▸ s)
theorem Go.ineg (C : Cx Z x code maxL ret E) {u : Int32} (hd : decode code pc = .ok (.ineg, 1)) (hq : pc + 1 = q) (hr : Go l Z R E Q M k n q Ls (.int (-u) :: st)) : Go l Z R E Q M k n pc Ls (.int u :: st) :=
  Go.plain hr fun _ _ _ X s => XS.ineg X.here C.1 rfl (hb C.2.2.2.1 hd) rfl (hq ▸ s)
theorem Go.lneg (C : Cx Z x code maxL ret E) {u : Int64} (hd : decode code pc = .ok (.lneg, 1)) (hq : pc + 1 = q) (hr : Go l Z R E Q M k n q Ls (.long (-u) :: st)) : Go l Z R E Q M k n pc Ls (.long u :: st) :=
  Go.plain hr fun _ _ _ X s => XT.lneg X.here C.1 rfl (hb C.2.2.2.1 hd) rfl (hq ▸ s)
theorem Go.i2l (C : Cx Z x code maxL ret E) {u : Int32} (hd : decode code pc = .ok (.i2l, 1)) (hq : pc + 1 = q) (hr : Go l Z R E Q M k n q Ls (.long u.toInt64 :: st)) : Go l Z R E Q M k n pc Ls (.int u :: st) :=
  Go.plain hr fun _ _ _ X s => XT.i2l X.here C.1 rfl (hb C.2.2.2.1 hd) rfl (hq ▸ s)
theorem Go.l2i (C : Cx Z x code maxL ret E) {u : Int64} (hd : decode code pc = .ok (.l2i, 1)) (hq : pc + 1 = q) (hr : Go l Z R E Q M k n q Ls (.int u.toInt32 :: st)) : Go l Z R E Q M k n pc Ls (.long u :: st) :=
  Go.plain hr fun _ _ _ X s => XT.l2i X.here C.1 rfl (hb C.2.2.2.1 hd) rfl (hq ▸ s)
theorem Go.i2b (C : Cx Z x code maxL ret E) {u : Int32} (hd : decode code pc = .ok (.i2b, 1)) (hq : pc + 1 = q) (hr : Go l Z R E Q M k n q Ls (.int u.toInt8.toInt32 :: st)) : Go l Z R E Q M k n pc Ls (.int u :: st) :=
  Go.plain hr fun _ _ _ X s => XT.i2b X.here C.1 rfl (hb C.2.2.2.1 hd) rfl (hq ▸ s)
theorem Go.i2c (C : Cx Z x code maxL ret E) {u : Int32} (hd : decode code pc = .ok (.i2c, 1)) (hq : pc + 1 = q) (hr : Go l Z R E Q M k n q Ls (.int u.toUInt32.toUInt16.toUInt32.toInt32 :: st)) : Go l Z R E Q M k n pc Ls (.int u :: st) :=
  Go.plain hr fun _ _ _ X s => XT.i2c X.here C.1 rfl (hb C.2.2.2.1 hd) rfl (hq ▸ s)
theorem Go.i2s (C : Cx Z x code maxL ret E) {u : Int32} (hd : decode code pc = .ok (.i2s, 1)) (hq : pc + 1 = q) (hr : Go l Z R E Q M k n q Ls (.int u.toInt16.toInt32 :: st)) : Go l Z R E Q M k n pc Ls (.int u :: st) :=
  Go.plain hr fun _ _ _ X s => XT.i2s X.here C.1 rfl (hb C.2.2.2.1 hd) rfl (hq ▸ s)
theorem Go.lrem (C : Cx Z x code maxL ret E) {u v : Int64} (hd : decode code pc = .ok (.lrem, 1)) (hq : pc + 1 = q) (hv : v ≠ 0) (hr : Go l Z R E Q M k n q Ls (.long (u - u / v * v) :: st)) : Go l Z R E Q M k n pc Ls (.long v :: .long u :: st) :=
  Go.plain hr fun _ _ _ X s => XT.lrem X.here C.1 rfl (hb C.2.2.2.1 hd) rfl hv (hq ▸ s)
theorem Go.idiv (C : Cx Z x code maxL ret E) {u v : Int32} (hd : decode code pc = .ok (.idiv, 1)) (hq : pc + 1 = q) (hv : v ≠ 0) (hr : Go l Z R E Q M k n q Ls (.int (u / v) :: st)) : Go l Z R E Q M k n pc Ls (.int v :: .int u :: st) :=
  Go.plain hr fun _ _ _ X s => XS.idiv X.here C.1 rfl (hb C.2.2.2.1 hd) rfl hv (hq ▸ s)
theorem Go.irem (C : Cx Z x code maxL ret E) {u v : Int32} (hd : decode code pc = .ok (.irem, 1)) (hq : pc + 1 = q) (hv : v ≠ 0) (hr : Go l Z R E Q M k n q Ls (.int (u % v) :: st)) : Go l Z R E Q M k n pc Ls (.int v :: .int u :: st) :=
  Go.plain hr fun _ _ _ X s => iremM X C.1 rfl (hb C.2.2.2.1 hd) rfl hv (hq ▸ s)
theorem Go.ldiv (C : Cx Z x code maxL ret E) {u v : Int64} (hd : decode code pc = .ok (.ldiv, 1)) (hq : pc + 1 = q) (hv : v ≠ 0) (hr : Go l Z R E Q M k n q Ls (.long (u / v) :: st)) : Go l Z R E Q M k n pc Ls (.long v :: .long u :: st) :=
  Go.plain hr fun _ _ _ X s => XT.ldiv X.here C.1 rfl (hb C.2.2.2.1 hd) rfl hv (hq ▸ s)
theorem Go.iinc (C : Cx Z x code maxL ret E) {j : Nat} {i : Int} {u v : Int32} (hd : decode code pc = .ok (.iinc j i, 3)) (hq : pc + 3 = q) (hl : Ls[j]? = some (.val (.int u))) (hv : u + Int32.ofInt i = v) (hl' : storeLocals Ls j (.int v) = some Ls') (hr : Go l Z R E Q M k n q Ls' st) : Go l Z R E Q M k n pc Ls st :=
  Go.plain hr fun _ _ _ X s => XS.iinc X.here C.1 rfl (hb C.2.2.2.1 hd) hl (hv ▸ hl') (hq ▸ s)
theorem Go.goto (C : Cx Z x code maxL ret E) {o : Int} (hd : decode code pc = .ok (.goto o, 3)) (ho : 0 ≤ (pc : Int) + o) (hq : ((pc : Int) + o).toNat = q) (hr : Go l Z R E Q M k n q Ls st) : Go l Z R E Q M k n pc Ls st :=
  Go.plain hr fun _ _ _ X s => XS.goto X.here C.1 rfl rfl (hb C.2.2.2.1 hd) ho hq s
theorem Go.ifYes (C : Cx Z x code maxL ret E) {cd : ClassFile.Cond} {o : Int} {u : Int32} (hd : decode code pc = .ok (.ifCond cd o, 3)) (ho : 0 ≤ (pc : Int) + o) (hq : ((pc : Int) + o).toNat = q) (hc : ifCond.holds cd u = true) (hr : Go l Z R E Q M k n q Ls st) : Go l Z R E Q M k n pc Ls (.int u :: st) :=
  Go.plain hr fun _ _ _ X s => XS.ifYes X.here C.1 rfl rfl (hb C.2.2.2.1 hd) rfl hc ho hq s
theorem Go.ifNo (C : Cx Z x code maxL ret E) {cd : ClassFile.Cond} {o : Int} {u : Int32} (hd : decode code pc = .ok (.ifCond cd o, 3)) (hq : pc + 3 = q) (hc : ifCond.holds cd u = false) (hr : Go l Z R E Q M k n q Ls st) : Go l Z R E Q M k n pc Ls (.int u :: st) :=
  Go.plain hr fun _ _ _ X s => XS.ifNo X.here C.1 rfl (hb C.2.2.2.1 hd) rfl hc (hq ▸ s)
theorem Go.icmpYes (C : Cx Z x code maxL ret E) {cd : ClassFile.Cond} {o : Int} {u v : Int32} (hd : decode code pc = .ok (.if_icmp cd o, 3)) (ho : 0 ≤ (pc : Int) + o) (hq : ((pc : Int) + o).toNat = q) (hc : if_icmp.holds cd u v = true) (hr : Go l Z R E Q M k n q Ls st) : Go l Z R E Q M k n pc Ls (.int v :: .int u :: st) :=
  Go.plain hr fun _ _ _ X s => XS.icmpYes X.here C.1 rfl rfl (hb C.2.2.2.1 hd) rfl hc ho hq s
theorem Go.icmpNo (C : Cx Z x code maxL ret E) {cd : ClassFile.Cond} {o : Int} {u v : Int32} (hd : decode code pc = .ok (.if_icmp cd o, 3)) (hq : pc + 3 = q) (hc : if_icmp.holds cd u v = false) (hr : Go l Z R E Q M k n q Ls st) : Go l Z R E Q M k n pc Ls (.int v :: .int u :: st) :=
  Go.plain hr fun _ _ _ X s => XS.icmpNo X.here C.1 rfl (hb C.2.2.2.1 hd) rfl hc (hq ▸ s)
theorem Go.acmpYes (C : Cx Z x code maxL ret E) {cd : ClassFile.ACond} {o : Int} {u v : Value} (hd : decode code pc = .ok (.if_acmp cd o, 3)) (ho : 0 ≤ (pc : Int) + o) (hq : ((pc : Int) + o).toNat = q) (hu : u.isRef = true) (hv : v.isRef = true) (hc : XT.acmp cd u v = true) (hr : Go l Z R E Q M k n q Ls st) : Go l Z R E Q M k n pc Ls (v :: u :: st) :=
  Go.plain hr fun _ _ _ X s => XT.acmpYes X.here C.1 rfl rfl (hb C.2.2.2.1 hd) rfl hu hv hc ho hq s
theorem Go.acmpNo (C : Cx Z x code maxL ret E) {cd : ClassFile.ACond} {o : Int} {u v : Value} (hd : decode code pc = .ok (.if_acmp cd o, 3)) (hq : pc + 3 = q) (hu : u.isRef = true) (hv : v.isRef = true) (hc : XT.acmp cd u v = false) (hr : Go l Z R E Q M k n q Ls st) : Go l Z R E Q M k n pc Ls (v :: u :: st) :=
  Go.plain hr fun _ _ _ X s => XT.acmpNo X.here C.1 rfl (hb C.2.2.2.1 hd) rfl hu hv hc (hq ▸ s)
theorem Go.nullYes (C : Cx Z x code maxL ret E) {o : Int} {v : Value} (hd : decode code pc = .ok (.ifnull o, 3)) (ho : 0 ≤ (pc : Int) + o) (hq : ((pc : Int) + o).toNat = q) (hv : v = .null) (hr : Go l Z R E Q M k n q Ls st) : Go l Z R E Q M k n pc Ls (v :: st) :=
  Go.plain hr fun _ _ _ X s => XT.nullYes X.here C.1 rfl rfl (hb C.2.2.2.1 hd) rfl hv ho hq s
theorem Go.nullNo (C : Cx Z x code maxL ret E) {o : Int} {v : Value} (hd : decode code pc = .ok (.ifnull o, 3)) (hq : pc + 3 = q) (hu : v.isRef = true) (hv : ¬ v = .null) (hr : Go l Z R E Q M k n q Ls st) : Go l Z R E Q M k n pc Ls (v :: st) :=
  Go.plain hr fun _ _ _ X s => XT.nullNo X.here C.1 rfl (hb C.2.2.2.1 hd) rfl hu hv (hq ▸ s)
theorem Go.nonnullYes (C : Cx Z x code maxL ret E) {o : Int} {v : Value} (hd : decode code pc = .ok (.ifnonnull o, 3)) (ho : 0 ≤ (pc : Int) + o) (hq : ((pc : Int) + o).toNat = q) (hu : v.isRef = true) (hv : ¬ v = .null) (hr : Go l Z R E Q M k n q Ls st) : Go l Z R E Q M k n pc Ls (v :: st) :=
  Go.plain hr fun _ _ _ X s => XT.nonnullYes X.here C.1 rfl rfl (hb C.2.2.2.1 hd) rfl hu hv ho hq s
theorem Go.nonnullNo (C : Cx Z x code maxL ret E) {o : Int} {v : Value} (hd : decode code pc = .ok (.ifnonnull o, 3)) (hq : pc + 3 = q) (hv : v = .null) (hr : Go l Z R E Q M k n q Ls st) : Go l Z R E Q M k n pc Ls (v :: st) :=
  Go.plain hr fun _ _ _ X s => XT.nonnullNo X.here C.1 rfl (hb C.2.2.2.1 hd) rfl hv (hq ▸ s)
def icP : ClassFile.Cond → Int32 → Prop
  | .eq, u => u = 0 | .ne, u => ¬ u = 0 | .lt, u => u < 0 | .ge, u => ¬ u < 0 | .gt, u => 0 < u | .le, u => ¬ 0 < u
def icN : ClassFile.Cond → Int32 → Prop
  | .eq, u => ¬ u = 0 | .ne, u => u = 0 | .lt, u => ¬ u < 0 | .ge, u => u < 0 | .gt, u => ¬ 0 < u | .le, u => 0 < u
def iiP : ClassFile.Cond → Int32 → Int32 → Prop
  | .eq, u, v => u = v | .ne, u, v => ¬ u = v | .lt, u, v => u < v | .ge, u, v => ¬ u < v | .gt, u, v => v < u | .le, u, v => ¬ v < u
def iiN : ClassFile.Cond → Int32 → Int32 → Prop
  | .eq, u, v => ¬ u = v | .ne, u, v => u = v | .lt, u, v => ¬ u < v | .ge, u, v => u < v | .gt, u, v => ¬ v < u | .le, u, v => v < u
def llP : ClassFile.Cond → Int64 → Int64 → Prop
  | .eq, u, v => u = v | .ne, u, v => ¬ u = v | .lt, u, v => u < v | .ge, u, v => ¬ u < v | .gt, u, v => v < u | .le, u, v => ¬ v < u
def llN : ClassFile.Cond → Int64 → Int64 → Prop
  | .eq, u, v => ¬ u = v | .ne, u, v => u = v | .lt, u, v => ¬ u < v | .ge, u, v => u < v | .gt, u, v => ¬ v < u | .le, u, v => v < u
theorem ic_or (cd : ClassFile.Cond) (u : Int32) : (ifCond.holds cd u = true ∧ icP cd u) ∨ (ifCond.holds cd u = false ∧ icN cd u) := by
  cases cd
  · by_cases h : u = 0
    · exact Or.inl ⟨XT.i0_eq_t h, h⟩
    · exact Or.inr ⟨XT.i0_eq_f h, h⟩
  · by_cases h : u = 0
    · exact Or.inr ⟨XT.i0_ne_f h, h⟩
    · exact Or.inl ⟨XT.i0_ne_t h, h⟩
  · by_cases h : u < 0
    · exact Or.inl ⟨XT.i0_lt_t h, h⟩
    · exact Or.inr ⟨XT.i0_lt_f h, h⟩
  · by_cases h : u < 0
    · exact Or.inr ⟨XT.i0_ge_f h, h⟩
    · exact Or.inl ⟨XT.i0_ge_t h, h⟩
  · by_cases h : 0 < u
    · exact Or.inl ⟨XT.i0_gt_t h, h⟩
    · exact Or.inr ⟨XT.i0_gt_f h, h⟩
  · by_cases h : 0 < u
    · exact Or.inr ⟨XT.i0_le_f h, h⟩
    · exact Or.inl ⟨XT.i0_le_t h, h⟩
theorem ii_or (cd : ClassFile.Cond) (u v : Int32) : (if_icmp.holds cd u v = true ∧ iiP cd u v) ∨ (if_icmp.holds cd u v = false ∧ iiN cd u v) := by
  cases cd
  · by_cases h : u = v
    · exact Or.inl ⟨XT.ii_eq_t h, h⟩
    · exact Or.inr ⟨XT.ii_eq_f h, h⟩
  · by_cases h : u = v
    · exact Or.inr ⟨XT.ii_ne_f h, h⟩
    · exact Or.inl ⟨XT.ii_ne_t h, h⟩
  · by_cases h : u < v
    · exact Or.inl ⟨XT.ii_lt_t h, h⟩
    · exact Or.inr ⟨XT.ii_lt_f h, h⟩
  · by_cases h : u < v
    · exact Or.inr ⟨XT.ii_ge_f h, h⟩
    · exact Or.inl ⟨XT.ii_ge_t h, h⟩
  · by_cases h : v < u
    · exact Or.inl ⟨XT.ii_gt_t h, h⟩
    · exact Or.inr ⟨XT.ii_gt_f h, h⟩
  · by_cases h : v < u
    · exact Or.inr ⟨XT.ii_le_f h, h⟩
    · exact Or.inl ⟨XT.ii_le_t h, h⟩
theorem ll_or (cd : ClassFile.Cond) (u v : Int64) : (ifCond.holds cd (XT.cmpL u v) = true ∧ llP cd u v) ∨ (ifCond.holds cd (XT.cmpL u v) = false ∧ llN cd u v) := by
  cases cd
  · by_cases h : u = v
    · exact Or.inl ⟨XT.ll_eq_t h, h⟩
    · exact Or.inr ⟨XT.ll_eq_f h, h⟩
  · by_cases h : u = v
    · exact Or.inr ⟨XT.ll_ne_f h, h⟩
    · exact Or.inl ⟨XT.ll_ne_t h, h⟩
  · by_cases h : u < v
    · exact Or.inl ⟨XT.ll_lt_t h, h⟩
    · exact Or.inr ⟨XT.ll_lt_f h, h⟩
  · by_cases h : u < v
    · exact Or.inr ⟨XT.ll_ge_f h, h⟩
    · exact Or.inl ⟨XT.ll_ge_t h, h⟩
  · by_cases h : v < u
    · exact Or.inl ⟨XT.ll_gt_t h, h⟩
    · exact Or.inr ⟨XT.ll_gt_f h, h⟩
  · by_cases h : v < u
    · exact Or.inr ⟨XT.ll_le_f h, h⟩
    · exact Or.inl ⟨XT.ll_le_t h, h⟩
theorem Go.ifc (C : Cx Z x code maxL ret E) {cd : ClassFile.Cond} {o : Int} {u : Int32} {q' : Nat} (hd : decode code pc = .ok (.ifCond cd o, 3)) (ho : 0 ≤ (pc : Int) + o) (hq : ((pc : Int) + o).toNat = q) (hq' : pc + 3 = q')
    (h1 : icP cd u → Go l Z R E Q M k n q Ls st) (h2 : icN cd u → Go l Z R E Q M k n q' Ls st) : Go l Z R E Q M k n pc Ls (.int u :: st) := by
  rcases ic_or cd u with ⟨a, b⟩ | ⟨a, b⟩
  · exact Go.ifYes C hd ho hq a (h1 b)
  · exact Go.ifNo C hd hq' a (h2 b)
theorem Go.icmp (C : Cx Z x code maxL ret E) {cd : ClassFile.Cond} {o : Int} {u v : Int32} {q' : Nat} (hd : decode code pc = .ok (.if_icmp cd o, 3)) (ho : 0 ≤ (pc : Int) + o) (hq : ((pc : Int) + o).toNat = q) (hq' : pc + 3 = q')
    (h1 : iiP cd u v → Go l Z R E Q M k n q Ls st) (h2 : iiN cd u v → Go l Z R E Q M k n q' Ls st) : Go l Z R E Q M k n pc Ls (.int v :: .int u :: st) := by
  rcases ii_or cd u v with ⟨a, b⟩ | ⟨a, b⟩
  · exact Go.icmpYes C hd ho hq a (h1 b)
  · exact Go.icmpNo C hd hq' a (h2 b)
theorem Go.lcmp (C : Cx Z x code maxL ret E) {u v : Int64} (hd : decode code pc = .ok (.lcmp, 1)) (hq : pc + 1 = q) (hr : Go l Z R E Q M k n q Ls (.int (XT.cmpL u v) :: st)) : Go l Z R E Q M k n pc Ls (.long v :: .long u :: st) :=
  Go.plain hr fun _ _ _ X s => XT.lcmp X.here C.1 rfl (hb C.2.2.2.1 hd) rfl (hq ▸ s)
theorem Go.lcmpif (C : Cx Z x code maxL ret E) {cd : ClassFile.Cond} {o : Int} {u v : Int64} {p' q' : Nat} (hd : decode code pc = .ok (.lcmp, 1)) (hp : pc + 1 = p') (hd' : decode code p' = .ok (.ifCond cd o, 3)) (ho : 0 ≤ (p' : Int) + o) (hq : ((p' : Int) + o).toNat = q) (hq' : p' + 3 = q')
    (h1 : llP cd u v → Go l Z R E Q M k n q Ls st) (h2 : llN cd u v → Go l Z R E Q M k n q' Ls st) : Go l Z R E Q M k n pc Ls (.long v :: .long u :: st) := by
  refine Go.lcmp C hd hp ?_
  rcases ll_or cd u v with ⟨a, b⟩ | ⟨a, b⟩
  · exact Go.ifYes C hd' ho hq a (h1 b)
  · exact Go.ifNo C hd' hq' a (h2 b)
def acP : ClassFile.ACond → Value → Value → Prop
  | .eq, u, v => u = v | .ne, u, v => ¬ u = v
def acN : ClassFile.ACond → Value → Value → Prop
  | .eq, u, v => ¬ u = v | .ne, u, v => u = v
theorem ac_or (cd : ClassFile.ACond) (u v : Value) : (XT.acmp cd u v = true ∧ acP cd u v) ∨ (XT.acmp cd u v = false ∧ acN cd u v) := by
  cases cd
  · by_cases h : u = v
    · exact Or.inl ⟨XT.aa_eq_t h, h⟩
    · exact Or.inr ⟨XT.aa_eq_f h, h⟩
  · by_cases h : u = v
    · exact Or.inr ⟨XT.aa_ne_f h, h⟩
    · exact Or.inl ⟨XT.aa_ne_t h, h⟩
theorem Go.acmp (C : Cx Z x code maxL ret E) {cd : ClassFile.ACond} {o : Int} {u v : Value} {q' : Nat} (hd : decode code pc = .ok (.if_acmp cd o, 3)) (ho : 0 ≤ (pc : Int) + o) (hq : ((pc : Int) + o).toNat = q) (hq' : pc + 3 = q') (hu : u.isRef = true) (hv : v.isRef = true)
    (h1 : acP cd u v → Go l Z R E Q M k n q Ls st) (h2 : acN cd u v → Go l Z R E Q M k n q' Ls st) : Go l Z R E Q M k n pc Ls (v :: u :: st) := by
  rcases ac_or cd u v with ⟨a, b⟩ | ⟨a, b⟩
  · exact Go.acmpYes C hd ho hq hu hv a (h1 b)
  · exact Go.acmpNo C hd hq' hu hv a (h2 b)
theorem Go.tswIn (C : Cx Z x code maxL ret E) {dflt low high o : Int} {offs : Array Int} {len : Nat} {u : Int32} (hd : decode code pc = .ok (.tableswitch dflt low high offs, len)) (hin : ¬ (u.toInt < low ∨ u.toInt > high)) (hoff : offs[(u.toInt - low).toNat]? = some o) (ho : 0 ≤ (pc : Int) + o) (hq : ((pc : Int) + o).toNat = q) (hr : Go l Z R E Q M k n q Ls st) : Go l Z R E Q M k n pc Ls (.int u :: st) :=
  Go.plain hr fun _ _ _ X s => XS.tswIn X.here C.1 rfl rfl (hb C.2.2.2.1 hd) rfl hin hoff ho hq s
theorem Go.tswOut (C : Cx Z x code maxL ret E) {dflt low high : Int} {offs : Array Int} {len : Nat} {u : Int32} (hd : decode code pc = .ok (.tableswitch dflt low high offs, len)) (hout : u.toInt < low ∨ u.toInt > high) (ho : 0 ≤ (pc : Int) + dflt) (hq : ((pc : Int) + dflt).toNat = q) (hr : Go l Z R E Q M k n q Ls st) : Go l Z R E Q M k n pc Ls (.int u :: st) :=
  Go.plain hr fun _ _ _ X s => XS.tswOut X.here C.1 rfl rfl (hb C.2.2.2.1 hd) rfl hout ho hq s
/-! the heap -/
theorem Go.getS (C : Cx Z x code maxL ret E) {idx : Nat} {R0 O nm d host : String} {v : Value} (w : (Cond.fieldLink x.cls idx R0 nm d).before a0 Z = true ∨ (Cond.fieldLinkNest x.cls idx R0 nm d host).before a0 Z = true) (via : Via Z R0 O nm d) (S : Sta Z Z.heap O nm d v) (hd : decode code pc = .ok (.getstatic idx, 3)) (hq : pc + 3 = q) (hr : Go l Z R E Q M k n q Ls (v :: st)) : Go l Z R E Q M k n pc Ls st := by
  intro T locs X F r
  obtain ⟨T', X', e', s'⟩ := RoadKit.getS2 X C.1 C.2.1 C.2.2.1 w via rfl (S.ext r.1) (g := mkF E.2.2.2.1 pc Ls st) rfl (hb C.2.2.2.1 hd)
  obtain ⟨s₂, v, L, h1, h2⟩ := hr T' locs X' F (by rw [e']; exact r)
  exact ⟨s₂, v, L, s' _ (hq ▸ h1), h2⟩
theorem Go.getF (C : Cx Z x code maxL ret E) {idx : Nat} {R0 O nm d host : String} {a : Addr} {v : Value} (w : (Cond.fieldLink x.cls idx R0 nm d).before a0 Z = true ∨ (Cond.fieldLinkNest x.cls idx R0 nm d host).before a0 Z = true) (via : Via Z R0 O nm d) (H : ∀ h, Rep Z h M → Fld Z h a O nm d v) (hd : decode code pc = .ok (.getfield idx, 3)) (hq : pc + 3 = q) (hr : Go l Z R E Q M k n q Ls (v :: st)) : Go l Z R E Q M k n pc Ls (.ref a :: st) := by
  intro T locs X F r
  obtain ⟨T', X', e', s'⟩ := RoadKit.getF X C.1 C.2.1 C.2.2.1 w via rfl (H _ r) (g := mkF E.2.2.2.1 pc Ls (.ref a :: st)) rfl rfl (hb C.2.2.2.1 hd)
  obtain ⟨s₂, v, L, h1, h2⟩ := hr T' locs X' F (by rw [e']; exact r)
  exact ⟨s₂, v, L, s' _ (hq ▸ h1), h2⟩
theorem Go.putF (C : Cx Z x code maxL ret E) {idx kk i j : Nat} {R0 O nm d host K : String} {a : Addr} {v old : Value} {fs : Fs} {ty : FieldType} {M' : List Ent} (w : (Cond.fieldLink x.cls idx R0 nm d).before a0 Z = true ∨ (Cond.fieldLinkNest x.cls idx R0 nm d host).before a0 Z = true) (via : Via Z R0 O nm d)
    (hi : M[i]? = some (a, .inl (K, fs))) (hj : fs[j]? = some ((O, nm, d), old)) (L : (Cond.lays K O nm d).before a0 Z = true ∨ ((Cond.laysFinal K O nm d).before a0 Z = true ∧ x.cls = O ∧ x.name = "<init>")) (wi : (Cond.instantiable K kk).before a0 Z = true)
    (hty : parseFieldDescriptor d = some ty) (hn : narrow ty v = v) (hf : fits ty v = true) (hd : decode code pc = .ok (.putfield idx, 3)) (hq : pc + 3 = q) (hM : M.set i (a, .inl (K, fs.set j ((O, nm, d), v))) = M') (hr : Go l Z R E Q M' k n q Ls st) : Go l Z R E Q M k n pc Ls (v :: .ref a :: st) := by
  intro T locs X F r
  have Fl := r.fld i j hi hj
  obtain ⟨T', h', X', e', W, s'⟩ := RoadKit.putF X C.1 C.2.1 C.2.2.1 w via rfl Fl (r.exa i hi) (L.imp id fun q => ⟨q.1, q.2.1, C.2.2.2.2.2.2.2.trans q.2.2⟩) wi hty hn hf (g := mkF E.2.2.2.1 pc Ls (v :: .ref a :: st)) rfl rfl (hb C.2.2.2.1 hd)
  obtain ⟨s₂, v, L, h1, h2⟩ := hr T' _ X' (Fr.snoc X' F (r.fresh hi)) (by rw [e', ← hM]; exact r.wrote hi W ((r.2.1 i _ hi).2.put hj W))
  exact ⟨s₂, v, L, s' _ (hq ▸ h1), h2⟩
def LaidAll (Z : State) (a0 : Array Value) (K : String) : Fs → Prop
  | [] => True
  | f :: r => (Laid Z a0 K f.1.1 f.1.2.1 f.1.2.2 ∧ ∃ ty, parseFieldDescriptor f.1.2.2 = some ty ∧ f.2 = defaultValue ty) ∧ LaidAll Z a0 K r
theorem LaidAll.at {K : String} : ∀ {fs : Fs}, LaidAll Z a0 K fs → ∀ f ∈ fs, Laid Z a0 K f.1.1 f.1.2.1 f.1.2.2 ∧ ∃ ty, parseFieldDescriptor f.1.2.2 = some ty ∧ f.2 = defaultValue ty
  | _ :: _, H, f, hf => by
    rcases List.mem_cons.mp hf with rfl | q
    · exact H.1
    · exact H.2.at f q
theorem LaidAll.nodup {K : String} : ∀ {fs : Fs}, LaidAll Z a0 K fs → (fs.map fun f => f.1.2.1).Nodup → (fs.map fun f => slK Z f.1).Nodup
  | [], _, _ => List.nodup_nil
  | f :: r, H, hn => by
    rw [List.map_cons, List.nodup_cons] at hn ⊢
    refine ⟨fun m => ?_, H.2.nodup hn.2⟩
    obtain ⟨g, hg, e⟩ := List.mem_map.mp m
    obtain ⟨Lg, tg, pg, -⟩ := H.2.at g hg
    obtain ⟨Lf, tf, pf, -⟩ := H.1
    refine slot_ne Lg Lf (fun q => hn.1 ?_) pg pf e
    exact List.mem_map.mpr ⟨g, hg, q⟩
theorem Go.new (C : Cx Z x code maxL ret E) {idx n1 k' n' : Nat} {K : String} (w1 : (Cond.classLink x.cls idx K).before a0 Z = true) (w2 : (Cond.instantiable K n1).before a0 Z = true) (w3 : (Cond.initialized K).before a0 Z = true) (fs : Fs) (Lf : LaidAll Z a0 K fs) (hnd : (fs.map fun f => f.1.2.1).Nodup)
    (hd : decode code pc = .ok (.new idx, 3)) (hq : pc + 3 = q) (hc : k + 1 ≤ R.cells) (hs : n + n1 ≤ R.slots) (hk : k + 1 = k') (hn : n + n1 = n') (hr : ∀ a, Go l Z R E Q ((a, .inl (K, fs)) :: M) k' n' q Ls (.ref a :: st)) : Go l Z R E Q M k n pc Ls st := by
  intro T locs X F r
  obtain ⟨T', h', X', e', Ex, A, D, -, s'⟩ := newO X C.1 C.2.1 C.2.2.1 w1 w2 w3 rfl (g := mkF E.2.2.2.1 pc Ls st) rfl (hb C.2.2.2.1 hd) hc hs
  subst hk hn
  obtain ⟨s₂, v, L, h1, h2⟩ := hr _ T' _ X' F (by
    rw [e']
    refine r.new Ex rfl ⟨A, fun i f hf => ?_, Lf.nodup hnd⟩
    obtain ⟨La, ty, hp, hv⟩ := Lf.at f (List.mem_of_getElem? hf)
    rw [hv]
    exact D La hp)
  exact ⟨s₂, v, L, s' _ (hq ▸ h1), h2⟩
theorem Go.initO (C : Cx Z x code maxL ret E) {idx : Nat} {a : Addr} (w1 : (Cond.methodLink x.cls idx Lib.objectInit).before a0 Z = true) (w2 : (Cond.instanceMethod Lib.objectInit).before a0 Z = true) (w3 : (Cond.code Lib.objectInit ⟨#[0xb1]⟩ 1 none).before a0 Z = true) (hd : decode code pc = .ok (.invokespecial idx, 3)) (hq : pc + 3 = q) (hsz : Ls.size = maxL) (hf : 1 ≤ R.frames) {W : Nat} (hW : (st.map fun v => v.category).sum = W) (hl : W + 12 ≤ R.locals)
    (hr : Go l Z R E Q M k n q Ls st) : Go l Z R E Q M k n pc Ls (.ref a :: st) := by
  subst hW
  intro T locs X F r
  obtain ⟨T', X', e', s'⟩ := RoadKit.initO X C.1 C.2.1 C.2.2.1 w1 w2 w3 rfl (g := mkF E.2.2.2.1 pc Ls (.ref a :: st)) rfl (hsz.trans C.2.2.2.2.1.symm) rfl (hb C.2.2.2.1 hd) hf (W := (st.map fun v => v.category).sum) (by show 2 * 0 + _ ≤ _; omega) hl
  obtain ⟨s₂, v, L, h1, h2⟩ := hr T' locs X' F (by rw [e']; exact r)
  exact ⟨s₂, v, L, s' _ (hq ▸ h1), h2⟩
/-- an array that is owned, or that stood at the start -/
def ArrIs (Z : State) (h : Heap) (a : Addr) (ty : FieldType) (vs : List Value) : Prop := ∃ c : Cell, Arr Z h a c ty ∧ c.slots.toList = vs
theorem Rep.arr {h : Heap} {a : Addr} {ty : FieldType} {vs : List Value} {b : Bool} (r : Rep Z h M) (i : Nat) (hi : M[i]? = some (a, .inr (ty, vs, b))) : ArrIs Z h a ty vs := by
  obtain ⟨c, A, e, -⟩ := (r.2.1 i _ hi).2
  exact ⟨c, A, e⟩
theorem ArrIs.ext {h h' : Heap} {a : Addr} {ty : FieldType} {vs : List Value} (A : ArrIs Z h a ty vs) (E : Ext h h') : ArrIs Z h' a ty vs := by
  obtain ⟨c, A, e⟩ := A
  exact ⟨c, A.ext E, e⟩
theorem in_of {c : Cell} {vs : List Value} {j : Int32} {v : Value} (e : c.slots.toList = vs) (h0 : ¬ j < 0) (hv : vs[j.toNatClampNeg]? = some v) : ¬ (j < 0 ∨ c.slots.size ≤ j.toNatClampNeg) ∧ c.slots[j.toNatClampNeg]? = some v := by
  subst e
  rw [Array.getElem?_toList] at hv
  have := (Array.getElem?_eq_some_iff.mp hv).1
  exact ⟨fun q => q.elim h0 fun q => by omega, hv⟩
theorem Go.arraylength (C : Cx Z x code maxL ret E) {a : Addr} {ty : FieldType} {vs : List Value} {z : Int32} (H : ∀ h, Rep Z h M → ArrIs Z h a ty vs) (hz : vs.length.toInt32 = z) (hd : decode code pc = .ok (.arraylength, 1)) (hq : pc + 1 = q) (hr : Go l Z R E Q M k n q Ls (.int z :: st)) : Go l Z R E Q M k n pc Ls (.ref a :: st) := by
  intro T locs X F r
  obtain ⟨c, A, e⟩ := H _ r
  obtain ⟨s₂, v, L, h1, h2⟩ := hr T locs X F r
  refine ⟨s₂, v, L, Stand.arraylength X C.1 A.1 (State.isArrayOf_alike C.2.1.alike A.2.1) (g := mkF E.2.2.2.1 pc Ls (.ref a :: st)) rfl rfl (hb C.2.2.2.1 hd) _ ?_, h2⟩
  have : c.slots.size.toInt32 = z := by rw [← hz, ← e, Array.length_toList]
  rw [this]
  exact hq ▸ h1
theorem Go.iaload (C : Cx Z x code maxL ret E) {a : Addr} {vs : List Value} {j : Int32} {v : Value} (H : ∀ h, Rep Z h M → ArrIs Z h a .int vs) (h0 : ¬ j < 0) (hv : vs[j.toNatClampNeg]? = some v) (hd : decode code pc = .ok (.iaload, 1)) (hq : pc + 1 = q) (hr : Go l Z R E Q M k n q Ls (v :: st)) : Go l Z R E Q M k n pc Ls (.int j :: .ref a :: st) := by
  intro T locs X F r
  obtain ⟨c, A, e⟩ := H _ r
  obtain ⟨g1, g2⟩ := in_of e h0 hv
  obtain ⟨s₂, v, L, h1, h2⟩ := hr T locs X F r
  exact ⟨s₂, v, L, Stand.iaload X C.1 A.1 (State.isArrayOf_alike C.2.1.alike A.2.1) A.2.2 g1 g2 (g := mkF E.2.2.2.1 pc Ls (.int j :: .ref a :: st)) rfl rfl (hb C.2.2.2.1 hd) _ (hq ▸ h1), h2⟩
theorem Go.laload (C : Cx Z x code maxL ret E) {a : Addr} {vs : List Value} {j : Int32} {v : Value} (H : ∀ h, Rep Z h M → ArrIs Z h a .long vs) (h0 : ¬ j < 0) (hv : vs[j.toNatClampNeg]? = some v) (hd : decode code pc = .ok (.laload, 1)) (hq : pc + 1 = q) (hr : Go l Z R E Q M k n q Ls (v :: st)) : Go l Z R E Q M k n pc Ls (.int j :: .ref a :: st) := by
  intro T locs X F r
  obtain ⟨c, A, e⟩ := H _ r
  obtain ⟨g1, g2⟩ := in_of e h0 hv
  obtain ⟨s₂, v, L, h1, h2⟩ := hr T locs X F r
  exact ⟨s₂, v, L, Stand.laload X C.1 A.1 (State.isArrayOf_alike C.2.1.alike A.2.1) A.2.2 g1 g2 (g := mkF E.2.2.2.1 pc Ls (.int j :: .ref a :: st)) rfl rfl (hb C.2.2.2.1 hd) _ (hq ▸ h1), h2⟩
theorem Go.caload (C : Cx Z x code maxL ret E) {a : Addr} {vs : List Value} {j : Int32} {v : Value} (H : ∀ h, Rep Z h M → ArrIs Z h a .char vs) (h0 : ¬ j < 0) (hv : vs[j.toNatClampNeg]? = some v) (hd : decode code pc = .ok (.caload, 1)) (hq : pc + 1 = q) (hr : Go l Z R E Q M k n q Ls (v :: st)) : Go l Z R E Q M k n pc Ls (.int j :: .ref a :: st) := by
  intro T locs X F r
  obtain ⟨c, A, e⟩ := H _ r
  obtain ⟨g1, g2⟩ := in_of e h0 hv
  obtain ⟨s₂, v, L, h1, h2⟩ := hr T locs X F r
  exact ⟨s₂, v, L, Stand.caload X C.1 A.1 (State.isArrayOf_alike C.2.1.alike A.2.1) A.2.2 g1 g2 (g := mkF E.2.2.2.1 pc Ls (.int j :: .ref a :: st)) rfl rfl (hb C.2.2.2.1 hd) _ (hq ▸ h1), h2⟩
theorem Go.saload (C : Cx Z x code maxL ret E) {a : Addr} {vs : List Value} {j : Int32} {v : Value} (H : ∀ h, Rep Z h M → ArrIs Z h a .short vs) (h0 : ¬ j < 0) (hv : vs[j.toNatClampNeg]? = some v) (hd : decode code pc = .ok (.saload, 1)) (hq : pc + 1 = q) (hr : Go l Z R E Q M k n q Ls (v :: st)) : Go l Z R E Q M k n pc Ls (.int j :: .ref a :: st) := by
  intro T locs X F r
  obtain ⟨c, A, e⟩ := H _ r
  obtain ⟨g1, g2⟩ := in_of e h0 hv
  obtain ⟨s₂, v, L, h1, h2⟩ := hr T locs X F r
  exact ⟨s₂, v, L, Stand.saload X C.1 A.1 (State.isArrayOf_alike C.2.1.alike A.2.1) A.2.2 g1 g2 (g := mkF E.2.2.2.1 pc Ls (.int j :: .ref a :: st)) rfl rfl (hb C.2.2.2.1 hd) _ (hq ▸ h1), h2⟩
theorem Go.baload (C : Cx Z x code maxL ret E) {a : Addr} {vs : List Value} {j : Int32} {v : Value} (H : ∀ h, Rep Z h M → ArrIs Z h a .byte vs) (h0 : ¬ j < 0) (hv : vs[j.toNatClampNeg]? = some v) (hd : decode code pc = .ok (.baload, 1)) (hq : pc + 1 = q) (hr : Go l Z R E Q M k n q Ls (v :: st)) : Go l Z R E Q M k n pc Ls (.int j :: .ref a :: st) := by
  intro T locs X F r
  obtain ⟨c, A, e⟩ := H _ r
  obtain ⟨g1, g2⟩ := in_of e h0 hv
  obtain ⟨s₂, v, L, h1, h2⟩ := hr T locs X F r
  exact ⟨s₂, v, L, Stand.baloadBytes X C.1 A.1 (State.isArrayOf_alike C.2.1.alike A.2.1) A.2.2 g1 g2 (g := mkF E.2.2.2.1 pc Ls (.int j :: .ref a :: st)) rfl rfl (hb C.2.2.2.1 hd) _ (hq ▸ h1), h2⟩
theorem Go.zaload (C : Cx Z x code maxL ret E) {a : Addr} {vs : List Value} {j : Int32} {v : Value} (H : ∀ h, Rep Z h M → ArrIs Z h a .boolean vs) (h0 : ¬ j < 0) (hv : vs[j.toNatClampNeg]? = some v) (hd : decode code pc = .ok (.baload, 1)) (hq : pc + 1 = q) (hr : Go l Z R E Q M k n q Ls (v :: st)) : Go l Z R E Q M k n pc Ls (.int j :: .ref a :: st) := by
  intro T locs X F r
  obtain ⟨c, A, e⟩ := H _ r
  obtain ⟨g1, g2⟩ := in_of e h0 hv
  obtain ⟨s₂, v, L, h1, h2⟩ := hr T locs X F r
  exact ⟨s₂, v, L, Stand.baloadBooleans X C.1 A.1 (State.isArrayOf_alike C.2.1.alike A.2.1) A.2.2 g1 g2 (g := mkF E.2.2.2.1 pc Ls (.int j :: .ref a :: st)) rfl rfl (hb C.2.2.2.1 hd) _ (hq ▸ h1), h2⟩
theorem Go.aaload (C : Cx Z x code maxL ret E) {a : Addr} {ty : FieldType} {vs : List Value} {j : Int32} {v : Value} (H : ∀ h, Rep Z h M → ArrIs Z h a ty vs) (hty : ty.isReference = true) (h0 : ¬ j < 0) (hv : vs[j.toNatClampNeg]? = some v) (hd : decode code pc = .ok (.aaload, 1)) (hq : pc + 1 = q) (hr : Go l Z R E Q M k n q Ls (v :: st)) : Go l Z R E Q M k n pc Ls (.int j :: .ref a :: st) := by
  intro T locs X F r
  obtain ⟨c, A, e⟩ := H _ r
  obtain ⟨g1, g2⟩ := in_of e h0 hv
  obtain ⟨s₂, v, L, h1, h2⟩ := hr T locs X F r
  exact ⟨s₂, v, L, Stand.aaload X C.1 A.1 (State.isArrayOf_alike C.2.1.alike A.2.1) hty A.2.2 g1 g2 (g := mkF E.2.2.2.1 pc Ls (.int j :: .ref a :: st)) rfl rfl (hb C.2.2.2.1 hd) _ (hq ▸ h1), h2⟩
theorem Go.iastore (C : Cx Z x code maxL ret E) {a : Addr} {vs : List Value} {i : Nat} {j : Int32} {w : Int32} {w' : Value} {M' : List Ent} (hi : M[i]? = some (a, .inr (.int, vs, true))) (h0 : ¬ j < 0) (hv : j.toNatClampNeg < vs.length) (hw : .int w = w') (hd : decode code pc = .ok (.iastore, 1)) (hq : pc + 1 = q) (hM : M.set i (a, .inr (.int, vs.set j.toNatClampNeg w', true)) = M') (hr : Go l Z R E Q M' k n q Ls st) : Go l Z R E Q M k n pc Ls (.int w :: .int j :: .ref a :: st) := by
  intro T locs X F r
  subst hw
  obtain ⟨c, A, e, o⟩ := (r.2.1 i _ hi).2
  have g1 : ¬ (j < 0 ∨ c.slots.size ≤ j.toNatClampNeg) := fun q => q.elim h0 fun q => by rw [← e, Array.length_toList] at hv; omega
  obtain ⟨T', h', X', e', W, s'⟩ := stI X C.1 C.2.1 rfl A g1 (g := mkF E.2.2.2.1 pc Ls (.int w :: .int j :: .ref a :: st)) rfl rfl (hb C.2.2.2.1 hd)
  obtain ⟨s₂, v, L, h1, h2⟩ := hr T' _ X' (Fr.snoc X' F (r.fresh hi)) (by rw [e', ← hM]; exact r.wrote hi W ((r.2.1 i _ hi).2.store W))
  exact ⟨s₂, v, L, s' _ (hq ▸ h1), h2⟩
theorem Go.lastore (C : Cx Z x code maxL ret E) {a : Addr} {vs : List Value} {i : Nat} {j : Int32} {w : Int64} {w' : Value} {M' : List Ent} (hi : M[i]? = some (a, .inr (.long, vs, true))) (h0 : ¬ j < 0) (hv : j.toNatClampNeg < vs.length) (hw : .long w = w') (hd : decode code pc = .ok (.lastore, 1)) (hq : pc + 1 = q) (hM : M.set i (a, .inr (.long, vs.set j.toNatClampNeg w', true)) = M') (hr : Go l Z R E Q M' k n q Ls st) : Go l Z R E Q M k n pc Ls (.long w :: .int j :: .ref a :: st) := by
  intro T locs X F r
  subst hw
  obtain ⟨c, A, e, o⟩ := (r.2.1 i _ hi).2
  have g1 : ¬ (j < 0 ∨ c.slots.size ≤ j.toNatClampNeg) := fun q => q.elim h0 fun q => by rw [← e, Array.length_toList] at hv; omega
  obtain ⟨T', h', X', e', W, s'⟩ := stJ X C.1 C.2.1 rfl A g1 (g := mkF E.2.2.2.1 pc Ls (.long w :: .int j :: .ref a :: st)) rfl rfl (hb C.2.2.2.1 hd)
  obtain ⟨s₂, v, L, h1, h2⟩ := hr T' _ X' (Fr.snoc X' F (r.fresh hi)) (by rw [e', ← hM]; exact r.wrote hi W ((r.2.1 i _ hi).2.store W))
  exact ⟨s₂, v, L, s' _ (hq ▸ h1), h2⟩
theorem Go.castore (C : Cx Z x code maxL ret E) {a : Addr} {vs : List Value} {i : Nat} {j : Int32} {w : Int32} {w' : Value} {M' : List Ent} (hi : M[i]? = some (a, .inr (.char, vs, true))) (h0 : ¬ j < 0) (hv : j.toNatClampNeg < vs.length) (hw : .int (nar .char w) = w') (hd : decode code pc = .ok (.castore, 1)) (hq : pc + 1 = q) (hM : M.set i (a, .inr (.char, vs.set j.toNatClampNeg w', true)) = M') (hr : Go l Z R E Q M' k n q Ls st) : Go l Z R E Q M k n pc Ls (.int w :: .int j :: .ref a :: st) := by
  intro T locs X F r
  subst hw
  obtain ⟨c, A, e, o⟩ := (r.2.1 i _ hi).2
  have g1 : ¬ (j < 0 ∨ c.slots.size ≤ j.toNatClampNeg) := fun q => q.elim h0 fun q => by rw [← e, Array.length_toList] at hv; omega
  obtain ⟨T', h', X', e', W, s'⟩ := stC X C.1 C.2.1 rfl A g1 (g := mkF E.2.2.2.1 pc Ls (.int w :: .int j :: .ref a :: st)) rfl rfl (hb C.2.2.2.1 hd)
  obtain ⟨s₂, v, L, h1, h2⟩ := hr T' _ X' (Fr.snoc X' F (r.fresh hi)) (by rw [e', ← hM]; exact r.wrote hi W ((r.2.1 i _ hi).2.store W))
  exact ⟨s₂, v, L, s' _ (hq ▸ h1), h2⟩
theorem Go.bastore (C : Cx Z x code maxL ret E) {a : Addr} {vs : List Value} {i : Nat} {j : Int32} {w : Int32} {w' : Value} {M' : List Ent} (hi : M[i]? = some (a, .inr (.byte, vs, true))) (h0 : ¬ j < 0) (hv : j.toNatClampNeg < vs.length) (hw : .int (nar .byte w) = w') (hd : decode code pc = .ok (.bastore, 1)) (hq : pc + 1 = q) (hM : M.set i (a, .inr (.byte, vs.set j.toNatClampNeg w', true)) = M') (hr : Go l Z R E Q M' k n q Ls st) : Go l Z R E Q M k n pc Ls (.int w :: .int j :: .ref a :: st) := by
  intro T locs X F r
  subst hw
  obtain ⟨c, A, e, o⟩ := (r.2.1 i _ hi).2
  have g1 : ¬ (j < 0 ∨ c.slots.size ≤ j.toNatClampNeg) := fun q => q.elim h0 fun q => by rw [← e, Array.length_toList] at hv; omega
  obtain ⟨T', h', X', e', W, s'⟩ := stB X C.1 C.2.1 rfl A g1 (g := mkF E.2.2.2.1 pc Ls (.int w :: .int j :: .ref a :: st)) rfl rfl (hb C.2.2.2.1 hd)
  obtain ⟨s₂, v, L, h1, h2⟩ := hr T' _ X' (Fr.snoc X' F (r.fresh hi)) (by rw [e', ← hM]; exact r.wrote hi W ((r.2.1 i _ hi).2.store W))
  exact ⟨s₂, v, L, s' _ (hq ▸ h1), h2⟩
theorem Go.zastore (C : Cx Z x code maxL ret E) {a : Addr} {vs : List Value} {i : Nat} {j : Int32} {w : Int32} {w' : Value} {M' : List Ent} (hi : M[i]? = some (a, .inr (.boolean, vs, true))) (h0 : ¬ j < 0) (hv : j.toNatClampNeg < vs.length) (hw : .int (nar .boolean w) = w') (hd : decode code pc = .ok (.bastore, 1)) (hq : pc + 1 = q) (hM : M.set i (a, .inr (.boolean, vs.set j.toNatClampNeg w', true)) = M') (hr : Go l Z R E Q M' k n q Ls st) : Go l Z R E Q M k n pc Ls (.int w :: .int j :: .ref a :: st) := by
  intro T locs X F r
  subst hw
  obtain ⟨c, A, e, o⟩ := (r.2.1 i _ hi).2
  have g1 : ¬ (j < 0 ∨ c.slots.size ≤ j.toNatClampNeg) := fun q => q.elim h0 fun q => by rw [← e, Array.length_toList] at hv; omega
  obtain ⟨T', h', X', e', W, s'⟩ := stZ X C.1 C.2.1 rfl A g1 (g := mkF E.2.2.2.1 pc Ls (.int w :: .int j :: .ref a :: st)) rfl rfl (hb C.2.2.2.1 hd)
  obtain ⟨s₂, v, L, h1, h2⟩ := hr T' _ X' (Fr.snoc X' F (r.fresh hi)) (by rw [e', ← hM]; exact r.wrote hi W ((r.2.1 i _ hi).2.store W))
  exact ⟨s₂, v, L, s' _ (hq ▸ h1), h2⟩
/-- v may lie in an array of K -/
def Fits (Z : State) (h : Heap) (K : String) (v : Value) : Prop := v = .null ∨ ∃ y, v = .ref y ∧ Ins Z h y K true
theorem Go.aastore (C : Cx Z x code maxL ret E) {a : Addr} {K : String} {vs : List Value} {i : Nat} {j : Int32} {v : Value} {M' : List Ent} (hi : M[i]? = some (a, .inr (.object K, vs, true))) (h0 : ¬ j < 0) (hv : j.toNatClampNeg < vs.length) (S : ∀ h, Rep Z h M → Fits Z h K v) (hd : decode code pc = .ok (.aastore, 1)) (hq : pc + 1 = q) (hM : M.set i (a, .inr (.object K, vs.set j.toNatClampNeg v, true)) = M') (hr : Go l Z R E Q M' k n q Ls st) : Go l Z R E Q M k n pc Ls (v :: .int j :: .ref a :: st) := by
  intro T locs X F r
  obtain ⟨c, A, e, o⟩ := (r.2.1 i _ hi).2
  have g1 : ¬ (j < 0 ∨ c.slots.size ≤ j.toNatClampNeg) := fun q => q.elim h0 fun q => by rw [← e, Array.length_toList] at hv; omega
  have g2 : Sto Z T.heap a v := (S _ r).imp id fun ⟨y, e', I⟩ => by
    subst e'
    exact (Sto.of A (o rfl K rfl) I).elim (fun q => by cases q) id
  obtain ⟨T', h', X', e', W, s'⟩ := stR X C.1 C.2.1 rfl A g1 rfl g2 (g := mkF E.2.2.2.1 pc Ls (v :: .int j :: .ref a :: st)) rfl rfl (hb C.2.2.2.1 hd)
  obtain ⟨s₂, v, L, h1, h2⟩ := hr T' _ X' (Fr.snoc X' F (r.fresh hi)) (by rw [e', ← hM]; exact r.wrote hi W ((r.2.1 i _ hi).2.store W))
  exact ⟨s₂, v, L, s' _ (hq ▸ h1), h2⟩
theorem Go.newarray (C : Cx Z x code maxL ret E) {aty : ArrayType} {z : Int32} {cap k' n' : Nat} {ty : FieldType} {vs : List Value} (w : (Cond.arrayClass ty).before a0 Z = true) (hty : newarray.typeOf aty = ty) (hpr : ∀ C, ty ≠ .object C) (h0 : ¬ z < 0) (hcap : z.toNatClampNeg ≤ cap) (hb8 : cap * 8 ≤ 536870912) (hvs : List.replicate z.toNatClampNeg (defaultValue ty) = vs) (hd : decode code pc = .ok (.newarray aty, 2)) (hq : pc + 2 = q)
    (hc : k + 1 ≤ R.cells) (hs : n + cap ≤ R.slots) (hk : k + 1 = k') (hn : n + cap = n') (hr : ∀ a, Go l Z R E Q ((a, .inr (ty, vs, true)) :: M) k' n' q Ls (.ref a :: st)) : Go l Z R E Q M k n pc Ls (.int z :: st) := by
  intro T locs X F r
  subst hty
  obtain ⟨T', h', cA, X', e', Ex, A, s'⟩ := newP X C.1 C.2.1 w rfl (g := mkF E.2.2.2.1 pc Ls (.int z :: st)) rfl (hb C.2.2.2.1 hd) rfl h0 hcap hb8 hc hs
  subst hk hn
  obtain ⟨s₂, v, L, h1, h2⟩ := hr _ T' _ X' F (by
    rw [e']
    exact r.new Ex rfl ⟨_, A, by rw [← hvs]; simp [newA], fun _ C e => absurd e (hpr C)⟩)
  exact ⟨s₂, v, L, s' _ (hq ▸ h1), h2⟩
theorem Go.anewarray (C : Cx Z x code maxL ret E) {idx : Nat} {K : String} {z : Int32} {cap k' n' : Nat} {vs : List Value} (w1 : (Cond.classLink x.cls idx K).before a0 Z = true) (w2 : (Cond.arrayOver (.object K)).before a0 Z = true) (h0 : ¬ z < 0) (hcap : z.toNatClampNeg ≤ cap) (hb8 : cap * 8 ≤ 536870912) (hvs : List.replicate z.toNatClampNeg (.null : Value) = vs) (hd : decode code pc = .ok (.anewarray idx, 3)) (hq : pc + 3 = q)
    (hc : k + 1 ≤ R.cells) (hs : n + cap ≤ R.slots) (hk : k + 1 = k') (hn : n + cap = n') (hr : ∀ a, Go l Z R E Q ((a, .inr (.object K, vs, true)) :: M) k' n' q Ls (.ref a :: st)) : Go l Z R E Q M k n pc Ls (.int z :: st) := by
  intro T locs X F r
  obtain ⟨T', h', cA, X', e', Ex, A, O, s'⟩ := newR X C.1 C.2.1 C.2.2.1 w1 w2 rfl (g := mkF E.2.2.2.1 pc Ls (.int z :: st)) rfl (hb C.2.2.2.1 hd) rfl h0 hcap hb8 hc hs
  subst hk hn
  obtain ⟨s₂, v, L, h1, h2⟩ := hr _ T' _ X' F (by
    rw [e']
    exact r.new Ex rfl ⟨_, A, by rw [← hvs]; simp [newA, defaultValue], fun _ C e => by cases e; exact O⟩)
  exact ⟨s₂, v, L, s' _ (hq ▸ h1), h2⟩
theorem Go.castY (C : Cx Z x code maxL ret E) {idx : Nat} {K : String} {a : Addr} (w : (Cond.classLink x.cls idx K).before a0 Z = true) (H : ∀ h, Rep Z h M → Ins Z h a K true) (hd : decode code pc = .ok (.checkcast idx, 3)) (hq : pc + 3 = q) (hr : Go l Z R E Q M k n q Ls (.ref a :: st)) : Go l Z R E Q M k n pc Ls (.ref a :: st) := by
  intro T locs X F r
  obtain ⟨T', X', e', s'⟩ := RoadKit.castY X C.1 C.2.1 C.2.2.1 w rfl (H _ r) (g := mkF E.2.2.2.1 pc Ls (.ref a :: st)) rfl rfl (hb C.2.2.2.1 hd)
  obtain ⟨s₂, v, L, h1, h2⟩ := hr T' locs X' F (by rw [e']; exact r)
  exact ⟨s₂, v, L, s' _ (hq ▸ h1), h2⟩
theorem Go.instY (C : Cx Z x code maxL ret E) {idx : Nat} {K : String} {a : Addr} (w : (Cond.classLink x.cls idx K).before a0 Z = true) (H : ∀ h, Rep Z h M → Ins Z h a K true) (hd : decode code pc = .ok (.instanceof idx, 3)) (hq : pc + 3 = q) (hr : Go l Z R E Q M k n q Ls (.int 1 :: st)) : Go l Z R E Q M k n pc Ls (.ref a :: st) := by
  intro T locs X F r
  obtain ⟨T', X', e', s'⟩ := RoadKit.instY X C.1 C.2.1 C.2.2.1 w rfl (H _ r) (g := mkF E.2.2.2.1 pc Ls (.ref a :: st)) rfl rfl (hb C.2.2.2.1 hd)
  obtain ⟨s₂, v, L, h1, h2⟩ := hr T' locs X' F (by rw [e']; exact r)
  exact ⟨s₂, v, L, s' _ (hq ▸ h1), h2⟩
theorem Go.instNo (C : Cx Z x code maxL ret E) {idx : Nat} {K C' : String} {a : Addr} (w : (Cond.classLink x.cls idx K).before a0 Z = true) (H : ∀ h, Rep Z h M → Exa Z h a C') (N : ∃ c t, Z.vm.findClass C' = some c ∧ Z.vm.findClass K = some t ∧ Z.vm.assignable c t = false) (hd : decode code pc = .ok (.instanceof idx, 3)) (hq : pc + 3 = q) (hr : Go l Z R E Q M k n q Ls (.int 0 :: st)) : Go l Z R E Q M k n pc Ls (.ref a :: st) := by
  intro T locs X F r
  obtain ⟨T', X', e', s'⟩ := RoadKit.instNo X C.1 C.2.1 C.2.2.1 w rfl (H _ r) N (g := mkF E.2.2.2.1 pc Ls (.ref a :: st)) rfl rfl (hb C.2.2.2.1 hd)
  obtain ⟨s₂, v, L, h1, h2⟩ := hr T' locs X' F (by rw [e']; exact r)
  exact ⟨s₂, v, L, s' _ (hq ▸ h1), h2⟩
theorem Go.instNull (C : Cx Z x code maxL ret E) {idx : Nat} (hd : decode code pc = .ok (.instanceof idx, 3)) (hq : pc + 3 = q) (hr : Go l Z R E Q M k n q Ls (.int 0 :: st)) : Go l Z R E Q M k n pc Ls (.null :: st) :=
  Go.plain hr fun _ _ t X s => Jvm.Stand.instanceofNull X C.1 (g := mkF E.2.2.2.1 pc Ls (.null :: st)) rfl rfl (hb C.2.2.2.1 hd) t (hq ▸ s)
theorem Go.castNull (C : Cx Z x code maxL ret E) {idx : Nat} (hd : decode code pc = .ok (.checkcast idx, 3)) (hq : pc + 3 = q) (hr : Go l Z R E Q M k n q Ls (.null :: st)) : Go l Z R E Q M k n pc Ls (.null :: st) :=
  Go.plain hr fun _ _ t X s => Jvm.Stand.checkcastNull X C.1 (g := mkF E.2.2.2.1 pc Ls (.null :: st)) rfl rfl (hb C.2.2.2.1 hd) t (hq ▸ s)
theorem nsRoot {O K : String} {kk : Nat} (w : (Cond.noSuperclass O).before a0 Z = true) (wk : (Cond.instantiable K kk).before a0 Z = true) (hn : O ≠ K) : NS Z O K := by
  obtain ⟨c, k, h1, h2, h3, -, -⟩ := Cond.noSuperclass_spec w
  obtain ⟨t, _, g1, -⟩ := Cond.instantiable_spec wk
  have ne := ids_ne h1 g1 hn
  refine ⟨c, t, h1, g1, fun fuel => ?_⟩
  cases fuel with
  | zero => rfl
  | succ f => simp [Vm.isSubclassAux, ne, h2, h3]
theorem nsNo {C' S K : String} {kk : Nat} (w : (Cond.superclass C' S).before a0 Z = true) (wk : (Cond.instantiable K kk).before a0 Z = true) (n : NS Z C' K) (hn : C' ≠ K) : ∃ c t, Z.vm.findClass C' = some c ∧ Z.vm.findClass K = some t ∧ Z.vm.assignable c t = false := by
  obtain ⟨c, t, h0, g0, n3⟩ := n
  obtain ⟨p, k, kp, h1, h2, h3, h4, h5, -, h7⟩ := Cond.superclass_spec h0 w
  obtain ⟨t', k', g1, g2, g5, g7, -⟩ := Cond.instantiable_spec wk
  cases g0.symm.trans g1
  have ne := ids_ne h0 g0 hn
  have g8 : k'.isInterface = false := by cases h : k'.isInterface <;> simp [h] at g7 ⊢
  refine ⟨c, t, h0, g0, ?_⟩
  show Z.vm.assignableAux (255 + 1) c t = false
  simp [Vm.assignableAux, ne, h2, g2, h5, g5, g8, Vm.isSubclass, n3]
theorem Go.cloneCast (C : Cx Z x code maxL ret E) {idx idx2 k' n' cap p' : Nat} {ad : String} {ty : FieldType} {a : Addr} {vs : List Value} (w1 : (Cond.methodLink x.cls idx ⟨ad, "clone", "()Ljava/lang/Object;"⟩).before a0 Z = true) (w2 : (Cond.sameMethod ad "java/lang/Object" "clone" "()Ljava/lang/Object;").before a0 Z = true) (w3 : (Cond.native ⟨"java/lang/Object", "clone", "()Ljava/lang/Object;"⟩).before a0 Z = true)
    (w4 : (Cond.instanceMethod ⟨"java/lang/Object", "clone", "()Ljava/lang/Object;"⟩).before a0 Z = true) (w5 : (Cond.selects ad ⟨ad, "clone", "()Ljava/lang/Object;"⟩ ⟨"java/lang/Object", "clone", "()Ljava/lang/Object;"⟩).before a0 Z = true) (w6 : (Cond.castable ad "java/lang/Cloneable").before a0 Z = true) (w7 : (Cond.classLink x.cls idx2 ad).before a0 Z = true)
    (A : ∀ h, Rep Z h M → ArrIs Z h a ty vs) (Ex : ∀ h, Rep Z h M → Exa Z h a ad) (hfit : ∀ v ∈ vs, fits ty v = true) (hd : decode code pc = .ok (.invokevirtual idx, 3)) (hp : pc + 3 = p') (hd' : decode code p' = .ok (.checkcast idx2, 3)) (hq : p' + 3 = q) (hsz : Ls.size = maxL) (hf : 1 ≤ R.frames) {W : Nat} (hW : (st.map fun v => v.category).sum = W) (hl : W + 14 ≤ R.locals) (hcap : vs.length ≤ cap) (hc : k + 1 ≤ R.cells) (hs : n + cap ≤ R.slots) (hk : k + 1 = k') (hn : n + cap = n')
    (hr : ∀ b, Go l Z R E Q ((b, .inr (ty, vs, false)) :: M) k' n' q Ls (.ref b :: st)) : Go l Z R E Q M k n pc Ls (.ref a :: st) := by
  subst hW
  intro T locs X F r
  obtain ⟨cl, Aa, e⟩ := A _ r
  obtain ⟨T', h', X', e', Ext', A', E', s'⟩ := cloneA X C.1 C.2.1 C.2.2.1 w1 w2 w3 w4 w5 w6 rfl Aa (Ex _ r) (fitC_of Aa fun i hi v hv => hfit v (by rw [← e]; exact Array.mem_toList_iff.mpr (Array.mem_of_getElem? hv))) (g := mkF E.2.2.2.1 pc Ls (.ref a :: st)) rfl (hsz.trans C.2.2.2.2.1.symm) rfl (hb C.2.2.2.1 hd) hf (W := (st.map fun v => v.category).sum) (by show 2 * 0 + _ ≤ _; omega) hl (cap := cap) (by rw [← e, Array.length_toList] at hcap; exact hcap) hc hs
  subst hk hn hp
  obtain ⟨T2, X2, e2, s2⟩ := RoadKit.castY X' C.1 C.2.1 C.2.2.1 w7 e' (Ins.self E') (g := mkF E.2.2.2.1 (pc + 3) Ls (.ref T.heap.size :: st)) rfl rfl (hb C.2.2.2.1 hd')
  obtain ⟨s₂, v, L, h1, h2⟩ := hr _ T2 _ X2 F (by
    rw [e2]
    exact r.new Ext' rfl ⟨_, A', e, fun q => by cases q⟩)
  exact ⟨s₂, v, L, s' _ (s2 _ (hq ▸ h1)), h2⟩
/-! calls -/
theorem nf_sel {K : String} {y z : MethodName} (w : (Cond.selects K y y).before a0 Z = true) : ∀ s : State, Z.Warmed39 s.vm → NotFace s y := fun s hZ => notFace_of_selects (args := #[]) (mvT hZ w)
theorem nf_same {K : String} {y y' : MethodName} (hc : y.cls = y'.cls) (w : (Cond.selects K y' y').before a0 Z = true) : ∀ s : State, Z.Warmed39 s.vm → NotFace s y := fun s hZ r0 h0 => by
  obtain ⟨c2, r2, m2, q1, q2, q3, q4, kP, hkP, hkPi⟩ := Cond.selects_spec (mvT (args := #[]) hZ w)
  have e1 := findClass_of_methodNamed h0
  have e2 := findClass_of_methodNamed q3
  rw [hc, e2] at e1
  have e3 := Option.some.inj e1
  exact ⟨kP, e3 ▸ hkP, hkPi⟩
theorem nf_sup {y : MethodName} {S : String} (w : (Cond.superclass y.cls S).before a0 Z = true) : ∀ s : State, Z.Warmed39 s.vm → NotFace s y := fun s hZ => nf_super (args := #[]) (mvT hZ w)
theorem nf_topS {y : MethodName} (w : (Cond.noSuperclass y.cls).before a0 Z = true) : ∀ s : State, Z.Warmed39 s.vm → NotFace s y := fun s hZ => nf_top (args := #[]) (mvT hZ w)
section Calls
variable {y : MethodName} {bytes : ByteArray} {mL : Nat} {rt : Option FieldType} {rm : Room} {as rest : List Value} {Qc : PQ} {idx k' n' : Nat}
theorem len_ok {d : String} (h : (parseMethodDescriptor d).map (fun s => s.parameters.length) = some as.length) : ∀ sig, parseMethodDescriptor d = some sig → as.length = sig.parameters.length := fun sig e => by
  rw [e] at h
  exact (Option.some.inj h).symm
theorem Go.callS (C : Cx Z x code maxL ret E) (w1 : (Cond.methodLink x.cls idx y).before a0 Z = true) (w2 : (Cond.static y).before a0 Z = true) (w3 : (Cond.initialized y.cls).before a0 Z = true) (w4 : (Cond.code y bytes mL rt).before a0 Z = true) (hM : Met l Z y bytes mL rt rm as.toArray M Qc) (hst : st = as.reverse ++ rest)
    (hd : decode code pc = .ok (.invokestatic idx, 3)) (hq : pc + 3 = q) (hy : y.cls ≠ "java/lang/invoke/MethodHandle" ∧ y.cls ≠ "java/lang/invoke/VarHandle") (hsz : Ls.size = maxL) {na W : Nat} (hlen : (parseMethodDescriptor y.desc).map (fun s => s.parameters.length) = some na) (hna : as.length = na) (hf : rm.frames + 1 ≤ R.frames) (hW : (rest.map fun v => v.category).sum = W) (hl : W + (mL + 11) + rm.locals ≤ R.locals) (hc : k + rm.cells ≤ R.cells) (hs : n + rm.slots ≤ R.slots) (hk : k + rm.cells = k') (hn : n + rm.slots = n')
    (hr : ∀ v M', Qc v M' → Go l Z R E Q M' k' n' q Ls (v.toList ++ rest)) : Go l Z R E Q M k n pc Ls st := by
  subst hna hW
  intro T locs X F r
  obtain ⟨v, _, ⟨T', L', c', s'⟩, -, X', ⟨Lc, hQ, l', y', z'⟩, hst'⟩ := Jvm.LawKit.callS X C.1 C.2.2.1 (mvT C.2.1 w1) (mvT C.2.1 w2) (mvT C.2.1 w3) (mvT C.2.1 w4) hy (backOf (W := (rest.map fun v => v.category).sum) (h := T.heap) (Q := fun v h L => Fr Z.heap.size L ∧ ∃ M', Qc v M' ∧ Rep Z h M') (hM [] _ r) C.2.1 w4 w3 hf hl) (g := mkF E.2.2.2.1 pc Ls st) rfl (hsz.trans C.2.2.2.2.1.symm) (argsL := as) (rest := rest) (len_ok hlen) hst (by show 2 * 0 + _ ≤ _; omega) (hb C.2.2.2.1 hd) (fun _ _ => ⟨rfl, rfl, hc, hs⟩)
  dsimp only [Pt.U, Pt.locs, Pt.cells, Pt.slots] at X' l' y' z' hst' hQ
  obtain ⟨FL, M', hQ', r'⟩ := hQ
  subst l' y' z' hk hn
  obtain ⟨s₂, v, L, h1, h2⟩ := hr v M' hQ' T' _ X' (F.app FL) r'
  exact ⟨s₂, v, L, hst' _ (hq ▸ h1), h2⟩
theorem Go.callI (C : Cx Z x code maxL ret E) {a : Addr} (w1 : (Cond.methodLink x.cls idx y).before a0 Z = true) (w2 : (Cond.instanceMethod y).before a0 Z = true) (w3 : (Cond.initialized y.cls).before a0 Z = true) (w4 : (Cond.code y bytes mL none).before a0 Z = true) (hM : Met l Z y bytes mL none rm (.ref a :: as).toArray M Qc) (hst : st = as.reverse ++ .ref a :: rest) (hy1 : y.name = "<init>")
    (hd : decode code pc = .ok (.invokespecial idx, 3)) (hq : pc + 3 = q) (hy : y.cls ≠ "java/lang/invoke/MethodHandle" ∧ y.cls ≠ "java/lang/invoke/VarHandle") (hsz : Ls.size = maxL) {na W : Nat} (hlen : (parseMethodDescriptor y.desc).map (fun s => s.parameters.length) = some na) (hna : as.length = na) (hf : rm.frames + 1 ≤ R.frames) (hW : (rest.map fun v => v.category).sum = W) (hl : W + (mL + 11) + rm.locals ≤ R.locals) (hc : k + rm.cells ≤ R.cells) (hs : n + rm.slots ≤ R.slots) (hk : k + rm.cells = k') (hn : n + rm.slots = n')
    (hr : ∀ v M', Qc v M' → Go l Z R E Q M' k' n' q Ls (v.toList ++ rest)) : Go l Z R E Q M k n pc Ls st := by
  subst hna hW
  intro T locs X F r
  obtain ⟨v, _, ⟨T', L', c', s'⟩, -, X', ⟨Lc, hQ, l', y', z'⟩, hst'⟩ := Stand.specialBack X C.1 hy1 C.2.2.1 (mvT C.2.1 w1) (mvT C.2.1 w2) (mvT C.2.1 w4) hy (backOf (W := (rest.map fun v => v.category).sum) (h := T.heap) (Q := fun v h L => Fr Z.heap.size L ∧ ∃ M', Qc v M' ∧ Rep Z h M') (hM [] _ r) C.2.1 w4 w3 hf hl) (g := mkF E.2.2.2.1 pc Ls st) rfl (hsz.trans C.2.2.2.2.1.symm) (Steps.refl _) (a := a) (argsL := as) (rest := rest) (len_ok hlen) hst (by show 2 * 0 + _ ≤ _; omega) (hb C.2.2.2.1 hd) (fun _ _ => ⟨rfl, rfl, hc, hs⟩)
  dsimp only [Pt.U, Pt.locs, Pt.cells, Pt.slots] at X' l' y' z' hst' hQ
  obtain ⟨FL, M', hQ', r'⟩ := hQ
  subst l' y' z' hk hn
  obtain ⟨s₂, v, L, h1, h2⟩ := hr v M' hQ' T' _ X' (F.app FL) r'
  exact ⟨s₂, v, L, hst'.trans (hq ▸ h1), h2⟩
theorem Go.callV (C : Cx Z x code maxL ret E) {a : Addr} {K : String} {z : MethodName} (w1 : (Cond.methodLink x.cls idx y).before a0 Z = true) (w2 : (Cond.declares y).before a0 Z = true) (nf : ∀ s : State, Z.Warmed39 s.vm → NotFace s y) (w3 : (Cond.selects K y z).before a0 Z = true) (w4 : (Cond.instanceMethod z).before a0 Z = true) (w5 : (Cond.code z bytes mL rt).before a0 Z = true) (w6 : (Cond.initialized z.cls).before a0 Z = true) (H : ∀ h, Rep Z h M → Exa Z h a K) (hM : Met l Z z bytes mL rt rm (.ref a :: as).toArray M Qc) (hst : st = as.reverse ++ .ref a :: rest)
    (hd : decode code pc = .ok (.invokevirtual idx, 3)) (hq : pc + 3 = q) (hy : y.cls ≠ "java/lang/invoke/MethodHandle" ∧ y.cls ≠ "java/lang/invoke/VarHandle") (hsz : Ls.size = maxL) {na W : Nat} (hlen : (parseMethodDescriptor y.desc).map (fun s => s.parameters.length) = some na) (hna : as.length = na) (hf : rm.frames + 1 ≤ R.frames) (hW : (rest.map fun v => v.category).sum = W) (hl : W + (mL + 11) + rm.locals ≤ R.locals) (hc : k + rm.cells ≤ R.cells) (hs : n + rm.slots ≤ R.slots) (hk : k + rm.cells = k') (hn : n + rm.slots = n')
    (hr : ∀ v M', Qc v M' → Go l Z R E Q M' k' n' q Ls (v.toList ++ rest)) : Go l Z R E Q M k n pc Ls st := by
  subst hna hW
  intro T locs X F r
  have nf' : NotFace E.2.2.1 y := nf _ C.2.1
  obtain ⟨_, _, q1, q2, q3⟩ := isOf C.2.1 (rfl : T.heap = T.heap) (H _ r)
  obtain ⟨v, _, ⟨T', L', c', s'⟩, -, X', ⟨Lc, hQ, l', y', z'⟩, hst'⟩ := Stand.virtualBack X C.1 C.2.2.1 (mvT C.2.1 w1) (mvT C.2.1 w2) nf' (mvT C.2.1 w3) (mvT C.2.1 w4) hy (backOf (W := (rest.map fun v => v.category).sum) (h := T.heap) (Q := fun v h L => Fr Z.heap.size L ∧ ∃ M', Qc v M' ∧ Rep Z h M') (hM [] _ r) C.2.1 w5 w6 hf hl) q1 q3 (g := mkF E.2.2.2.1 pc Ls st) rfl (hsz.trans C.2.2.2.2.1.symm) (Steps.refl _) (argsL := as) (rest := rest) (len_ok hlen) hst (by show 2 * 0 + _ ≤ _; omega) (hb C.2.2.2.1 hd) (fun _ _ => ⟨rfl, rfl, hc, hs⟩)
  dsimp only [Pt.U, Pt.locs, Pt.cells, Pt.slots] at X' l' y' z' hst' hQ
  obtain ⟨FL, M', hQ', r'⟩ := hQ
  subst l' y' z' hk hn
  obtain ⟨s₂, v, L, h1, h2⟩ := hr v M' hQ' T' _ X' (F.app FL) r'
  exact ⟨s₂, v, L, hst'.trans (hq ▸ h1), h2⟩
theorem Go.callU (C : Cx Z x code maxL ret E) {a : Addr} {K owner : String} {z : MethodName} (w1 : (Cond.methodLink x.cls idx y).before a0 Z = true) (w2 : (Cond.sameMethod y.cls owner y.name y.desc).before a0 Z = true) (w2' : (Cond.declares ⟨owner, y.name, y.desc⟩).before a0 Z = true) (w3 : (Cond.selects K y z).before a0 Z = true) (w4 : (Cond.instanceMethod z).before a0 Z = true) (w5 : (Cond.code z bytes mL rt).before a0 Z = true) (w6 : (Cond.initialized z.cls).before a0 Z = true) (H : ∀ h, Rep Z h M → Exa Z h a K) (hM : Met l Z z bytes mL rt rm (.ref a :: as).toArray M Qc) (hst : st = as.reverse ++ .ref a :: rest)
    (hd : decode code pc = .ok (.invokevirtual idx, 3)) (hq : pc + 3 = q) (hy : owner ≠ "java/lang/invoke/MethodHandle" ∧ owner ≠ "java/lang/invoke/VarHandle") (hsz : Ls.size = maxL) {na W : Nat} (hlen : (parseMethodDescriptor y.desc).map (fun s => s.parameters.length) = some na) (hna : as.length = na) (hf : rm.frames + 1 ≤ R.frames) (hW : (rest.map fun v => v.category).sum = W) (hl : W + (mL + 11) + rm.locals ≤ R.locals) (hc : k + rm.cells ≤ R.cells) (hs : n + rm.slots ≤ R.slots) (hk : k + rm.cells = k') (hn : n + rm.slots = n')
    (hr : ∀ v M', Qc v M' → Go l Z R E Q M' k' n' q Ls (v.toList ++ rest)) : Go l Z R E Q M k n pc Ls st := by
  subst hna hW
  intro T locs X F r
  obtain ⟨_, _, q1, q2, q3⟩ := isOf C.2.1 (rfl : T.heap = T.heap) (H _ r)
  obtain ⟨v, _, ⟨T', L', c', s'⟩, -, X', ⟨Lc, hQ, l', y', z'⟩, hst'⟩ := Stand.virtualBackUp X C.1 C.2.2.1 (mvT C.2.1 w1) (mvT C.2.1 w2) (mvT C.2.1 w2') hy (mvT C.2.1 w3) (mvT C.2.1 w4) (backOf (W := (rest.map fun v => v.category).sum) (h := T.heap) (Q := fun v h L => Fr Z.heap.size L ∧ ∃ M', Qc v M' ∧ Rep Z h M') (hM [] _ r) C.2.1 w5 w6 hf hl) q1 q3 (g := mkF E.2.2.2.1 pc Ls st) rfl (hsz.trans C.2.2.2.2.1.symm) (Steps.refl _) (argsL := as) (rest := rest) (len_ok hlen) hst (by show 2 * 0 + _ ≤ _; omega) (hb C.2.2.2.1 hd) (fun _ _ => ⟨rfl, rfl, hc, hs⟩)
  dsimp only [Pt.U, Pt.locs, Pt.cells, Pt.slots] at X' l' y' z' hst' hQ
  obtain ⟨FL, M', hQ', r'⟩ := hQ
  subst l' y' z' hk hn
  obtain ⟨s₂, v, L, h1, h2⟩ := hr v M' hQ' T' _ X' (F.app FL) r'
  exact ⟨s₂, v, L, hst'.trans (hq ▸ h1), h2⟩
theorem Go.callP (C : Cx Z x code maxL ret E) {a : Addr} {K : String} (w1 : (Cond.methodLink x.cls idx y).before a0 Z = true) (w2 : (Cond.instanceMethod y).before a0 Z = true) (w3 : (Cond.selects y.cls y y).before a0 Z = true) (w4 : (Cond.privateMethod y).before a0 Z = true) (w5 : (Cond.code y bytes mL rt).before a0 Z = true) (w6 : (Cond.initialized y.cls).before a0 Z = true) (H : ∀ h, Rep Z h M → Exa Z h a K) (hM : Met l Z y bytes mL rt rm (.ref a :: as).toArray M Qc) (hst : st = as.reverse ++ .ref a :: rest)
    (hd : decode code pc = .ok (.invokevirtual idx, 3)) (hq : pc + 3 = q) (hy : y.cls ≠ "java/lang/invoke/MethodHandle" ∧ y.cls ≠ "java/lang/invoke/VarHandle") (hsz : Ls.size = maxL) {na W : Nat} (hlen : (parseMethodDescriptor y.desc).map (fun s => s.parameters.length) = some na) (hna : as.length = na) (hf : rm.frames + 1 ≤ R.frames) (hW : (rest.map fun v => v.category).sum = W) (hl : W + (mL + 11) + rm.locals ≤ R.locals) (hc : k + rm.cells ≤ R.cells) (hs : n + rm.slots ≤ R.slots) (hk : k + rm.cells = k') (hn : n + rm.slots = n')
    (hr : ∀ v M', Qc v M' → Go l Z R E Q M' k' n' q Ls (v.toList ++ rest)) : Go l Z R E Q M k n pc Ls st := by
  subst hna hW
  intro T locs X F r
  obtain ⟨cq, q1, q2⟩ := (H _ r).cell
  obtain ⟨v, _, ⟨T', L', c', s'⟩, -, X', ⟨Lc, hQ, l', y', z'⟩, hst'⟩ := Stand.privateBack X C.1 C.2.2.1 (mvT C.2.1 w1) (mvT C.2.1 w2) (mvT C.2.1 w3) (Cond.privateMethod_at (mvP C.2.1 w4 (args := #[]))) (mvT C.2.1 w5) hy (backOf (W := (rest.map fun v => v.category).sum) (h := T.heap) (Q := fun v h L => Fr Z.heap.size L ∧ ∃ M', Qc v M' ∧ Rep Z h M') (hM [] _ r) C.2.1 w5 w6 hf hl) (g := mkF E.2.2.2.1 pc Ls st) rfl (hsz.trans C.2.2.2.2.1.symm) (Steps.refl _) q1 q2 (argsL := as) (rest := rest) (len_ok hlen) hst (by show 2 * 0 + _ ≤ _; omega) (hb C.2.2.2.1 hd) (fun _ _ => ⟨rfl, rfl, hc, hs⟩)
  dsimp only [Pt.U, Pt.locs, Pt.cells, Pt.slots] at X' l' y' z' hst' hQ
  obtain ⟨FL, M', hQ', r'⟩ := hQ
  subst l' y' z' hk hn
  obtain ⟨s₂, v, L, h1, h2⟩ := hr v M' hQ' T' _ X' (F.app FL) r'
  exact ⟨s₂, v, L, hst'.trans (hq ▸ h1), h2⟩
end Calls
/-! returns -/
theorem Go.ret0 (C : Cx Z x code maxL ret E) (hret : ret = none) (hd : decode code pc = .ok (.return_, 1)) (hc : k ≤ R.cells) (hs : n ≤ R.slots) (hQ : Q none M) : Go l Z R E Q M k n pc Ls [] := by
  intro T locs X F r
  obtain ⟨fs, hr, hrun, hended, hW, hsame⟩ := Stand.leave X (v := none) (fun _ => rfl) C.2.2.2.2.2.2.1
  exact ⟨_, none, locs, Stand.returnOut X C.1 (C.2.2.2.2.2.1.trans hret) (hb C.2.2.2.1 hd) hr, hrun, hended, F, ⟨M, hQ, r⟩, ⟨_, rfl⟩, hW, hsame.mono hc hs⟩
theorem Go.retW (C : Cx Z x code maxL ret E) {t : FieldType} {i : Instr} {w : Value} (hret : ret = some t) (hn : narrow t w = w)
    (hi : (i = .ireturn ∧ (t = .int ∨ t = .boolean ∨ t = .byte ∨ t = .char ∨ t = .short) ∧ ∃ z, w = .int z) ∨ (i = .lreturn ∧ t = .long ∧ ∃ z, w = .long z) ∨ (i = .dreturn ∧ t = .double ∧ ∃ z, w = .double z) ∨ (i = .freturn ∧ t = .float ∧ ∃ z, w = .float z) ∨ (i = .areturn ∧ t.isReference = true ∧ w.isRef = true))
    (hd : decode code pc = .ok (i, 1)) (hc : k ≤ R.cells) (hs : n ≤ R.slots) (hQ : Q (some w) M) : Go l Z R E Q M k n pc Ls (w :: st) := by
  intro T locs X F r
  obtain ⟨fs, hr, hrun, hended, hW, hsame⟩ := Stand.leave X (v := some w) (fun h => by rw [C.2.2.2.2.2.1, hret] at h; cases h) C.2.2.2.2.2.2.1
  exact ⟨_, some w, locs, retOut X C.1 (C.2.2.2.2.2.1.trans hret) hn hi (hb C.2.2.2.1 hd) hr, hrun, hended, F, ⟨M, hQ, r⟩, ⟨_, rfl⟩, hW, hsame.mono hc hs⟩
theorem Go.retI (C : Cx Z x code maxL ret E) {z : Int32} (hret : ret = some .int) (hd : decode code pc = .ok (.ireturn, 1)) (hc : k ≤ R.cells) (hs : n ≤ R.slots) (hQ : Q (some (.int z)) M) : Go l Z R E Q M k n pc Ls (.int z :: st) :=
  Go.retW C hret rfl (Or.inl ⟨rfl, Or.inl rfl, _, rfl⟩) hd hc hs hQ
theorem Go.retL (C : Cx Z x code maxL ret E) {z : Int64} (hret : ret = some .long) (hd : decode code pc = .ok (.lreturn, 1)) (hc : k ≤ R.cells) (hs : n ≤ R.slots) (hQ : Q (some (.long z)) M) : Go l Z R E Q M k n pc Ls (.long z :: st) :=
  Go.retW C hret rfl (Or.inr (Or.inl ⟨rfl, rfl, _, rfl⟩)) hd hc hs hQ
theorem Go.retZ (C : Cx Z x code maxL ret E) {z : Int32} (hret : ret = some .boolean) (hz : z &&& 1 = z) (hd : decode code pc = .ok (.ireturn, 1)) (hc : k ≤ R.cells) (hs : n ≤ R.slots) (hQ : Q (some (.int z)) M) : Go l Z R E Q M k n pc Ls (.int z :: st) :=
  Go.retW C hret (congrArg Value.int hz) (Or.inl ⟨rfl, Or.inr (Or.inl rfl), _, rfl⟩) hd hc hs hQ
theorem Go.retA (C : Cx Z x code maxL ret E) {t : FieldType} {w : Value} (hret : ret = some t) (ht : t.isReference = true) (hw : w.isRef = true) (hd : decode code pc = .ok (.areturn, 1)) (hc : k ≤ R.cells) (hs : n ≤ R.slots) (hQ : Q (some w) M) : Go l Z R E Q M k n pc Ls (w :: st) :=
  Go.retW C hret (by cases t <;> first | (cases ht; done) | rfl) (Or.inr (Or.inr (Or.inr (Or.inr ⟨rfl, ht, hw⟩)))) hd hc hs hQ
end Walk
/-! entries that have been resolved already, and a private constructor of a nest mate -/
section Ready
variable {p : Program} {l : Launch} {e : Env} {R : Room} {s : State} {m : MethodId} {args : Array Value} {below : List Frame} {meth : Method} {c : Code} {T : State} {locs : List Loc} {cells slots : Nat}
theorem getReady (X : Stand p l e R s m args below meth c T locs cells slots) (hexec : p.tables.exec = Jvm.exec) {index cf : Nat} {f : Field} (hready : T.vm.fieldReady m.cls index cf f) (hst : f.isStatic = false) {a : Addr} {cell : Cell} {v : Value} (hcell : T.heap[a]? = some cell) (hknown : cell.vm ≠ .unknown) (hslot : cell.slots[f.slot]? = some v)
    {g : JFrame} (hg : g.method = m) {rest : List Value} (hstack : g.stack = .ref a :: rest) (hdg : decode c.code g.pc = .ok (.getfield index, 3)) : ∀ target, Steps p.tables e below (T.setTop { g with pc := g.pc + 3, stack := v :: rest }) target → Steps p.tables e below (T.setTop g) target := by
  intro target hrest
  subst hg
  jvm_step X.here [hexec, hdg, getfield.wp_ready (e := e) (s := T) (f := g) X.here.top hready hst hstack hcell hknown hslot]
  exact hrest
theorem virtReady (X : Stand p l e R s m args below meth c T locs cells slots) (hexec : p.tables.exec = Jvm.exec) {index : Nat} {r0 : MethodId} {r : Method} {kr : Class} (hres : namesResolved T.vm m.cls index r0.cls) (hready : T.vm.methodReady m.cls index r0) (hkr : T.vm.classes[r0.cls]? = some kr) (hni : kr.isInterface = false) (hnp : signaturePolymorphic kr r = false) (hrm : T.vm.method? r0 = some r) (hstatic : r.isStatic = false)
    {a : Addr} {cell : Cell} (hcell : T.heap[a]? = some cell) (hobj : ∀ c, cell.vm ≠ .statics c) (hsel : selectMethod e.platform T.vm cell.cls r0 = .method r0) (habs : r.isAbstract = false) {g : JFrame} (hg : g.method = m) {argsL rest : List Value} (hlen : argsL.length = r.sig.parameters.length) (hstack : g.stack = argsL.reverse ++ .ref a :: rest) (hdg : decode c.code g.pc = .ok (.invokevirtual index, 3)) :
    ∀ target, (∀ acts, Steps p.tables e below (doInvoke e (T.setTop { g with stack := rest }) acts r0 (.ref a :: argsL).toArray).1 target) → Steps p.tables e below (T.setTop g) target := by
  intro target hrest
  subst hg
  jvm_step X.here [hexec, hdg, invokevirtual.wp_named (e := e) (s := T) (f := g) (r := r0) (m := r0) (c' := r0.cls) (k := kr) (k' := kr) (mk := kr) (rmeth := r) (meth := r) (a := a) (args := argsL) (rest := rest) (cell := cell) X.here.top hres hkr hni hready hkr hrm hnp hstatic hlen hstack hcell hobj hsel hrm habs hkr hni]
  exact hrest
theorem initReady (X : Stand p l e R s m args below meth c T locs cells slots) (hexec : p.tables.exec = Jvm.exec) {index : Nat} {r0 : MethodId} {r : Method} {kr : Class} (hres : namesResolved T.vm m.cls index r0.cls) (hready : T.vm.methodReady m.cls index r0) (hkr : T.vm.classes[r0.cls]? = some kr) (hrm : T.vm.method? r0 = some r) (hname : r.name = "<init>") (hstatic : r.isStatic = false) (habs : r.isAbstract = false) (hfound : lookupSpecial T.vm r0.cls "<init>" r.desc = .method r0)
    {a : Addr} {g : JFrame} (hg : g.method = m) {argsL rest : List Value} (hlen : argsL.length = r.sig.parameters.length) (hstack : g.stack = argsL.reverse ++ .ref a :: rest) (hdg : decode c.code g.pc = .ok (.invokespecial index, 3)) :
    ∀ target, (∀ acts, Steps p.tables e below (doInvoke e (T.setTop { g with stack := rest }) acts r0 (.ref a :: argsL).toArray).1 target) → Steps p.tables e below (T.setTop g) target := by
  intro target hrest
  subst hg
  jvm_step X.here [hexec, hdg, invokespecial.wp_init (e := e) (s := T) (k := kr) (meth := r) (m := r0) (a := a) (args := argsL) (rest := rest) (f := g) X.here.top hres hready hkr hrm hname hstatic habs hfound hlen hstack]
  exact hrest
/-- what a resolved entry says where the walk stands -/
theorem ref_now (X : Stand p l e R s m args below meth c T locs cells slots) {Z : State} {a0 : Array Value} (hZ : Z.Warmed39 s.vm) {own : String} {index : Nat} {y : MethodName} (hown : s.vm.findClass own = some m.cls) (w : (Cond.methodRef own index y).before a0 Z = true) (hy : y.cls ≠ "java/lang/invoke/MethodHandle" ∧ y.cls ≠ "java/lang/invoke/VarHandle") {mk : MethodId} (hn : s.methodNamed? y = some mk) :
    T.vm.methodReady m.cls index mk ∧ namesResolved T.vm m.cls index mk.cls := by
  have hW : Z.Warmed39 T.vm := wtrans hZ X.warmed
  have hnT : T.methodNamed? y = some mk := X.named hn
  have hnZ : Z.methodNamed? y = some mk := by
    have q : (Z.setVm s.vm).methodNamed? y = some mk := hn
    rw [State.methodNamed?_setVm hZ.alike] at q
    exact q
  have w1 : (Cond.methodRef own index y).before a0 (Z.setVm T.vm) = true := Cond.methodRef_warmed39 hW hnZ hy w
  have w2 : (Cond.methodRef own index y).before a0 T = true := w1
  have hownT : T.vm.findClass own = some m.cls := by rw [X.warmed.alike.findClass]; exact hown
  obtain ⟨m', c', h1, h2, h3, h4⟩ := Cond.methodRef_named e hownT w2
  cases (State.methodFound?_of_named hnT hy).symm.trans h1
  cases (findClass_of_methodNamed hnT).symm.trans h3
  exact ⟨h2, h4⟩
end Ready
section Walk2
variable {l : Launch} {Z : State} {R : Room} {E : E0} {Q : PQ} {M : List Ent} {k n pc q : Nat} {Ls Ls' : Array Slot} {st : List Value} {x : MethodName} {code : ByteArray} {maxL : Nat} {ret : Option FieldType} {a0 : Array Value}
variable {y : MethodName} {bytes : ByteArray} {mL : Nat} {rt : Option FieldType} {rm : Room} {as rest : List Value} {Qc : PQ} {idx k' n' : Nat}
theorem Go.getR (C : Cx Z x code maxL ret E) {idx : Nat} {O nm d : String} {a : Addr} {v : Value} (w : (Cond.fieldRef x.cls idx O nm d).before a0 Z = true) (H : ∀ h, Rep Z h M → Fld Z h a O nm d v) (hd : decode code pc = .ok (.getfield idx, 3)) (hq : pc + 3 = q) (hr : Go l Z R E Q M k n q Ls (v :: st)) : Go l Z R E Q M k n pc Ls (.ref a :: st) := by
  intro T locs X F r
  have hW : Z.Warmed39 T.vm := wtrans C.2.1 X.warmed
  have w1 : (Cond.fieldRef x.cls idx O nm d).before a0 (Z.setVm T.vm) = true := Cond.fieldRef_warmed39 hW w
  have hown : (Z.setVm T.vm).vm.findClass x.cls = some E.2.2.2.1.cls := by
    show T.vm.findClass x.cls = _
    rw [X.warmed.alike.findClass]
    exact C.2.2.1
  obtain ⟨cf, kk, i, f, h1, h2⟩ := Cond.fieldRef_spec hown w1
  obtain ⟨cell, cf', k', i', f', g1, g2, g3, g4, -, -, g7⟩ := H _ r
  obtain ⟨k2, hi, -⟩ := State.fieldFound?_setVm (s := Z) hW.alike g2
  cases hi.symm.trans h1
  obtain ⟨s₂, v, L, p1, p2⟩ := hr T locs X F r
  exact ⟨s₂, v, L, getReady X C.1 (show T.vm.fieldReady E.2.2.2.1.cls idx _ _ from h2) g3 g1 g4 g7 (g := mkF E.2.2.2.1 pc Ls (.ref a :: st)) rfl rfl (hb C.2.2.2.1 hd) _ (hq ▸ p1), p2⟩
theorem Go.callPR (C : Cx Z x code maxL ret E) {a : Addr} {K : String} (w1 : (Cond.methodRef x.cls idx y).before a0 Z = true) (w2 : (Cond.instanceMethod y).before a0 Z = true) (w3 : (Cond.selects y.cls y y).before a0 Z = true) (w4 : (Cond.privateMethod y).before a0 Z = true) (w5 : (Cond.code y bytes mL rt).before a0 Z = true) (w6 : (Cond.initialized y.cls).before a0 Z = true) (H : ∀ h, Rep Z h M → Exa Z h a K) (hM : Met l Z y bytes mL rt rm (.ref a :: as).toArray M Qc) (hst : st = as.reverse ++ .ref a :: rest)
    (hd : decode code pc = .ok (.invokevirtual idx, 3)) (hq : pc + 3 = q) (hy : y.cls ≠ "java/lang/invoke/MethodHandle" ∧ y.cls ≠ "java/lang/invoke/VarHandle") (hsz : Ls.size = maxL) {na W : Nat} (hlen : (parseMethodDescriptor y.desc).map (fun s => s.parameters.length) = some na) (hna : as.length = na) (hf : rm.frames + 1 ≤ R.frames) (hW : (rest.map fun v => v.category).sum = W) (hl : W + (mL + 11) + rm.locals ≤ R.locals) (hc : k + rm.cells ≤ R.cells) (hs : n + rm.slots ≤ R.slots) (hk : k + rm.cells = k') (hn : n + rm.slots = n')
    (hr : ∀ v M', Qc v M' → Go l Z R E Q M' k' n' q Ls (v.toList ++ rest)) : Go l Z R E Q M k n pc Ls st := by
  subst hna hW
  intro T locs X F r
  obtain ⟨cell, q1, q2⟩ := (H _ r).cell
  obtain ⟨mk, methM, hnamed, hmethM, hstM, habM⟩ := Cond.instanceMethod_spec (mvT (args := E.2.2.2.2.1) C.2.1 w2)
  obtain ⟨methM', cM, hmethM', -, -, -, -, -, -, hsigM⟩ := Cond.code_spec hnamed (mvT (args := E.2.2.2.2.1) C.2.1 w5)
  cases hmethM.symm.trans hmethM'
  obtain ⟨c2, r2, m2, -, -, q3, -, kP, hkP, hkPi⟩ := Cond.selects_spec (mvT (args := E.2.2.2.2.1) C.2.1 w3)
  cases hnamed.symm.trans q3
  have hpriv := Cond.privateMethod_at (mvP C.2.1 w4 (args := #[]))
  obtain ⟨r1, r2⟩ := ref_now X C.2.1 C.2.2.1 w1 hy hnamed
  have al := X.warmed.alike
  obtain ⟨kr, hkr, her⟩ := al.2.2 _ _ hkP
  have hrmT : T.vm.method? mk = some methM := by rw [al.method?]; exact hmethM
  obtain ⟨kx, hkx, hnx⟩ := className_of_methodNamed hnamed
  cases hkP.symm.trans hkx
  have hselP : selectMethod E.2.1.platform T.vm cell.cls mk = .method mk := by
    rw [al.selectMethod]
    exact selectMethod_private hmethM (hpriv mk methM hnamed hmethM)
  have hstep := virtReady X C.1 r2 r1 hkr (by rw [her]; exact hkPi) (by
    have h1 : kr.name = y.cls := by rw [her]; exact hnx
    simp [signaturePolymorphic, h1, hy.1, hy.2]) hrmT hstM q1 q2 hselP habM (g := mkF E.2.2.2.1 pc Ls st) rfl (argsL := as) (rest := rest) (len_ok hlen _ hsigM) hst (hb C.2.2.2.1 hd)
  have hK := backOf (R := R) (p := E.1) (e := E.2.1) (below := E.2.2.2.2.2.1) (s := E.2.2.1) (args := E.2.2.2.2.1) (len := 3) (W := (rest.map fun v => v.category).sum) (h := T.heap) (Q := fun v h L => Fr Z.heap.size L ∧ ∃ M', Qc v M' ∧ Rep Z h M') (hM [] _ r) C.2.1 w5 w6 hf hl
  obtain ⟨v, ⟨T', L', c', s'⟩, X', ⟨Lc, hQ, l', y', z'⟩, hsteps⟩ := hK E.2.2.2.1 E.2.2.2.2.2.2.1 E.2.2.2.2.2.2.2 ⟨T, locs, k, n⟩ (mkF E.2.2.2.1 pc Ls rest) (.invokevirtual idx) mk (.ref a :: as).toArray X rfl (hsz.trans C.2.2.2.2.1.symm) (hb C.2.2.2.1 hd) (by show 2 * 0 + (rest.map fun v => v.category).sum ≤ _; omega) (X.named hnamed) ⟨rfl, rfl, hc, hs⟩
  dsimp only [Pt.U, Pt.locs, Pt.cells, Pt.slots] at X' l' y' z' hsteps hQ
  obtain ⟨FL, M', hQ', r'⟩ := hQ
  subst l' y' z' hk hn
  obtain ⟨s₂, v, L, h1, h2⟩ := hr v M' hQ' T' _ X' (F.app FL) r'
  exact ⟨s₂, v, L, hstep _ fun acts => by rw [doInvoke_state]; exact hsteps.trans (hq ▸ h1), h2⟩
theorem Go.callIR (C : Cx Z x code maxL ret E) {a : Addr} (w1 : (Cond.methodRef x.cls idx y).before a0 Z = true) (w2 : (Cond.instanceMethod y).before a0 Z = true) (w3 : (Cond.initialized y.cls).before a0 Z = true) (w4 : (Cond.code y bytes mL none).before a0 Z = true) (hM : Met l Z y bytes mL none rm (.ref a :: as).toArray M Qc) (hst : st = as.reverse ++ .ref a :: rest) (hy1 : y.name = "<init>")
    (hd : decode code pc = .ok (.invokespecial idx, 3)) (hq : pc + 3 = q) (hy : y.cls ≠ "java/lang/invoke/MethodHandle" ∧ y.cls ≠ "java/lang/invoke/VarHandle") (hsz : Ls.size = maxL) {na W : Nat} (hlen : (parseMethodDescriptor y.desc).map (fun s => s.parameters.length) = some na) (hna : as.length = na) (hf : rm.frames + 1 ≤ R.frames) (hW : (rest.map fun v => v.category).sum = W) (hl : W + (mL + 11) + rm.locals ≤ R.locals) (hc : k + rm.cells ≤ R.cells) (hs : n + rm.slots ≤ R.slots) (hk : k + rm.cells = k') (hn : n + rm.slots = n')
    (hr : ∀ v M', Qc v M' → Go l Z R E Q M' k' n' q Ls (v.toList ++ rest)) : Go l Z R E Q M k n pc Ls st := by
  subst hna hW
  intro T locs X F r
  obtain ⟨mk, methM, hnamed, hmethM, hstM, habM⟩ := Cond.instanceMethod_spec (mvT (args := E.2.2.2.2.1) C.2.1 w2)
  obtain ⟨methM', cM, hmethM', -, -, -, -, -, -, hsigM⟩ := Cond.code_spec hnamed (mvT (args := E.2.2.2.2.1) C.2.1 w4)
  cases hmethM.symm.trans hmethM'
  obtain ⟨kP, hkP, hnx⟩ := className_of_methodNamed hnamed
  obtain ⟨hnameM, hdescM⟩ := name_of_methodNamed hnamed hmethM
  obtain ⟨r1, r2⟩ := ref_now X C.2.1 C.2.2.1 w1 hy hnamed
  have al := X.warmed.alike
  obtain ⟨kr, hkr, her⟩ := al.2.2 _ _ hkP
  have hrmT : T.vm.method? mk = some methM := by rw [al.method?]; exact hmethM
  have hfound : lookupSpecial T.vm mk.cls "<init>" methM.desc = .method mk := by
    rw [al.lookupSpecial, hdescM, ← hy1]
    exact lookupSpecial_of_named hnamed hmethM hstM
  have hstep := initReady X C.1 r2 r1 hkr hrmT (by rw [hnameM]; exact hy1) hstM habM hfound (a := a) (g := mkF E.2.2.2.1 pc Ls st) rfl (argsL := as) (rest := rest) (len_ok hlen _ hsigM) hst (hb C.2.2.2.1 hd)
  have hK := backOf (R := R) (p := E.1) (e := E.2.1) (below := E.2.2.2.2.2.1) (s := E.2.2.1) (args := E.2.2.2.2.1) (len := 3) (W := (rest.map fun v => v.category).sum) (h := T.heap) (Q := fun v h L => Fr Z.heap.size L ∧ ∃ M', Qc v M' ∧ Rep Z h M') (hM [] _ r) C.2.1 w4 w3 hf hl
  obtain ⟨v, ⟨T', L', c', s'⟩, X', ⟨Lc, hQ, l', y', z'⟩, hsteps⟩ := hK E.2.2.2.1 E.2.2.2.2.2.2.1 E.2.2.2.2.2.2.2 ⟨T, locs, k, n⟩ (mkF E.2.2.2.1 pc Ls rest) (.invokespecial idx) mk (.ref a :: as).toArray X rfl (hsz.trans C.2.2.2.2.1.symm) (hb C.2.2.2.1 hd) (by show 2 * 0 + (rest.map fun v => v.category).sum ≤ _; omega) (X.named hnamed) ⟨rfl, rfl, hc, hs⟩
  dsimp only [Pt.U, Pt.locs, Pt.cells, Pt.slots] at X' l' y' z' hsteps hQ
  obtain ⟨FL, M', hQ', r'⟩ := hQ
  subst l' y' z' hk hn
  obtain ⟨s₂, v, L, h1, h2⟩ := hr v M' hQ' T' _ X' (F.app FL) r'
  exact ⟨s₂, v, L, hstep _ fun acts => by rw [doInvoke_state]; exact hsteps.trans (hq ▸ h1), h2⟩
theorem Go.callIN (C : Cx Z x code maxL ret E) {a : Addr} {host : String} (w1 : (Cond.methodLinkNest x.cls idx y host).before a0 Z = true) (w2 : (Cond.instanceMethod y).before a0 Z = true) (w3 : (Cond.initialized y.cls).before a0 Z = true) (w4 : (Cond.code y bytes mL none).before a0 Z = true) (hM : Met l Z y bytes mL none rm (.ref a :: as).toArray M Qc) (hst : st = as.reverse ++ .ref a :: rest) (hy1 : y.name = "<init>")
    (hd : decode code pc = .ok (.invokespecial idx, 3)) (hq : pc + 3 = q) (hy : y.cls ≠ "java/lang/invoke/MethodHandle" ∧ y.cls ≠ "java/lang/invoke/VarHandle") (hsz : Ls.size = maxL) {na W : Nat} (hlen : (parseMethodDescriptor y.desc).map (fun s => s.parameters.length) = some na) (hna : as.length = na) (hf : rm.frames + 1 ≤ R.frames) (hW : (rest.map fun v => v.category).sum = W) (hl : W + (mL + 11) + rm.locals ≤ R.locals) (hc : k + rm.cells ≤ R.cells) (hs : n + rm.slots ≤ R.slots) (hk : k + rm.cells = k') (hn : n + rm.slots = n')
    (hr : ∀ v M', Qc v M' → Go l Z R E Q M' k' n' q Ls (v.toList ++ rest)) : Go l Z R E Q M k n pc Ls st := by
  subst hna hW
  intro T locs X F r
  have w1' : (Cond.methodLinkNest x.cls idx y host).before a0 (Z.setVm E.2.2.1.vm) = true := Cond.methodLinkNest_wide C.2.1 w1
  obtain ⟨v, _, ⟨T', L', c', s'⟩, -, X', ⟨Lc, hQ, l', y', z'⟩, hst'⟩ := Stand.specialBackNest X C.1 hy1 C.2.2.1 (show (Cond.methodLinkNest x.cls idx y host).before E.2.2.2.2.1 E.2.2.1 = true from w1') (mvT C.2.1 w2) (mvT C.2.1 w4) hy (backOf (W := (rest.map fun v => v.category).sum) (h := T.heap) (Q := fun v h L => Fr Z.heap.size L ∧ ∃ M', Qc v M' ∧ Rep Z h M') (hM [] _ r) C.2.1 w4 w3 hf hl) (g := mkF E.2.2.2.1 pc Ls st) rfl (hsz.trans C.2.2.2.2.1.symm) (Steps.refl _) (a := a) (argsL := as) (rest := rest) (len_ok hlen) hst (by show 2 * 0 + _ ≤ _; omega) (hb C.2.2.2.1 hd) (fun _ _ => ⟨rfl, rfl, hc, hs⟩)
  dsimp only [Pt.U, Pt.locs, Pt.cells, Pt.slots] at X' l' y' z' hst' hQ
  obtain ⟨FL, M', hQ', r'⟩ := hQ
  subst l' y' z' hk hn
  obtain ⟨s₂, v, L, h1, h2⟩ := hr v M' hQ' T' _ X' (F.app FL) r'
  exact ⟨s₂, v, L, hst'.trans (hq ▸ h1), h2⟩
end Walk2
theorem nar_ref {t : FieldType} {v : Value} (h : v.isRef = true) : narrow t v = v := by rcases ref_cases h with rfl | ⟨a, rfl⟩ <;> cases t <;> rfl
theorem fit_obj {K : String} {v : Value} (h : v.isRef = true) : fits (.object K) v = true := by rcases ref_cases h with rfl | ⟨a, rfl⟩ <;> rfl
theorem fld_of_eq {Z : State} {args : Array Value} {t : Term} {a : Addr} {C nm d : String} {k : Int32} (ev : t.eval args Z none [] Z = some (.ref a)) (h : (Cond.eq (.field t C nm d) (.int k)).value args Z none Z [] = some true) : Fld Z Z.heap a C nm d (.int k) := by
  obtain ⟨x, y, h1, h2, h3, h4⟩ := cmp_v (Or.inl h)
  have h2' : (Term.int k).eval args Z none [] Z = some (.int k) := rfl
  have hy : y = .int k := Option.some.inj (h2.symm.trans h2')
  subst hy
  obtain ⟨z, rfl⟩ := h4
  have : z = k := by
    have h5 : (Cond.eq (.field t C nm d) (.int k)).value args Z none Z [] = some (decide (z = k)) := by simp [Cond.value, h1, h2]
    rw [h5] at h
    exact of_decide_eq_true (Option.some.inj h)
  subst this
  rw [fld_at ev] at h1
  exact Fld.start h1
theorem mask_nn (x : Int32) : ¬ (x &&& 2147483647) < 0 := fun h => absurd ((XT.and_neg32 _ _).mp h).2 (by decide)
theorem rem_mask (x d : Int32) (hd : 0 < d.toInt) : 0 ≤ ((x &&& 2147483647) % d).toInt ∧ ((x &&& 2147483647) % d).toInt < d.toInt := by
  have h := mask_nn x
  rw [XT.negI32] at h
  rw [Int32.toInt_mod, Int.tmod_eq_emod_of_nonneg (by omega)]
  exact ⟨Int.emod_nonneg _ (by omega), Int.emod_lt_of_pos _ hd⟩
theorem bool_ok {b : Int32} (h : b = 0 ∨ b = 1) : narrow .boolean (.int b) = .int b ∧ fits .boolean (.int b) = true := by rcases h with rfl | rfl <;> exact ⟨rfl, rfl⟩
theorem ite01 {P : Prop} [Decidable P] : (if P then (1 : Int32) else 0) = 0 ∨ (if P then (1 : Int32) else 0) = 1 := by split <;> simp
theorem ite10 {P : Prop} [Decidable P] : (if P then (0 : Int32) else 1) = 0 ∨ (if P then (0 : Int32) else 1) = 1 := by split <;> simp
theorem and1 {b : Int32} (h : b = 0 ∨ b = 1) : b &&& 1 = b := by rcases h with rfl | rfl <;> rfl
theorem fld_ev {Z : State} {args : Array Value} {t : Term} {a : Addr} {C nm d : String} {v : Value} (ev : t.eval args Z none [] Z = some (.ref a)) (h : (Term.field t C nm d).eval args Z none [] Z = some v) : Fld Z Z.heap a C nm d v := Fld.start ((fld_at ev).symm.trans h)
theorem eq_int {Z : State} {args : Array Value} {idx : List Nat} {t u : Term} {k : Int32} (hu : u.eval args Z none idx Z = some (.int k)) (h : (Cond.eq t u).value args Z none Z idx = some true) : t.eval args Z none idx Z = some (.int k) := by
  obtain ⟨x, y, h1, h2, h3, h4⟩ := cmp_v (Or.inl h)
  have hy : y = .int k := Option.some.inj (h2.symm.trans hu)
  subst hy
  obtain ⟨z, rfl⟩ := h4
  have : z = k := by
    have h5 : (Cond.eq t u).value args Z none Z idx = some (decide (z = k)) := by simp [Cond.value, h1, h2]
    rw [h5] at h
    exact of_decide_eq_true (Option.some.inj h)
  rw [h1, this]
theorem int_of_eq {Z : State} {args : Array Value} {idx : List Nat} {t : Term} {k : Int32} (h : (Cond.eq t (.int k)).value args Z none Z idx = some true) : t.eval args Z none idx Z = some (.int k) := by
  obtain ⟨x, y, h1, h2, h3, h4⟩ := cmp_v (Or.inl h)
  have h2' : (Term.int k).eval args Z none idx Z = some (.int k) := rfl
  have hy : y = .int k := Option.some.inj (h2.symm.trans h2')
  subst hy
  obtain ⟨z, rfl⟩ := h4
  have : z = k := by
    have h5 : (Cond.eq t (.int k)).value args Z none Z idx = some (decide (z = k)) := by simp [Cond.value, h1, h2]
    rw [h5] at h
    exact of_decide_eq_true (Option.some.inj h)
  rw [h1, this]
theorem len_of_eq {Z : State} {args : Array Value} {t : Term} {a : Addr} {c : Cell} {ty : FieldType} {k : Int32} (ev : t.eval args Z none [] Z = some (.ref a)) (A : Arr Z Z.heap a c ty) (h : (Cond.eq (.length t) (.int k)).value args Z none Z [] = some true) : c.slots.toList.length.toInt32 = k ∧ c.slots.toList.length < 2 ^ 31 := by
  have h1 := int_of_eq h
  have e5 := A.fin (Vm.Alike.refl _)
  rw [Array.length_toList]
  by_cases hl : c.slots.size < 2 ^ 31
  · rw [len_f ev e5 hl] at h1
    exact ⟨Value.int.inj (Option.some.inj h1), hl⟩
  · exfalso
    simp [Term.eval, ev, e5, hl] at h1
theorem elem_of_eq {Z : State} {args : Array Value} {t : Term} {a : Addr} {c : Cell} {ty : FieldType} {i k : Int32} (ev : t.eval args Z none [] Z = some (.ref a)) (A : Arr Z Z.heap a c ty) (h : (Cond.eq (.elem t (.int i)) (.int k)).value args Z none Z [] = some true) : c.slots.toList[i.toNatClampNeg]? = some (.int k) := by
  have h1 := int_of_eq h
  have h2 := elem_in (j := i) h1 ev rfl A.1
  rw [Array.getElem?_toList]
  exact h2.2
theorem ge0 {x : Int32} (h : 0 ≤ x.toInt) : ¬ x < 0 := fun q => by rw [XT.negI32] at q; omega
theorem rep0 (s : State) : Rep s s.heap [] := ⟨⟨Nat.le_refl _, fun _ _ q => q⟩, fun i x h => by simp at h, List.nodup_nil⟩
end Jvm.Own
namespace Jvm.Pilot.@@N@@
open Jvm Jvm.ClassFile Sem Op Lib Jvm.Free Jvm.Stand Jvm.LawKit Jvm.RoadKit Bundle Jvm.Own Jvm.Pilot.@@N@@.Jvm.D
abbrev own_tabs : List Jvm.Cond := tables_1 ++ jdkStatics_1
abbrev oStr (v0 v1 : Value) : Own.Rec := .inl ("java/lang/String", [(("java/lang/String", "value", "[B"), v0), (("java/lang/String", "coder", "B"), v1)])
theorem dc_jdk_43_method_3_0 : decode jdk_43_method_3_code 0 = .ok (.iload_n 0, 1) := by decide +kernel
theorem dc_jdk_43_method_3_1 : decode jdk_43_method_3_code 1 = .ok (.sipush 255, 3) := by decide +kernel
theorem dc_jdk_43_method_3_4 : decode jdk_43_method_3_code 4 = .ok (.if_icmp .gt 7, 3) := by decide +kernel
theorem dc_jdk_43_method_3_7 : decode jdk_43_method_3_code 7 = .ok (.iconst 1, 1) := by decide +kernel
theorem dc_jdk_43_method_3_8 : decode jdk_43_method_3_code 8 = .ok (.goto 4, 3) := by decide +kernel
theorem dc_jdk_43_method_3_12 : decode jdk_43_method_3_code 12 = .ok (.ireturn, 1) := by decide +kernel
theorem pn_0 : plainFor (⟨"java/lang/StringLatin1", "canEncode", "(C)Z"⟩ : MethodName) = true := by first | (apply plainFor_of_name; simp [plainName, overriddenIn]; done) | decide +kernel
set_option maxRecDepth 65536 in
set_option maxHeartbeats 40000000 in
theorem m_canEnc (l : Launch) (Z : State) (a0 : Array Value) (hw : ∀ d ∈ own_tabs, d.before a0 Z = true) (F : List Ent) (x : Int32) (hx : ¬ (255 : Int32) < x) :
    Met l Z (⟨"java/lang/StringLatin1", "canEncode", "(C)Z"⟩ : MethodName) jdk_43_method_3_code 1 (some .boolean) { frames := 0, cells := 0, slots := 0, locals := 0 } #[(.int x)] (F) (fun v M' => v = some (.int 1) ∧ M' = F) := by
  refine Met.of_go pn_0 (Ls := #[.val (.int x)]) (fun m => by first | rfl | (simp [entryFrame, mkF, argsToLocals, Value.category, maxLocals]; done)) ?_
  intro E C
  refine Go.iloadN C dc_jdk_43_method_3_0 (q := 1) rfl rfl ?_
  refine Go.sipush C dc_jdk_43_method_3_1 (q := 4) rfl (v := (255 : Int32)) (by decide) ?_
  refine Go.icmpNo C dc_jdk_43_method_3_4 (q := 7) rfl (XT.ii_gt_f hx) ?_
  refine Go.iconst C dc_jdk_43_method_3_7 (q := 8) rfl (v := (1 : Int32)) rfl ?_
  refine Go.goto C dc_jdk_43_method_3_8 (by decide) (q := 12) rfl ?_
  refine Go.retZ C rfl (by decide) dc_jdk_43_method_3_12 (by decide) (by decide) ?_
  exact ⟨rfl, rfl⟩
theorem dc_jdk_43_method_46_0 : decode jdk_43_method_46_code 0 = .ok (.iconst 1, 1) := by decide +kernel
theorem dc_jdk_43_method_46_1 : decode jdk_43_method_46_code 1 = .ok (.newarray .byte, 2) := by decide +kernel
theorem dc_jdk_43_method_46_3 : decode jdk_43_method_46_code 3 = .ok (.dup, 1) := by decide +kernel
theorem dc_jdk_43_method_46_4 : decode jdk_43_method_46_code 4 = .ok (.iconst 0, 1) := by decide +kernel
theorem dc_jdk_43_method_46_5 : decode jdk_43_method_46_code 5 = .ok (.iload_n 0, 1) := by decide +kernel
theorem dc_jdk_43_method_46_6 : decode jdk_43_method_46_code 6 = .ok (.i2b, 1) := by decide +kernel
theorem dc_jdk_43_method_46_7 : decode jdk_43_method_46_code 7 = .ok (.bastore, 1) := by decide +kernel
theorem dc_jdk_43_method_46_8 : decode jdk_43_method_46_code 8 = .ok (.areturn, 1) := by decide +kernel
theorem pn_1 : plainFor (⟨"java/lang/StringLatin1", "toBytes", "(C)[B"⟩ : MethodName) = true := by first | (apply plainFor_of_name; simp [plainName, overriddenIn]; done) | decide +kernel
set_option maxRecDepth 65536 in
set_option maxHeartbeats 40000000 in
theorem m_toBytes (l : Launch) (Z : State) (a0 : Array Value) (hw : ∀ d ∈ own_tabs, d.before a0 Z = true) (F : List Ent) (x : Int32)  :
    Met l Z (⟨"java/lang/StringLatin1", "toBytes", "(C)[B"⟩ : MethodName) jdk_43_method_46_code 1 (some (.array .byte)) { frames := 0, cells := 1, slots := 1, locals := 0 } #[(.int x)] (F) (fun v M' => ∃ b, v = some (.ref b) ∧ M' = ((b, .inr (.byte, [(.int (nar .byte x.toInt8.toInt32))], true)) :: F)) := by
  refine Met.of_go pn_1 (Ls := #[.val (.int x)]) (fun m => by first | rfl | (simp [entryFrame, mkF, argsToLocals, Value.category, maxLocals]; done)) ?_
  intro E C
  refine Go.iconst C dc_jdk_43_method_46_0 (q := 1) rfl (v := (1 : Int32)) rfl ?_
  refine Go.newarray C (ty := .byte) (wd hw 14 rfl) rfl (by simp) (by decide) (cap := 1) (by decide) (by decide) (vs := [(.int (0 : Int32))]) rfl dc_jdk_43_method_46_1 (q := 3) rfl (by decide) (by decide) (k' := 1) (n' := 1) rfl rfl (fun o1 => ?_)
  refine Go.dup C dc_jdk_43_method_46_3 (q := 4) rfl rfl ?_
  refine Go.iconst C dc_jdk_43_method_46_4 (q := 5) rfl (v := (0 : Int32)) rfl ?_
  refine Go.iloadN C dc_jdk_43_method_46_5 (q := 6) rfl rfl ?_
  refine Go.i2b C dc_jdk_43_method_46_6 (q := 7) rfl ?_
  refine Go.bastore C (i := 0) rfl (by decide) (show (0 : Int32).toNatClampNeg < 1 from by decide) (w' := (.int (nar .byte x.toInt8.toInt32))) rfl dc_jdk_43_method_46_7 (q := 8) rfl (M' := ((o1, .inr (.byte, [(.int (nar .byte x.toInt8.toInt32))], true)) :: F)) rfl ?_
  refine Go.retA C rfl rfl rfl dc_jdk_43_method_46_8 (by decide) (by decide) ?_
  exact ⟨_, rfl, rfl⟩
theorem dc_jdk_42_method_151_0 : decode jdk_42_method_151_code 0 = .ok (.aload_n 0, 1) := by decide +kernel
theorem dc_jdk_42_method_151_1 : decode jdk_42_method_151_code 1 = .ok (.invokespecial 1, 3) := by decide +kernel
theorem dc_jdk_42_method_151_4 : decode jdk_42_method_151_code 4 = .ok (.aload_n 0, 1) := by decide +kernel
theorem dc_jdk_42_method_151_5 : decode jdk_42_method_151_code 5 = .ok (.aload_n 1, 1) := by decide +kernel
theorem dc_jdk_42_method_151_6 : decode jdk_42_method_151_code 6 = .ok (.putfield 9, 3) := by decide +kernel
theorem dc_jdk_42_method_151_9 : decode jdk_42_method_151_code 9 = .ok (.aload_n 0, 1) := by decide +kernel
theorem dc_jdk_42_method_151_10 : decode jdk_42_method_151_code 10 = .ok (.iload_n 2, 1) := by decide +kernel
theorem dc_jdk_42_method_151_11 : decode jdk_42_method_151_code 11 = .ok (.putfield 15, 3) := by decide +kernel
theorem dc_jdk_42_method_151_14 : decode jdk_42_method_151_code 14 = .ok (.return_, 1) := by decide +kernel
theorem pn_2 : plainFor (⟨"java/lang/String", "<init>", "([BB)V"⟩ : MethodName) = true := by first | (apply plainFor_of_name; simp [plainName, overriddenIn]; done) | decide +kernel
set_option maxRecDepth 65536 in
set_option maxHeartbeats 40000000 in
theorem m_strInit (l : Launch) (Z : State) (a0 : Array Value) (hw : ∀ d ∈ own_tabs, d.before a0 Z = true) (F : List Ent) (a b : Addr)  :
    Met l Z (⟨"java/lang/String", "<init>", "([BB)V"⟩ : MethodName) jdk_42_method_151_code 3 none { frames := 1, cells := 0, slots := 0, locals := 12 } #[(.ref a), (.ref b), (.int (0 : Int32))] ((a, oStr .null (.int (0 : Int32))) :: F) (fun r M' => r = none ∧ M' = ((a, oStr (.ref b) (.int (0 : Int32))) :: F)) := by
  refine Met.of_go pn_2 (Ls := #[.val (.ref a), .val (.ref b), .val (.int (0 : Int32))]) (fun m => by first | rfl | (simp [entryFrame, mkF, argsToLocals, Value.category, maxLocals]; done)) ?_
  intro E C
  refine Go.aloadN C dc_jdk_42_method_151_0 (q := 1) rfl rfl rfl ?_
  refine Go.initO C (wd hw 19 rfl) (wd hw 20 rfl) (wd hw 21 rfl) dc_jdk_42_method_151_1 (q := 4) rfl rfl (by decide) (W := 0) rfl (by decide) ?_
  refine Go.aloadN C dc_jdk_42_method_151_4 (q := 5) rfl rfl rfl ?_
  refine Go.aloadN C dc_jdk_42_method_151_5 (q := 6) rfl rfl rfl ?_
  refine Go.putF C (host := "") (i := 0) (j := 0) (Or.inl (wd hw 22 rfl)) Via.refl rfl rfl (Or.inr ⟨(wd hw 23 rfl), rfl, rfl⟩) (wd hw 10 rfl) (ty := (.array .byte)) (by decide) rfl rfl dc_jdk_42_method_151_6 (q := 9) rfl (M' := ((a, oStr (.ref b) (.int (0 : Int32))) :: F)) rfl ?_
  refine Go.aloadN C dc_jdk_42_method_151_9 (q := 10) rfl rfl rfl ?_
  refine Go.iloadN C dc_jdk_42_method_151_10 (q := 11) rfl rfl ?_
  refine Go.putF C (host := "") (i := 0) (j := 1) (Or.inl (wd hw 24 rfl)) Via.refl rfl rfl (Or.inr ⟨(wd hw 25 rfl), rfl, rfl⟩) (wd hw 10 rfl) (ty := .byte) (by decide) rfl rfl dc_jdk_42_method_151_11 (q := 14) rfl (M' := ((a, oStr (.ref b) (.int (0 : Int32))) :: F)) rfl ?_
  refine Go.ret0 C rfl dc_jdk_42_method_151_14 (by decide) (by decide) ?_
  exact ⟨rfl, rfl⟩
theorem dc_jdk_42_method_139_0 : decode jdk_42_method_139_code 0 = .ok (.getstatic 38, 3) := by decide +kernel
theorem dc_jdk_42_method_139_3 : decode jdk_42_method_139_code 3 = .ok (.ifCond .eq 23, 3) := by decide +kernel
theorem dc_jdk_42_method_139_6 : decode jdk_42_method_139_code 6 = .ok (.iload_n 0, 1) := by decide +kernel
theorem dc_jdk_42_method_139_7 : decode jdk_42_method_139_code 7 = .ok (.invokestatic 1015, 3) := by decide +kernel
theorem dc_jdk_42_method_139_10 : decode jdk_42_method_139_code 10 = .ok (.ifCond .eq 16, 3) := by decide +kernel
theorem dc_jdk_42_method_139_13 : decode jdk_42_method_139_code 13 = .ok (.new 10, 3) := by decide +kernel
theorem dc_jdk_42_method_139_16 : decode jdk_42_method_139_code 16 = .ok (.dup, 1) := by decide +kernel
theorem dc_jdk_42_method_139_17 : decode jdk_42_method_139_code 17 = .ok (.iload_n 0, 1) := by decide +kernel
theorem dc_jdk_42_method_139_18 : decode jdk_42_method_139_code 18 = .ok (.invokestatic 1018, 3) := by decide +kernel
theorem dc_jdk_42_method_139_21 : decode jdk_42_method_139_code 21 = .ok (.iconst 0, 1) := by decide +kernel
theorem dc_jdk_42_method_139_22 : decode jdk_42_method_139_code 22 = .ok (.invokespecial 209, 3) := by decide +kernel
theorem dc_jdk_42_method_139_25 : decode jdk_42_method_139_code 25 = .ok (.areturn, 1) := by decide +kernel
theorem pn_3 : plainFor (⟨"java/lang/String", "valueOf", "(C)Ljava/lang/String;"⟩ : MethodName) = true := by first | (apply plainFor_of_name; simp [plainName, overriddenIn]; done) | decide +kernel
set_option maxRecDepth 65536 in
set_option maxHeartbeats 40000000 in
theorem m_strOf (l : Launch) (Z : State) (a0 : Array Value) (hw : ∀ d ∈ own_tabs, d.before a0 Z = true) (F : List Ent) (x cs : Int32) (hx : ¬ (255 : Int32) < x) (S_CS : Sta Z Z.heap "java/lang/String" "COMPACT_STRINGS" "Z" (.int cs)) (hcs : ¬ cs = 0) :
    Met l Z (⟨"java/lang/String", "valueOf", "(C)Ljava/lang/String;"⟩ : MethodName) jdk_42_method_139_code 1 (some (.object "java/lang/String")) { frames := 2, cells := 2, slots := 5, locals := 27 } #[(.int x)] (F) (fun v M' => ∃ a b, v = some (.ref a) ∧ M' = ((a, oStr (.ref b) (.int (0 : Int32))) :: (b, .inr (.byte, [(.int (nar .byte x.toInt8.toInt32))], true)) :: F)) := by
  refine Met.of_go pn_3 (Ls := #[.val (.int x)]) (fun m => by first | rfl | (simp [entryFrame, mkF, argsToLocals, Value.category, maxLocals]; done)) ?_
  intro E C
  refine Go.getS C (host := "") (Or.inl (wd hw 4 rfl)) Via.refl S_CS dc_jdk_42_method_139_0 (q := 3) rfl ?_
  refine Go.ifNo C dc_jdk_42_method_139_3 (q := 6) rfl (XT.i0_eq_f hcs) ?_
  refine Go.iloadN C dc_jdk_42_method_139_6 (q := 7) rfl rfl ?_
  refine Go.callS C (y := (⟨"java/lang/StringLatin1", "canEncode", "(C)Z"⟩ : MethodName)) (as := [(.int x)]) (rest := []) (wd hw 5 rfl) (wd hw 6 rfl) (wd hw 7 rfl) (wd hw 8 rfl) (m_canEnc l Z a0 hw _ x hx) rfl dc_jdk_42_method_139_7 (q := 10) rfl (by decide) rfl (na := 1) (by decide +kernel) rfl (by decide) (W := 0) rfl (by decide) (by decide) (by decide) (k' := 0) (n' := 0) rfl rfl ?_
  rintro _ _ ⟨rfl, hMq⟩
  rw [hMq]
  show Go _ _ _ _ _ _ _ _ _ _ [(.int (1 : Int32))]
  refine Go.ifNo C dc_jdk_42_method_139_10 (q := 13) rfl (XT.i0_eq_f (by decide)) ?_
  refine Go.new C (wd hw 9 rfl) (wd hw 10 rfl) (wd hw 2 rfl) [(("java/lang/String", "value", "[B"), .null), (("java/lang/String", "coder", "B"), (.int (0 : Int32)))] ⟨⟨Or.inr (wd hw 23 rfl), (.array .byte), by decide, rfl⟩, ⟨Or.inr (wd hw 25 rfl), .byte, by decide, rfl⟩, trivial⟩ (by decide) dc_jdk_42_method_139_13 (q := 16) rfl (by decide) (by decide) (k' := 1) (n' := 4) rfl rfl (fun o2 => ?_)
  refine Go.dup C dc_jdk_42_method_139_16 (q := 17) rfl rfl ?_
  refine Go.iloadN C dc_jdk_42_method_139_17 (q := 18) rfl rfl ?_
  refine Go.callS C (y := (⟨"java/lang/StringLatin1", "toBytes", "(C)[B"⟩ : MethodName)) (as := [(.int x)]) (rest := [(.ref o2), (.ref o2)]) (wd hw 11 rfl) (wd hw 12 rfl) (wd hw 7 rfl) (wd hw 13 rfl) (m_toBytes l Z a0 hw _ x) rfl dc_jdk_42_method_139_18 (q := 21) rfl (by decide) rfl (na := 1) (by decide +kernel) rfl (by decide) (W := 2) rfl (by decide) (by decide) (by decide) (k' := 2) (n' := 5) rfl rfl ?_
  rintro _ _ ⟨bt3, rfl, rfl⟩
  show Go _ _ _ _ _ _ _ _ _ _ [(.ref bt3), (.ref o2), (.ref o2)]
  refine Go.iconst C dc_jdk_42_method_139_21 (q := 22) rfl (v := (0 : Int32)) rfl ?_
  refine Go.pick (M' := ((o2, oStr .null (.int (0 : Int32))) :: (bt3, .inr (.byte, [(.int (nar .byte x.toInt8.toInt32))], true)) :: F)) 2 [1, 0] (by decide) (by decide) rfl ?_
  refine Go.callI C (y := (⟨"java/lang/String", "<init>", "([BB)V"⟩ : MethodName)) (a := o2) (as := [(.ref bt3), (.int (0 : Int32))]) (rest := [(.ref o2)]) (wd hw 15 rfl) (wd hw 16 rfl) (wd hw 2 rfl) (wd hw 18 rfl) (m_strInit l Z a0 hw _ o2 bt3) rfl rfl dc_jdk_42_method_139_22 (q := 25) rfl (by decide) rfl (na := 2) (by decide +kernel) rfl (by decide) (W := 1) rfl (by decide) (by decide) (by decide) (k' := 2) (n' := 5) rfl rfl ?_
  rintro _ _ ⟨rfl, rfl⟩
  show Go _ _ _ _ _ _ _ _ _ _ [(.ref o2)]
  refine Go.retA C rfl rfl rfl dc_jdk_42_method_139_25 (by decide) (by decide) ?_
  exact ⟨_, _, rfl, rfl⟩
theorem own_c255 (x : Int32) : ¬ (255 : Int32) < (x &&& (255 : Int32)).toUInt32.toUInt16.toUInt32.toInt32 := by
  rw [i2c_mask]
  have h : (x &&& 255).toInt = x.toInt % 2 ^ 8 := Jvm.Kit.i32_mask x 255 (k := 8) (by decide) (by decide)
  rw [Int32.lt_iff_toInt_lt]
  have e : (255 : Int32).toInt = 255 := by decide
  omega
theorem own_fne {Z : State} {h : Heap} {M : List Ent} {i : Nat} {b a : Addr} {r : Own.Rec} {K : String} (R : Rep Z h M) (hi : M[i]? = some (b, r)) (X : Exa Z Z.heap a K) : a ≠ b := fun e => Nat.lt_irrefl _ (Nat.lt_of_lt_of_le X.lt (e ▸ R.fresh hi))
theorem dc_jdk_43_method_13_0 : decode jdk_43_method_13_code 0 = .ok (.aload_n 0, 1) := by decide +kernel
theorem dc_jdk_43_method_13_1 : decode jdk_43_method_13_code 1 = .ok (.arraylength, 1) := by decide +kernel
theorem dc_jdk_43_method_13_2 : decode jdk_43_method_13_code 2 = .ok (.aload_n 1, 1) := by decide +kernel
theorem dc_jdk_43_method_13_3 : decode jdk_43_method_13_code 3 = .ok (.arraylength, 1) := by decide +kernel
theorem dc_jdk_43_method_13_4 : decode jdk_43_method_13_code 4 = .ok (.if_icmp .ne 30, 3) := by decide +kernel
theorem dc_jdk_43_method_13_7 : decode jdk_43_method_13_code 7 = .ok (.iconst 0, 1) := by decide +kernel
theorem dc_jdk_43_method_13_8 : decode jdk_43_method_13_code 8 = .ok (.istore_n 2, 1) := by decide +kernel
theorem dc_jdk_43_method_13_9 : decode jdk_43_method_13_code 9 = .ok (.iload_n 2, 1) := by decide +kernel
theorem dc_jdk_43_method_13_10 : decode jdk_43_method_13_code 10 = .ok (.aload_n 0, 1) := by decide +kernel
theorem dc_jdk_43_method_13_11 : decode jdk_43_method_13_code 11 = .ok (.arraylength, 1) := by decide +kernel
theorem dc_jdk_43_method_13_12 : decode jdk_43_method_13_code 12 = .ok (.if_icmp .ge 20, 3) := by decide +kernel
theorem dc_jdk_43_method_13_15 : decode jdk_43_method_13_code 15 = .ok (.aload_n 0, 1) := by decide +kernel
theorem dc_jdk_43_method_13_16 : decode jdk_43_method_13_code 16 = .ok (.iload_n 2, 1) := by decide +kernel
theorem dc_jdk_43_method_13_17 : decode jdk_43_method_13_code 17 = .ok (.baload, 1) := by decide +kernel
theorem dc_jdk_43_method_13_18 : decode jdk_43_method_13_code 18 = .ok (.aload_n 1, 1) := by decide +kernel
theorem dc_jdk_43_method_13_19 : decode jdk_43_method_13_code 19 = .ok (.iload_n 2, 1) := by decide +kernel
theorem dc_jdk_43_method_13_20 : decode jdk_43_method_13_code 20 = .ok (.baload, 1) := by decide +kernel
theorem dc_jdk_43_method_13_21 : decode jdk_43_method_13_code 21 = .ok (.if_icmp .eq 5, 3) := by decide +kernel
theorem dc_jdk_43_method_13_26 : decode jdk_43_method_13_code 26 = .ok (.iinc 2 1, 3) := by decide +kernel
theorem dc_jdk_43_method_13_29 : decode jdk_43_method_13_code 29 = .ok (.goto (-20), 3) := by decide +kernel
theorem dc_jdk_43_method_13_32 : decode jdk_43_method_13_code 32 = .ok (.iconst 1, 1) := by decide +kernel
theorem dc_jdk_43_method_13_33 : decode jdk_43_method_13_code 33 = .ok (.ireturn, 1) := by decide +kernel
theorem dc_jdk_43_method_13_24 : decode jdk_43_method_13_code 24 = .ok (.iconst 0, 1) := by decide +kernel
theorem dc_jdk_43_method_13_25 : decode jdk_43_method_13_code 25 = .ok (.ireturn, 1) := by decide +kernel
theorem pn_4 : plainFor (⟨"java/lang/StringLatin1", "equals", "([B[B)Z"⟩ : MethodName) = true := by first | (apply plainFor_of_name; simp [plainName, overriddenIn]; done) | decide +kernel
set_option maxRecDepth 65536 in
set_option maxHeartbeats 40000000 in
theorem m_leq_on (l : Launch) (Z : State) (a0 : Array Value) (hw : ∀ d ∈ own_tabs, d.before a0 Z = true) (F : List Ent) (p b : Addr) (u w : Int32) (A_p : ArrIs Z Z.heap p .byte [.int u]) :
    Met l Z (⟨"java/lang/StringLatin1", "equals", "([B[B)Z"⟩ : MethodName) jdk_43_method_13_code 3 (some .boolean) { frames := 0, cells := 0, slots := 0, locals := 0 } #[(.ref p), (.ref b)] ((b, .inr (.byte, [(.int w)], true)) :: F) (fun v M' => v = some (.int (if u = w then 1 else 0)) ∧ M' = ((b, .inr (.byte, [(.int w)], true)) :: F)) := by
  refine Met.of_go pn_4 (Ls := #[.val (.ref p), .val (.ref b), .unset]) (fun m => by first | rfl | (simp [entryFrame, mkF, argsToLocals, Value.category, maxLocals]; done)) ?_
  intro E C
  refine Go.aloadN C dc_jdk_43_method_13_0 (q := 1) rfl rfl rfl ?_
  refine Go.arraylength C (fun _ r => (A_p).ext r.1) (z := (1 : Int32)) rfl dc_jdk_43_method_13_1 (q := 2) rfl ?_
  refine Go.aloadN C dc_jdk_43_method_13_2 (q := 3) rfl rfl rfl ?_
  refine Go.arraylength C (fun _ r => r.arr 0 rfl) (z := (1 : Int32)) rfl dc_jdk_43_method_13_3 (q := 4) rfl ?_
  refine Go.icmpNo C dc_jdk_43_method_13_4 (q := 7) rfl (XT.ii_ne_f (by decide)) ?_
  refine Go.iconst C dc_jdk_43_method_13_7 (q := 8) rfl (v := (0 : Int32)) rfl ?_
  refine Go.istoreN C dc_jdk_43_method_13_8 (q := 9) rfl (Ls' := #[.val (.ref p), .val (.ref b), .val (.int (0 : Int32))]) rfl ?_
  refine Go.iloadN C dc_jdk_43_method_13_9 (q := 10) rfl rfl ?_
  refine Go.aloadN C dc_jdk_43_method_13_10 (q := 11) rfl rfl rfl ?_
  refine Go.arraylength C (fun _ r => (A_p).ext r.1) (z := (1 : Int32)) rfl dc_jdk_43_method_13_11 (q := 12) rfl ?_
  refine Go.icmpNo C dc_jdk_43_method_13_12 (q := 15) rfl (XT.ii_ge_f (by decide)) ?_
  refine Go.aloadN C dc_jdk_43_method_13_15 (q := 16) rfl rfl rfl ?_
  refine Go.iloadN C dc_jdk_43_method_13_16 (q := 17) rfl rfl ?_
  refine Go.baload C (fun _ r => (A_p).ext r.1) (by decide) (v := (.int u)) rfl dc_jdk_43_method_13_17 (q := 18) rfl ?_
  refine Go.aloadN C dc_jdk_43_method_13_18 (q := 19) rfl rfl rfl ?_
  refine Go.iloadN C dc_jdk_43_method_13_19 (q := 20) rfl rfl ?_
  refine Go.baload C (fun _ r => r.arr 0 rfl) (by decide) (v := (.int w)) rfl dc_jdk_43_method_13_20 (q := 21) rfl ?_
  refine Go.icmp C dc_jdk_43_method_13_21 (by decide) (q := 26) rfl (q' := 24) rfl (fun (h21_1 : u = w) => ?_) (fun (h21_1 : ¬ u = w) => ?_)
  · refine Go.iinc C dc_jdk_43_method_13_26 (q := 29) rfl rfl (v := (1 : Int32)) (by first | rfl | decide) (Ls' := #[.val (.ref p), .val (.ref b), .val (.int (1 : Int32))]) rfl ?_
    refine Go.goto C dc_jdk_43_method_13_29 (by decide) (q := 9) rfl ?_
    refine Go.iloadN C dc_jdk_43_method_13_9 (q := 10) rfl rfl ?_
    refine Go.aloadN C dc_jdk_43_method_13_10 (q := 11) rfl rfl rfl ?_
    refine Go.arraylength C (fun _ r => (A_p).ext r.1) (z := (1 : Int32)) rfl dc_jdk_43_method_13_11 (q := 12) rfl ?_
    refine Go.icmpYes C dc_jdk_43_method_13_12 (by decide) (q := 32) rfl (XT.ii_ge_t (by decide)) ?_
    refine Go.iconst C dc_jdk_43_method_13_32 (q := 33) rfl (v := (1 : Int32)) rfl ?_
    refine Go.retZ C rfl (by decide) dc_jdk_43_method_13_33 (by decide) (by decide) ?_
    exact ⟨by simp_all, rfl⟩
  · refine Go.iconst C dc_jdk_43_method_13_24 (q := 25) rfl (v := (0 : Int32)) rfl ?_
    refine Go.retZ C rfl (by decide) dc_jdk_43_method_13_25 (by decide) (by decide) ?_
    exact ⟨by simp_all, rfl⟩
set_option maxRecDepth 65536 in
set_option maxHeartbeats 40000000 in
theorem m_leq_no (l : Launch) (Z : State) (a0 : Array Value) (hw : ∀ d ∈ own_tabs, d.before a0 Z = true) (F : List Ent) (p b : Addr) (u w : Int32) (A_p : ArrIs Z Z.heap p .byte [.int u]) :
    Met l Z (⟨"java/lang/StringLatin1", "equals", "([B[B)Z"⟩ : MethodName) jdk_43_method_13_code 3 (some .boolean) { frames := 0, cells := 0, slots := 0, locals := 0 } #[(.ref b), (.ref p)] ((b, .inr (.byte, [(.int w)], true)) :: F) (fun v M' => v = some (.int (if w = u then 1 else 0)) ∧ M' = ((b, .inr (.byte, [(.int w)], true)) :: F)) := by
  refine Met.of_go pn_4 (Ls := #[.val (.ref b), .val (.ref p), .unset]) (fun m => by first | rfl | (simp [entryFrame, mkF, argsToLocals, Value.category, maxLocals]; done)) ?_
  intro E C
  refine Go.aloadN C dc_jdk_43_method_13_0 (q := 1) rfl rfl rfl ?_
  refine Go.arraylength C (fun _ r => r.arr 0 rfl) (z := (1 : Int32)) rfl dc_jdk_43_method_13_1 (q := 2) rfl ?_
  refine Go.aloadN C dc_jdk_43_method_13_2 (q := 3) rfl rfl rfl ?_
  refine Go.arraylength C (fun _ r => (A_p).ext r.1) (z := (1 : Int32)) rfl dc_jdk_43_method_13_3 (q := 4) rfl ?_
  refine Go.icmpNo C dc_jdk_43_method_13_4 (q := 7) rfl (XT.ii_ne_f (by decide)) ?_
  refine Go.iconst C dc_jdk_43_method_13_7 (q := 8) rfl (v := (0 : Int32)) rfl ?_
  refine Go.istoreN C dc_jdk_43_method_13_8 (q := 9) rfl (Ls' := #[.val (.ref b), .val (.ref p), .val (.int (0 : Int32))]) rfl ?_
  refine Go.iloadN C dc_jdk_43_method_13_9 (q := 10) rfl rfl ?_
  refine Go.aloadN C dc_jdk_43_method_13_10 (q := 11) rfl rfl rfl ?_
  refine Go.arraylength C (fun _ r => r.arr 0 rfl) (z := (1 : Int32)) rfl dc_jdk_43_method_13_11 (q := 12) rfl ?_
  refine Go.icmpNo C dc_jdk_43_method_13_12 (q := 15) rfl (XT.ii_ge_f (by decide)) ?_
  refine Go.aloadN C dc_jdk_43_method_13_15 (q := 16) rfl rfl rfl ?_
  refine Go.iloadN C dc_jdk_43_method_13_16 (q := 17) rfl rfl ?_
  refine Go.baload C (fun _ r => r.arr 0 rfl) (by decide) (v := (.int w)) rfl dc_jdk_43_method_13_17 (q := 18) rfl ?_
  refine Go.aloadN C dc_jdk_43_method_13_18 (q := 19) rfl rfl rfl ?_
  refine Go.iloadN C dc_jdk_43_method_13_19 (q := 20) rfl rfl ?_
  refine Go.baload C (fun _ r => (A_p).ext r.1) (by decide) (v := (.int u)) rfl dc_jdk_43_method_13_20 (q := 21) rfl ?_
  refine Go.icmp C dc_jdk_43_method_13_21 (by decide) (q := 26) rfl (q' := 24) rfl (fun (h21_1 : w = u) => ?_) (fun (h21_1 : ¬ w = u) => ?_)
  · refine Go.iinc C dc_jdk_43_method_13_26 (q := 29) rfl rfl (v := (1 : Int32)) (by first | rfl | decide) (Ls' := #[.val (.ref b), .val (.ref p), .val (.int (1 : Int32))]) rfl ?_
    refine Go.goto C dc_jdk_43_method_13_29 (by decide) (q := 9) rfl ?_
    refine Go.iloadN C dc_jdk_43_method_13_9 (q := 10) rfl rfl ?_
    refine Go.aloadN C dc_jdk_43_method_13_10 (q := 11) rfl rfl rfl ?_
    refine Go.arraylength C (fun _ r => r.arr 0 rfl) (z := (1 : Int32)) rfl dc_jdk_43_method_13_11 (q := 12) rfl ?_
    refine Go.icmpYes C dc_jdk_43_method_13_12 (by decide) (q := 32) rfl (XT.ii_ge_t (by decide)) ?_
    refine Go.iconst C dc_jdk_43_method_13_32 (q := 33) rfl (v := (1 : Int32)) rfl ?_
    refine Go.retZ C rfl (by decide) dc_jdk_43_method_13_33 (by decide) (by decide) ?_
    exact ⟨by simp_all, rfl⟩
  · refine Go.iconst C dc_jdk_43_method_13_24 (q := 25) rfl (v := (0 : Int32)) rfl ?_
    refine Go.retZ C rfl (by decide) dc_jdk_43_method_13_25 (by decide) (by decide) ?_
    exact ⟨by simp_all, rfl⟩
theorem dc_jdk_42_method_66_0 : decode jdk_42_method_66_code 0 = .ok (.aload_n 0, 1) := by decide +kernel
theorem dc_jdk_42_method_66_1 : decode jdk_42_method_66_code 1 = .ok (.aload_n 1, 1) := by decide +kernel
theorem dc_jdk_42_method_66_2 : decode jdk_42_method_66_code 2 = .ok (.if_acmp .ne 5, 3) := by decide +kernel
theorem dc_jdk_42_method_66_7 : decode jdk_42_method_66_code 7 = .ok (.aload_n 1, 1) := by decide +kernel
theorem dc_jdk_42_method_66_8 : decode jdk_42_method_66_code 8 = .ok (.instanceof 10, 3) := by decide +kernel
theorem dc_jdk_42_method_66_11 : decode jdk_42_method_66_code 11 = .ok (.ifCond .eq 43, 3) := by decide +kernel
theorem dc_jdk_42_method_66_14 : decode jdk_42_method_66_code 14 = .ok (.aload_n 1, 1) := by decide +kernel
theorem dc_jdk_42_method_66_15 : decode jdk_42_method_66_code 15 = .ok (.checkcast 10, 3) := by decide +kernel
theorem dc_jdk_42_method_66_18 : decode jdk_42_method_66_code 18 = .ok (.astore_n 2, 1) := by decide +kernel
theorem dc_jdk_42_method_66_19 : decode jdk_42_method_66_code 19 = .ok (.getstatic 38, 3) := by decide +kernel
theorem dc_jdk_42_method_66_22 : decode jdk_42_method_66_code 22 = .ok (.ifCond .eq 14, 3) := by decide +kernel
theorem dc_jdk_42_method_66_25 : decode jdk_42_method_66_code 25 = .ok (.aload_n 0, 1) := by decide +kernel
theorem dc_jdk_42_method_66_26 : decode jdk_42_method_66_code 26 = .ok (.getfield 15, 3) := by decide +kernel
theorem dc_jdk_42_method_66_29 : decode jdk_42_method_66_code 29 = .ok (.aload_n 2, 1) := by decide +kernel
theorem dc_jdk_42_method_66_30 : decode jdk_42_method_66_code 30 = .ok (.getfield 15, 3) := by decide +kernel
theorem dc_jdk_42_method_66_33 : decode jdk_42_method_66_code 33 = .ok (.if_icmp .ne 21, 3) := by decide +kernel
theorem dc_jdk_42_method_66_36 : decode jdk_42_method_66_code 36 = .ok (.aload_n 0, 1) := by decide +kernel
theorem dc_jdk_42_method_66_37 : decode jdk_42_method_66_code 37 = .ok (.getfield 9, 3) := by decide +kernel
theorem dc_jdk_42_method_66_40 : decode jdk_42_method_66_code 40 = .ok (.aload_n 2, 1) := by decide +kernel
theorem dc_jdk_42_method_66_41 : decode jdk_42_method_66_code 41 = .ok (.getfield 9, 3) := by decide +kernel
theorem dc_jdk_42_method_66_44 : decode jdk_42_method_66_code 44 = .ok (.invokestatic 541, 3) := by decide +kernel
theorem dc_jdk_42_method_66_55 : decode jdk_42_method_66_code 55 = .ok (.ireturn, 1) := by decide +kernel
theorem dc_jdk_42_method_66_47 : decode jdk_42_method_66_code 47 = .ok (.ifCond .eq 7, 3) := by decide +kernel
theorem dc_jdk_42_method_66_54 : decode jdk_42_method_66_code 54 = .ok (.iconst 0, 1) := by decide +kernel
theorem dc_jdk_42_method_66_50 : decode jdk_42_method_66_code 50 = .ok (.iconst 1, 1) := by decide +kernel
theorem dc_jdk_42_method_66_51 : decode jdk_42_method_66_code 51 = .ok (.goto 4, 3) := by decide +kernel
theorem pn_5 : plainFor (⟨"java/lang/String", "equals", "(Ljava/lang/Object;)Z"⟩ : MethodName) = true := by first | (apply plainFor_of_name; simp [plainName, overriddenIn]; done) | decide +kernel
set_option maxRecDepth 65536 in
set_option maxHeartbeats 40000000 in
theorem m_eq_on (l : Launch) (Z : State) (a0 : Array Value) (hw : ∀ d ∈ own_tabs, d.before a0 Z = true) (F : List Ent) (a p s b : Addr) (u w cs : Int32) (E_a : Exa Z Z.heap a "java/lang/String") (F_v : Fld Z Z.heap a "java/lang/String" "value" "[B" (.ref p)) (F_c : Fld Z Z.heap a "java/lang/String" "coder" "B" (.int (0 : Int32))) (A_p : ArrIs Z Z.heap p .byte [.int u]) (S_CS : Sta Z Z.heap "java/lang/String" "COMPACT_STRINGS" "Z" (.int cs)) (hcs : ¬ cs = 0) :
    Met l Z (⟨"java/lang/String", "equals", "(Ljava/lang/Object;)Z"⟩ : MethodName) jdk_42_method_66_code 3 (some .boolean) { frames := 1, cells := 0, slots := 0, locals := 14 } #[(.ref a), (.ref s)] ((s, oStr (.ref b) (.int (0 : Int32))) :: (b, .inr (.byte, [(.int w)], true)) :: F) (fun v M' => v = some (.int (if u = w then 1 else 0)) ∧ M' = ((b, .inr (.byte, [(.int w)], true)) :: (s, oStr (.ref b) (.int (0 : Int32))) :: F)) := by
  refine Met.of_go pn_5 (Ls := #[.val (.ref a), .val (.ref s), .unset]) (fun m => by first | rfl | (simp [entryFrame, mkF, argsToLocals, Value.category, maxLocals]; done)) ?_
  intro E C
  refine Go.know (P := a ≠ s) (fun _ r => own_fne r (i := 0) rfl E_a) (fun hne => ?_)
  refine Go.aloadN C dc_jdk_42_method_66_0 (q := 1) rfl rfl rfl ?_
  refine Go.aloadN C dc_jdk_42_method_66_1 (q := 2) rfl rfl rfl ?_
  refine Go.acmpYes C dc_jdk_42_method_66_2 (by decide) (q := 7) rfl rfl rfl (XT.aa_ne_t (fun e => hne (by injection e))) ?_
  refine Go.aloadN C dc_jdk_42_method_66_7 (q := 8) rfl rfl rfl ?_
  refine Go.instY C (wd hw 9 rfl) (fun _ r => Ins.self (r.exa 0 rfl)) dc_jdk_42_method_66_8 (q := 11) rfl ?_
  refine Go.ifNo C dc_jdk_42_method_66_11 (q := 14) rfl (XT.i0_eq_f (by decide)) ?_
  refine Go.aloadN C dc_jdk_42_method_66_14 (q := 15) rfl rfl rfl ?_
  refine Go.castY C (wd hw 9 rfl) (fun _ r => Ins.self (r.exa 0 rfl)) dc_jdk_42_method_66_15 (q := 18) rfl ?_
  refine Go.astoreN C dc_jdk_42_method_66_18 (q := 19) rfl rfl (Ls' := #[.val (.ref a), .val (.ref s), .val (.ref s)]) rfl ?_
  refine Go.getS C (host := "") (Or.inl (wd hw 4 rfl)) Via.refl S_CS dc_jdk_42_method_66_19 (q := 22) rfl ?_
  refine Go.ifNo C dc_jdk_42_method_66_22 (q := 25) rfl (XT.i0_eq_f hcs) ?_
  refine Go.aloadN C dc_jdk_42_method_66_25 (q := 26) rfl rfl rfl ?_
  refine Go.getF C (host := "") (Or.inl (wd hw 24 rfl)) Via.refl (fun _ r => (F_c).ext r.1) dc_jdk_42_method_66_26 (q := 29) rfl ?_
  refine Go.aloadN C dc_jdk_42_method_66_29 (q := 30) rfl rfl rfl ?_
  refine Go.getF C (host := "") (Or.inl (wd hw 24 rfl)) Via.refl (fun _ r => r.fld 0 1 rfl rfl) dc_jdk_42_method_66_30 (q := 33) rfl ?_
  refine Go.icmpNo C dc_jdk_42_method_66_33 (q := 36) rfl (XT.ii_ne_f (by decide)) ?_
  refine Go.aloadN C dc_jdk_42_method_66_36 (q := 37) rfl rfl rfl ?_
  refine Go.getF C (host := "") (Or.inl (wd hw 22 rfl)) Via.refl (fun _ r => (F_v).ext r.1) dc_jdk_42_method_66_37 (q := 40) rfl ?_
  refine Go.aloadN C dc_jdk_42_method_66_40 (q := 41) rfl rfl rfl ?_
  refine Go.getF C (host := "") (Or.inl (wd hw 22 rfl)) Via.refl (fun _ r => r.fld 0 0 rfl rfl) dc_jdk_42_method_66_41 (q := 44) rfl ?_
  refine Go.pick (M' := ((b, .inr (.byte, [(.int w)], true)) :: (s, oStr (.ref b) (.int (0 : Int32))) :: F)) 2 [1, 0] (by decide) (by decide) rfl ?_
  refine Go.callS C (y := (⟨"java/lang/StringLatin1", "equals", "([B[B)Z"⟩ : MethodName)) (as := [(.ref p), (.ref b)]) (rest := []) (wd hw 54 rfl) (wd hw 55 rfl) (wd hw 7 rfl) (wd hw 56 rfl) (m_leq_on l Z a0 hw _ p b u w A_p) rfl dc_jdk_42_method_66_44 (q := 47) rfl (by decide) rfl (na := 2) (by decide +kernel) rfl (by decide) (W := 0) rfl (by decide) (by decide) (by decide) (k' := 0) (n' := 0) rfl rfl ?_
  rintro _ _ ⟨rfl, rfl⟩
  show Go _ _ _ _ _ _ _ _ _ _ [(.int (if u = w then (1 : Int32) else 0))]
  refine Go.joinI (q := 55) (Ls' := #[.val (.ref a), .val (.ref s), .val (.ref s)]) (st' := []) ((if (if u = w then (1 : Int32) else 0) = (0 : Int32) then (0 : Int32) else 1)) ?_ (fun J55_24 => ?_)
  · refine Go.retZ C rfl (and1 ite10) dc_jdk_42_method_66_55 (by decide) (by decide) ?_
    exact ⟨by simp_all, rfl⟩
  · refine Go.ifc C dc_jdk_42_method_66_47 (by decide) (q := 54) rfl (q' := 50) rfl (fun (h47_1 : (if u = w then (1 : Int32) else 0) = 0) => ?_) (fun (h47_1 : ¬ (if u = w then (1 : Int32) else 0) = 0) => ?_)
    · refine Go.iconst C dc_jdk_42_method_66_54 (q := 55) rfl (v := (0 : Int32)) rfl ?_
      exact J55_24 _ (by simp [h47_1])
    · refine Go.iconst C dc_jdk_42_method_66_50 (q := 51) rfl (v := (1 : Int32)) rfl ?_
      refine Go.goto C dc_jdk_42_method_66_51 (by decide) (q := 55) rfl ?_
      exact J55_24 _ (by simp [h47_1])
set_option maxRecDepth 65536 in
set_option maxHeartbeats 40000000 in
theorem m_eq_no (l : Launch) (Z : State) (a0 : Array Value) (hw : ∀ d ∈ own_tabs, d.before a0 Z = true) (F : List Ent) (a p s b : Addr) (u w cs : Int32) (E_a : Exa Z Z.heap a "java/lang/String") (F_v : Fld Z Z.heap a "java/lang/String" "value" "[B" (.ref p)) (F_c : Fld Z Z.heap a "java/lang/String" "coder" "B" (.int (0 : Int32))) (A_p : ArrIs Z Z.heap p .byte [.int u]) (S_CS : Sta Z Z.heap "java/lang/String" "COMPACT_STRINGS" "Z" (.int cs)) (hcs : ¬ cs = 0) :
    Met l Z (⟨"java/lang/String", "equals", "(Ljava/lang/Object;)Z"⟩ : MethodName) jdk_42_method_66_code 3 (some .boolean) { frames := 1, cells := 0, slots := 0, locals := 14 } #[(.ref s), (.ref a)] ((s, oStr (.ref b) (.int (0 : Int32))) :: (b, .inr (.byte, [(.int w)], true)) :: F) (fun v M' => v = some (.int (if w = u then 1 else 0)) ∧ M' = ((b, .inr (.byte, [(.int w)], true)) :: (s, oStr (.ref b) (.int (0 : Int32))) :: F)) := by
  refine Met.of_go pn_5 (Ls := #[.val (.ref s), .val (.ref a), .unset]) (fun m => by first | rfl | (simp [entryFrame, mkF, argsToLocals, Value.category, maxLocals]; done)) ?_
  intro E C
  refine Go.know (P := a ≠ s) (fun _ r => own_fne r (i := 0) rfl E_a) (fun hne => ?_)
  refine Go.aloadN C dc_jdk_42_method_66_0 (q := 1) rfl rfl rfl ?_
  refine Go.aloadN C dc_jdk_42_method_66_1 (q := 2) rfl rfl rfl ?_
  refine Go.acmpYes C dc_jdk_42_method_66_2 (by decide) (q := 7) rfl rfl rfl (XT.aa_ne_t (fun e => hne (by injection e with e; exact e.symm))) ?_
  refine Go.aloadN C dc_jdk_42_method_66_7 (q := 8) rfl rfl rfl ?_
  refine Go.instY C (wd hw 9 rfl) (fun _ r => Ins.self ((E_a).ext r.1)) dc_jdk_42_method_66_8 (q := 11) rfl ?_
  refine Go.ifNo C dc_jdk_42_method_66_11 (q := 14) rfl (XT.i0_eq_f (by decide)) ?_
  refine Go.aloadN C dc_jdk_42_method_66_14 (q := 15) rfl rfl rfl ?_
  refine Go.castY C (wd hw 9 rfl) (fun _ r => Ins.self ((E_a).ext r.1)) dc_jdk_42_method_66_15 (q := 18) rfl ?_
  refine Go.astoreN C dc_jdk_42_method_66_18 (q := 19) rfl rfl (Ls' := #[.val (.ref s), .val (.ref a), .val (.ref a)]) rfl ?_
  refine Go.getS C (host := "") (Or.inl (wd hw 4 rfl)) Via.refl S_CS dc_jdk_42_method_66_19 (q := 22) rfl ?_
  refine Go.ifNo C dc_jdk_42_method_66_22 (q := 25) rfl (XT.i0_eq_f hcs) ?_
  refine Go.aloadN C dc_jdk_42_method_66_25 (q := 26) rfl rfl rfl ?_
  refine Go.getF C (host := "") (Or.inl (wd hw 24 rfl)) Via.refl (fun _ r => r.fld 0 1 rfl rfl) dc_jdk_42_method_66_26 (q := 29) rfl ?_
  refine Go.aloadN C dc_jdk_42_method_66_29 (q := 30) rfl rfl rfl ?_
  refine Go.getF C (host := "") (Or.inl (wd hw 24 rfl)) Via.refl (fun _ r => (F_c).ext r.1) dc_jdk_42_method_66_30 (q := 33) rfl ?_
  refine Go.icmpNo C dc_jdk_42_method_66_33 (q := 36) rfl (XT.ii_ne_f (by decide)) ?_
  refine Go.aloadN C dc_jdk_42_method_66_36 (q := 37) rfl rfl rfl ?_
  refine Go.getF C (host := "") (Or.inl (wd hw 22 rfl)) Via.refl (fun _ r => r.fld 0 0 rfl rfl) dc_jdk_42_method_66_37 (q := 40) rfl ?_
  refine Go.aloadN C dc_jdk_42_method_66_40 (q := 41) rfl rfl rfl ?_
  refine Go.getF C (host := "") (Or.inl (wd hw 22 rfl)) Via.refl (fun _ r => (F_v).ext r.1) dc_jdk_42_method_66_41 (q := 44) rfl ?_
  refine Go.pick (M' := ((b, .inr (.byte, [(.int w)], true)) :: (s, oStr (.ref b) (.int (0 : Int32))) :: F)) 2 [1, 0] (by decide) (by decide) rfl ?_
  refine Go.callS C (y := (⟨"java/lang/StringLatin1", "equals", "([B[B)Z"⟩ : MethodName)) (as := [(.ref b), (.ref p)]) (rest := []) (wd hw 54 rfl) (wd hw 55 rfl) (wd hw 7 rfl) (wd hw 56 rfl) (m_leq_no l Z a0 hw _ p b u w A_p) rfl dc_jdk_42_method_66_44 (q := 47) rfl (by decide) rfl (na := 2) (by decide +kernel) rfl (by decide) (W := 0) rfl (by decide) (by decide) (by decide) (k' := 0) (n' := 0) rfl rfl ?_
  rintro _ _ ⟨rfl, rfl⟩
  show Go _ _ _ _ _ _ _ _ _ _ [(.int (if w = u then (1 : Int32) else 0))]
  refine Go.joinI (q := 55) (Ls' := #[.val (.ref s), .val (.ref a), .val (.ref a)]) (st' := []) ((if (if w = u then (1 : Int32) else 0) = (0 : Int32) then (0 : Int32) else 1)) ?_ (fun J55_24 => ?_)
  · refine Go.retZ C rfl (and1 ite10) dc_jdk_42_method_66_55 (by decide) (by decide) ?_
    exact ⟨by simp_all, rfl⟩
  · refine Go.ifc C dc_jdk_42_method_66_47 (by decide) (q := 54) rfl (q' := 50) rfl (fun (h47_1 : (if w = u then (1 : Int32) else 0) = 0) => ?_) (fun (h47_1 : ¬ (if w = u then (1 : Int32) else 0) = 0) => ?_)
    · refine Go.iconst C dc_jdk_42_method_66_54 (q := 55) rfl (v := (0 : Int32)) rfl ?_
      exact J55_24 _ (by simp [h47_1])
    · refine Go.iconst C dc_jdk_42_method_66_50 (q := 51) rfl (v := (1 : Int32)) rfl ?_
      refine Go.goto C dc_jdk_42_method_66_51 (by decide) (q := 55) rfl ?_
      exact J55_24 _ (by simp [h47_1])
theorem dc_prog_10_method_1_0 : decode prog_10_method_1_code 0 = .ok (.getstatic 10, 3) := by decide +kernel
theorem dc_prog_10_method_1_3 : decode prog_10_method_1_code 3 = .ok (.invokevirtual 14, 3) := by decide +kernel
theorem dc_prog_10_method_1_6 : decode prog_10_method_1_code 6 = .ok (.checkcast 15, 3) := by decide +kernel
theorem dc_prog_10_method_1_9 : decode prog_10_method_1_code 9 = .ok (.areturn, 1) := by decide +kernel
theorem pn_6 : plainFor (⟨"com/example/paschalion/paschalion/cli/Option", "values", "()[Lcom/example/paschalion/paschalion/cli/Option;"⟩ : MethodName) = true := by first | (apply plainFor_of_name; simp [plainName, overriddenIn]; done) | decide +kernel
set_option maxRecDepth 65536 in
set_option maxHeartbeats 40000000 in
theorem m_values (l : Launch) (Z : State) (a0 : Array Value) (hw : ∀ d ∈ own_tabs, d.before a0 Z = true) (F : List Ent) (va s_HELP s_RECK : Addr) (S_va : Sta Z Z.heap "com/example/paschalion/paschalion/cli/Option" "$VALUES" "[Lcom/example/paschalion/paschalion/cli/Option;" (.ref va)) (E_va : Exa Z Z.heap va "[Lcom/example/paschalion/paschalion/cli/Option;") (A_va : ArrIs Z Z.heap va (.object "com/example/paschalion/paschalion/cli/Option") [.ref s_HELP, .ref s_RECK]) :
    Met l Z (⟨"com/example/paschalion/paschalion/cli/Option", "values", "()[Lcom/example/paschalion/paschalion/cli/Option;"⟩ : MethodName) prog_10_method_1_code 0 (some (.array (.object "com/example/paschalion/paschalion/cli/Option"))) { frames := 1, cells := 1, slots := 2, locals := 14 } #[] (F) (fun v M' => ∃ b, v = some (.ref b) ∧ M' = ((b, .inr (.object "com/example/paschalion/paschalion/cli/Option", [(.ref s_HELP), (.ref s_RECK)], false)) :: F)) := by
  refine Met.of_go pn_6 (Ls := #[]) (fun m => by first | rfl | (simp [entryFrame, mkF, argsToLocals, Value.category, maxLocals]; done)) ?_
  intro E C
  refine Go.getS C (host := "") (Or.inl (wd hw 33 rfl)) Via.refl S_va dc_prog_10_method_1_0 (q := 3) rfl ?_
  refine Go.cloneCast C (ad := "[Lcom/example/paschalion/paschalion/cli/Option;") (wd hw 35 rfl) (wd hw 36 rfl) (wd hw 40 rfl) (wd hw 38 rfl) (wd hw 39 rfl) (wd hw 41 rfl) (wd hw 45 rfl) (fun _ r => (A_va).ext r.1) (fun _ r => (E_va).ext r.1) (by simp [fits]) dc_prog_10_method_1_3 (p' := 6) rfl dc_prog_10_method_1_6 (q := 9) rfl rfl (by decide) (W := 0) rfl (by decide) (cap := 2) (Nat.le_refl _) (by decide) (by decide) (k' := 1) (n' := 2) rfl rfl (fun o4 => ?_)
  refine Go.retA C rfl rfl rfl dc_prog_10_method_1_9 (by decide) (by decide) ?_
  exact ⟨_, rfl, rfl⟩
theorem dc_prog_10_method_5_0 : decode prog_10_method_5_code 0 = .ok (.invokestatic 39, 3) := by decide +kernel
theorem dc_prog_10_method_5_3 : decode prog_10_method_5_code 3 = .ok (.astore_n 1, 1) := by decide +kernel
theorem dc_prog_10_method_5_4 : decode prog_10_method_5_code 4 = .ok (.aload_n 1, 1) := by decide +kernel
theorem dc_prog_10_method_5_5 : decode prog_10_method_5_code 5 = .ok (.arraylength, 1) := by decide +kernel
theorem dc_prog_10_method_5_6 : decode prog_10_method_5_code 6 = .ok (.istore_n 2, 1) := by decide +kernel
theorem dc_prog_10_method_5_7 : decode prog_10_method_5_code 7 = .ok (.iconst 0, 1) := by decide +kernel
theorem dc_prog_10_method_5_8 : decode prog_10_method_5_code 8 = .ok (.istore_n 3, 1) := by decide +kernel
theorem dc_prog_10_method_5_9 : decode prog_10_method_5_code 9 = .ok (.iload_n 3, 1) := by decide +kernel
theorem dc_prog_10_method_5_10 : decode prog_10_method_5_code 10 = .ok (.iload_n 2, 1) := by decide +kernel
theorem dc_prog_10_method_5_11 : decode prog_10_method_5_code 11 = .ok (.if_icmp .ge 29, 3) := by decide +kernel
theorem dc_prog_10_method_5_14 : decode prog_10_method_5_code 14 = .ok (.aload_n 1, 1) := by decide +kernel
theorem dc_prog_10_method_5_15 : decode prog_10_method_5_code 15 = .ok (.iload_n 3, 1) := by decide +kernel
theorem dc_prog_10_method_5_16 : decode prog_10_method_5_code 16 = .ok (.aaload, 1) := by decide +kernel
theorem dc_prog_10_method_5_17 : decode prog_10_method_5_code 17 = .ok (.astore 4, 2) := by decide +kernel
theorem dc_prog_10_method_5_19 : decode prog_10_method_5_code 19 = .ok (.aload 4, 2) := by decide +kernel
theorem dc_prog_10_method_5_21 : decode prog_10_method_5_code 21 = .ok (.getfield 29, 3) := by decide +kernel
theorem dc_prog_10_method_5_24 : decode prog_10_method_5_code 24 = .ok (.aload_n 0, 1) := by decide +kernel
theorem dc_prog_10_method_5_25 : decode prog_10_method_5_code 25 = .ok (.invokevirtual 62, 3) := by decide +kernel
theorem dc_prog_10_method_5_28 : decode prog_10_method_5_code 28 = .ok (.ifCond .eq 6, 3) := by decide +kernel
theorem dc_prog_10_method_5_31 : decode prog_10_method_5_code 31 = .ok (.aload 4, 2) := by decide +kernel
theorem dc_prog_10_method_5_33 : decode prog_10_method_5_code 33 = .ok (.areturn, 1) := by decide +kernel
theorem pn_7 : plainFor (⟨"com/example/paschalion/paschalion/cli/Option", "lettered", "(Ljava/lang/String;)Lcom/example/paschalion/paschalion/cli/Option;"⟩ : MethodName) = true := by first | (apply plainFor_of_name; simp [plainName, overriddenIn]; done) | decide +kernel
set_option maxRecDepth 65536 in
set_option maxHeartbeats 40000000 in
theorem m_lettered (l : Launch) (Z : State) (a0 : Array Value) (hw : ∀ d ∈ own_tabs, d.before a0 Z = true) (F : List Ent) (s b va s_HELP s_RECK hl hb : Addr) (w cs : Int32) (hw1 : w = 104) (S_va : Sta Z Z.heap "com/example/paschalion/paschalion/cli/Option" "$VALUES" "[Lcom/example/paschalion/paschalion/cli/Option;" (.ref va)) (E_va : Exa Z Z.heap va "[Lcom/example/paschalion/paschalion/cli/Option;") (A_va : ArrIs Z Z.heap va (.object "com/example/paschalion/paschalion/cli/Option") [.ref s_HELP, .ref s_RECK]) (F_let : Fld Z Z.heap s_HELP "com/example/paschalion/paschalion/cli/Option" "letter" "Ljava/lang/String;" (.ref hl)) (E_hl : Exa Z Z.heap hl "java/lang/String") (F_hl : Fld Z Z.heap hl "java/lang/String" "value" "[B" (.ref hb)) (F_hc : Fld Z Z.heap hl "java/lang/String" "coder" "B" (.int (0 : Int32))) (A_hb : ArrIs Z Z.heap hb .byte [.int (104 : Int32)]) (S_CS : Sta Z Z.heap "java/lang/String" "COMPACT_STRINGS" "Z" (.int cs)) (hcs : ¬ cs = 0) :
    Met l Z (⟨"com/example/paschalion/paschalion/cli/Option", "lettered", "(Ljava/lang/String;)Lcom/example/paschalion/paschalion/cli/Option;"⟩ : MethodName) prog_10_method_5_code 5 (some (.object "com/example/paschalion/paschalion/cli/Option")) { frames := 2, cells := 1, slots := 2, locals := 28 } #[(.ref s)] ((s, oStr (.ref b) (.int (0 : Int32))) :: (b, .inr (.byte, [(.int w)], true)) :: F) (fun v M' => ∃ d, v = some (.ref s_HELP) ∧ M' = ((b, .inr (.byte, [(.int w)], true)) :: (s, oStr (.ref b) (.int (0 : Int32))) :: (d, .inr (.object "com/example/paschalion/paschalion/cli/Option", [(.ref s_HELP), (.ref s_RECK)], false)) :: F)) := by
  refine Met.of_go pn_7 (Ls := #[.val (.ref s), .unset, .unset, .unset, .unset]) (fun m => by first | rfl | (simp [entryFrame, mkF, argsToLocals, Value.category, maxLocals]; done)) ?_
  intro E C
  refine Go.callS C (y := (⟨"com/example/paschalion/paschalion/cli/Option", "values", "()[Lcom/example/paschalion/paschalion/cli/Option;"⟩ : MethodName)) (as := []) (rest := []) (wd hw 30 rfl) (wd hw 31 rfl) (wd hw 28 rfl) (wd hw 32 rfl) (m_values l Z a0 hw _ va s_HELP s_RECK S_va E_va A_va) rfl dc_prog_10_method_5_0 (q := 3) rfl (by decide) rfl (na := 0) (by decide +kernel) rfl (by decide) (W := 0) rfl (by decide) (by decide) (by decide) (k' := 1) (n' := 2) rfl rfl ?_
  rintro _ _ ⟨va5, rfl, rfl⟩
  show Go _ _ _ _ _ _ _ _ _ _ [(.ref va5)]
  refine Go.astoreN C dc_prog_10_method_5_3 (q := 4) rfl rfl (Ls' := #[.val (.ref s), .val (.ref va5), .unset, .unset, .unset]) rfl ?_
  refine Go.aloadN C dc_prog_10_method_5_4 (q := 5) rfl rfl rfl ?_
  refine Go.arraylength C (fun _ r => r.arr 0 rfl) (z := (2 : Int32)) rfl dc_prog_10_method_5_5 (q := 6) rfl ?_
  refine Go.istoreN C dc_prog_10_method_5_6 (q := 7) rfl (Ls' := #[.val (.ref s), .val (.ref va5), .val (.int (2 : Int32)), .unset, .unset]) rfl ?_
  refine Go.iconst C dc_prog_10_method_5_7 (q := 8) rfl (v := (0 : Int32)) rfl ?_
  refine Go.istoreN C dc_prog_10_method_5_8 (q := 9) rfl (Ls' := #[.val (.ref s), .val (.ref va5), .val (.int (2 : Int32)), .val (.int (0 : Int32)), .unset]) rfl ?_
  refine Go.iloadN C dc_prog_10_method_5_9 (q := 10) rfl rfl ?_
  refine Go.iloadN C dc_prog_10_method_5_10 (q := 11) rfl rfl ?_
  refine Go.icmpNo C dc_prog_10_method_5_11 (q := 14) rfl (XT.ii_ge_f (by decide)) ?_
  refine Go.aloadN C dc_prog_10_method_5_14 (q := 15) rfl rfl rfl ?_
  refine Go.iloadN C dc_prog_10_method_5_15 (q := 16) rfl rfl ?_
  refine Go.aaload C (fun _ r => r.arr 0 rfl) rfl (by decide) (v := (.ref s_HELP)) rfl dc_prog_10_method_5_16 (q := 17) rfl ?_
  refine Go.astore C dc_prog_10_method_5_17 (q := 19) rfl rfl (Ls' := #[.val (.ref s), .val (.ref va5), .val (.int (2 : Int32)), .val (.int (0 : Int32)), .val (.ref s_HELP)]) rfl ?_
  refine Go.aload C dc_prog_10_method_5_19 (q := 21) rfl rfl rfl ?_
  refine Go.getF C (host := "") (Or.inl (wd hw 47 rfl)) Via.refl (fun _ r => (F_let).ext r.1) dc_prog_10_method_5_21 (q := 24) rfl ?_
  refine Go.aloadN C dc_prog_10_method_5_24 (q := 25) rfl rfl rfl ?_
  refine Go.pick (M' := ((s, oStr (.ref b) (.int (0 : Int32))) :: (b, .inr (.byte, [(.int w)], true)) :: (va5, .inr (.object "com/example/paschalion/paschalion/cli/Option", [(.ref s_HELP), (.ref s_RECK)], false)) :: F)) 3 [1, 2, 0] (by decide) (by decide) rfl ?_
  refine Go.callV C (y := (⟨"java/lang/String", "equals", "(Ljava/lang/Object;)Z"⟩ : MethodName)) (z := (⟨"java/lang/String", "equals", "(Ljava/lang/Object;)Z"⟩ : MethodName)) (a := hl) (as := [(.ref s)]) (rest := []) (wd hw 49 rfl) (wd hw 50 rfl) (nf_sel (z := (⟨"java/lang/String", "equals", "(Ljava/lang/Object;)Z"⟩ : MethodName)) (wd hw 52 rfl)) (wd hw 52 rfl) (wd hw 51 rfl) (wd hw 53 rfl) (wd hw 2 rfl) (fun _ r => (E_hl).ext r.1) (m_eq_on l Z a0 hw _ hl hb s b 104 w cs E_hl F_hl F_hc A_hb S_CS hcs) rfl dc_prog_10_method_5_25 (q := 28) rfl (by decide) rfl (na := 1) (by decide +kernel) rfl (by decide) (W := 0) rfl (by decide) (by decide) (by decide) (k' := 1) (n' := 2) rfl rfl ?_
  rintro _ _ ⟨rfl, rfl⟩
  show Go _ _ _ _ _ _ _ _ _ _ [(.int (if (104 : Int32) = w then (1 : Int32) else 0))]
  refine Go.ifNo C dc_prog_10_method_5_28 (q := 31) rfl (XT.i0_eq_f (by rw [hw1]; decide)) ?_
  refine Go.aload C dc_prog_10_method_5_31 (q := 33) rfl rfl rfl ?_
  refine Go.retA C rfl rfl rfl dc_prog_10_method_5_33 (by decide) (by decide) ?_
  exact ⟨_, rfl, rfl⟩
theorem dc_prog_10_method_7_0 : decode prog_10_method_7_code 0 = .ok (.aload_n 0, 1) := by decide +kernel
theorem dc_prog_10_method_7_1 : decode prog_10_method_7_code 1 = .ok (.getfield 29, 3) := by decide +kernel
theorem dc_prog_10_method_7_4 : decode prog_10_method_7_code 4 = .ok (.areturn, 1) := by decide +kernel
theorem pn_8 : plainFor (⟨"com/example/paschalion/paschalion/cli/Option", "letter", "()Ljava/lang/String;"⟩ : MethodName) = true := by first | (apply plainFor_of_name; simp [plainName, overriddenIn]; done) | decide +kernel
set_option maxRecDepth 65536 in
set_option maxHeartbeats 40000000 in
theorem m_letter_HELP (l : Launch) (Z : State) (a0 : Array Value) (hw : ∀ d ∈ own_tabs, d.before a0 Z = true) (F : List Ent) (s_HELP hl : Addr) (F_let : Fld Z Z.heap s_HELP "com/example/paschalion/paschalion/cli/Option" "letter" "Ljava/lang/String;" (.ref hl)) :
    Met l Z (⟨"com/example/paschalion/paschalion/cli/Option", "letter", "()Ljava/lang/String;"⟩ : MethodName) prog_10_method_7_code 1 (some (.object "java/lang/String")) { frames := 0, cells := 0, slots := 0, locals := 0 } #[(.ref s_HELP)] (F) (fun v M' => v = some (.ref hl) ∧ M' = F) := by
  refine Met.of_go pn_8 (Ls := #[.val (.ref s_HELP)]) (fun m => by first | rfl | (simp [entryFrame, mkF, argsToLocals, Value.category, maxLocals]; done)) ?_
  intro E C
  refine Go.aloadN C dc_prog_10_method_7_0 (q := 1) rfl rfl rfl ?_
  refine Go.getF C (host := "") (Or.inl (wd hw 47 rfl)) Via.refl (fun _ r => (F_let).ext r.1) dc_prog_10_method_7_1 (q := 4) rfl ?_
  refine Go.retA C rfl rfl rfl dc_prog_10_method_7_4 (by decide) (by decide) ?_
  exact ⟨rfl, rfl⟩
set_option maxRecDepth 65536 in
set_option maxHeartbeats 40000000 in
theorem m_letter_RECK (l : Launch) (Z : State) (a0 : Array Value) (hw : ∀ d ∈ own_tabs, d.before a0 Z = true) (F : List Ent) (s_RECK rl : Addr) (F_let : Fld Z Z.heap s_RECK "com/example/paschalion/paschalion/cli/Option" "letter" "Ljava/lang/String;" (.ref rl)) :
    Met l Z (⟨"com/example/paschalion/paschalion/cli/Option", "letter", "()Ljava/lang/String;"⟩ : MethodName) prog_10_method_7_code 1 (some (.object "java/lang/String")) { frames := 0, cells := 0, slots := 0, locals := 0 } #[(.ref s_RECK)] (F) (fun v M' => v = some (.ref rl) ∧ M' = F) := by
  refine Met.of_go pn_8 (Ls := #[.val (.ref s_RECK)]) (fun m => by first | rfl | (simp [entryFrame, mkF, argsToLocals, Value.category, maxLocals]; done)) ?_
  intro E C
  refine Go.aloadN C dc_prog_10_method_7_0 (q := 1) rfl rfl rfl ?_
  refine Go.getF C (host := "") (Or.inl (wd hw 47 rfl)) Via.refl (fun _ r => (F_let).ext r.1) dc_prog_10_method_7_1 (q := 4) rfl ?_
  refine Go.retA C rfl rfl rfl dc_prog_10_method_7_4 (by decide) (by decide) ?_
  exact ⟨rfl, rfl⟩
theorem dc_jdk_42_method_152_0 : decode jdk_42_method_152_code 0 = .ok (.getstatic 38, 3) := by decide +kernel
theorem dc_jdk_42_method_152_3 : decode jdk_42_method_152_code 3 = .ok (.ifCond .eq 10, 3) := by decide +kernel
theorem dc_jdk_42_method_152_6 : decode jdk_42_method_152_code 6 = .ok (.aload_n 0, 1) := by decide +kernel
theorem dc_jdk_42_method_152_7 : decode jdk_42_method_152_code 7 = .ok (.getfield 15, 3) := by decide +kernel
theorem dc_jdk_42_method_152_10 : decode jdk_42_method_152_code 10 = .ok (.goto 4, 3) := by decide +kernel
theorem dc_jdk_42_method_152_14 : decode jdk_42_method_152_code 14 = .ok (.ireturn, 1) := by decide +kernel
theorem pn_9 : plainFor (⟨"java/lang/String", "coder", "()B"⟩ : MethodName) = true := by first | (apply plainFor_of_name; simp [plainName, overriddenIn]; done) | decide +kernel
set_option maxRecDepth 65536 in
set_option maxHeartbeats 40000000 in
theorem m_coder (l : Launch) (Z : State) (a0 : Array Value) (hw : ∀ d ∈ own_tabs, d.before a0 Z = true) (F : List Ent) (a : Addr) (cs : Int32) (F_c : Fld Z Z.heap a "java/lang/String" "coder" "B" (.int (0 : Int32))) (S_CS : Sta Z Z.heap "java/lang/String" "COMPACT_STRINGS" "Z" (.int cs)) (hcs : ¬ cs = 0) :
    Met l Z (⟨"java/lang/String", "coder", "()B"⟩ : MethodName) jdk_42_method_152_code 1 (some .byte) { frames := 0, cells := 0, slots := 0, locals := 0 } #[(.ref a)] (F) (fun v M' => v = some (.int 0) ∧ M' = F) := by
  refine Met.of_go pn_9 (Ls := #[.val (.ref a)]) (fun m => by first | rfl | (simp [entryFrame, mkF, argsToLocals, Value.category, maxLocals]; done)) ?_
  intro E C
  refine Go.getS C (host := "") (Or.inl (wd hw 4 rfl)) Via.refl S_CS dc_jdk_42_method_152_0 (q := 3) rfl ?_
  refine Go.ifNo C dc_jdk_42_method_152_3 (q := 6) rfl (XT.i0_eq_f hcs) ?_
  refine Go.aloadN C dc_jdk_42_method_152_6 (q := 7) rfl rfl rfl ?_
  refine Go.getF C (host := "") (Or.inl (wd hw 24 rfl)) Via.refl (fun _ r => (F_c).ext r.1) dc_jdk_42_method_152_7 (q := 10) rfl ?_
  refine Go.goto C dc_jdk_42_method_152_10 (by decide) (q := 14) rfl ?_
  refine Go.retW C rfl rfl (Or.inl ⟨rfl, by simp, _, rfl⟩) dc_jdk_42_method_152_14 (by decide) (by decide) ?_
  exact ⟨rfl, rfl⟩
theorem dc_jdk_42_method_154_0 : decode jdk_42_method_154_code 0 = .ok (.getstatic 38, 3) := by decide +kernel
theorem dc_jdk_42_method_154_3 : decode jdk_42_method_154_code 3 = .ok (.ifCond .eq 14, 3) := by decide +kernel
theorem dc_jdk_42_method_154_6 : decode jdk_42_method_154_code 6 = .ok (.aload_n 0, 1) := by decide +kernel
theorem dc_jdk_42_method_154_7 : decode jdk_42_method_154_code 7 = .ok (.getfield 15, 3) := by decide +kernel
theorem dc_jdk_42_method_154_10 : decode jdk_42_method_154_code 10 = .ok (.ifCond .ne 7, 3) := by decide +kernel
theorem dc_jdk_42_method_154_13 : decode jdk_42_method_154_code 13 = .ok (.iconst 1, 1) := by decide +kernel
theorem dc_jdk_42_method_154_14 : decode jdk_42_method_154_code 14 = .ok (.goto 4, 3) := by decide +kernel
theorem dc_jdk_42_method_154_18 : decode jdk_42_method_154_code 18 = .ok (.ireturn, 1) := by decide +kernel
theorem pn_10 : plainFor (⟨"java/lang/String", "isLatin1", "()Z"⟩ : MethodName) = true := by first | (apply plainFor_of_name; simp [plainName, overriddenIn]; done) | decide +kernel
set_option maxRecDepth 65536 in
set_option maxHeartbeats 40000000 in
theorem m_isL1 (l : Launch) (Z : State) (a0 : Array Value) (hw : ∀ d ∈ own_tabs, d.before a0 Z = true) (F : List Ent) (a : Addr) (cs : Int32) (F_c : Fld Z Z.heap a "java/lang/String" "coder" "B" (.int (0 : Int32))) (S_CS : Sta Z Z.heap "java/lang/String" "COMPACT_STRINGS" "Z" (.int cs)) (hcs : ¬ cs = 0) :
    Met l Z (⟨"java/lang/String", "isLatin1", "()Z"⟩ : MethodName) jdk_42_method_154_code 1 (some .boolean) { frames := 0, cells := 0, slots := 0, locals := 0 } #[(.ref a)] (F) (fun v M' => v = some (.int 1) ∧ M' = F) := by
  refine Met.of_go pn_10 (Ls := #[.val (.ref a)]) (fun m => by first | rfl | (simp [entryFrame, mkF, argsToLocals, Value.category, maxLocals]; done)) ?_
  intro E C
  refine Go.getS C (host := "") (Or.inl (wd hw 4 rfl)) Via.refl S_CS dc_jdk_42_method_154_0 (q := 3) rfl ?_
  refine Go.ifNo C dc_jdk_42_method_154_3 (q := 6) rfl (XT.i0_eq_f hcs) ?_
  refine Go.aloadN C dc_jdk_42_method_154_6 (q := 7) rfl rfl rfl ?_
  refine Go.getF C (host := "") (Or.inl (wd hw 24 rfl)) Via.refl (fun _ r => (F_c).ext r.1) dc_jdk_42_method_154_7 (q := 10) rfl ?_
  refine Go.ifNo C dc_jdk_42_method_154_10 (q := 13) rfl (XT.i0_ne_f (by decide)) ?_
  refine Go.iconst C dc_jdk_42_method_154_13 (q := 14) rfl (v := (1 : Int32)) rfl ?_
  refine Go.goto C dc_jdk_42_method_154_14 (by decide) (q := 18) rfl ?_
  refine Go.retZ C rfl (by decide) dc_jdk_42_method_154_18 (by decide) (by decide) ?_
  exact ⟨rfl, rfl⟩
theorem dc_jdk_42_method_54_0 : decode jdk_42_method_54_code 0 = .ok (.aload_n 0, 1) := by decide +kernel
theorem dc_jdk_42_method_54_1 : decode jdk_42_method_54_code 1 = .ok (.getfield 9, 3) := by decide +kernel
theorem dc_jdk_42_method_54_4 : decode jdk_42_method_54_code 4 = .ok (.arraylength, 1) := by decide +kernel
theorem dc_jdk_42_method_54_5 : decode jdk_42_method_54_code 5 = .ok (.aload_n 0, 1) := by decide +kernel
theorem dc_jdk_42_method_54_6 : decode jdk_42_method_54_code 6 = .ok (.invokevirtual 335, 3) := by decide +kernel
theorem dc_jdk_42_method_54_9 : decode jdk_42_method_54_code 9 = .ok (.ishr, 1) := by decide +kernel
theorem dc_jdk_42_method_54_10 : decode jdk_42_method_54_code 10 = .ok (.ireturn, 1) := by decide +kernel
theorem pn_11 : plainFor (⟨"java/lang/String", "length", "()I"⟩ : MethodName) = true := by first | (apply plainFor_of_name; simp [plainName, overriddenIn]; done) | decide +kernel
set_option maxRecDepth 65536 in
set_option maxHeartbeats 40000000 in
theorem m_len1 (l : Launch) (Z : State) (a0 : Array Value) (hw : ∀ d ∈ own_tabs, d.before a0 Z = true) (F : List Ent) (a p : Addr) (cs : Int32) (E_a : Exa Z Z.heap a "java/lang/String") (F_v : Fld Z Z.heap a "java/lang/String" "value" "[B" (.ref p)) (A_p : ArrIs Z Z.heap p .byte [(.int (104 : Int32))]) (F_c : Fld Z Z.heap a "java/lang/String" "coder" "B" (.int (0 : Int32))) (S_CS : Sta Z Z.heap "java/lang/String" "COMPACT_STRINGS" "Z" (.int cs)) (hcs : ¬ cs = 0) :
    Met l Z (⟨"java/lang/String", "length", "()I"⟩ : MethodName) jdk_42_method_54_code 1 (some .int) { frames := 1, cells := 0, slots := 0, locals := 13 } #[(.ref a)] (F) (fun v M' => v = some (.int 1) ∧ M' = F) := by
  refine Met.of_go pn_11 (Ls := #[.val (.ref a)]) (fun m => by first | rfl | (simp [entryFrame, mkF, argsToLocals, Value.category, maxLocals]; done)) ?_
  intro E C
  refine Go.aloadN C dc_jdk_42_method_54_0 (q := 1) rfl rfl rfl ?_
  refine Go.getF C (host := "") (Or.inl (wd hw 22 rfl)) Via.refl (fun _ r => (F_v).ext r.1) dc_jdk_42_method_54_1 (q := 4) rfl ?_
  refine Go.arraylength C (fun _ r => (A_p).ext r.1) (z := (1 : Int32)) rfl dc_jdk_42_method_54_4 (q := 5) rfl ?_
  refine Go.aloadN C dc_jdk_42_method_54_5 (q := 6) rfl rfl rfl ?_
  refine Go.callV C (y := (⟨"java/lang/String", "coder", "()B"⟩ : MethodName)) (z := (⟨"java/lang/String", "coder", "()B"⟩ : MethodName)) (a := a) (as := []) (rest := [(.int (1 : Int32))]) (wd hw 68 rfl) (wd hw 69 rfl) (nf_sel (z := (⟨"java/lang/String", "coder", "()B"⟩ : MethodName)) (wd hw 71 rfl)) (wd hw 71 rfl) (wd hw 70 rfl) (wd hw 72 rfl) (wd hw 2 rfl) (fun _ r => (E_a).ext r.1) (m_coder l Z a0 hw _ a cs F_c S_CS hcs) rfl dc_jdk_42_method_54_6 (q := 9) rfl (by decide) rfl (na := 0) (by decide +kernel) rfl (by decide) (W := 1) rfl (by decide) (by decide) (by decide) (k' := 0) (n' := 0) rfl rfl ?_
  rintro _ _ ⟨rfl, hMq⟩
  rw [hMq]
  show Go _ _ _ _ _ _ _ _ _ _ [(.int (0 : Int32)), (.int (1 : Int32))]
  refine Go.ishr C dc_jdk_42_method_54_9 (q := 10) rfl ?_
  refine Go.castI (w := (1 : Int32)) (by decide) ?_
  refine Go.retI C rfl dc_jdk_42_method_54_10 (by decide) (by decide) ?_
  exact ⟨rfl, rfl⟩
set_option maxRecDepth 65536 in
set_option maxHeartbeats 40000000 in
theorem m_len0 (l : Launch) (Z : State) (a0 : Array Value) (hw : ∀ d ∈ own_tabs, d.before a0 Z = true) (F : List Ent) (a p : Addr) (cs : Int32) (E_a : Exa Z Z.heap a "java/lang/String") (F_v : Fld Z Z.heap a "java/lang/String" "value" "[B" (.ref p)) (A_p : ArrIs Z Z.heap p .byte []) (F_c : Fld Z Z.heap a "java/lang/String" "coder" "B" (.int (0 : Int32))) (S_CS : Sta Z Z.heap "java/lang/String" "COMPACT_STRINGS" "Z" (.int cs)) (hcs : ¬ cs = 0) :
    Met l Z (⟨"java/lang/String", "length", "()I"⟩ : MethodName) jdk_42_method_54_code 1 (some .int) { frames := 1, cells := 0, slots := 0, locals := 13 } #[(.ref a)] (F) (fun v M' => v = some (.int 0) ∧ M' = F) := by
  refine Met.of_go pn_11 (Ls := #[.val (.ref a)]) (fun m => by first | rfl | (simp [entryFrame, mkF, argsToLocals, Value.category, maxLocals]; done)) ?_
  intro E C
  refine Go.aloadN C dc_jdk_42_method_54_0 (q := 1) rfl rfl rfl ?_
  refine Go.getF C (host := "") (Or.inl (wd hw 22 rfl)) Via.refl (fun _ r => (F_v).ext r.1) dc_jdk_42_method_54_1 (q := 4) rfl ?_
  refine Go.arraylength C (fun _ r => (A_p).ext r.1) (z := (0 : Int32)) rfl dc_jdk_42_method_54_4 (q := 5) rfl ?_
  refine Go.aloadN C dc_jdk_42_method_54_5 (q := 6) rfl rfl rfl ?_
  refine Go.callV C (y := (⟨"java/lang/String", "coder", "()B"⟩ : MethodName)) (z := (⟨"java/lang/String", "coder", "()B"⟩ : MethodName)) (a := a) (as := []) (rest := [(.int (0 : Int32))]) (wd hw 68 rfl) (wd hw 69 rfl) (nf_sel (z := (⟨"java/lang/String", "coder", "()B"⟩ : MethodName)) (wd hw 71 rfl)) (wd hw 71 rfl) (wd hw 70 rfl) (wd hw 72 rfl) (wd hw 2 rfl) (fun _ r => (E_a).ext r.1) (m_coder l Z a0 hw _ a cs F_c S_CS hcs) rfl dc_jdk_42_method_54_6 (q := 9) rfl (by decide) rfl (na := 0) (by decide +kernel) rfl (by decide) (W := 1) rfl (by decide) (by decide) (by decide) (k' := 0) (n' := 0) rfl rfl ?_
  rintro _ _ ⟨rfl, hMq⟩
  rw [hMq]
  show Go _ _ _ _ _ _ _ _ _ _ [(.int (0 : Int32)), (.int (0 : Int32))]
  refine Go.ishr C dc_jdk_42_method_54_9 (q := 10) rfl ?_
  refine Go.castI (w := (0 : Int32)) (by decide) ?_
  refine Go.retI C rfl dc_jdk_42_method_54_10 (by decide) (by decide) ?_
  exact ⟨rfl, rfl⟩
theorem dc_jdk_41_method_11_0 : decode jdk_41_method_11_code 0 = .ok (.iload_n 0, 1) := by decide +kernel
theorem dc_jdk_41_method_11_1 : decode jdk_41_method_11_code 1 = .ok (.ifCond .lt 8, 3) := by decide +kernel
theorem dc_jdk_41_method_11_4 : decode jdk_41_method_11_code 4 = .ok (.iload_n 0, 1) := by decide +kernel
theorem dc_jdk_41_method_11_5 : decode jdk_41_method_11_code 5 = .ok (.iload_n 1, 1) := by decide +kernel
theorem dc_jdk_41_method_11_6 : decode jdk_41_method_11_code 6 = .ok (.if_icmp .lt 10, 3) := by decide +kernel
theorem dc_jdk_41_method_11_16 : decode jdk_41_method_11_code 16 = .ok (.iload_n 0, 1) := by decide +kernel
theorem dc_jdk_41_method_11_17 : decode jdk_41_method_11_code 17 = .ok (.ireturn, 1) := by decide +kernel
theorem pn_12 : plainFor (⟨"jdk/internal/util/Preconditions", "checkIndex", "(IILjava/util/function/BiFunction;)I"⟩ : MethodName) = true := by first | (apply plainFor_of_name; simp [plainName, overriddenIn]; done) | decide +kernel
set_option maxRecDepth 65536 in
set_option maxHeartbeats 40000000 in
theorem m_pre (l : Launch) (Z : State) (a0 : Array Value) (hw : ∀ d ∈ own_tabs, d.before a0 Z = true) (F : List Ent) (fm : Value) (hr : fm.isRef = true) :
    Met l Z (⟨"jdk/internal/util/Preconditions", "checkIndex", "(IILjava/util/function/BiFunction;)I"⟩ : MethodName) jdk_41_method_11_code 3 (some .int) { frames := 0, cells := 0, slots := 0, locals := 0 } #[(.int (0 : Int32)), (.int (1 : Int32)), fm] (F) (fun v M' => v = some (.int 0) ∧ M' = F) := by
  refine Met.of_go pn_12 (Ls := #[.val (.int (0 : Int32)), .val (.int (1 : Int32)), .val fm]) (fun m => by rcases ref_cases hr with rfl | ⟨_, rfl⟩ <;> rfl) ?_
  intro E C
  refine Go.iloadN C dc_jdk_41_method_11_0 (q := 1) rfl rfl ?_
  refine Go.ifNo C dc_jdk_41_method_11_1 (q := 4) rfl (XT.i0_lt_f (by decide)) ?_
  refine Go.iloadN C dc_jdk_41_method_11_4 (q := 5) rfl rfl ?_
  refine Go.iloadN C dc_jdk_41_method_11_5 (q := 6) rfl rfl ?_
  refine Go.icmpYes C dc_jdk_41_method_11_6 (by decide) (q := 16) rfl (XT.ii_lt_t (by decide)) ?_
  refine Go.iloadN C dc_jdk_41_method_11_16 (q := 17) rfl rfl ?_
  refine Go.retI C rfl dc_jdk_41_method_11_17 (by decide) (by decide) ?_
  exact ⟨rfl, rfl⟩
theorem dc_jdk_42_method_155_0 : decode jdk_42_method_155_code 0 = .ok (.iload_n 0, 1) := by decide +kernel
theorem dc_jdk_42_method_155_1 : decode jdk_42_method_155_code 1 = .ok (.iload_n 1, 1) := by decide +kernel
theorem dc_jdk_42_method_155_2 : decode jdk_42_method_155_code 2 = .ok (.getstatic 1053, 3) := by decide +kernel
theorem dc_jdk_42_method_155_5 : decode jdk_42_method_155_code 5 = .ok (.invokestatic 1059, 3) := by decide +kernel
theorem dc_jdk_42_method_155_8 : decode jdk_42_method_155_code 8 = .ok (.pop, 1) := by decide +kernel
theorem dc_jdk_42_method_155_9 : decode jdk_42_method_155_code 9 = .ok (.return_, 1) := by decide +kernel
theorem pn_13 : plainFor (⟨"java/lang/String", "checkIndex", "(II)V"⟩ : MethodName) = true := by first | (apply plainFor_of_name; simp [plainName, overriddenIn]; done) | decide +kernel
set_option maxRecDepth 65536 in
set_option maxHeartbeats 40000000 in
theorem m_chk (l : Launch) (Z : State) (a0 : Array Value) (hw : ∀ d ∈ own_tabs, d.before a0 Z = true) (F : List Ent) (fm : Value) (S_fm : Sta Z Z.heap "jdk/internal/util/Preconditions" "SIOOBE_FORMATTER" "Ljava/util/function/BiFunction;" fm) (hfm : fm.isRef = true) :
    Met l Z (⟨"java/lang/String", "checkIndex", "(II)V"⟩ : MethodName) jdk_42_method_155_code 2 none { frames := 1, cells := 0, slots := 0, locals := 14 } #[(.int (0 : Int32)), (.int (1 : Int32))] (F) (fun v M' => v = none ∧ M' = F) := by
  refine Met.of_go pn_13 (Ls := #[.val (.int (0 : Int32)), .val (.int (1 : Int32))]) (fun m => by first | rfl | (simp [entryFrame, mkF, argsToLocals, Value.category, maxLocals]; done)) ?_
  intro E C
  refine Go.iloadN C dc_jdk_42_method_155_0 (q := 1) rfl rfl ?_
  refine Go.iloadN C dc_jdk_42_method_155_1 (q := 2) rfl rfl ?_
  refine Go.getS C (host := "") (Or.inl (wd hw 89 rfl)) Via.refl S_fm dc_jdk_42_method_155_2 (q := 5) rfl ?_
  refine Go.callS C (y := (⟨"jdk/internal/util/Preconditions", "checkIndex", "(IILjava/util/function/BiFunction;)I"⟩ : MethodName)) (as := [(.int (0 : Int32)), (.int (1 : Int32)), fm]) (rest := []) (wd hw 91 rfl) (wd hw 92 rfl) (wd hw 90 rfl) (wd hw 93 rfl) (m_pre l Z a0 hw _ fm hfm) rfl dc_jdk_42_method_155_5 (q := 8) rfl (by decide) rfl (na := 3) (by decide +kernel) rfl (by decide) (W := 0) rfl (by decide) (by decide) (by decide) (k' := 0) (n' := 0) rfl rfl ?_
  rintro _ _ ⟨rfl, hMq⟩
  rw [hMq]
  show Go _ _ _ _ _ _ _ _ _ _ [(.int (0 : Int32))]
  refine Go.pop C dc_jdk_42_method_155_8 (q := 9) rfl rfl ?_
  refine Go.ret0 C rfl dc_jdk_42_method_155_9 (by decide) (by decide) ?_
  exact ⟨rfl, rfl⟩
theorem dc_jdk_43_method_2_0 : decode jdk_43_method_2_code 0 = .ok (.iload_n 1, 1) := by decide +kernel
theorem dc_jdk_43_method_2_1 : decode jdk_43_method_2_code 1 = .ok (.aload_n 0, 1) := by decide +kernel
theorem dc_jdk_43_method_2_2 : decode jdk_43_method_2_code 2 = .ok (.arraylength, 1) := by decide +kernel
theorem dc_jdk_43_method_2_3 : decode jdk_43_method_2_code 3 = .ok (.invokestatic 9, 3) := by decide +kernel
theorem dc_jdk_43_method_2_6 : decode jdk_43_method_2_code 6 = .ok (.aload_n 0, 1) := by decide +kernel
theorem dc_jdk_43_method_2_7 : decode jdk_43_method_2_code 7 = .ok (.iload_n 1, 1) := by decide +kernel
theorem dc_jdk_43_method_2_8 : decode jdk_43_method_2_code 8 = .ok (.baload, 1) := by decide +kernel
theorem dc_jdk_43_method_2_9 : decode jdk_43_method_2_code 9 = .ok (.sipush 255, 3) := by decide +kernel
theorem dc_jdk_43_method_2_12 : decode jdk_43_method_2_code 12 = .ok (.iand, 1) := by decide +kernel
theorem dc_jdk_43_method_2_13 : decode jdk_43_method_2_code 13 = .ok (.i2c, 1) := by decide +kernel
theorem dc_jdk_43_method_2_14 : decode jdk_43_method_2_code 14 = .ok (.ireturn, 1) := by decide +kernel
theorem pn_14 : plainFor (⟨"java/lang/StringLatin1", "charAt", "([BI)C"⟩ : MethodName) = true := by first | (apply plainFor_of_name; simp [plainName, overriddenIn]; done) | decide +kernel
set_option maxRecDepth 65536 in
set_option maxHeartbeats 40000000 in
theorem m_lchar (l : Launch) (Z : State) (a0 : Array Value) (hw : ∀ d ∈ own_tabs, d.before a0 Z = true) (F : List Ent) (p : Addr) (fm : Value) (A_p : ArrIs Z Z.heap p .byte [.int (104 : Int32)]) (S_fm : Sta Z Z.heap "jdk/internal/util/Preconditions" "SIOOBE_FORMATTER" "Ljava/util/function/BiFunction;" fm) (hfm : fm.isRef = true) :
    Met l Z (⟨"java/lang/StringLatin1", "charAt", "([BI)C"⟩ : MethodName) jdk_43_method_2_code 2 (some .char) { frames := 2, cells := 0, slots := 0, locals := 27 } #[(.ref p), (.int (0 : Int32))] (F) (fun v M' => v = some (.int 104) ∧ M' = F) := by
  refine Met.of_go pn_14 (Ls := #[.val (.ref p), .val (.int (0 : Int32))]) (fun m => by first | rfl | (simp [entryFrame, mkF, argsToLocals, Value.category, maxLocals]; done)) ?_
  intro E C
  refine Go.iloadN C dc_jdk_43_method_2_0 (q := 1) rfl rfl ?_
  refine Go.aloadN C dc_jdk_43_method_2_1 (q := 2) rfl rfl rfl ?_
  refine Go.arraylength C (fun _ r => (A_p).ext r.1) (z := (1 : Int32)) rfl dc_jdk_43_method_2_2 (q := 3) rfl ?_
  refine Go.callS C (y := (⟨"java/lang/String", "checkIndex", "(II)V"⟩ : MethodName)) (as := [(.int (0 : Int32)), (.int (1 : Int32))]) (rest := []) (wd hw 86 rfl) (wd hw 87 rfl) (wd hw 2 rfl) (wd hw 88 rfl) (m_chk l Z a0 hw _ fm S_fm hfm) rfl dc_jdk_43_method_2_3 (q := 6) rfl (by decide) rfl (na := 2) (by decide +kernel) rfl (by decide) (W := 0) rfl (by decide) (by decide) (by decide) (k' := 0) (n' := 0) rfl rfl ?_
  rintro _ _ ⟨rfl, hMq⟩
  rw [hMq]
  show Go _ _ _ _ _ _ _ _ _ _ []
  refine Go.aloadN C dc_jdk_43_method_2_6 (q := 7) rfl rfl rfl ?_
  refine Go.iloadN C dc_jdk_43_method_2_7 (q := 8) rfl rfl ?_
  refine Go.baload C (fun _ r => (A_p).ext r.1) (by decide) (v := (.int (104 : Int32))) rfl dc_jdk_43_method_2_8 (q := 9) rfl ?_
  refine Go.sipush C dc_jdk_43_method_2_9 (q := 12) rfl (v := (255 : Int32)) (by decide) ?_
  refine Go.iand C dc_jdk_43_method_2_12 (q := 13) rfl ?_
  refine Go.castI (w := (104 : Int32)) (by decide) ?_
  refine Go.i2c C dc_jdk_43_method_2_13 (q := 14) rfl ?_
  refine Go.castI (w := (104 : Int32)) (by decide) ?_
  refine Go.retW C rfl rfl (Or.inl ⟨rfl, by simp, _, rfl⟩) dc_jdk_43_method_2_14 (by decide) (by decide) ?_
  exact ⟨rfl, rfl⟩
theorem dc_jdk_42_method_56_0 : decode jdk_42_method_56_code 0 = .ok (.aload_n 0, 1) := by decide +kernel
theorem dc_jdk_42_method_56_1 : decode jdk_42_method_56_code 1 = .ok (.invokevirtual 492, 3) := by decide +kernel
theorem dc_jdk_42_method_56_4 : decode jdk_42_method_56_code 4 = .ok (.ifCond .eq 12, 3) := by decide +kernel
theorem dc_jdk_42_method_56_7 : decode jdk_42_method_56_code 7 = .ok (.aload_n 0, 1) := by decide +kernel
theorem dc_jdk_42_method_56_8 : decode jdk_42_method_56_code 8 = .ok (.getfield 9, 3) := by decide +kernel
theorem dc_jdk_42_method_56_11 : decode jdk_42_method_56_code 11 = .ok (.iload_n 1, 1) := by decide +kernel
theorem dc_jdk_42_method_56_12 : decode jdk_42_method_56_code 12 = .ok (.invokestatic 495, 3) := by decide +kernel
theorem dc_jdk_42_method_56_15 : decode jdk_42_method_56_code 15 = .ok (.ireturn, 1) := by decide +kernel
theorem pn_15 : plainFor (⟨"java/lang/String", "charAt", "(I)C"⟩ : MethodName) = true := by first | (apply plainFor_of_name; simp [plainName, overriddenIn]; done) | decide +kernel
set_option maxRecDepth 65536 in
set_option maxHeartbeats 40000000 in
theorem m_charAt (l : Launch) (Z : State) (a0 : Array Value) (hw : ∀ d ∈ own_tabs, d.before a0 Z = true) (F : List Ent) (a p : Addr) (cs : Int32) (fm : Value) (E_a : Exa Z Z.heap a "java/lang/String") (F_v : Fld Z Z.heap a "java/lang/String" "value" "[B" (.ref p)) (A_p : ArrIs Z Z.heap p .byte [.int (104 : Int32)]) (F_c : Fld Z Z.heap a "java/lang/String" "coder" "B" (.int (0 : Int32))) (S_CS : Sta Z Z.heap "java/lang/String" "COMPACT_STRINGS" "Z" (.int cs)) (hcs : ¬ cs = 0) (S_fm : Sta Z Z.heap "jdk/internal/util/Preconditions" "SIOOBE_FORMATTER" "Ljava/util/function/BiFunction;" fm) (hfm : fm.isRef = true) :
    Met l Z (⟨"java/lang/String", "charAt", "(I)C"⟩ : MethodName) jdk_42_method_56_code 2 (some .char) { frames := 3, cells := 0, slots := 0, locals := 40 } #[(.ref a), (.int (0 : Int32))] (F) (fun v M' => v = some (.int 104) ∧ M' = F) := by
  refine Met.of_go pn_15 (Ls := #[.val (.ref a), .val (.int (0 : Int32))]) (fun m => by first | rfl | (simp [entryFrame, mkF, argsToLocals, Value.category, maxLocals]; done)) ?_
  intro E C
  refine Go.aloadN C dc_jdk_42_method_56_0 (q := 1) rfl rfl rfl ?_
  refine Go.callV C (y := (⟨"java/lang/String", "isLatin1", "()Z"⟩ : MethodName)) (z := (⟨"java/lang/String", "isLatin1", "()Z"⟩ : MethodName)) (a := a) (as := []) (rest := []) (wd hw 78 rfl) (wd hw 79 rfl) (nf_sel (z := (⟨"java/lang/String", "isLatin1", "()Z"⟩ : MethodName)) (wd hw 81 rfl)) (wd hw 81 rfl) (wd hw 80 rfl) (wd hw 82 rfl) (wd hw 2 rfl) (fun _ r => (E_a).ext r.1) (m_isL1 l Z a0 hw _ a cs F_c S_CS hcs) rfl dc_jdk_42_method_56_1 (q := 4) rfl (by decide) rfl (na := 0) (by decide +kernel) rfl (by decide) (W := 0) rfl (by decide) (by decide) (by decide) (k' := 0) (n' := 0) rfl rfl ?_
  rintro _ _ ⟨rfl, hMq⟩
  rw [hMq]
  show Go _ _ _ _ _ _ _ _ _ _ [(.int (1 : Int32))]
  refine Go.ifNo C dc_jdk_42_method_56_4 (q := 7) rfl (XT.i0_eq_f (by decide)) ?_
  refine Go.aloadN C dc_jdk_42_method_56_7 (q := 8) rfl rfl rfl ?_
  refine Go.getF C (host := "") (Or.inl (wd hw 22 rfl)) Via.refl (fun _ r => (F_v).ext r.1) dc_jdk_42_method_56_8 (q := 11) rfl ?_
  refine Go.iloadN C dc_jdk_42_method_56_11 (q := 12) rfl rfl ?_
  refine Go.callS C (y := (⟨"java/lang/StringLatin1", "charAt", "([BI)C"⟩ : MethodName)) (as := [(.ref p), (.int (0 : Int32))]) (rest := []) (wd hw 83 rfl) (wd hw 84 rfl) (wd hw 7 rfl) (wd hw 85 rfl) (m_lchar l Z a0 hw _ p fm A_p S_fm hfm) rfl dc_jdk_42_method_56_12 (q := 15) rfl (by decide) rfl (na := 2) (by decide +kernel) rfl (by decide) (W := 0) rfl (by decide) (by decide) (by decide) (k' := 0) (n' := 0) rfl rfl ?_
  rintro _ _ ⟨rfl, hMq⟩
  rw [hMq]
  show Go _ _ _ _ _ _ _ _ _ _ [(.int (104 : Int32))]
  refine Go.retW C rfl rfl (Or.inl ⟨rfl, by simp, _, rfl⟩) dc_jdk_42_method_56_15 (by decide) (by decide) ?_
  exact ⟨rfl, rfl⟩
theorem pn_16 : plainFor x = true := by first | (apply plainFor_of_name; simp [plainName, overriddenIn]; done) | decide +kernel
set_option maxRecDepth 65536 in
set_option maxHeartbeats 40000000 in
theorem m_law (l : Launch) (Z : State) (a0 : Array Value) (hw : ∀ d ∈ own_tabs, d.before a0 Z = true) (which c cs : Int32) (s_HELP s_RECK va hl hb rl rb : Addr) (fm : Value) (S_HELP : Sta Z Z.heap "com/example/paschalion/paschalion/cli/Option" "HELP" "Lcom/example/paschalion/paschalion/cli/Option;" (.ref s_HELP)) (S_RECKONING : Sta Z Z.heap "com/example/paschalion/paschalion/cli/Option" "RECKONING" "Lcom/example/paschalion/paschalion/cli/Option;" (.ref s_RECK)) (E_HELP : Exa Z Z.heap s_HELP "com/example/paschalion/paschalion/cli/Option") (E_RECK : Exa Z Z.heap s_RECK "com/example/paschalion/paschalion/cli/Option") (S_va : Sta Z Z.heap "com/example/paschalion/paschalion/cli/Option" "$VALUES" "[Lcom/example/paschalion/paschalion/cli/Option;" (.ref va)) (E_va : Exa Z Z.heap va "[Lcom/example/paschalion/paschalion/cli/Option;") (A_va : ArrIs Z Z.heap va (.object "com/example/paschalion/paschalion/cli/Option") [.ref s_HELP, .ref s_RECK]) (F_let : Fld Z Z.heap s_HELP "com/example/paschalion/paschalion/cli/Option" "letter" "Ljava/lang/String;" (.ref hl)) (E_hl : Exa Z Z.heap hl "java/lang/String") (F_hl : Fld Z Z.heap hl "java/lang/String" "value" "[B" (.ref hb)) (F_hc : Fld Z Z.heap hl "java/lang/String" "coder" "B" (.int (0 : Int32))) (A_hb : ArrIs Z Z.heap hb .byte [.int (104 : Int32)]) (S_CS : Sta Z Z.heap "java/lang/String" "COMPACT_STRINGS" "Z" (.int cs)) (hcs : ¬ cs = 0) (F_rlet : Fld Z Z.heap s_RECK "com/example/paschalion/paschalion/cli/Option" "letter" "Ljava/lang/String;" (.ref rl)) (E_rl : Exa Z Z.heap rl "java/lang/String") (F_rl : Fld Z Z.heap rl "java/lang/String" "value" "[B" (.ref rb)) (F_rc : Fld Z Z.heap rl "java/lang/String" "coder" "B" (.int (0 : Int32))) (A_rb : ArrIs Z Z.heap rb .byte []) (S_fm : Sta Z Z.heap "jdk/internal/util/Preconditions" "SIOOBE_FORMATTER" "Ljava/util/function/BiFunction;" fm) (hfm : fm.isRef = true) :
    Met l Z x code maxLocals ret room_1 #[(.int which), (.int c)] ([]) (fun v _ => v = some (.int 1)) := by
  refine Met.of_go pn_16 (Ls := #[.val (.int which), .val (.int c), .unset, .unset, .unset, .unset, .unset, .unset]) (fun m => by first | rfl | (simp [entryFrame, mkF, argsToLocals, Value.category, maxLocals]; done)) ?_
  intro E C
  refine Go.iconst C at_0 (q := 1) rfl (v := (1 : Int32)) rfl ?_
  refine Go.istoreN C at_1 (q := 2) rfl (Ls' := #[.val (.int which), .val (.int c), .val (.int (1 : Int32)), .unset, .unset, .unset, .unset, .unset]) rfl ?_
  refine Go.bipush C at_2 (q := 4) rfl (v := (104 : Int32)) (by decide) ?_
  refine Go.callS C (y := (⟨"java/lang/String", "valueOf", "(C)Ljava/lang/String;"⟩ : MethodName)) (as := [(.int (104 : Int32))]) (rest := []) (wd hw 0 rfl) (wd hw 1 rfl) (wd hw 2 rfl) (wd hw 3 rfl) (m_strOf l Z a0 hw _ (104 : Int32) cs ((by decide)) S_CS hcs) rfl at_4 (q := 7) rfl (by decide) rfl (na := 1) (by decide +kernel) rfl (by decide) (W := 0) rfl (by decide) (by decide) (by decide) (k' := 2) (n' := 5) rfl rfl ?_
  rintro _ _ ⟨sa6, sb7, rfl, rfl⟩
  show Go _ _ _ _ _ _ _ _ _ _ [(.ref sa6)]
  refine Go.astoreN C at_7 (q := 8) rfl rfl (Ls' := #[.val (.int which), .val (.int c), .val (.int (1 : Int32)), .val (.ref sa6), .unset, .unset, .unset, .unset]) rfl ?_
  refine Go.iloadN C at_8 (q := 9) rfl rfl ?_
  refine Go.ifNo C at_9 (q := 12) rfl (XT.i0_eq_f (by decide)) ?_
  refine Go.aloadN C at_12 (q := 13) rfl rfl rfl ?_
  refine Go.callS C (y := (⟨"com/example/paschalion/paschalion/cli/Option", "lettered", "(Ljava/lang/String;)Lcom/example/paschalion/paschalion/cli/Option;"⟩ : MethodName)) (as := [(.ref sa6)]) (rest := []) (wd hw 26 rfl) (wd hw 27 rfl) (wd hw 28 rfl) (wd hw 29 rfl) (m_lettered l Z a0 hw _ sa6 sb7 va s_HELP s_RECK hl hb (nar .byte (104 : Int32).toInt8.toInt32) cs (by decide) S_va E_va A_va F_let E_hl F_hl F_hc A_hb S_CS hcs) rfl at_13 (q := 16) rfl (by decide) rfl (na := 1) (by decide +kernel) rfl (by decide) (W := 0) rfl (by decide) (by decide) (by decide) (k' := 3) (n' := 7) rfl rfl ?_
  rintro _ _ ⟨vd8, rfl, rfl⟩
  show Go _ _ _ _ _ _ _ _ _ _ [(.ref s_HELP)]
  refine Go.getS C (host := "") (Or.inl (wd hw 57 rfl)) Via.refl S_HELP at_16 (q := 19) rfl ?_
  refine Go.acmpNo C at_19 (q := 22) rfl rfl rfl (XT.aa_ne_f rfl) ?_
  refine Go.iconst C at_22 (q := 23) rfl (v := (1 : Int32)) rfl ?_
  refine Go.goto C at_23 (by decide) (q := 27) rfl ?_
  refine Go.istoreN C at_27 (q := 28) rfl (Ls' := #[.val (.int which), .val (.int c), .val (.int (1 : Int32)), .val (.ref sa6), .unset, .unset, .unset, .unset]) rfl ?_
  refine Go.iloadN C at_28 (q := 29) rfl rfl ?_
  refine Go.iconst C at_29 (q := 30) rfl (v := (1 : Int32)) rfl ?_
  refine Go.iand C at_30 (q := 31) rfl ?_
  refine Go.ifc C at_31 (by decide) (q := 40) rfl (q' := 34) rfl (fun (h31_1 : ¬ (which &&& (1 : Int32)) = 0) => ?_) (fun (h31_1 : (which &&& (1 : Int32)) = 0) => ?_)
  · refine Go.getS C (host := "") (Or.inl (wd hw 95 rfl)) Via.refl S_RECKONING at_40 (q := 43) rfl ?_
    refine Go.astore C at_43 (q := 45) rfl rfl (Ls' := #[.val (.int which), .val (.int c), .val (.int (1 : Int32)), .val (.ref sa6), .val (.ref s_RECK), .unset, .unset, .unset]) rfl ?_
    refine Go.aload C at_45 (q := 47) rfl rfl rfl ?_
    refine Go.callV C (y := (⟨"com/example/paschalion/paschalion/cli/Option", "letter", "()Ljava/lang/String;"⟩ : MethodName)) (z := (⟨"com/example/paschalion/paschalion/cli/Option", "letter", "()Ljava/lang/String;"⟩ : MethodName)) (a := s_RECK) (as := []) (rest := []) (wd hw 58 rfl) (wd hw 59 rfl) (nf_sel (z := (⟨"com/example/paschalion/paschalion/cli/Option", "letter", "()Ljava/lang/String;"⟩ : MethodName)) (wd hw 61 rfl)) (wd hw 61 rfl) (wd hw 60 rfl) (wd hw 62 rfl) (wd hw 28 rfl) (fun _ r => (E_RECK).ext r.1) (m_letter_RECK l Z a0 hw _ s_RECK rl F_rlet) rfl at_47 (q := 50) rfl (by decide) rfl (na := 0) (by decide +kernel) rfl (by decide) (W := 0) rfl (by decide) (by decide) (by decide) (k' := 3) (n' := 7) rfl rfl ?_
    rintro _ _ ⟨rfl, rfl⟩
    show Go _ _ _ _ _ _ _ _ _ _ [(.ref rl)]
    refine Go.astore C at_50 (q := 52) rfl rfl (Ls' := #[.val (.int which), .val (.int c), .val (.int (1 : Int32)), .val (.ref sa6), .val (.ref s_RECK), .val (.ref rl), .unset, .unset]) rfl ?_
    refine Go.aload C at_52 (q := 54) rfl rfl rfl ?_
    refine Go.callV C (y := (⟨"java/lang/String", "length", "()I"⟩ : MethodName)) (z := (⟨"java/lang/String", "length", "()I"⟩ : MethodName)) (a := rl) (as := []) (rest := []) (wd hw 63 rfl) (wd hw 64 rfl) (nf_sel (z := (⟨"java/lang/String", "length", "()I"⟩ : MethodName)) (wd hw 66 rfl)) (wd hw 66 rfl) (wd hw 65 rfl) (wd hw 67 rfl) (wd hw 2 rfl) (fun _ r => (E_rl).ext r.1) (m_len0 l Z a0 hw _ rl rb cs E_rl F_rl A_rb F_rc S_CS hcs) rfl at_54 (q := 57) rfl (by decide) rfl (na := 0) (by decide +kernel) rfl (by decide) (W := 0) rfl (by decide) (by decide) (by decide) (k' := 3) (n' := 7) rfl rfl ?_
    rintro _ _ ⟨rfl, rfl⟩
    show Go _ _ _ _ _ _ _ _ _ _ [(.int (0 : Int32))]
    refine Go.iconst C at_57 (q := 58) rfl (v := (1 : Int32)) rfl ?_
    refine Go.icmpYes C at_58 (by decide) (q := 92) rfl (XT.ii_ne_t (by decide)) ?_
    refine Go.iloadN C at_92 (q := 93) rfl rfl ?_
    refine Go.sipush C at_93 (q := 96) rfl (v := (255 : Int32)) (by decide) ?_
    refine Go.iand C at_96 (q := 97) rfl ?_
    refine Go.i2c C at_97 (q := 98) rfl ?_
    refine Go.istore C at_98 (q := 100) rfl (Ls' := #[.val (.int which), .val (.int c), .val (.int (1 : Int32)), .val (.ref sa6), .val (.ref s_RECK), .val (.ref rl), .val (.int (c &&& (255 : Int32)).toUInt32.toUInt16.toUInt32.toInt32), .unset]) rfl ?_
    refine Go.iload C at_100 (q := 102) rfl rfl ?_
    refine Go.callS C (y := (⟨"java/lang/String", "valueOf", "(C)Ljava/lang/String;"⟩ : MethodName)) (as := [(.int (c &&& (255 : Int32)).toUInt32.toUInt16.toUInt32.toInt32)]) (rest := []) (wd hw 0 rfl) (wd hw 1 rfl) (wd hw 2 rfl) (wd hw 3 rfl) (m_strOf l Z a0 hw _ (c &&& (255 : Int32)).toUInt32.toUInt16.toUInt32.toInt32 cs (own_c255 _) S_CS hcs) rfl at_102 (q := 105) rfl (by decide) rfl (na := 1) (by decide +kernel) rfl (by decide) (W := 0) rfl (by decide) (by decide) (by decide) (k' := 5) (n' := 12) rfl rfl ?_
    rintro _ _ ⟨sa9, sb10, rfl, rfl⟩
    show Go _ _ _ _ _ _ _ _ _ _ [(.ref sa9)]
    refine Go.astore C at_105 (q := 107) rfl rfl (Ls' := #[.val (.int which), .val (.int c), .val (.int (1 : Int32)), .val (.ref sa6), .val (.ref s_RECK), .val (.ref rl), .val (.int (c &&& (255 : Int32)).toUInt32.toUInt16.toUInt32.toInt32), .val (.ref sa9)]) rfl ?_
    refine Go.aload C at_107 (q := 109) rfl rfl rfl ?_
    refine Go.getS C (host := "") (Or.inl (wd hw 57 rfl)) Via.refl S_HELP at_109 (q := 112) rfl ?_
    refine Go.callV C (y := (⟨"com/example/paschalion/paschalion/cli/Option", "letter", "()Ljava/lang/String;"⟩ : MethodName)) (z := (⟨"com/example/paschalion/paschalion/cli/Option", "letter", "()Ljava/lang/String;"⟩ : MethodName)) (a := s_HELP) (as := []) (rest := [(.ref sa9)]) (wd hw 58 rfl) (wd hw 59 rfl) (nf_sel (z := (⟨"com/example/paschalion/paschalion/cli/Option", "letter", "()Ljava/lang/String;"⟩ : MethodName)) (wd hw 61 rfl)) (wd hw 61 rfl) (wd hw 60 rfl) (wd hw 62 rfl) (wd hw 28 rfl) (fun _ r => (E_HELP).ext r.1) (m_letter_HELP l Z a0 hw _ s_HELP hl F_let) rfl at_112 (q := 115) rfl (by decide) rfl (na := 0) (by decide +kernel) rfl (by decide) (W := 1) rfl (by decide) (by decide) (by decide) (k' := 5) (n' := 12) rfl rfl ?_
    rintro _ _ ⟨rfl, rfl⟩
    show Go _ _ _ _ _ _ _ _ _ _ [(.ref hl), (.ref sa9)]
    refine Go.callV C (y := (⟨"java/lang/String", "equals", "(Ljava/lang/Object;)Z"⟩ : MethodName)) (z := (⟨"java/lang/String", "equals", "(Ljava/lang/Object;)Z"⟩ : MethodName)) (a := sa9) (as := [(.ref hl)]) (rest := []) (wd hw 94 rfl) (wd hw 50 rfl) (nf_sel (z := (⟨"java/lang/String", "equals", "(Ljava/lang/Object;)Z"⟩ : MethodName)) (wd hw 52 rfl)) (wd hw 52 rfl) (wd hw 51 rfl) (wd hw 53 rfl) (wd hw 2 rfl) (fun _ r => r.exa 0 rfl) (m_eq_no l Z a0 hw _ hl hb sa9 sb10 104 (nar .byte (c &&& (255 : Int32)).toUInt32.toUInt16.toUInt32.toInt32.toInt8.toInt32) cs E_hl F_hl F_hc A_hb S_CS hcs) rfl at_115 (q := 118) rfl (by decide) rfl (na := 1) (by decide +kernel) rfl (by decide) (W := 0) rfl (by decide) (by decide) (by decide) (k' := 5) (n' := 12) rfl rfl ?_
    rintro _ _ ⟨rfl, rfl⟩
    show Go _ _ _ _ _ _ _ _ _ _ [(.int (if (nar .byte (c &&& (255 : Int32)).toUInt32.toUInt16.toUInt32.toInt32.toInt8.toInt32) = (104 : Int32) then (1 : Int32) else 0))]
    by_cases hq : (nar .byte (c &&& (255 : Int32)).toUInt32.toUInt16.toUInt32.toInt32.toInt8.toInt32) = (104 : Int32)
    · refine Go.ifNo C at_118 (q := 121) rfl (XT.i0_eq_f (by rw [if_pos hq]; decide)) ?_
      refine Go.iloadN C at_121 (q := 122) rfl rfl ?_
      refine Go.ifNo C at_122 (q := 125) rfl (XT.i0_eq_f (by decide)) ?_
      refine Go.aload C at_125 (q := 127) rfl rfl rfl ?_
      refine Go.pick (M' := ((sa9, oStr (.ref sb10) (.int (0 : Int32))) :: (sb10, .inr (.byte, [(.int (nar .byte (c &&& (255 : Int32)).toUInt32.toUInt16.toUInt32.toInt32.toInt8.toInt32))], true)) :: (sb7, .inr (.byte, [(.int (nar .byte (104 : Int32).toInt8.toInt32))], true)) :: (sa6, oStr (.ref sb7) (.int (0 : Int32))) :: (vd8, .inr (.object "com/example/paschalion/paschalion/cli/Option", [(.ref s_HELP), (.ref s_RECK)], false)) :: [])) 5 [1, 0, 2, 3, 4] (by decide) (by decide) rfl ?_
      refine Go.callS C (y := (⟨"com/example/paschalion/paschalion/cli/Option", "lettered", "(Ljava/lang/String;)Lcom/example/paschalion/paschalion/cli/Option;"⟩ : MethodName)) (as := [(.ref sa9)]) (rest := []) (wd hw 26 rfl) (wd hw 27 rfl) (wd hw 28 rfl) (wd hw 29 rfl) (m_lettered l Z a0 hw _ sa9 sb10 va s_HELP s_RECK hl hb (nar .byte (c &&& (255 : Int32)).toUInt32.toUInt16.toUInt32.toInt32.toInt8.toInt32) cs hq S_va E_va A_va F_let E_hl F_hl F_hc A_hb S_CS hcs) rfl at_127 (q := 130) rfl (by decide) rfl (na := 1) (by decide +kernel) rfl (by decide) (W := 0) rfl (by decide) (by decide) (by decide) (k' := 6) (n' := 14) rfl rfl ?_
      rintro _ _ ⟨vd11, rfl, rfl⟩
      show Go _ _ _ _ _ _ _ _ _ _ [(.ref s_HELP)]
      refine Go.getS C (host := "") (Or.inl (wd hw 57 rfl)) Via.refl S_HELP at_130 (q := 133) rfl ?_
      refine Go.acmpNo C at_133 (q := 136) rfl rfl rfl (XT.aa_ne_f rfl) ?_
      refine Go.iconst C at_136 (q := 137) rfl (v := (1 : Int32)) rfl ?_
      refine Go.goto C at_137 (by decide) (q := 141) rfl ?_
      refine Go.istoreN C at_141 (q := 142) rfl (Ls' := #[.val (.int which), .val (.int c), .val (.int (1 : Int32)), .val (.ref sa6), .val (.ref s_RECK), .val (.ref rl), .val (.int (c &&& (255 : Int32)).toUInt32.toUInt16.toUInt32.toInt32), .val (.ref sa9)]) rfl ?_
      refine Go.iloadN C at_142 (q := 143) rfl rfl ?_
      refine Go.retZ C rfl (by decide) at_143 (by decide) (by decide) ?_
      exact rfl
    · refine Go.ifYes C at_118 (by decide) (q := 142) rfl (XT.i0_eq_t (by rw [if_neg hq])) ?_
      refine Go.iloadN C at_142 (q := 143) rfl rfl ?_
      refine Go.retZ C rfl (by decide) at_143 (by decide) (by decide) ?_
      exact rfl
  · refine Go.getS C (host := "") (Or.inl (wd hw 57 rfl)) Via.refl S_HELP at_34 (q := 37) rfl ?_
    refine Go.goto C at_37 (by decide) (q := 43) rfl ?_
    refine Go.astore C at_43 (q := 45) rfl rfl (Ls' := #[.val (.int which), .val (.int c), .val (.int (1 : Int32)), .val (.ref sa6), .val (.ref s_HELP), .unset, .unset, .unset]) rfl ?_
    refine Go.aload C at_45 (q := 47) rfl rfl rfl ?_
    refine Go.callV C (y := (⟨"com/example/paschalion/paschalion/cli/Option", "letter", "()Ljava/lang/String;"⟩ : MethodName)) (z := (⟨"com/example/paschalion/paschalion/cli/Option", "letter", "()Ljava/lang/String;"⟩ : MethodName)) (a := s_HELP) (as := []) (rest := []) (wd hw 58 rfl) (wd hw 59 rfl) (nf_sel (z := (⟨"com/example/paschalion/paschalion/cli/Option", "letter", "()Ljava/lang/String;"⟩ : MethodName)) (wd hw 61 rfl)) (wd hw 61 rfl) (wd hw 60 rfl) (wd hw 62 rfl) (wd hw 28 rfl) (fun _ r => (E_HELP).ext r.1) (m_letter_HELP l Z a0 hw _ s_HELP hl F_let) rfl at_47 (q := 50) rfl (by decide) rfl (na := 0) (by decide +kernel) rfl (by decide) (W := 0) rfl (by decide) (by decide) (by decide) (k' := 3) (n' := 7) rfl rfl ?_
    rintro _ _ ⟨rfl, rfl⟩
    show Go _ _ _ _ _ _ _ _ _ _ [(.ref hl)]
    refine Go.astore C at_50 (q := 52) rfl rfl (Ls' := #[.val (.int which), .val (.int c), .val (.int (1 : Int32)), .val (.ref sa6), .val (.ref s_HELP), .val (.ref hl), .unset, .unset]) rfl ?_
    refine Go.aload C at_52 (q := 54) rfl rfl rfl ?_
    refine Go.callV C (y := (⟨"java/lang/String", "length", "()I"⟩ : MethodName)) (z := (⟨"java/lang/String", "length", "()I"⟩ : MethodName)) (a := hl) (as := []) (rest := []) (wd hw 63 rfl) (wd hw 64 rfl) (nf_sel (z := (⟨"java/lang/String", "length", "()I"⟩ : MethodName)) (wd hw 66 rfl)) (wd hw 66 rfl) (wd hw 65 rfl) (wd hw 67 rfl) (wd hw 2 rfl) (fun _ r => (E_hl).ext r.1) (m_len1 l Z a0 hw _ hl hb cs E_hl F_hl A_hb F_hc S_CS hcs) rfl at_54 (q := 57) rfl (by decide) rfl (na := 0) (by decide +kernel) rfl (by decide) (W := 0) rfl (by decide) (by decide) (by decide) (k' := 3) (n' := 7) rfl rfl ?_
    rintro _ _ ⟨rfl, rfl⟩
    show Go _ _ _ _ _ _ _ _ _ _ [(.int (1 : Int32))]
    refine Go.iconst C at_57 (q := 58) rfl (v := (1 : Int32)) rfl ?_
    refine Go.icmpNo C at_58 (q := 61) rfl (XT.ii_ne_f (by decide)) ?_
    refine Go.aload C at_61 (q := 63) rfl rfl rfl ?_
    refine Go.iconst C at_63 (q := 64) rfl (v := (0 : Int32)) rfl ?_
    refine Go.callV C (y := (⟨"java/lang/String", "charAt", "(I)C"⟩ : MethodName)) (z := (⟨"java/lang/String", "charAt", "(I)C"⟩ : MethodName)) (a := hl) (as := [(.int (0 : Int32))]) (rest := []) (wd hw 73 rfl) (wd hw 74 rfl) (nf_sel (z := (⟨"java/lang/String", "charAt", "(I)C"⟩ : MethodName)) (wd hw 76 rfl)) (wd hw 76 rfl) (wd hw 75 rfl) (wd hw 77 rfl) (wd hw 2 rfl) (fun _ r => (E_hl).ext r.1) (m_charAt l Z a0 hw _ hl hb cs fm E_hl F_hl A_hb F_hc S_CS hcs S_fm hfm) rfl at_64 (q := 67) rfl (by decide) rfl (na := 1) (by decide +kernel) rfl (by decide) (W := 0) rfl (by decide) (by decide) (by decide) (k' := 3) (n' := 7) rfl rfl ?_
    rintro _ _ ⟨rfl, rfl⟩
    show Go _ _ _ _ _ _ _ _ _ _ [(.int (104 : Int32))]
    refine Go.callS C (y := (⟨"java/lang/String", "valueOf", "(C)Ljava/lang/String;"⟩ : MethodName)) (as := [(.int (104 : Int32))]) (rest := []) (wd hw 0 rfl) (wd hw 1 rfl) (wd hw 2 rfl) (wd hw 3 rfl) (m_strOf l Z a0 hw _ (104 : Int32) cs ((by decide)) S_CS hcs) rfl at_67 (q := 70) rfl (by decide) rfl (na := 1) (by decide +kernel) rfl (by decide) (W := 0) rfl (by decide) (by decide) (by decide) (k' := 5) (n' := 12) rfl rfl ?_
    rintro _ _ ⟨sa12, sb13, rfl, rfl⟩
    show Go _ _ _ _ _ _ _ _ _ _ [(.ref sa12)]
    refine Go.astore C at_70 (q := 72) rfl rfl (Ls' := #[.val (.int which), .val (.int c), .val (.int (1 : Int32)), .val (.ref sa6), .val (.ref s_HELP), .val (.ref hl), .val (.ref sa12), .unset]) rfl ?_
    refine Go.iloadN C at_72 (q := 73) rfl rfl ?_
    refine Go.ifNo C at_73 (q := 76) rfl (XT.i0_eq_f (by decide)) ?_
    refine Go.aload C at_76 (q := 78) rfl rfl rfl ?_
    refine Go.callS C (y := (⟨"com/example/paschalion/paschalion/cli/Option", "lettered", "(Ljava/lang/String;)Lcom/example/paschalion/paschalion/cli/Option;"⟩ : MethodName)) (as := [(.ref sa12)]) (rest := []) (wd hw 26 rfl) (wd hw 27 rfl) (wd hw 28 rfl) (wd hw 29 rfl) (m_lettered l Z a0 hw _ sa12 sb13 va s_HELP s_RECK hl hb (nar .byte (104 : Int32).toInt8.toInt32) cs (by decide) S_va E_va A_va F_let E_hl F_hl F_hc A_hb S_CS hcs) rfl at_78 (q := 81) rfl (by decide) rfl (na := 1) (by decide +kernel) rfl (by decide) (W := 0) rfl (by decide) (by decide) (by decide) (k' := 6) (n' := 14) rfl rfl ?_
    rintro _ _ ⟨vd14, rfl, rfl⟩
    show Go _ _ _ _ _ _ _ _ _ _ [(.ref s_HELP)]
    refine Go.aload C at_81 (q := 83) rfl rfl rfl ?_
    refine Go.acmpNo C at_83 (q := 86) rfl rfl rfl (XT.aa_ne_f rfl) ?_
    refine Go.iconst C at_86 (q := 87) rfl (v := (1 : Int32)) rfl ?_
    refine Go.goto C at_87 (by decide) (q := 91) rfl ?_
    refine Go.istoreN C at_91 (q := 92) rfl (Ls' := #[.val (.int which), .val (.int c), .val (.int (1 : Int32)), .val (.ref sa6), .val (.ref s_HELP), .val (.ref hl), .val (.ref sa12), .unset]) rfl ?_
    refine Go.iloadN C at_92 (q := 93) rfl rfl ?_
    refine Go.sipush C at_93 (q := 96) rfl (v := (255 : Int32)) (by decide) ?_
    refine Go.iand C at_96 (q := 97) rfl ?_
    refine Go.i2c C at_97 (q := 98) rfl ?_
    refine Go.istore C at_98 (q := 100) rfl (Ls' := #[.val (.int which), .val (.int c), .val (.int (1 : Int32)), .val (.ref sa6), .val (.ref s_HELP), .val (.ref hl), .val (.int (c &&& (255 : Int32)).toUInt32.toUInt16.toUInt32.toInt32), .unset]) rfl ?_
    refine Go.iload C at_100 (q := 102) rfl rfl ?_
    refine Go.callS C (y := (⟨"java/lang/String", "valueOf", "(C)Ljava/lang/String;"⟩ : MethodName)) (as := [(.int (c &&& (255 : Int32)).toUInt32.toUInt16.toUInt32.toInt32)]) (rest := []) (wd hw 0 rfl) (wd hw 1 rfl) (wd hw 2 rfl) (wd hw 3 rfl) (m_strOf l Z a0 hw _ (c &&& (255 : Int32)).toUInt32.toUInt16.toUInt32.toInt32 cs (own_c255 _) S_CS hcs) rfl at_102 (q := 105) rfl (by decide) rfl (na := 1) (by decide +kernel) rfl (by decide) (W := 0) rfl (by decide) (by decide) (by decide) (k' := 8) (n' := 19) rfl rfl ?_
    rintro _ _ ⟨sa15, sb16, rfl, rfl⟩
    show Go _ _ _ _ _ _ _ _ _ _ [(.ref sa15)]
    refine Go.astore C at_105 (q := 107) rfl rfl (Ls' := #[.val (.int which), .val (.int c), .val (.int (1 : Int32)), .val (.ref sa6), .val (.ref s_HELP), .val (.ref hl), .val (.int (c &&& (255 : Int32)).toUInt32.toUInt16.toUInt32.toInt32), .val (.ref sa15)]) rfl ?_
    refine Go.aload C at_107 (q := 109) rfl rfl rfl ?_
    refine Go.getS C (host := "") (Or.inl (wd hw 57 rfl)) Via.refl S_HELP at_109 (q := 112) rfl ?_
    refine Go.callV C (y := (⟨"com/example/paschalion/paschalion/cli/Option", "letter", "()Ljava/lang/String;"⟩ : MethodName)) (z := (⟨"com/example/paschalion/paschalion/cli/Option", "letter", "()Ljava/lang/String;"⟩ : MethodName)) (a := s_HELP) (as := []) (rest := [(.ref sa15)]) (wd hw 58 rfl) (wd hw 59 rfl) (nf_sel (z := (⟨"com/example/paschalion/paschalion/cli/Option", "letter", "()Ljava/lang/String;"⟩ : MethodName)) (wd hw 61 rfl)) (wd hw 61 rfl) (wd hw 60 rfl) (wd hw 62 rfl) (wd hw 28 rfl) (fun _ r => (E_HELP).ext r.1) (m_letter_HELP l Z a0 hw _ s_HELP hl F_let) rfl at_112 (q := 115) rfl (by decide) rfl (na := 0) (by decide +kernel) rfl (by decide) (W := 1) rfl (by decide) (by decide) (by decide) (k' := 8) (n' := 19) rfl rfl ?_
    rintro _ _ ⟨rfl, rfl⟩
    show Go _ _ _ _ _ _ _ _ _ _ [(.ref hl), (.ref sa15)]
    refine Go.callV C (y := (⟨"java/lang/String", "equals", "(Ljava/lang/Object;)Z"⟩ : MethodName)) (z := (⟨"java/lang/String", "equals", "(Ljava/lang/Object;)Z"⟩ : MethodName)) (a := sa15) (as := [(.ref hl)]) (rest := []) (wd hw 94 rfl) (wd hw 50 rfl) (nf_sel (z := (⟨"java/lang/String", "equals", "(Ljava/lang/Object;)Z"⟩ : MethodName)) (wd hw 52 rfl)) (wd hw 52 rfl) (wd hw 51 rfl) (wd hw 53 rfl) (wd hw 2 rfl) (fun _ r => r.exa 0 rfl) (m_eq_no l Z a0 hw _ hl hb sa15 sb16 104 (nar .byte (c &&& (255 : Int32)).toUInt32.toUInt16.toUInt32.toInt32.toInt8.toInt32) cs E_hl F_hl F_hc A_hb S_CS hcs) rfl at_115 (q := 118) rfl (by decide) rfl (na := 1) (by decide +kernel) rfl (by decide) (W := 0) rfl (by decide) (by decide) (by decide) (k' := 8) (n' := 19) rfl rfl ?_
    rintro _ _ ⟨rfl, rfl⟩
    show Go _ _ _ _ _ _ _ _ _ _ [(.int (if (nar .byte (c &&& (255 : Int32)).toUInt32.toUInt16.toUInt32.toInt32.toInt8.toInt32) = (104 : Int32) then (1 : Int32) else 0))]
    by_cases hq : (nar .byte (c &&& (255 : Int32)).toUInt32.toUInt16.toUInt32.toInt32.toInt8.toInt32) = (104 : Int32)
    · refine Go.ifNo C at_118 (q := 121) rfl (XT.i0_eq_f (by rw [if_pos hq]; decide)) ?_
      refine Go.iloadN C at_121 (q := 122) rfl rfl ?_
      refine Go.ifNo C at_122 (q := 125) rfl (XT.i0_eq_f (by decide)) ?_
      refine Go.aload C at_125 (q := 127) rfl rfl rfl ?_
      refine Go.pick (M' := ((sa15, oStr (.ref sb16) (.int (0 : Int32))) :: (sb16, .inr (.byte, [(.int (nar .byte (c &&& (255 : Int32)).toUInt32.toUInt16.toUInt32.toInt32.toInt8.toInt32))], true)) :: (sb13, .inr (.byte, [(.int (nar .byte (104 : Int32).toInt8.toInt32))], true)) :: (sa12, oStr (.ref sb13) (.int (0 : Int32))) :: (vd14, .inr (.object "com/example/paschalion/paschalion/cli/Option", [(.ref s_HELP), (.ref s_RECK)], false)) :: (sb7, .inr (.byte, [(.int (nar .byte (104 : Int32).toInt8.toInt32))], true)) :: (sa6, oStr (.ref sb7) (.int (0 : Int32))) :: (vd8, .inr (.object "com/example/paschalion/paschalion/cli/Option", [(.ref s_HELP), (.ref s_RECK)], false)) :: [])) 8 [1, 0, 2, 3, 4, 5, 6, 7] (by decide) (by decide) rfl ?_
      refine Go.callS C (y := (⟨"com/example/paschalion/paschalion/cli/Option", "lettered", "(Ljava/lang/String;)Lcom/example/paschalion/paschalion/cli/Option;"⟩ : MethodName)) (as := [(.ref sa15)]) (rest := []) (wd hw 26 rfl) (wd hw 27 rfl) (wd hw 28 rfl) (wd hw 29 rfl) (m_lettered l Z a0 hw _ sa15 sb16 va s_HELP s_RECK hl hb (nar .byte (c &&& (255 : Int32)).toUInt32.toUInt16.toUInt32.toInt32.toInt8.toInt32) cs hq S_va E_va A_va F_let E_hl F_hl F_hc A_hb S_CS hcs) rfl at_127 (q := 130) rfl (by decide) rfl (na := 1) (by decide +kernel) rfl (by decide) (W := 0) rfl (by decide) (by decide) (by decide) (k' := 9) (n' := 21) rfl rfl ?_
      rintro _ _ ⟨vd17, rfl, rfl⟩
      show Go _ _ _ _ _ _ _ _ _ _ [(.ref s_HELP)]
      refine Go.getS C (host := "") (Or.inl (wd hw 57 rfl)) Via.refl S_HELP at_130 (q := 133) rfl ?_
      refine Go.acmpNo C at_133 (q := 136) rfl rfl rfl (XT.aa_ne_f rfl) ?_
      refine Go.iconst C at_136 (q := 137) rfl (v := (1 : Int32)) rfl ?_
      refine Go.goto C at_137 (by decide) (q := 141) rfl ?_
      refine Go.istoreN C at_141 (q := 142) rfl (Ls' := #[.val (.int which), .val (.int c), .val (.int (1 : Int32)), .val (.ref sa6), .val (.ref s_HELP), .val (.ref hl), .val (.int (c &&& (255 : Int32)).toUInt32.toUInt16.toUInt32.toInt32), .val (.ref sa15)]) rfl ?_
      refine Go.iloadN C at_142 (q := 143) rfl rfl ?_
      refine Go.retZ C rfl (by decide) at_143 (by decide) (by decide) ?_
      exact rfl
    · refine Go.ifYes C at_118 (by decide) (q := 142) rfl (XT.i0_eq_t (by rw [if_neg hq])) ?_
      refine Go.iloadN C at_142 (q := 143) rfl rfl ?_
      refine Go.retZ C rfl (by decide) at_143 (by decide) (by decide) ?_
      exact rfl
theorem own_n {n k : Nat} (h : n.toInt32 = k.toInt32) (hl : n < 2 ^ 31) (hk : k < 2 ^ 31) : n = k := by
  have h1 := Int32.toInt_ofNat_of_lt (n := n) (by omega)
  have h2 := Int32.toInt_ofNat_of_lt (n := k) (by omega)
  have e1 : n.toInt32 = Int32.ofNat n := rfl
  have e2 : k.toInt32 = Int32.ofNat k := rfl
  rw [← e1, h, e2, h2] at h1
  omega
theorem own_nil {vs : List Value} (h : vs.length.toInt32 = 0) (hl : vs.length < 2 ^ 31) : vs = [] := List.eq_nil_of_length_eq_zero (own_n (k := 0) h hl (by decide))
theorem own_one {vs : List Value} {v : Value} (h : vs.length.toInt32 = 1) (hl : vs.length < 2 ^ 31) (h0 : vs[(0 : Int32).toNatClampNeg]? = some v) : vs = [v] := by
  have := own_n (k := 1) h hl (by decide)
  match vs, this with
  | [x], _ => exact congrArg (fun y => [y]) (Option.some.inj h0)
theorem own_two {vs : List Value} {v w : Value} (h : vs.length.toInt32 = 2) (hl : vs.length < 2 ^ 31) (h0 : vs[(0 : Int32).toNatClampNeg]? = some v) (h1 : vs[(1 : Int32).toNatClampNeg]? = some w) : vs = [v, w] := by
  have := own_n (k := 2) h hl (by decide)
  match vs, this with
  | [x, y], _ =>
    obtain rfl : x = v := Option.some.inj h0
    obtain rfl : y = w := Option.some.inj h1
    rfl
theorem own_elemR {Z : State} {args : Array Value} {t u : Term} {a b : Addr} {c : Cell} {ty : FieldType} {i : Int32} (ev : t.eval args Z none [] Z = some (.ref a)) (A : Arr Z Z.heap a c ty) (eu : u.eval args Z none [] Z = some (.ref b)) (h : (Jvm.Cond.eq (.elem t (.int i)) u).value args Z none Z [] = some true) : c.slots.toList[i.toNatClampNeg]? = some (.ref b) := by
  obtain ⟨x, y, h1, h2, h3, h4⟩ := cmp_v (Or.inl h)
  cases eu.symm.trans h2
  have h5 := (elem_in (j := i) h1 ev rfl A.1).2
  rw [Array.getElem?_toList, h5]
  have h6 := eq_R h1 h2 h4.2 rfl
  exact congrArg some (gotT h6 h)
set_option maxRecDepth 65536 in
set_option maxHeartbeats 40000000 in
theorem comes_1 {Post : Tables → Env → Array Value → State → Outcome → State → Prop} (hpost : ∀ tb e args s v u, (limb_1_1.after args s (.returned v) u = true ∧ limb_1_2.after args s (.returned v) u = true ∧ True) → FrameEnd s (.returned v) u (Jvm.fieldLocs frame_1_writes args s ++ Jvm.arrayLocs frame_1_arrays args s ++ Jvm.staticLocs frame_1_statics s) 32 128 → Post tb e args s (.returned v) u) :
    ArmFor flags0 classFile x code maxLocals ret World_1 tables_1 room_1 Calls_1 rest_1 Pre_1 Post := by
  intro l hfl _ _ p e ha hc hk s m args below hf hA hF happ hP
  obtain ⟨hcalls, hrest, hpre⟩ := hP
  obtain ⟨-, -, -, hnamed, -, -, -, hat⟩ := (Spec.applies_iff hf).mp happ
  obtain ⟨hg, hn⟩ := and_e (Cond.before_iff.mp (show (Jvm.Cond.and given_1 narrow_1).before args s = true from hpre))
  obtain ⟨hcount, hg⟩ := and_e hg
  obtain ⟨w0, w1, rfl⟩ : ∃ w0 w1 : Value, args = #[w0, w1] := by
    have hs : args.size = 2 := by simpa [Cond.value, given_1] using hcount
    obtain ⟨L⟩ := args
    match L, hs with
    | [w0, w1], _ => exact ⟨w0, w1, rfl⟩
  have hw := fun d (hd : d ∈ tables_1) => atoms_spec (ws := Jvm.Cond.code x code maxLocals ret :: tables_1) hat d (List.mem_cons_of_mem _ hd)
  obtain ⟨hsets, hown0⟩ := atoms_of _ (rest_1_c_eq ▸ (show rest_1_c.before _ s = true from hrest))
  have hw : ∀ d ∈ own_tabs, d.before _ s = true := fun d hd => (List.mem_append.mp hd).elim (hw d) (hsets d)
  obtain ⟨g0, hg⟩ := and_e hg
  obtain ⟨which, e0⟩ := is_v g0
  obtain rfl : w0 = (.int which) := Option.some.inj e0
  have g1 := hg
  obtain ⟨c0, e1⟩ := is_v g1
  obtain rfl : w1 = (.int c0) := Option.some.inj e1
  obtain ⟨n0, hn⟩ := and_e hn
  obtain ⟨n1, hn⟩ := and_e hn
  obtain ⟨n2, hn⟩ := and_e hn
  obtain ⟨n3, hn⟩ := and_e hn
  obtain ⟨n4, hn⟩ := and_e hn
  obtain ⟨n5, hn⟩ := and_e hn
  obtain ⟨n6, hn⟩ := and_e hn
  obtain ⟨n7, hn⟩ := and_e hn
  obtain ⟨n8, hn⟩ := and_e hn
  obtain ⟨n9, hn⟩ := and_e hn
  obtain ⟨n10, hn⟩ := and_e hn
  obtain ⟨n11, hn⟩ := and_e hn
  obtain ⟨n12, hn⟩ := and_e hn
  obtain ⟨n13, hn⟩ := and_e hn
  obtain ⟨n14, hn⟩ := and_e hn
  have n15 := hn
  obtain ⟨va, ev⟩ := arr_v n0
  obtain ⟨cv, AV⟩ := Arr.start ev n0
  have E_va := Exa.start ev n1
  have hl2 := len_of_eq ev AV n2
  have S_va := Sta.start ev (Or.inl (wd hw 44 rfl))
  obtain ⟨s_HELP, eh⟩ := exa_v n3
  have E_HELP := Exa.start eh n3
  have S_HELP := Sta.start eh (Or.inr ⟨(wd hw 28 rfl), (wd hw 42 rfl)⟩)
  obtain ⟨s_RECK, er⟩ := exa_v n5
  have E_RECK := Exa.start er n5
  have S_RECKONING := Sta.start er (Or.inr ⟨(wd hw 28 rfl), (wd hw 43 rfl)⟩)
  have v0 := own_elemR ev AV eh n4
  have v1 := own_elemR ev AV er n6
  have A_va : ArrIs s s.heap va (.object "com/example/paschalion/paschalion/cli/Option") [.ref s_HELP, .ref s_RECK] := ⟨cv, AV, own_two hl2.1 hl2.2 v0 v1⟩
  obtain ⟨hl, el⟩ := exa_v n7
  have E_hl := Exa.start el n7
  have F_let := fld_ev eh el
  have F_hc := fld_of_eq el n8
  obtain ⟨hb, eb⟩ := arr_v n9
  obtain ⟨cb, AB⟩ := Arr.start eb n9
  have F_hl := fld_ev el eb
  have hb2 := len_of_eq eb AB n10
  have b0 := elem_of_eq eb AB n11
  have A_hb : ArrIs s s.heap hb .byte [.int (104 : Int32)] := ⟨cb, AB, own_one hb2.1 hb2.2 b0⟩
  obtain ⟨rl, el2⟩ := exa_v n12
  have E_rl := Exa.start el2 n12
  have F_rlet := fld_ev er el2
  obtain ⟨rb, eb2⟩ := arr_v n13
  obtain ⟨cb2, AB2⟩ := Arr.start eb2 n13
  have F_rl := fld_ev el2 eb2
  have rb2 := len_of_eq eb2 AB2 n14
  have F_rc := fld_of_eq el2 n15
  have A_rb : ArrIs s s.heap rb .byte [] := ⟨cb2, AB2, own_nil rb2.1 rb2.2⟩
  obtain ⟨cs, e_cs⟩ := is_v (Cond.before_iff.mp (hsets _ (List.mem_of_getElem? (i := 1) rfl)))
  have S_CS : Sta s s.heap "java/lang/String" "COMPACT_STRINGS" "Z" (.int cs) := Sta.start e_cs (Or.inl (hsets _ (List.mem_of_getElem? (i := 0) rfl)))
  have hcs : ¬ cs = 0 := gotF (Cond.eq_ints e_cs (Term.int_eval (0))) (not_v (Cond.before_iff.mp (hsets _ (List.mem_of_getElem? (i := 2) rfl))))
  obtain ⟨fm, e_fm, hfm⟩ := isR_v (Cond.before_iff.mp (hsets _ (List.mem_of_getElem? (i := 8) rfl)))
  have S_fm : Sta s s.heap "jdk/internal/util/Preconditions" "SIOOBE_FORMATTER" "Ljava/util/function/BiFunction;" fm := Sta.start e_fm (Or.inl (hsets _ (List.mem_of_getElem? (i := 7) rfl)))
  obtain ⟨n, o, h1, h2, h3, _, L, rfl, ⟨N, _, rfl, -⟩, hq⟩ := m_law l s _ hw which c0 cs s_HELP s_RECK va hl hb rl rb fm S_HELP S_RECKONING E_HELP E_RECK S_va E_va A_va F_let E_hl F_hl F_hc A_hb S_CS hcs F_rlet E_rl F_rl F_rc A_rb S_fm hfm tables_1 s.heap (rep0 s) p e ha hc hk s m _ below hf ((Spec.applies_iff_loose hf).mp happ).1 ⟨rfl, State.Warmed39.refl s, rfl⟩ trivial
  refine ⟨n, _, h1, h2, h3, hpost _ _ _ _ _ _ ⟨Cond.after_iff.mpr rfl, Cond.after_iff.mpr (eq_i res_at (Term.int_eval (1)) rfl), trivial⟩ ⟨hq.1, hq.2.1, (hq.2.2.sift fun y hy => Or.inr (N y hy)).mono (by decide) (by decide)⟩⟩
theorem main_1_1 : Claimed_1_1 := comes_1 fun _ _ _ _ _ _ h hF => ⟨h.1, hF⟩
theorem main_1_2 : Claimed_1_2 := comes_1 fun _ _ _ _ _ _ h hF => ⟨h.2.1, hF⟩
end Jvm.Pilot.@@N@@
namespace Jvm.Pilot.@@N@@
open Jvm Jvm.ClassFile Sem Op Lib Jvm.Free Jvm.Stand Jvm.Pilot.@@N@@.Jvm.D
/-! MADE BY PROGRAM (witnessworld.py) out of the Statement's table words and the real class files: 19 classes; the members and pool entries that the words name. The judged class is class 1, her method 1. -/
namespace start1
open Jvm.ClassFile
def u (s : String) : CpInfo := .utf8 (stringToUtf16 s)
/-- a pool by its gaps: so many unusable entries, then the entry; so many at the end -/
def gap : Nat → List CpInfo → List CpInfo
  | 0, r => r
  | n + 1, r => .unusable :: gap n r
def poolList (es : List (Nat × CpInfo)) (last : Nat) : List CpInfo := es.foldr (fun e r => gap e.1 (e.2 :: r)) (gap last [])
def pool (es : List (Nat × CpInfo)) (last : Nat) : Array CpInfo := ⟨poolList es last⟩
def fileOf (pool : Array CpInfo) (this : Nat) (attrs : Array Attribute := #[]) (ms : Array MethodInfo := #[]) (fl : Nat := 33) (sup : Nat := 0) (ifs : Array Nat := #[]) (fds : Array FieldInfo := #[]) : ClassFile where
  minorVersion := 0
  majorVersion := 65
  constantPool := pool
  accessFlags := fl
  thisClass := this
  superClass := sup
  interfaces := ifs
  fields := fds
  methods := ms
  attributes := attrs
def plain (name : String) (sup : Option ClassId) : Class where
  name := name
  kind := .ordinary
  loader := none
  accessFlags := 33
  super := sup
  interfaces := #[]
  cf := none
  fields := #[]
  methods := #[]
  instanceTypes := #[]
  staticTypes := #[]
  resolved := #[]
  callSites := []
  init := .initialized
  statics := none
  mirror := none

def pool0 : Array CpInfo := pool [(5, u "<init>"), (0, u "()V"), (1, .class_ 10), (1, u "java/lang/Object"), (85, u "clone"), (0, u "()Ljava/lang/Object;")] 26

def k0c0 : Code := { maxStack := 0, maxLocals := 1, code := object_method_1_code, exceptionTable := #[], attributes := #[] }
def k0m0 : Method := { name := "<init>", desc := "()V", sig := { parameters := [], returnType := none }, accessFlags := 1, code := some k0c0 }
def k0m1 : Method := { name := "clone", desc := "()Ljava/lang/Object;", sig := { parameters := [], returnType := some (.object "java/lang/Object") }, accessFlags := 260, code := none }
/-- java/lang/Object -/
def k0 : Class := { plain "java/lang/Object" none with
  accessFlags := 33
  interfaces := #[]
  cf := some (fileOf pool0 8 #[] #[{ accessFlags := 1, nameIndex := 5, descriptorIndex := 6, attributes := #[] }, { accessFlags := 260, nameIndex := 96, descriptorIndex := 97, attributes := #[] }] 33 0 #[] #[])
  fields := #[]
  methods := #[k0m0, k0m1]
  instanceTypes := #[]
  staticTypes := #[]
  resolved := Array.replicate 124 none
  statics := none }

def pool1 : Array CpInfo := pool [(2, .class_ 4), (1, u "java/lang/Object"), (0, u "<init>"), (0, u "()V"), (0, .methodref 8 9), (0, .class_ 10), (0, .nameAndType 11 12), (0, u "java/lang/String"), (0, u "valueOf"), (0, u "(C)Ljava/lang/String;"), (0, .methodref 14 15), (0, .class_ 16), (0, .nameAndType 17 18), (0, u "com/example/paschalion/paschalion/cli/Option"), (0, u "lettered"), (0, u "(Ljava/lang/String;)Lcom/example/paschalion/paschalion/cli/Option;"), (0, .fieldref 14 20), (0, .nameAndType 21 22), (0, u "HELP"), (0, u "Lcom/example/paschalion/paschalion/cli/Option;"), (0, .fieldref 14 24), (0, .nameAndType 25 22), (0, u "RECKONING"), (0, .methodref 14 27), (0, .nameAndType 28 29), (0, u "letter"), (0, u "()Ljava/lang/String;"), (0, .methodref 8 31), (0, .nameAndType 32 33), (0, u "length"), (0, u "()I"), (0, .methodref 8 35), (0, .nameAndType 36 37), (0, u "charAt"), (0, u "(I)C"), (0, .methodref 8 39), (0, .nameAndType 40 41), (0, u "equals"), (0, u "(Ljava/lang/Object;)Z"), (0, .class_ 43), (0, u "com/example/paschalion/paschalion/cli/OptionLetteredPinLaw"), (2, u "law"), (0, u "(II)Z")] 3

def k1m0 : Method := { name := "<init>", desc := "()V", sig := { parameters := [], returnType := none }, accessFlags := 2, code := none }
def k1c1 : Code := { maxStack := 2, maxLocals := 8, code := code, exceptionTable := #[], attributes := #[] }
def k1m1 : Method := { name := "law", desc := "(II)Z", sig := { parameters := [.int, .int], returnType := some .boolean }, accessFlags := 9, code := some k1c1 }
/-- com/example/paschalion/paschalion/cli/OptionLetteredPinLaw -/
def k1 : Class := { plain "com/example/paschalion/paschalion/cli/OptionLetteredPinLaw" (some 0) with
  accessFlags := 49
  interfaces := #[]
  cf := some (fileOf pool1 42 #[] #[{ accessFlags := 2, nameIndex := 5, descriptorIndex := 6, attributes := #[] }, { accessFlags := 9, nameIndex := 46, descriptorIndex := 47, attributes := #[] }] 49 2 #[] #[])
  fields := #[]
  methods := #[k1m0, k1m1]
  instanceTypes := #[]
  staticTypes := #[]
  resolved := Array.replicate 51 none
  statics := none }

def pool2 : Array CpInfo := pool [(1, .class_ 2), (0, u "java/io/Serializable"), (0, .class_ 4), (0, u "java/lang/Object")] 2

/-- java/io/Serializable -/
def k2 : Class := { plain "java/io/Serializable" (some 0) with
  accessFlags := 1537
  interfaces := #[]
  cf := some (fileOf pool2 1 #[] #[] 1537 3 #[] #[])
  fields := #[]
  methods := #[]
  instanceTypes := #[]
  staticTypes := #[]
  resolved := Array.replicate 7 none
  statics := none }

def pool3 : Array CpInfo := pool [(1, .class_ 2), (0, u "java/lang/Comparable"), (0, .class_ 4), (0, u "java/lang/Object")] 7

/-- java/lang/Comparable -/
def k3 : Class := { plain "java/lang/Comparable" (some 0) with
  accessFlags := 1537
  interfaces := #[]
  cf := some (fileOf pool3 1 #[] #[] 1537 3 #[] #[])
  fields := #[]
  methods := #[]
  instanceTypes := #[]
  staticTypes := #[]
  resolved := Array.replicate 12 none
  statics := none }

def pool4 : Array CpInfo := pool [(2, .class_ 4), (1, u "java/lang/CharSequence"), (42, .class_ 48), (0, u "java/lang/CharSequence$1CodePointIterator"), (10, .class_ 60), (0, u "java/lang/CharSequence$1CharIterator"), (5, .class_ 67), (0, u "java/lang/Object")] 63

/-- java/lang/CharSequence -/
def k4 : Class := { plain "java/lang/CharSequence" (some 0) with
  accessFlags := 1537
  interfaces := #[]
  cf := some (fileOf pool4 2 #[.nestMembers #[47, 59]] #[] 1537 66 #[] #[])
  fields := #[]
  methods := #[]
  instanceTypes := #[]
  staticTypes := #[]
  resolved := Array.replicate 131 none
  statics := none }

def pool5 : Array CpInfo := pool [(1, .class_ 2), (0, u "java/lang/constant/Constable"), (0, .class_ 4), (0, u "java/lang/Object")] 6

/-- java/lang/constant/Constable -/
def k5 : Class := { plain "java/lang/constant/Constable" (some 0) with
  accessFlags := 1537
  interfaces := #[]
  cf := some (fileOf pool5 1 #[] #[] 1537 3 #[] #[])
  fields := #[]
  methods := #[]
  instanceTypes := #[]
  staticTypes := #[]
  resolved := Array.replicate 11 none
  statics := none }

def pool6 : Array CpInfo := pool [(1, .class_ 2), (0, u "java/lang/constant/ConstantDesc"), (0, .class_ 4), (0, u "java/lang/Object")] 32

/-- java/lang/constant/ConstantDesc -/
def k6 : Class := { plain "java/lang/constant/ConstantDesc" (some 0) with
  accessFlags := 1537
  interfaces := #[]
  cf := some (fileOf pool6 1 #[] #[] 1537 3 #[] #[])
  fields := #[]
  methods := #[]
  instanceTypes := #[]
  staticTypes := #[]
  resolved := Array.replicate 37 none
  statics := none }

def pool7 : Array CpInfo := pool [(1, .methodref 2 3), (0, .class_ 4), (0, .nameAndType 5 6), (0, u "java/lang/Object"), (0, u "<init>"), (0, u "()V"), (2, .fieldref 10 11), (0, .class_ 12), (0, .nameAndType 13 14), (0, u "java/lang/String"), (0, u "value"), (0, u "[B"), (0, .fieldref 10 16), (0, .nameAndType 17 18), (0, u "coder"), (0, u "B"), (2, u "hash"), (0, u "I"), (2, u "hashIsZero"), (0, u "Z"), (11, .fieldref 10 39), (0, .nameAndType 40 26), (0, u "COMPACT_STRINGS"), (12, u "toBytes"), (53, .class_ 109), (1, u "java/lang/StringLatin1"), (32, u "()Z"), (66, .methodref 10 210), (0, .nameAndType 5 211), (0, u "([BB)V"), (122, u "()I"), (0, .methodref 10 336), (0, .nameAndType 17 337), (0, u "()B"), (25, u "([BI)C"), (5, u "(C)Z"), (21, u "(II)V"), (35, u "(I)C"), (64, .methodref 10 493), (0, .nameAndType 494 142), (0, u "isLatin1"), (0, .methodref 107 496), (0, .nameAndType 497 363), (0, u "charAt"), (3, u "checkIndex"), (5, u "length"), (33, .methodref 107 542), (0, .nameAndType 543 544), (0, u "equals"), (0, u "([B[B)Z"), (28, u "(Ljava/lang/Object;)Z"), (1, .class_ 576), (0, u "java/lang/CharSequence"), (22, u "CASE_INSENSITIVE_ORDER"), (0, u "Ljava/util/Comparator;"), (181, u "valueOf"), (0, u "(C)Ljava/lang/String;"), (231, .methodref 107 1016), (0, .nameAndType 1017 369), (0, u "canEncode"), (0, .methodref 107 1019), (0, .nameAndType 53 1020), (0, u "(C)[B"), (32, .fieldref 1054 1055), (0, .class_ 1056), (0, .nameAndType 1057 1058), (0, u "jdk/internal/util/Preconditions"), (0, u "SIOOBE_FORMATTER"), (0, u "Ljava/util/function/BiFunction;"), (0, .methodref 1054 1060), (0, .nameAndType 501 1061), (0, u "(IILjava/util/function/BiFunction;)I"), (39, u "serialPersistentFields"), (0, u "[Ljava/io/ObjectStreamField;"), (0, .class_ 1104), (0, u "java/lang/String$CaseInsensitiveComparator"), (1, .class_ 1107), (0, u "java/io/Serializable"), (0, .class_ 1109), (0, u "java/lang/Comparable"), (0, .class_ 1111), (0, u "java/lang/constant/Constable"), (0, .class_ 1113), (0, u "java/lang/constant/ConstantDesc"), (2, u "serialVersionUID"), (0, u "J"), (3, u "REPL"), (0, u "C"), (2, u "LATIN1"), (1, u "UTF16")] 323

def k7m0 : Method := { name := "<init>", desc := "()V", sig := { parameters := [], returnType := none }, accessFlags := 1, code := none }
def k7c1 : Code := { maxStack := 2, maxLocals := 1, code := jdk_42_method_54_code, exceptionTable := #[], attributes := #[] }
def k7m1 : Method := { name := "length", desc := "()I", sig := { parameters := [], returnType := some .int }, accessFlags := 1, code := some k7c1 }
def k7c2 : Code := { maxStack := 2, maxLocals := 2, code := jdk_42_method_56_code, exceptionTable := #[], attributes := #[] }
def k7m2 : Method := { name := "charAt", desc := "(I)C", sig := { parameters := [.int], returnType := some .char }, accessFlags := 1, code := some k7c2 }
def k7c3 : Code := { maxStack := 2, maxLocals := 3, code := jdk_42_method_66_code, exceptionTable := #[], attributes := #[] }
def k7m3 : Method := { name := "equals", desc := "(Ljava/lang/Object;)Z", sig := { parameters := [(.object "java/lang/Object")], returnType := some .boolean }, accessFlags := 1, code := some k7c3 }
def k7c4 : Code := { maxStack := 4, maxLocals := 1, code := jdk_42_method_139_code, exceptionTable := #[], attributes := #[] }
def k7m4 : Method := { name := "valueOf", desc := "(C)Ljava/lang/String;", sig := { parameters := [.char], returnType := some (.object "java/lang/String") }, accessFlags := 9, code := some k7c4 }
def k7c5 : Code := { maxStack := 2, maxLocals := 3, code := jdk_42_method_151_code, exceptionTable := #[], attributes := #[] }
def k7m5 : Method := { name := "<init>", desc := "([BB)V", sig := { parameters := [(.array .byte), .byte], returnType := none }, accessFlags := 0, code := some k7c5 }
def k7c6 : Code := { maxStack := 1, maxLocals := 1, code := jdk_42_method_152_code, exceptionTable := #[], attributes := #[] }
def k7m6 : Method := { name := "coder", desc := "()B", sig := { parameters := [], returnType := some .byte }, accessFlags := 0, code := some k7c6 }
def k7c7 : Code := { maxStack := 1, maxLocals := 1, code := jdk_42_method_154_code, exceptionTable := #[], attributes := #[] }
def k7m7 : Method := { name := "isLatin1", desc := "()Z", sig := { parameters := [], returnType := some .boolean }, accessFlags := 0, code := some k7c7 }
def k7c8 : Code := { maxStack := 3, maxLocals := 2, code := jdk_42_method_155_code, exceptionTable := #[], attributes := #[] }
def k7m8 : Method := { name := "checkIndex", desc := "(II)V", sig := { parameters := [.int, .int], returnType := none }, accessFlags := 8, code := some k7c8 }
/-- java/lang/String -/
def k7 : Class := { plain "java/lang/String" (some 0) with
  accessFlags := 49
  interfaces := #[2, 3, 4, 5, 6]
  cf := some (fileOf pool7 10 #[.nestMembers #[1103]] #[{ accessFlags := 1, nameIndex := 5, descriptorIndex := 6, attributes := #[] }, { accessFlags := 1, nameIndex := 507, descriptorIndex := 334, attributes := #[] }, { accessFlags := 1, nameIndex := 497, descriptorIndex := 427, attributes := #[] }, { accessFlags := 1, nameIndex := 543, descriptorIndex := 573, attributes := #[] }, { accessFlags := 9, nameIndex := 782, descriptorIndex := 783, attributes := #[] }, { accessFlags := 0, nameIndex := 5, descriptorIndex := 211, attributes := #[] }, { accessFlags := 0, nameIndex := 17, descriptorIndex := 337, attributes := #[] }, { accessFlags := 0, nameIndex := 494, descriptorIndex := 142, attributes := #[] }, { accessFlags := 8, nameIndex := 501, descriptorIndex := 391, attributes := #[] }] 49 2 #[1106, 1108, 575, 1110, 1112] #[{ accessFlags := 18, nameIndex := 13, descriptorIndex := 14, attributes := #[] }, { accessFlags := 18, nameIndex := 17, descriptorIndex := 18, attributes := #[] }, { accessFlags := 2, nameIndex := 21, descriptorIndex := 22, attributes := #[] }, { accessFlags := 2, nameIndex := 25, descriptorIndex := 26, attributes := #[] }, { accessFlags := 26, nameIndex := 1116, descriptorIndex := 1117, attributes := #[] }, { accessFlags := 24, nameIndex := 40, descriptorIndex := 26, attributes := #[] }, { accessFlags := 26, nameIndex := 1101, descriptorIndex := 1102, attributes := #[] }, { accessFlags := 26, nameIndex := 1121, descriptorIndex := 1122, attributes := #[] }, { accessFlags := 25, nameIndex := 599, descriptorIndex := 600, attributes := #[] }, { accessFlags := 24, nameIndex := 1125, descriptorIndex := 18, attributes := #[] }, { accessFlags := 24, nameIndex := 1127, descriptorIndex := 18, attributes := #[] }])
  fields := #[{ name := "value", type := (.array .byte), accessFlags := 18, slot := 0, constantValue := 0 }, { name := "coder", type := .byte, accessFlags := 18, slot := 1, constantValue := 0 }, { name := "hash", type := .int, accessFlags := 2, slot := 2, constantValue := 0 }, { name := "hashIsZero", type := .boolean, accessFlags := 2, slot := 3, constantValue := 0 }, { name := "serialVersionUID", type := .long, accessFlags := 26, slot := 0, constantValue := 0 }, { name := "COMPACT_STRINGS", type := .boolean, accessFlags := 24, slot := 1, constantValue := 0 }, { name := "serialPersistentFields", type := (.array (.object "java/io/ObjectStreamField")), accessFlags := 26, slot := 2, constantValue := 0 }, { name := "REPL", type := .char, accessFlags := 26, slot := 3, constantValue := 0 }, { name := "CASE_INSENSITIVE_ORDER", type := (.object "java/util/Comparator"), accessFlags := 25, slot := 4, constantValue := 0 }, { name := "LATIN1", type := .byte, accessFlags := 24, slot := 5, constantValue := 0 }, { name := "UTF16", type := .byte, accessFlags := 24, slot := 6, constantValue := 0 }]
  methods := #[k7m0, k7m1, k7m2, k7m3, k7m4, k7m5, k7m6, k7m7, k7m8]
  instanceTypes := #[(.array .byte), .byte, .int, .boolean]
  staticTypes := #[.long, .boolean, (.array (.object "java/io/ObjectStreamField")), .char, (.object "java/util/Comparator"), .byte, .byte]
  resolved := Array.replicate 1451 none
  statics := some 0 }

def pool8 : Array CpInfo := pool [(1, .class_ 2), (0, u "java/lang/String"), (1, .class_ 6), (1, u "java/lang/Object"), (0, u "<init>"), (0, u "()V"), (0, .methodref 1 10), (0, .nameAndType 11 12), (0, u "checkIndex"), (0, u "(II)V"), (1, .class_ 16), (1, u "java/lang/StringLatin1"), (36, u "([BI)C"), (36, u "canEncode"), (14, u "(C)Z"), (15, u "$assertionsDisabled"), (0, u "Z"), (98, .class_ 223), (1, u "java/lang/StringLatin1$LinesSpliterator"), (28, u "charAt"), (28, u "equals"), (0, u "([B[B)Z"), (97, u "toBytes"), (1, u "(C)[B"), (7, .class_ 391), (0, u "java/lang/StringLatin1$CharsSpliterator")] 3

def k8m0 : Method := { name := "<init>", desc := "()V", sig := { parameters := [], returnType := none }, accessFlags := 0, code := none }
def k8c1 : Code := { maxStack := 2, maxLocals := 2, code := jdk_43_method_2_code, exceptionTable := #[], attributes := #[] }
def k8m1 : Method := { name := "charAt", desc := "([BI)C", sig := { parameters := [(.array .byte), .int], returnType := some .char }, accessFlags := 9, code := some k8c1 }
def k8c2 : Code := { maxStack := 2, maxLocals := 1, code := jdk_43_method_3_code, exceptionTable := #[], attributes := #[] }
def k8m2 : Method := { name := "canEncode", desc := "(C)Z", sig := { parameters := [.char], returnType := some .boolean }, accessFlags := 9, code := some k8c2 }
def k8c3 : Code := { maxStack := 3, maxLocals := 3, code := jdk_43_method_13_code, exceptionTable := #[], attributes := #[] }
def k8m3 : Method := { name := "equals", desc := "([B[B)Z", sig := { parameters := [(.array .byte), (.array .byte)], returnType := some .boolean }, accessFlags := 9, code := some k8c3 }
def k8c4 : Code := { maxStack := 4, maxLocals := 1, code := jdk_43_method_46_code, exceptionTable := #[], attributes := #[] }
def k8m4 : Method := { name := "toBytes", desc := "(C)[B", sig := { parameters := [.char], returnType := some (.array .byte) }, accessFlags := 9, code := some k8c4 }
/-- java/lang/StringLatin1 -/
def k8 : Class := { plain "java/lang/StringLatin1" (some 0) with
  accessFlags := 48
  interfaces := #[]
  cf := some (fileOf pool8 14 #[.nestMembers #[390, 221]] #[{ accessFlags := 0, nameIndex := 7, descriptorIndex := 8, attributes := #[] }, { accessFlags := 9, nameIndex := 252, descriptorIndex := 53, attributes := #[] }, { accessFlags := 9, nameIndex := 90, descriptorIndex := 105, attributes := #[] }, { accessFlags := 9, nameIndex := 281, descriptorIndex := 282, attributes := #[] }, { accessFlags := 9, nameIndex := 380, descriptorIndex := 382, attributes := #[] }] 48 4 #[] #[{ accessFlags := 4120, nameIndex := 121, descriptorIndex := 122, attributes := #[] }])
  fields := #[{ name := "$assertionsDisabled", type := .boolean, accessFlags := 4120, slot := 0, constantValue := 0 }]
  methods := #[k8m0, k8m1, k8m2, k8m3, k8m4]
  instanceTypes := #[]
  staticTypes := #[.boolean]
  resolved := Array.replicate 395 none
  statics := none }

def pool9 : Array CpInfo := pool [(2, .class_ 4), (1, u "java/lang/Enum"), (0, u "name"), (0, u "Ljava/lang/String;"), (2, u "ordinal"), (0, u "I"), (1, .class_ 14), (1, u "java/lang/Object"), (4, u "hash"), (86, .class_ 108), (1, u "java/lang/Enum$EnumDesc"), (2, .class_ 112), (0, u "java/lang/constant/Constable"), (0, .class_ 114), (0, u "java/lang/Comparable"), (0, .class_ 116), (0, u "java/io/Serializable")] 87

/-- java/lang/Enum -/
def k9 : Class := { plain "java/lang/Enum" (some 0) with
  accessFlags := 1057
  interfaces := #[5, 3, 2]
  cf := some (fileOf pool9 2 #[.nestMembers #[106]] #[] 1057 12 #[111, 113, 115] #[{ accessFlags := 18, nameIndex := 5, descriptorIndex := 6, attributes := #[] }, { accessFlags := 18, nameIndex := 9, descriptorIndex := 10, attributes := #[] }, { accessFlags := 2, nameIndex := 19, descriptorIndex := 10, attributes := #[] }])
  fields := #[{ name := "name", type := (.object "java/lang/String"), accessFlags := 18, slot := 0, constantValue := 0 }, { name := "ordinal", type := .int, accessFlags := 18, slot := 1, constantValue := 0 }, { name := "hash", type := .int, accessFlags := 2, slot := 2, constantValue := 0 }]
  methods := #[]
  instanceTypes := #[(.object "java/lang/String"), .int, .int]
  staticTypes := #[]
  resolved := Array.replicate 204 none
  statics := none }

def pool10 : Array CpInfo := pool [(1, .class_ 2), (0, u "com/example/paschalion/paschalion/cli/Option"), (2, u "HELP"), (0, u "Lcom/example/paschalion/paschalion/cli/Option;"), (2, u "RECKONING"), (0, .fieldref 1 11), (0, .nameAndType 12 13), (0, u "$VALUES"), (0, u "[Lcom/example/paschalion/paschalion/cli/Option;"), (0, .methodref 15 16), (0, .class_ 13), (0, .nameAndType 17 18), (0, u "clone"), (0, u "()Ljava/lang/Object;"), (1, .class_ 22), (1, u "java/lang/Enum"), (6, .fieldref 1 30), (0, .nameAndType 31 32), (0, u "letter"), (0, u "Ljava/lang/String;"), (2, u "valueName"), (2, u "description"), (0, .methodref 1 40), (0, .nameAndType 41 42), (0, u "values"), (0, u "()[Lcom/example/paschalion/paschalion/cli/Option;"), (3, u "()Ljava/lang/String;"), (1, .class_ 50), (1, u "java/lang/String"), (11, .methodref 48 63), (0, .nameAndType 64 65), (0, u "equals"), (0, u "(Ljava/lang/Object;)Z"), (61, u "(Ljava/lang/String;)Lcom/example/paschalion/paschalion/cli/Option;"), (5, u "lettered")] 25

def k10c0 : Code := { maxStack := 1, maxLocals := 0, code := prog_10_method_1_code, exceptionTable := #[], attributes := #[] }
def k10m0 : Method := { name := "values", desc := "()[Lcom/example/paschalion/paschalion/cli/Option;", sig := { parameters := [], returnType := some (.array (.object "com/example/paschalion/paschalion/cli/Option")) }, accessFlags := 9, code := some k10c0 }
def k10c1 : Code := { maxStack := 3, maxLocals := 5, code := prog_10_method_5_code, exceptionTable := #[], attributes := #[] }
def k10m1 : Method := { name := "lettered", desc := "(Ljava/lang/String;)Lcom/example/paschalion/paschalion/cli/Option;", sig := { parameters := [(.object "java/lang/String")], returnType := some (.object "com/example/paschalion/paschalion/cli/Option") }, accessFlags := 8, code := some k10c1 }
def k10c2 : Code := { maxStack := 1, maxLocals := 1, code := prog_10_method_7_code, exceptionTable := #[], attributes := #[] }
def k10m2 : Method := { name := "letter", desc := "()Ljava/lang/String;", sig := { parameters := [], returnType := some (.object "java/lang/String") }, accessFlags := 0, code := some k10c2 }
/-- com/example/paschalion/paschalion/cli/Option -/
def k10 : Class := { plain "com/example/paschalion/paschalion/cli/Option" (some 9) with
  accessFlags := 16432
  interfaces := #[]
  cf := some (fileOf pool10 1 #[] #[{ accessFlags := 9, nameIndex := 41, descriptorIndex := 42, attributes := #[] }, { accessFlags := 8, nameIndex := 133, descriptorIndex := 127, attributes := #[] }, { accessFlags := 0, nameIndex := 31, descriptorIndex := 46, attributes := #[] }] 16432 20 #[] #[{ accessFlags := 16409, nameIndex := 5, descriptorIndex := 6, attributes := #[] }, { accessFlags := 16409, nameIndex := 9, descriptorIndex := 6, attributes := #[] }, { accessFlags := 18, nameIndex := 31, descriptorIndex := 32, attributes := #[] }, { accessFlags := 18, nameIndex := 35, descriptorIndex := 32, attributes := #[] }, { accessFlags := 18, nameIndex := 38, descriptorIndex := 32, attributes := #[] }, { accessFlags := 4122, nameIndex := 12, descriptorIndex := 13, attributes := #[] }])
  fields := #[{ name := "HELP", type := (.object "com/example/paschalion/paschalion/cli/Option"), accessFlags := 16409, slot := 0, constantValue := 0 }, { name := "RECKONING", type := (.object "com/example/paschalion/paschalion/cli/Option"), accessFlags := 16409, slot := 1, constantValue := 0 }, { name := "letter", type := (.object "java/lang/String"), accessFlags := 18, slot := 3, constantValue := 0 }, { name := "valueName", type := (.object "java/lang/String"), accessFlags := 18, slot := 4, constantValue := 0 }, { name := "description", type := (.object "java/lang/String"), accessFlags := 18, slot := 5, constantValue := 0 }, { name := "$VALUES", type := (.array (.object "com/example/paschalion/paschalion/cli/Option")), accessFlags := 4122, slot := 2, constantValue := 0 }]
  methods := #[k10m0, k10m1, k10m2]
  instanceTypes := #[(.object "java/lang/String"), .int, .int, (.object "java/lang/String"), (.object "java/lang/String"), (.object "java/lang/String")]
  staticTypes := #[(.object "com/example/paschalion/paschalion/cli/Option"), (.object "com/example/paschalion/paschalion/cli/Option"), (.array (.object "com/example/paschalion/paschalion/cli/Option"))]
  resolved := Array.replicate 159 none
  statics := some 1 }

def pool11 : Array CpInfo := pool [(1, .class_ 2), (0, u "java/lang/Cloneable"), (0, .class_ 4), (0, u "java/lang/Object")] 2

/-- java/lang/Cloneable -/
def k11 : Class := { plain "java/lang/Cloneable" (some 0) with
  accessFlags := 1537
  interfaces := #[]
  cf := some (fileOf pool11 1 #[] #[] 1537 3 #[] #[])
  fields := #[]
  methods := #[]
  instanceTypes := #[]
  staticTypes := #[]
  resolved := Array.replicate 7 none
  statics := none }

def pool12 : Array CpInfo := pool [(2, .class_ 4), (1, u "java/lang/Object"), (0, u "<init>"), (0, u "()V"), (17, .class_ 26), (1, u "jdk/internal/util/Preconditions"), (6, u "checkIndex"), (21, .class_ 56), (0, u "jdk/internal/util/Preconditions$4"), (57, .class_ 115), (0, u "jdk/internal/util/Preconditions$1"), (7, u "SIOOBE_FORMATTER"), (0, u "Ljava/util/function/BiFunction;"), (0, .class_ 126), (0, u "jdk/internal/util/Preconditions$2"), (3, u "AIOOBE_FORMATTER"), (0, .class_ 132), (0, u "jdk/internal/util/Preconditions$3"), (3, u "IOOBE_FORMATTER"), (41, u "(IILjava/util/function/BiFunction;)I")] 15

def k12m0 : Method := { name := "<init>", desc := "()V", sig := { parameters := [], returnType := none }, accessFlags := 1, code := none }
def k12c1 : Code := { maxStack := 3, maxLocals := 3, code := jdk_41_method_11_code, exceptionTable := #[], attributes := #[] }
def k12m1 : Method := { name := "checkIndex", desc := "(IILjava/util/function/BiFunction;)I", sig := { parameters := [.int, .int, (.object "java/util/function/BiFunction")], returnType := some .int }, accessFlags := 9, code := some k12c1 }
/-- jdk/internal/util/Preconditions -/
def k12 : Class := { plain "jdk/internal/util/Preconditions" (some 0) with
  accessFlags := 33
  interfaces := #[]
  cf := some (fileOf pool12 24 #[.nestMembers #[55, 131, 125, 114]] #[{ accessFlags := 1, nameIndex := 5, descriptorIndex := 6, attributes := #[] }, { accessFlags := 9, nameIndex := 33, descriptorIndex := 178, attributes := #[] }] 33 2 #[] #[{ accessFlags := 25, nameIndex := 123, descriptorIndex := 124, attributes := #[] }, { accessFlags := 25, nameIndex := 130, descriptorIndex := 124, attributes := #[] }, { accessFlags := 25, nameIndex := 136, descriptorIndex := 124, attributes := #[] }])
  fields := #[{ name := "SIOOBE_FORMATTER", type := (.object "java/util/function/BiFunction"), accessFlags := 25, slot := 0, constantValue := 0 }, { name := "AIOOBE_FORMATTER", type := (.object "java/util/function/BiFunction"), accessFlags := 25, slot := 1, constantValue := 0 }, { name := "IOOBE_FORMATTER", type := (.object "java/util/function/BiFunction"), accessFlags := 25, slot := 2, constantValue := 0 }]
  methods := #[k12m0, k12m1]
  instanceTypes := #[]
  staticTypes := #[(.object "java/util/function/BiFunction"), (.object "java/util/function/BiFunction"), (.object "java/util/function/BiFunction")]
  resolved := Array.replicate 194 none
  statics := some 2 }

def pool13 : Array CpInfo := pool [(9, u "<init>"), (6, .class_ 18), (1, u "java/lang/Object"), (0, u "()V"), (1, .class_ 23), (1, u "jdk/internal/util/ArraysSupport"), (0, u "LOG2_ARRAY_LONG_INDEX_SCALE"), (0, u "I"), (2, u "U"), (0, u "Ljdk/internal/misc/Unsafe;"), (8, u "BIG_ENDIAN"), (0, u "Z"), (8, u "LOG2_BYTE_BIT_SIZE"), (4, u "LOG2_ARRAY_INT_INDEX_SCALE"), (54, u "JLA"), (0, u "Ljdk/internal/access/JavaLangAccess;"), (11, u "LOG2_ARRAY_BOOLEAN_INDEX_SCALE"), (9, u "LOG2_ARRAY_BYTE_INDEX_SCALE"), (5, u "LOG2_ARRAY_CHAR_INDEX_SCALE"), (5, u "LOG2_ARRAY_SHORT_INDEX_SCALE"), (18, u "LOG2_ARRAY_FLOAT_INDEX_SCALE"), (24, u "LOG2_ARRAY_DOUBLE_INDEX_SCALE"), (89, u "T_BOOLEAN"), (2, u "T_CHAR"), (1, u "T_FLOAT"), (1, u "T_DOUBLE"), (1, u "T_BYTE"), (1, u "T_SHORT"), (1, u "T_INT"), (1, u "T_LONG"), (1, u "SOFT_MAX_ARRAY_LENGTH")] 83

def k13m0 : Method := { name := "<init>", desc := "()V", sig := { parameters := [], returnType := none }, accessFlags := 2, code := none }
/-- jdk/internal/util/ArraysSupport -/
def k13 : Class := { plain "jdk/internal/util/ArraysSupport" (some 0) with
  accessFlags := 33
  interfaces := #[]
  cf := some (fileOf pool13 21 #[] #[{ accessFlags := 2, nameIndex := 9, descriptorIndex := 19, attributes := #[] }] 33 16 #[] #[{ accessFlags := 24, nameIndex := 28, descriptorIndex := 29, attributes := #[] }, { accessFlags := 26, nameIndex := 38, descriptorIndex := 39, attributes := #[] }, { accessFlags := 25, nameIndex := 121, descriptorIndex := 25, attributes := #[] }, { accessFlags := 25, nameIndex := 131, descriptorIndex := 25, attributes := #[] }, { accessFlags := 25, nameIndex := 137, descriptorIndex := 25, attributes := #[] }, { accessFlags := 25, nameIndex := 143, descriptorIndex := 25, attributes := #[] }, { accessFlags := 25, nameIndex := 53, descriptorIndex := 25, attributes := #[] }, { accessFlags := 25, nameIndex := 24, descriptorIndex := 25, attributes := #[] }, { accessFlags := 25, nameIndex := 162, descriptorIndex := 25, attributes := #[] }, { accessFlags := 25, nameIndex := 187, descriptorIndex := 25, attributes := #[] }, { accessFlags := 26, nameIndex := 48, descriptorIndex := 25, attributes := #[] }, { accessFlags := 25, nameIndex := 277, descriptorIndex := 25, attributes := #[] }, { accessFlags := 25, nameIndex := 280, descriptorIndex := 25, attributes := #[] }, { accessFlags := 25, nameIndex := 282, descriptorIndex := 25, attributes := #[] }, { accessFlags := 25, nameIndex := 284, descriptorIndex := 25, attributes := #[] }, { accessFlags := 25, nameIndex := 286, descriptorIndex := 25, attributes := #[] }, { accessFlags := 25, nameIndex := 288, descriptorIndex := 25, attributes := #[] }, { accessFlags := 25, nameIndex := 290, descriptorIndex := 25, attributes := #[] }, { accessFlags := 25, nameIndex := 292, descriptorIndex := 25, attributes := #[] }, { accessFlags := 26, nameIndex := 108, descriptorIndex := 109, attributes := #[] }, { accessFlags := 25, nameIndex := 294, descriptorIndex := 25, attributes := #[] }])
  fields := #[{ name := "U", type := (.object "jdk/internal/misc/Unsafe"), accessFlags := 24, slot := 0, constantValue := 0 }, { name := "BIG_ENDIAN", type := .boolean, accessFlags := 26, slot := 1, constantValue := 0 }, { name := "LOG2_ARRAY_BOOLEAN_INDEX_SCALE", type := .int, accessFlags := 25, slot := 2, constantValue := 0 }, { name := "LOG2_ARRAY_BYTE_INDEX_SCALE", type := .int, accessFlags := 25, slot := 3, constantValue := 0 }, { name := "LOG2_ARRAY_CHAR_INDEX_SCALE", type := .int, accessFlags := 25, slot := 4, constantValue := 0 }, { name := "LOG2_ARRAY_SHORT_INDEX_SCALE", type := .int, accessFlags := 25, slot := 5, constantValue := 0 }, { name := "LOG2_ARRAY_INT_INDEX_SCALE", type := .int, accessFlags := 25, slot := 6, constantValue := 0 }, { name := "LOG2_ARRAY_LONG_INDEX_SCALE", type := .int, accessFlags := 25, slot := 7, constantValue := 0 }, { name := "LOG2_ARRAY_FLOAT_INDEX_SCALE", type := .int, accessFlags := 25, slot := 8, constantValue := 0 }, { name := "LOG2_ARRAY_DOUBLE_INDEX_SCALE", type := .int, accessFlags := 25, slot := 9, constantValue := 0 }, { name := "LOG2_BYTE_BIT_SIZE", type := .int, accessFlags := 26, slot := 10, constantValue := 0 }, { name := "T_BOOLEAN", type := .int, accessFlags := 25, slot := 11, constantValue := 0 }, { name := "T_CHAR", type := .int, accessFlags := 25, slot := 12, constantValue := 0 }, { name := "T_FLOAT", type := .int, accessFlags := 25, slot := 13, constantValue := 0 }, { name := "T_DOUBLE", type := .int, accessFlags := 25, slot := 14, constantValue := 0 }, { name := "T_BYTE", type := .int, accessFlags := 25, slot := 15, constantValue := 0 }, { name := "T_SHORT", type := .int, accessFlags := 25, slot := 16, constantValue := 0 }, { name := "T_INT", type := .int, accessFlags := 25, slot := 17, constantValue := 0 }, { name := "T_LONG", type := .int, accessFlags := 25, slot := 18, constantValue := 0 }, { name := "JLA", type := (.object "jdk/internal/access/JavaLangAccess"), accessFlags := 26, slot := 19, constantValue := 0 }, { name := "SOFT_MAX_ARRAY_LENGTH", type := .int, accessFlags := 25, slot := 20, constantValue := 0 }]
  methods := #[k13m0]
  instanceTypes := #[]
  staticTypes := #[(.object "jdk/internal/misc/Unsafe"), .boolean, .int, .int, .int, .int, .int, .int, .int, .int, .int, .int, .int, .int, .int, .int, .int, .int, .int, (.object "jdk/internal/access/JavaLangAccess"), .int]
  resolved := Array.replicate 378 none
  statics := none }

/-- the primitive byte -/
def k14 : Class := { plain "byte" none with kind := .primitive 'B', accessFlags := 0x411 }
/-- [B -/
def k15 : Class := { plain "[B" (some 0) with kind := .array 14 .byte, interfaces := #[11, 2], accessFlags := 1041 }

/-- the primitive int -/
def k16 : Class := { plain "int" none with kind := .primitive 'I', accessFlags := 0x411 }
/-- [I -/
def k17 : Class := { plain "[I" (some 0) with kind := .array 16 .int, interfaces := #[11, 2], accessFlags := 1041 }

/-- [Lcom/example/paschalion/paschalion/cli/Option; -/
def k18 : Class := { plain "[Lcom/example/paschalion/paschalion/cli/Option;" (some 0) with kind := .array 10 (.object "com/example/paschalion/paschalion/cli/Option"), interfaces := #[11, 2], accessFlags := 1041 }

def heap : Heap := #[{ cls := 7, slots := #[.long 0, .int 1, .null, .int 0, .null, .int 0, .int 0], vm := .statics 7 },
  { cls := 10, slots := #[.ref 4, .ref 5, .ref 3], vm := .statics 10 },
  { cls := 12, slots := #[.null, .null, .null], vm := .statics 12 },
  { cls := 18, slots := #[.ref 4, .ref 5], vm := .none },
  { cls := 10, slots := #[.null, .int 0, .int 0, .ref 6, .null, .null], vm := .none },
  { cls := 10, slots := #[.null, .int 0, .int 0, .ref 8, .null, .null], vm := .none },
  { cls := 7, slots := #[.ref 7, .int 0, .int 0, .int 0], vm := .none },
  { cls := 15, slots := #[.int 104], vm := .none },
  { cls := 7, slots := #[.ref 9, .int 0, .int 0, .int 0], vm := .none },
  { cls := 15, slots := #[], vm := .none }]
def classes : Array Class := #[k0, k1, k2, k3, k4, k5, k6, k7, k8, k9, k10, k11, k12, k13, k14, k15, k16, k17, k18]
def interned : List (Array UInt16 × Addr) := []
def slotsUsed : Nat := 36
def theMethod : MethodId := ⟨1, 1⟩
def args0 : Array Value := #[.int 5, .int 6]
def aboutOver (below : List Frame) : State where
  vm := { classes := classes, interned := interned.toArray }
  heap := heap
  slotsUsed := slotsUsed
  threads := #[{ frames := .invoking theMethod args0 :: below }]
def below0 : List Frame := [.native { method := ⟨0, 0⟩, args := #[] }]
def about1 : State := aboutOver below0
def p0 : Program := .bare "" "" ""
def e0 : Env := launch0.env 0 0 0
theorem w_frames : about1.frames = Frame.invoking theMethod args0 :: below0 := rfl
set_option maxRecDepth 65536 in
theorem w_args : argsFit about1.vm theMethod args0 = true := by decide +kernel
set_option maxRecDepth 65536 in
theorem w_heap : heapFits about1 = true := by decide +kernel
set_option maxRecDepth 65536 in
theorem w_runnable : about1.curStatus? = some .runnable := by decide +kernel
set_option maxRecDepth 65536 in
theorem w_alone : about1.alone = true := by decide +kernel
set_option maxRecDepth 65536 in
theorem w_named : about1.methodNamed? x = some theMethod := by decide +kernel
set_option maxRecDepth 65536 in
theorem w_hears : about1.hears theMethod below0 = true := by decide +kernel
set_option maxRecDepth 65536 in
theorem w_ripe : about1.ripe theMethod args0 below0 = true := by decide +kernel
theorem w_running : about1.status = .running := rfl
set_option maxRecDepth 65536 in
theorem w_room : about1.hasRoom e0.platform room_1 = true :=
  launch0.hasRoom_least _ room_1 (by decide +kernel) (by decide +kernel) (by decide +kernel) (by decide +kernel) (by decide +kernel) (by decide +kernel)
theorem allAtoms_all (ts : List Jvm.Cond) (a : Array Jvm.Value) (st : Jvm.State) : (allAtoms ts).before a st = ts.all (fun c => c.before a st) := by
  induction ts with
  | nil => rfl
  | cons c t ih =>
    show (Jvm.Cond.and c (allAtoms t)).before a st = _
    rw [Jvm.Cond.before_and, ih, List.all_cons]
def words1 : List Jvm.Cond := Jvm.Cond.code x code maxLocals ret :: tables_1
/-- a 'code' word, met by the world's own term for the bytes: nothing is compared byte by byte -/
theorem code_word {y : MethodName} {bytes : ByteArray} {mx : Nat} {rt : Option FieldType} {a : Array Value} {s : State} {m : MethodId} {meth : Method} {c : Code} (h1 : s.methodNamed? y = some m) (h2 : s.vm.method? m = some meth) (h3 : meth.code = some c) (h4 : c.code = bytes)
    (h5 : (c.maxLocals == mx && c.exceptionTable.isEmpty && decide (c.maxStack ≤ mostOperands) && decide (meth.sig.returnType = rt) && !meth.locks && decide (parseMethodDescriptor y.desc = some meth.sig)) = true) : (Jvm.Cond.code y bytes mx rt).before a s = true := by
  simp only [Bool.and_eq_true, beq_iff_eq, Bool.not_eq_true', decide_eq_true_eq] at h5
  obtain ⟨⟨⟨⟨⟨g1, g2⟩, g3⟩, g4⟩, g5⟩, g6⟩ := h5
  simp [Cond.before, Cond.holds, Cond.value, h1, h2, h3, h4, g1, g2, g3, g4, g5, g6]
def isCode : Jvm.Cond → Bool
  | .code _ _ _ _ => true
  | _ => false
theorem all_split {L : List Jvm.Cond} {P : Jvm.Cond → Bool} (h1 : L.all (fun c => isCode c || P c) = true) (h2 : ∀ c ∈ L.filter isCode, P c = true) : L.all P = true := by
  refine List.all_eq_true.mpr fun c hc => ?_
  have h := List.all_eq_true.mp h1 c hc
  rcases Bool.eq_false_or_eq_true (isCode c) with hi | hi
  · exact h2 c (List.mem_filter.mpr ⟨hc, hi⟩)
  · simpa [hi] using h
set_option maxRecDepth 65536 in
theorem w_c0 : (Jvm.Cond.code x code maxLocals ret).before args0 about1 = true := code_word (m := ⟨1, 1⟩) (meth := k1m1) (c := k1c1) (by decide +kernel) rfl rfl rfl (by decide +kernel)
set_option maxRecDepth 65536 in
theorem w_c1 : (Jvm.Cond.code ({ cls := "java/lang/String", name := "valueOf", desc := "(C)Ljava/lang/String;" } : Jvm.MethodName) jdk_42_method_139_code (1 : Nat) (Option.some (Jvm.ClassFile.FieldType.object "java/lang/String"))).before args0 about1 = true := code_word (m := ⟨7, 4⟩) (meth := k7m4) (c := k7c4) (by decide +kernel) rfl rfl rfl (by decide +kernel)
set_option maxRecDepth 65536 in
theorem w_c2 : (Jvm.Cond.code ({ cls := "java/lang/StringLatin1", name := "canEncode", desc := "(C)Z" } : Jvm.MethodName) jdk_43_method_3_code (1 : Nat) (Option.some Jvm.ClassFile.FieldType.boolean)).before args0 about1 = true := code_word (m := ⟨8, 2⟩) (meth := k8m2) (c := k8c2) (by decide +kernel) rfl rfl rfl (by decide +kernel)
set_option maxRecDepth 65536 in
theorem w_c3 : (Jvm.Cond.code ({ cls := "java/lang/StringLatin1", name := "toBytes", desc := "(C)[B" } : Jvm.MethodName) jdk_43_method_46_code (1 : Nat) (Option.some (Jvm.ClassFile.FieldType.array Jvm.ClassFile.FieldType.byte))).before args0 about1 = true := code_word (m := ⟨8, 4⟩) (meth := k8m4) (c := k8c4) (by decide +kernel) rfl rfl rfl (by decide +kernel)
set_option maxRecDepth 65536 in
theorem w_c4 : (Jvm.Cond.code ({ cls := "java/lang/String", name := "<init>", desc := "([BB)V" } : Jvm.MethodName) jdk_42_method_151_code (3 : Nat) (Option.none : Option Jvm.ClassFile.FieldType)).before args0 about1 = true := code_word (m := ⟨7, 5⟩) (meth := k7m5) (c := k7c5) (by decide +kernel) rfl rfl rfl (by decide +kernel)
set_option maxRecDepth 65536 in
theorem w_c5 : (Jvm.Cond.code ({ cls := "java/lang/Object", name := "<init>", desc := "()V" } : Jvm.MethodName) object_method_1_code (1 : Nat) (Option.none : Option Jvm.ClassFile.FieldType)).before args0 about1 = true := code_word (m := ⟨0, 0⟩) (meth := k0m0) (c := k0c0) (by decide +kernel) rfl rfl rfl (by decide +kernel)
set_option maxRecDepth 65536 in
theorem w_c6 : (Jvm.Cond.code ({ cls := "com/example/paschalion/paschalion/cli/Option", name := "lettered", desc := "(Ljava/lang/String;)Lcom/example/paschalion/paschalion/cli/Option;" } : Jvm.MethodName) prog_10_method_5_code (5 : Nat) (Option.some (Jvm.ClassFile.FieldType.object "com/example/paschalion/paschalion/cli/Option"))).before args0 about1 = true := code_word (m := ⟨10, 1⟩) (meth := k10m1) (c := k10c1) (by decide +kernel) rfl rfl rfl (by decide +kernel)
set_option maxRecDepth 65536 in
theorem w_c7 : (Jvm.Cond.code ({ cls := "com/example/paschalion/paschalion/cli/Option", name := "values", desc := "()[Lcom/example/paschalion/paschalion/cli/Option;" } : Jvm.MethodName) prog_10_method_1_code (0 : Nat) (Option.some (Jvm.ClassFile.FieldType.array (Jvm.ClassFile.FieldType.object "com/example/paschalion/paschalion/cli/Option")))).before args0 about1 = true := code_word (m := ⟨10, 0⟩) (meth := k10m0) (c := k10c0) (by decide +kernel) rfl rfl rfl (by decide +kernel)
set_option maxRecDepth 65536 in
theorem w_c8 : (Jvm.Cond.code ({ cls := "java/lang/String", name := "equals", desc := "(Ljava/lang/Object;)Z" } : Jvm.MethodName) jdk_42_method_66_code (3 : Nat) (Option.some Jvm.ClassFile.FieldType.boolean)).before args0 about1 = true := code_word (m := ⟨7, 3⟩) (meth := k7m3) (c := k7c3) (by decide +kernel) rfl rfl rfl (by decide +kernel)
set_option maxRecDepth 65536 in
theorem w_c9 : (Jvm.Cond.code ({ cls := "java/lang/StringLatin1", name := "equals", desc := "([B[B)Z" } : Jvm.MethodName) jdk_43_method_13_code (3 : Nat) (Option.some Jvm.ClassFile.FieldType.boolean)).before args0 about1 = true := code_word (m := ⟨8, 3⟩) (meth := k8m3) (c := k8c3) (by decide +kernel) rfl rfl rfl (by decide +kernel)
set_option maxRecDepth 65536 in
theorem w_c10 : (Jvm.Cond.code ({ cls := "com/example/paschalion/paschalion/cli/Option", name := "letter", desc := "()Ljava/lang/String;" } : Jvm.MethodName) prog_10_method_7_code (1 : Nat) (Option.some (Jvm.ClassFile.FieldType.object "java/lang/String"))).before args0 about1 = true := code_word (m := ⟨10, 2⟩) (meth := k10m2) (c := k10c2) (by decide +kernel) rfl rfl rfl (by decide +kernel)
set_option maxRecDepth 65536 in
theorem w_c11 : (Jvm.Cond.code ({ cls := "java/lang/String", name := "length", desc := "()I" } : Jvm.MethodName) jdk_42_method_54_code (1 : Nat) (Option.some Jvm.ClassFile.FieldType.int)).before args0 about1 = true := code_word (m := ⟨7, 1⟩) (meth := k7m1) (c := k7c1) (by decide +kernel) rfl rfl rfl (by decide +kernel)
set_option maxRecDepth 65536 in
theorem w_c12 : (Jvm.Cond.code ({ cls := "java/lang/String", name := "coder", desc := "()B" } : Jvm.MethodName) jdk_42_method_152_code (1 : Nat) (Option.some Jvm.ClassFile.FieldType.byte)).before args0 about1 = true := code_word (m := ⟨7, 6⟩) (meth := k7m6) (c := k7c6) (by decide +kernel) rfl rfl rfl (by decide +kernel)
set_option maxRecDepth 65536 in
theorem w_c13 : (Jvm.Cond.code ({ cls := "java/lang/String", name := "charAt", desc := "(I)C" } : Jvm.MethodName) jdk_42_method_56_code (2 : Nat) (Option.some Jvm.ClassFile.FieldType.char)).before args0 about1 = true := code_word (m := ⟨7, 2⟩) (meth := k7m2) (c := k7c2) (by decide +kernel) rfl rfl rfl (by decide +kernel)
set_option maxRecDepth 65536 in
theorem w_c14 : (Jvm.Cond.code ({ cls := "java/lang/String", name := "isLatin1", desc := "()Z" } : Jvm.MethodName) jdk_42_method_154_code (1 : Nat) (Option.some Jvm.ClassFile.FieldType.boolean)).before args0 about1 = true := code_word (m := ⟨7, 7⟩) (meth := k7m7) (c := k7c7) (by decide +kernel) rfl rfl rfl (by decide +kernel)
set_option maxRecDepth 65536 in
theorem w_c15 : (Jvm.Cond.code ({ cls := "java/lang/StringLatin1", name := "charAt", desc := "([BI)C" } : Jvm.MethodName) jdk_43_method_2_code (2 : Nat) (Option.some Jvm.ClassFile.FieldType.char)).before args0 about1 = true := code_word (m := ⟨8, 1⟩) (meth := k8m1) (c := k8c1) (by decide +kernel) rfl rfl rfl (by decide +kernel)
set_option maxRecDepth 65536 in
theorem w_c16 : (Jvm.Cond.code ({ cls := "java/lang/String", name := "checkIndex", desc := "(II)V" } : Jvm.MethodName) jdk_42_method_155_code (2 : Nat) (Option.none : Option Jvm.ClassFile.FieldType)).before args0 about1 = true := code_word (m := ⟨7, 8⟩) (meth := k7m8) (c := k7c8) (by decide +kernel) rfl rfl rfl (by decide +kernel)
set_option maxRecDepth 65536 in
theorem w_c17 : (Jvm.Cond.code ({ cls := "jdk/internal/util/Preconditions", name := "checkIndex", desc := "(IILjava/util/function/BiFunction;)I" } : Jvm.MethodName) jdk_41_method_11_code (3 : Nat) (Option.some Jvm.ClassFile.FieldType.int)).before args0 about1 = true := code_word (m := ⟨12, 1⟩) (meth := k12m1) (c := k12c1) (by decide +kernel) rfl rfl rfl (by decide +kernel)
def codes1 : List Jvm.Cond := [Jvm.Cond.code x code maxLocals ret, Jvm.Cond.code ({ cls := "java/lang/String", name := "valueOf", desc := "(C)Ljava/lang/String;" } : Jvm.MethodName) jdk_42_method_139_code (1 : Nat) (Option.some (Jvm.ClassFile.FieldType.object "java/lang/String")), Jvm.Cond.code ({ cls := "java/lang/StringLatin1", name := "canEncode", desc := "(C)Z" } : Jvm.MethodName) jdk_43_method_3_code (1 : Nat) (Option.some Jvm.ClassFile.FieldType.boolean), Jvm.Cond.code ({ cls := "java/lang/StringLatin1", name := "toBytes", desc := "(C)[B" } : Jvm.MethodName) jdk_43_method_46_code (1 : Nat) (Option.some (Jvm.ClassFile.FieldType.array Jvm.ClassFile.FieldType.byte)), Jvm.Cond.code ({ cls := "java/lang/String", name := "<init>", desc := "([BB)V" } : Jvm.MethodName) jdk_42_method_151_code (3 : Nat) (Option.none : Option Jvm.ClassFile.FieldType), Jvm.Cond.code ({ cls := "java/lang/Object", name := "<init>", desc := "()V" } : Jvm.MethodName) object_method_1_code (1 : Nat) (Option.none : Option Jvm.ClassFile.FieldType), Jvm.Cond.code ({ cls := "com/example/paschalion/paschalion/cli/Option", name := "lettered", desc := "(Ljava/lang/String;)Lcom/example/paschalion/paschalion/cli/Option;" } : Jvm.MethodName) prog_10_method_5_code (5 : Nat) (Option.some (Jvm.ClassFile.FieldType.object "com/example/paschalion/paschalion/cli/Option")), Jvm.Cond.code ({ cls := "com/example/paschalion/paschalion/cli/Option", name := "values", desc := "()[Lcom/example/paschalion/paschalion/cli/Option;" } : Jvm.MethodName) prog_10_method_1_code (0 : Nat) (Option.some (Jvm.ClassFile.FieldType.array (Jvm.ClassFile.FieldType.object "com/example/paschalion/paschalion/cli/Option"))), Jvm.Cond.code ({ cls := "java/lang/String", name := "equals", desc := "(Ljava/lang/Object;)Z" } : Jvm.MethodName) jdk_42_method_66_code (3 : Nat) (Option.some Jvm.ClassFile.FieldType.boolean), Jvm.Cond.code ({ cls := "java/lang/StringLatin1", name := "equals", desc := "([B[B)Z" } : Jvm.MethodName) jdk_43_method_13_code (3 : Nat) (Option.some Jvm.ClassFile.FieldType.boolean), Jvm.Cond.code ({ cls := "com/example/paschalion/paschalion/cli/Option", name := "letter", desc := "()Ljava/lang/String;" } : Jvm.MethodName) prog_10_method_7_code (1 : Nat) (Option.some (Jvm.ClassFile.FieldType.object "java/lang/String")), Jvm.Cond.code ({ cls := "java/lang/String", name := "length", desc := "()I" } : Jvm.MethodName) jdk_42_method_54_code (1 : Nat) (Option.some Jvm.ClassFile.FieldType.int), Jvm.Cond.code ({ cls := "java/lang/String", name := "coder", desc := "()B" } : Jvm.MethodName) jdk_42_method_152_code (1 : Nat) (Option.some Jvm.ClassFile.FieldType.byte), Jvm.Cond.code ({ cls := "java/lang/String", name := "charAt", desc := "(I)C" } : Jvm.MethodName) jdk_42_method_56_code (2 : Nat) (Option.some Jvm.ClassFile.FieldType.char), Jvm.Cond.code ({ cls := "java/lang/String", name := "isLatin1", desc := "()Z" } : Jvm.MethodName) jdk_42_method_154_code (1 : Nat) (Option.some Jvm.ClassFile.FieldType.boolean), Jvm.Cond.code ({ cls := "java/lang/StringLatin1", name := "charAt", desc := "([BI)C" } : Jvm.MethodName) jdk_43_method_2_code (2 : Nat) (Option.some Jvm.ClassFile.FieldType.char), Jvm.Cond.code ({ cls := "java/lang/String", name := "checkIndex", desc := "(II)V" } : Jvm.MethodName) jdk_42_method_155_code (2 : Nat) (Option.none : Option Jvm.ClassFile.FieldType), Jvm.Cond.code ({ cls := "jdk/internal/util/Preconditions", name := "checkIndex", desc := "(IILjava/util/function/BiFunction;)I" } : Jvm.MethodName) jdk_41_method_11_code (3 : Nat) (Option.some Jvm.ClassFile.FieldType.int)]
set_option maxRecDepth 65536 in
theorem codes_eq : words1.filter isCode = codes1 := rfl
theorem w_codes : ∀ c ∈ words1.filter isCode, c.before args0 about1 = true := by
  rw [codes_eq]
  intro c hc
  simp only [codes1, List.mem_cons, List.not_mem_nil, or_false] at hc
  rcases hc with rfl | rfl | rfl | rfl | rfl | rfl | rfl | rfl | rfl | rfl | rfl | rfl | rfl | rfl | rfl | rfl | rfl | rfl
  · exact w_c0
  · exact w_c1
  · exact w_c2
  · exact w_c3
  · exact w_c4
  · exact w_c5
  · exact w_c6
  · exact w_c7
  · exact w_c8
  · exact w_c9
  · exact w_c10
  · exact w_c11
  · exact w_c12
  · exact w_c13
  · exact w_c14
  · exact w_c15
  · exact w_c16
  · exact w_c17
set_option maxRecDepth 65536 in
theorem w_t1 : (words1.take 24).all (fun c => isCode c || c.before args0 about1) = true := by decide +kernel
set_option maxRecDepth 65536 in
theorem w_t2 : ((words1.drop 24).take 24).all (fun c => isCode c || c.before args0 about1) = true := by decide +kernel
set_option maxRecDepth 65536 in
theorem w_t3 : (((words1.drop 24).drop 24).take 24).all (fun c => isCode c || c.before args0 about1) = true := by decide +kernel
set_option maxRecDepth 65536 in
theorem w_t4 : ((((words1.drop 24).drop 24).drop 24).take 24).all (fun c => isCode c || c.before args0 about1) = true := by decide +kernel
set_option maxRecDepth 65536 in
theorem w_t5 : ((((words1.drop 24).drop 24).drop 24).drop 24).all (fun c => isCode c || c.before args0 about1) = true := by decide +kernel
theorem w_tables : (allAtoms (Jvm.Cond.code x code maxLocals ret :: tables_1)).before args0 about1 = true := by
  rw [allAtoms_all]
  show words1.all (fun c => c.before args0 about1) = true
  refine all_split ?_ w_codes
  rw [← List.take_append_drop 24 words1, List.all_append, w_t1, ← List.take_append_drop 24 (words1.drop 24), List.all_append, w_t2, ← List.take_append_drop 24 ((words1.drop 24).drop 24), List.all_append, w_t3, ← List.take_append_drop 24 (((words1.drop 24).drop 24).drop 24), List.all_append, w_t4, w_t5]
  rfl
set_option maxRecDepth 65536 in
theorem w_rest : rest_1_c.before args0 about1 = true := by decide +kernel
set_option maxRecDepth 65536 in
theorem w_case : (Jvm.Cond.and given_1 narrow_1).before args0 about1 = true := by decide +kernel
theorem w_applies : (headSpec (Jvm.Cond.code x code maxLocals ret :: tables_1) room_1).applies x e0.platform about1 = true :=
  (Spec.applies_iff w_frames).mpr ⟨w_running, w_runnable, w_alone, w_named, w_hears, w_ripe, w_room, w_tables⟩
theorem atStart : AtStart classFile x code maxLocals ret World_1 tables_1 room_1 Calls_1 rest_1 Pre_1 launch0 p0 e0 about1 theMethod args0 below0 :=
  ⟨lists_1, trivial, launch0.admits_env _ _ _, launch0.least_env, fairChoices_fair.cas, fairChoices_fair.clock, w_frames, w_args, w_heap, w_applies, trivial, w_rest, w_case⟩
end start1
theorem witness_1 : WitnessClaimed_1 := ⟨start1.p0, start1.e0, start1.about1, start1.theMethod, start1.args0, start1.below0, start1.atStart⟩
end Jvm.Pilot.@@N@@
