import JvmDerived
import JvmDerived.Pilot.@@N@@Statement
import JvmDerived.Pilot.@@N@@Code
set_option linter.unusedVariables false
set_option linter.unusedSimpArgs false
@@BLOCK:NumsL.lean.txt@@
namespace Jvm.Own
open Sem ClassFile Op Lib Jvm.Stand Jvm.Free Jvm.LawKit Jvm.RoadKit
/-! a list of owned cells (all made since the start), each with what it holds; the start's own heap stays as it was -/
abbrev FK := String × String × String
abbrev Fs := List (FK × Value)
abbrev Rec := (String × Fs) ⊕ (FieldType × List Value × Bool)
abbrev Ent := Addr × Rec
def slK (Z : State) (k : FK) : Nat := RoadKit.slotOf Z k.1 k.2.1 k.2.2
def Hold (Z : State) (h : Heap) (a : Addr) : Rec → Prop
  | .inl (C, fs) => Exa Z h a C ∧ (∀ (i : Nat) (f : FK × Value), fs[i]? = some f → Fld Z h a f.1.1 f.1.2.1 f.1.2.2 f.2) ∧ (fs.map fun f => slK Z f.1).Nodup
  | .inr (ty, vs, b) => ∃ c : Cell, Arr Z h a c ty ∧ c.slots.toList = vs ∧ (b = true → ∀ C, ty = .object C → Ovr Z c.cls C)
def Rep (Z : State) (h : Heap) (M : List Ent) : Prop := Ext Z.heap h ∧ (∀ (i : Nat) (x : Ent), M[i]? = some x → Z.heap.size ≤ x.1 ∧ Hold Z h x.1 x.2) ∧ (M.map fun x => x.1).Nodup
section Facts
variable {Z : State} {h h' : Heap} {a b : Addr} {sl k j : Nat} {v w : Value} {r : Rec} {M : List Ent} {C : String} {fs : Fs} {f : FK}
theorem Hold.other (W : Wr h h' a sl v) (H : Hold Z h b r) (hne : b ≠ a) : Hold Z h' b r := by
  rcases r with ⟨C, fs⟩ | ⟨ty, vs, b'⟩
  · exact ⟨H.1.wr W, fun i f hf => (H.2.1 i f hf).other W (Or.inl hne), H.2.2⟩
  · obtain ⟨c, A, q⟩ := H
    exact ⟨c, A.other W hne, q⟩
theorem Hold.ext (E : Ext h h') (H : Hold Z h b r) : Hold Z h' b r := by
  rcases r with ⟨C, fs⟩ | ⟨ty, vs, b'⟩
  · exact ⟨H.1.ext E, fun i f hf => (H.2.1 i f hf).ext E, H.2.2⟩
  · obtain ⟨c, A, q⟩ := H
    exact ⟨c, A.ext E, q⟩
theorem Hold.lt (H : Hold Z h b r) : b < h.size := by
  rcases r with ⟨C, fs⟩ | ⟨ty, vs, b'⟩
  · exact H.1.lt
  · obtain ⟨c, A, q⟩ := H
    exact A.lt
theorem nd_inj {α : Type} {L : List α} (hn : L.Nodup) {i j : Nat} {x : α} (h1 : L[i]? = some x) (h2 : L[j]? = some x) : i = j :=
  (List.getElem?_inj (List.getElem?_eq_some_iff.mp h1).1 hn).mp (h1.trans h2.symm)
theorem Rep.inj (R : Rep Z h M) {i j : Nat} {x y : Ent} (h1 : M[i]? = some x) (h2 : M[j]? = some y) (e : x.1 = y.1) : i = j :=
  nd_inj (x := x.1) R.2.2 (by rw [List.getElem?_map, h1]; rfl) (by rw [List.getElem?_map, h2, e]; rfl)
theorem Rep.ne (R : Rep Z h M) {i j : Nat} {x y : Ent} (h1 : M[i]? = some x) (h2 : M[j]? = some y) (e : i ≠ j) : x.1 ≠ y.1 := fun q => e (R.inj h1 h2 q)
theorem Rep.fresh (R : Rep Z h M) {i : Nat} {x : Ent} (h1 : M[i]? = some x) : Z.heap.size ≤ x.1 := (R.2.1 i x h1).1
theorem map_set_same {α β : Type} {g : α → β} {L : List α} {x y : α} (h1 : L[k]? = some x) (e : g y = g x) : (L.set k y).map g = L.map g := by
  apply List.ext_getElem?
  intro i
  simp only [List.getElem?_map, List.getElem?_set]
  by_cases q : k = i
  · subst q
    obtain ⟨hl, hx⟩ := List.getElem?_eq_some_iff.mp h1
    simp [hl, e, h1, hx]
  · simp [q]
theorem Rep.wrote (R : Rep Z h M) (hk : M[k]? = some (a, r)) (W : Wr h h' a sl v) {r' : Rec} (H : Hold Z h' a r') : Rep Z h' (M.set k (a, r')) := by
  have ha := R.fresh hk
  refine ⟨(Old.wr ⟨rfl, R.1⟩ W ha).2, fun i x hx => ?_, ?_⟩
  · rw [List.getElem?_set] at hx
    by_cases q : k = i
    · subst q
      rw [if_pos rfl] at hx
      split at hx
      · cases hx
        exact ⟨ha, H⟩
      · cases hx
    · rw [if_neg q] at hx
      have g := R.2.1 i x hx
      exact ⟨g.1, g.2.other W (R.ne hx hk (Ne.symm q))⟩
  · rw [map_set_same (g := fun x : Ent => x.1) (y := (a, r')) hk rfl]
    exact R.2.2
theorem Hold.put (H : Hold Z h a (.inl (C, fs))) (hj : fs[j]? = some (f, w)) (W : Wr h h' a (slK Z f) v) : Hold Z h' a (.inl (C, fs.set j (f, v))) := by
  refine ⟨H.1.wr W, fun i x hx => ?_, ?_⟩
  · rw [List.getElem?_set] at hx
    by_cases q : j = i
    · subst q
      rw [if_pos rfl] at hx
      split at hx
      · cases hx
        exact (H.2.1 _ _ hj).same W
      · cases hx
    · rw [if_neg q] at hx
      refine (H.2.1 i x hx).other W (Or.inr fun e => q ?_)
      exact nd_inj (x := slK Z f) H.2.2 (by rw [List.getElem?_map, hj]; rfl) (by rw [List.getElem?_map, hx]; exact congrArg some e)
  · rw [map_set_same (g := fun f : FK × Value => slK Z f.1) (y := (f, v)) hj rfl]
    exact H.2.2
theorem Hold.store {ty : FieldType} {vs : List Value} {b : Bool} (H : Hold Z h a (.inr (ty, vs, b))) (W : Wr h h' a j v) : Hold Z h' a (.inr (ty, vs.set j v, b)) := by
  obtain ⟨c, A, q, o⟩ := H
  refine ⟨_, A.same W, ?_, o⟩
  simp [Cell.setSlot, ← q]
theorem Rep.new (R : Rep Z h M) (E : Ext h h') (hs : a = h.size) {r : Rec} (H : Hold Z h' a r) : Rep Z h' ((a, r) :: M) := by
  refine ⟨(Old.ext ⟨rfl, R.1⟩ E).2, fun i x hx => ?_, ?_⟩
  · rcases i with _ | i
    · cases hx
      exact ⟨by rw [hs]; exact R.1.1, H⟩
    · have g := R.2.1 i x hx
      exact ⟨g.1, g.2.ext E⟩
  · rw [List.map_cons, List.nodup_cons]
    refine ⟨fun m => ?_, R.2.2⟩
    obtain ⟨x, hx, e⟩ := List.mem_map.mp m
    obtain ⟨i, hi⟩ := List.mem_iff_getElem?.mp hx
    have hlt := (R.2.1 i x hi).2.lt
    have e : x.1 = a := e
    rw [e, hs] at hlt
    exact Nat.lt_irrefl _ hlt
theorem nd_pick {α : Type} {N : List α} (hn : N.Nodup) (n : Nat) (idx : List Nat) (h1 : idx.Nodup) (h2 : ∀ i ∈ idx, i < n) : (idx.filterMap (fun i => N[i]?) ++ N.drop n).Nodup := by
  rw [List.nodup_append]
  refine ⟨?_, hn.sublist (List.drop_sublist n N), ?_⟩
  · refine List.Pairwise.filterMap (fun i => N[i]?) ?_ h1
    intro i j hij x hx y hy e
    subst e
    exact hij (nd_inj hn hx hy)
  · intro x hx y hy e
    subst e
    obtain ⟨i, hi, hx⟩ := List.mem_filterMap.mp hx
    obtain ⟨j, hj⟩ := List.mem_iff_getElem?.mp hy
    rw [List.getElem?_drop] at hj
    have := nd_inj hn hx hj
    have := h2 i hi
    omega
theorem Rep.pick (R : Rep Z h M) (n : Nat) (idx : List Nat) (h1 : idx.Nodup) (h2 : ∀ i ∈ idx, i < n) : Rep Z h (idx.filterMap (fun i => M[i]?) ++ M.drop n) := by
  refine ⟨R.1, fun i x hx => ?_, ?_⟩
  · have hm := List.mem_of_getElem? hx
    rcases List.mem_append.mp hm with q | q
    · obtain ⟨j, -, hj⟩ := List.mem_filterMap.mp q
      exact R.2.1 j x hj
    · obtain ⟨j, hj⟩ := List.mem_iff_getElem?.mp (List.mem_of_mem_drop q)
      exact R.2.1 j x hj
  · have := nd_pick R.2.2 n idx h1 h2
    rw [List.map_append, List.map_drop, List.map_filterMap]
    simpa [List.getElem?_map] using this
theorem Rep.fld {O nm d : String} (R : Rep Z h M) (k j : Nat) (hk : M[k]? = some (a, .inl (C, fs))) (hj : fs[j]? = some ((O, nm, d), v)) : Fld Z h a O nm d v := (R.2.1 k _ hk).2.2.1 j _ hj
theorem Rep.exa (R : Rep Z h M) (k : Nat) (hk : M[k]? = some (a, .inl (C, fs))) : Exa Z h a C := (R.2.1 k _ hk).2.1
end Facts
theorem wd {L : List Cond} {a0 : Array Value} {Z : State} {d : Cond} (hw : ∀ d ∈ L, d.before a0 Z = true) (i : Nat) (h : L[i]? = some d) : d.before a0 Z = true := hw d (List.mem_of_getElem? h)
/-! the walk -/
abbrev E0 := Program × Env × State × MethodId × Array Value × List Frame × Method × Code
def Cx (Z : State) (y : MethodName) (code : ByteArray) (maxL : Nat) (ret : Option FieldType) (E : E0) : Prop :=
  E.1.tables.exec = Jvm.exec ∧ Z.Warmed39 E.2.2.1.vm ∧ E.2.2.1.vm.findClass y.cls = some E.2.2.2.1.cls ∧ E.2.2.2.2.2.2.2.code = code ∧ E.2.2.2.2.2.2.2.maxLocals = maxL ∧ E.2.2.2.2.2.2.1.sig.returnType = ret ∧ E.2.2.2.2.2.2.1.locks = false ∧ E.2.2.2.2.2.2.1.name = y.name
abbrev PQ := Option Value → List Ent → Prop
def StE (l : Launch) (R : Room) (E : E0) (T : State) (locs : List Loc) (k n : Nat) : Prop :=
  Stand E.1 l E.2.1 R E.2.2.1 E.2.2.2.1 E.2.2.2.2.1 E.2.2.2.2.2.1 E.2.2.2.2.2.2.1 E.2.2.2.2.2.2.2 T locs k n
def Go (l : Launch) (Z : State) (R : Room) (E : E0) (Q : PQ) (M : List Ent) (k n pc : Nat) (Ls : Array Slot) (st : List Value) : Prop :=
  ∀ T locs, StE l R E T locs k n → Fr Z.heap.size locs → Rep Z T.heap M →
    ∃ s₂ v L, Steps E.1.tables E.2.1 E.2.2.2.2.2.1 (T.setTop (mkF E.2.2.2.1 pc Ls st)) s₂ ∧ s₂.status = .running ∧ Ended s₂ E.2.2.2.2.2.1 (.returned v) ∧ Fr Z.heap.size L ∧ (∃ M', Q v M' ∧ Rep Z s₂.heap M') ∧ FrameEnd E.2.2.1 (.returned v) s₂ L R.cells R.slots
def Met (l : Launch) (Z : State) (y : MethodName) (bytes : ByteArray) (maxL : Nat) (ret : Option FieldType) (rm : Room) (as : Array Value) (M : List Ent) (Q : PQ) : Prop :=
  ∀ (ws : List Cond) (h : Heap), Rep Z h M → MetFree l y (head1 (Cond.code y bytes maxL ret :: ws) rm) (fun a U => a = as ∧ Z.Warmed39 U.vm ∧ U.heap = h) (fun _ _ _ _ _ => True) (fun _ U o U' => ∃ v L, o = .returned v ∧ (Fr Z.heap.size L ∧ ∃ M', Q v M' ∧ Rep Z U'.heap M') ∧ FrameEnd U o U' L rm.cells rm.slots)
theorem Met.of_go {l : Launch} {Z : State} {y : MethodName} {bytes : ByteArray} {maxL : Nat} {ret : Option FieldType} {rm : Room} {as : Array Value} {M : List Ent} {Q : PQ} {Ls : Array Slot} (hp : plainFor y = true) (hef : ∀ m, entryFrame m as maxL = mkF m 0 Ls [])
    (H : ∀ E, Cx Z y bytes maxL ret E → Go l Z rm E Q M 0 0 0 Ls []) : Met l Z y bytes maxL ret rm as M Q := by
  intro ws h r
  refine MetFree.of_bodySF hp hisR ?_
  intro p e s m args below meth c s₁ Bd hml0 hP hK
  obtain ⟨rfl, hZ, hh⟩ := hP
  have X0 : Stand p l e rm s m args below meth c s₁ [] 0 0 := Stand.of_body Bd
  have e0 : s₁.heap = h := by rw [← hh, Bd.state]; rfl
  obtain ⟨s₂, v, L, h1, h2, h3, h4, h5, h6⟩ := H (p, e, s, m, args, below, meth, c) ⟨Bd.exec, hZ, findClass_of_methodNamed Bd.named, Bd.bytes, hml0, Bd.returns, Bd.notSynchronized, (name_of_methodNamed Bd.named Bd.method).1⟩ s₁ [] X0 (Fr.nil _) (by rw [e0]; exact r)
  exact ⟨s₂, .returned v, castTop (hef m) h1, h2, h3, v, L, rfl, ⟨h4, h5⟩, h6⟩
theorem Met.mono {l : Launch} {Z : State} {y : MethodName} {bytes : ByteArray} {maxL : Nat} {ret : Option FieldType} {rm : Room} {as : Array Value} {M : List Ent} {Q Q' : PQ} (H : Met l Z y bytes maxL ret rm as M Q) (hq : ∀ v M', Q v M' → Q' v M') : Met l Z y bytes maxL ret rm as M Q' := by
  intro ws h r p e ha hc hk s m args below hf happ hP hK
  obtain ⟨n, o, h1, h2, h3, v, L, h4, ⟨h5, M', h6, h7⟩, h8⟩ := H ws h r p e ha hc hk s m args below hf happ hP hK
  exact ⟨n, o, h1, h2, h3, v, L, h4, ⟨h5, M', hq _ _ h6, h7⟩, h8⟩
section Walk
variable {l : Launch} {Z : State} {R : Room} {E : E0} {Q : PQ} {M : List Ent} {k n pc q : Nat} {Ls Ls' : Array Slot} {st : List Value} {x : MethodName} {code : ByteArray} {maxL : Nat} {ret : Option FieldType} {a0 : Array Value}
theorem Go.plain {q : Nat} {Ls' : Array Slot} {st' : List Value} (hr : Go l Z R E Q M k n q Ls' st')
    (hs : ∀ T locs t, StE l R E T locs k n → Steps E.1.tables E.2.1 E.2.2.2.2.2.1 (T.setTop (mkF E.2.2.2.1 q Ls' st')) t → Steps E.1.tables E.2.1 E.2.2.2.2.2.1 (T.setTop (mkF E.2.2.2.1 pc Ls st)) t) : Go l Z R E Q M k n pc Ls st := by
  intro T locs X F r
  obtain ⟨s₂, v, L, h1, h2⟩ := hr T locs X F r
  exact ⟨s₂, v, L, hs _ _ _ X h1, h2⟩
theorem Go.rep {M' : List Ent} (h : ∀ h, Rep Z h M → Rep Z h M') (hr : Go l Z R E Q M' k n pc Ls st) : Go l Z R E Q M k n pc Ls st := fun T locs X F r => hr T locs X F (h _ r)
theorem Go.know {P : Prop} (h : ∀ h, Rep Z h M → P) (hr : P → Go l Z R E Q M k n pc Ls st) : Go l Z R E Q M k n pc Ls st := fun T locs X F r => hr (h _ r) T locs X F r
theorem Go.more {k' n' : Nat} (hk : k ≤ k') (hn : n ≤ n') (hr : Go l Z R E Q M k' n' pc Ls st) : Go l Z R E Q M k n pc Ls st := fun T locs X F r => hr T locs (X.more hk hn) F r
theorem Go.pick {M' : List Ent} (i : Nat) (idx : List Nat) (h1 : idx.Nodup) (h2 : ∀ j ∈ idx, j < i) (hM : idx.filterMap (fun i => M[i]?) ++ M.drop i = M') (hr : Go l Z R E Q M' k n pc Ls st) : Go l Z R E Q M k n pc Ls st :=
  Go.rep (fun _ r => hM ▸ r.pick i idx h1 h2) hr
theorem Go.joinI {q : Nat} {Ls' : Array Slot} {st' : List Value} (v : Int32) (hJ : Go l Z R E Q M k n q Ls' (.int v :: st')) (hr : (∀ c : Int32, c = v → Go l Z R E Q M k n q Ls' (.int c :: st')) → Go l Z R E Q M k n pc Ls st) : Go l Z R E Q M k n pc Ls st := hr fun c e => e ▸ hJ
theorem Go.joinJ {q : Nat} {Ls' : Array Slot} {st' : List Value} (v : Int64) (hJ : Go l Z R E Q M k n q Ls' (.long v :: st')) (hr : (∀ c : Int64, c = v → Go l Z R E Q M k n q Ls' (.long c :: st')) → Go l Z R E Q M k n pc Ls st) : Go l Z R E Q M k n pc Ls st := hr fun c e => e ▸ hJ
theorem Go.joinW {q : Nat} {Ls' : Array Slot} {st' : List Value} (hJ : Go l Z R E Q M k n q Ls' st') (hr : Go l Z R E Q M k n q Ls' st' → Go l Z R E Q M k n pc Ls st) : Go l Z R E Q M k n pc Ls st := hr hJ
theorem Go.castI {u w : Int32} (h : u = w) (hr : Go l Z R E Q M k n pc Ls (.int w :: st)) : Go l Z R E Q M k n pc Ls (.int u :: st) := h ▸ hr
theorem Go.castJ {u w : Int64} (h : u = w) (hr : Go l Z R E Q M k n pc Ls (.long w :: st)) : Go l Z R E Q M k n pc Ls (.long u :: st) := h ▸ hr
/-! plain steps -/
theorem Go.aloadN (C : Cx Z x code maxL ret E) {j : Fin 4} {v : Value} (hd : decode code pc = .ok (.aload_n j, 1)) (hq : pc + 1 = q) (hl : Ls[j.val]? = some (.val v)) (hv : v.isRef = true) (hr : Go l Z R E Q M k n q Ls (v :: st)) : Go l Z R E Q M k n pc Ls st :=
  Go.plain hr fun _ _ _ X s => XS.aloadN X.here C.1 rfl (hb C.2.2.2.1 hd) hl hv (hq ▸ s)
theorem Go.aload (C : Cx Z x code maxL ret E) {j : Nat} {v : Value} (hd : decode code pc = .ok (.aload j, 2)) (hq : pc + 2 = q) (hl : Ls[j]? = some (.val v)) (hv : v.isRef = true) (hr : Go l Z R E Q M k n q Ls (v :: st)) : Go l Z R E Q M k n pc Ls st :=
  Go.plain hr fun _ _ _ X s => XS.aload X.here C.1 rfl (hb C.2.2.2.1 hd) hl hv (hq ▸ s)
theorem Go.iloadN (C : Cx Z x code maxL ret E) {j : Fin 4} {v : Int32} (hd : decode code pc = .ok (.iload_n j, 1)) (hq : pc + 1 = q) (hl : Ls[j.val]? = some (.val (.int v))) (hr : Go l Z R E Q M k n q Ls (.int v :: st)) : Go l Z R E Q M k n pc Ls st :=
  Go.plain hr fun _ _ _ X s => XS.iloadN X.here C.1 rfl (hb C.2.2.2.1 hd) hl (hq ▸ s)
theorem Go.iload (C : Cx Z x code maxL ret E) {j : Nat} {v : Int32} (hd : decode code pc = .ok (.iload j, 2)) (hq : pc + 2 = q) (hl : Ls[j]? = some (.val (.int v))) (hr : Go l Z R E Q M k n q Ls (.int v :: st)) : Go l Z R E Q M k n pc Ls st :=
  Go.plain hr fun _ _ _ X s => XS.iload X.here C.1 rfl (hb C.2.2.2.1 hd) hl (hq ▸ s)
theorem Go.lloadN (C : Cx Z x code maxL ret E) {j : Fin 4} {v : Int64} (hd : decode code pc = .ok (.lload_n j, 1)) (hq : pc + 1 = q) (hl : Ls[j.val]? = some (.val (.long v))) (hr : Go l Z R E Q M k n q Ls (.long v :: st)) : Go l Z R E Q M k n pc Ls st :=
  Go.plain hr fun _ _ _ X s => XT.lloadN X.here C.1 rfl (hb C.2.2.2.1 hd) hl (hq ▸ s)
theorem Go.lload (C : Cx Z x code maxL ret E) {j : Nat} {v : Int64} (hd : decode code pc = .ok (.lload j, 2)) (hq : pc + 2 = q) (hl : Ls[j]? = some (.val (.long v))) (hr : Go l Z R E Q M k n q Ls (.long v :: st)) : Go l Z R E Q M k n pc Ls st :=
  Go.plain hr fun _ _ _ X s => XT.lload X.here C.1 rfl (hb C.2.2.2.1 hd) hl (hq ▸ s)
theorem Go.istoreN (C : Cx Z x code maxL ret E) {j : Fin 4} {v : Int32} (hd : decode code pc = .ok (.istore_n j, 1)) (hq : pc + 1 = q) (hl : storeLocals Ls j.val (.int v) = some Ls') (hr : Go l Z R E Q M k n q Ls' st) : Go l Z R E Q M k n pc Ls (.int v :: st) :=
  Go.plain hr fun _ _ _ X s => XS.istoreN X.here C.1 rfl (hb C.2.2.2.1 hd) rfl hl (hq ▸ s)
theorem Go.istore (C : Cx Z x code maxL ret E) {j : Nat} {v : Int32} (hd : decode code pc = .ok (.istore j, 2)) (hq : pc + 2 = q) (hl : storeLocals Ls j (.int v) = some Ls') (hr : Go l Z R E Q M k n q Ls' st) : Go l Z R E Q M k n pc Ls (.int v :: st) :=
  Go.plain hr fun _ _ _ X s => XS.istore X.here C.1 rfl (hb C.2.2.2.1 hd) rfl hl (hq ▸ s)
theorem Go.lstoreN (C : Cx Z x code maxL ret E) {j : Fin 4} {v : Int64} (hd : decode code pc = .ok (.lstore_n j, 1)) (hq : pc + 1 = q) (hl : storeLocals Ls j.val (.long v) = some Ls') (hr : Go l Z R E Q M k n q Ls' st) : Go l Z R E Q M k n pc Ls (.long v :: st) :=
  Go.plain hr fun _ _ _ X s => XT.lstoreN X.here C.1 rfl (hb C.2.2.2.1 hd) rfl hl (hq ▸ s)
theorem Go.lstore (C : Cx Z x code maxL ret E) {j : Nat} {v : Int64} (hd : decode code pc = .ok (.lstore j, 2)) (hq : pc + 2 = q) (hl : storeLocals Ls j (.long v) = some Ls') (hr : Go l Z R E Q M k n q Ls' st) : Go l Z R E Q M k n pc Ls (.long v :: st) :=
  Go.plain hr fun _ _ _ X s => XT.lstore X.here C.1 rfl (hb C.2.2.2.1 hd) rfl hl (hq ▸ s)
theorem Go.astoreN (C : Cx Z x code maxL ret E) {j : Fin 4} {v : Value} (hd : decode code pc = .ok (.astore_n j, 1)) (hq : pc + 1 = q) (hv : v.isRef = true) (hl : storeLocals Ls j.val v = some Ls') (hr : Go l Z R E Q M k n q Ls' st) : Go l Z R E Q M k n pc Ls (v :: st) :=
  Go.plain hr fun _ _ _ X s => XS.astoreN X.here C.1 rfl (hb C.2.2.2.1 hd) rfl hv hl (hq ▸ s)
theorem Go.astore (C : Cx Z x code maxL ret E) {j : Nat} {v : Value} (hd : decode code pc = .ok (.astore j, 2)) (hq : pc + 2 = q) (hv : v.isRef = true) (hl : storeLocals Ls j v = some Ls') (hr : Go l Z R E Q M k n q Ls' st) : Go l Z R E Q M k n pc Ls (v :: st) :=
  Go.plain hr fun _ _ _ X s => XS.astore X.here C.1 rfl (hb C.2.2.2.1 hd) rfl hv hl (hq ▸ s)
theorem Go.iconst (C : Cx Z x code maxL ret E) {i : Int} {v : Int32} (hd : decode code pc = .ok (.iconst i, 1)) (hq : pc + 1 = q) (hv : Int32.ofInt i = v) (hr : Go l Z R E Q M k n q Ls (.int v :: st)) : Go l Z R E Q M k n pc Ls st :=
  Go.plain hr fun _ _ _ X s => XS.iconst X.here C.1 rfl (hb C.2.2.2.1 hd) (hv ▸ hq ▸ s)
theorem Go.bipush (C : Cx Z x code maxL ret E) {i : Int} {v : Int32} (hd : decode code pc = .ok (.bipush i, 2)) (hq : pc + 2 = q) (hv : (Int8.ofInt i).toInt32 = v) (hr : Go l Z R E Q M k n q Ls (.int v :: st)) : Go l Z R E Q M k n pc Ls st :=
  Go.plain hr fun _ _ _ X s => XS.bipush X.here C.1 rfl (hb C.2.2.2.1 hd) (hv ▸ hq ▸ s)
theorem Go.sipush (C : Cx Z x code maxL ret E) {i : Int} {v : Int32} (hd : decode code pc = .ok (.sipush i, 3)) (hq : pc + 3 = q) (hv : (Int16.ofInt i).toInt32 = v) (hr : Go l Z R E Q M k n q Ls (.int v :: st)) : Go l Z R E Q M k n pc Ls st :=
  Go.plain hr fun _ _ _ X s => XS.sipush X.here C.1 rfl (hb C.2.2.2.1 hd) (hv ▸ hq ▸ s)
theorem Go.lconst (C : Cx Z x code maxL ret E) {i : Fin 2} {v : Int64} (hd : decode code pc = .ok (.lconst i, 1)) (hq : pc + 1 = q) (hv : Int64.ofNat i = v) (hr : Go l Z R E Q M k n q Ls (.long v :: st)) : Go l Z R E Q M k n pc Ls st :=
  Go.plain hr fun _ _ _ X s => XT.lconst X.here C.1 rfl (hb C.2.2.2.1 hd) (hv ▸ hq ▸ s)
theorem Go.aconstNull (C : Cx Z x code maxL ret E) (hd : decode code pc = .ok (.aconst_null, 1)) (hq : pc + 1 = q) (hr : Go l Z R E Q M k n q Ls (.null :: st)) : Go l Z R E Q M k n pc Ls st :=
  Go.plain hr fun _ _ _ X s => XS.aconstNull X.here C.1 rfl (hb C.2.2.2.1 hd) (hq ▸ s)
theorem Go.ldcI (C : Cx Z x code maxL ret E) {i : Nat} {v : Int32} (w : (Cond.constant x.cls i v).before a0 Z = true) (hd : decode code pc = .ok (.ldc i, 2)) (hq : pc + 2 = q) (hr : Go l Z R E Q M k n q Ls (.int v :: st)) : Go l Z R E Q M k n pc Ls st :=
  Go.plain hr fun _ _ _ X s => Stand.ldcI X C.1 C.2.2.1 (mv C.2.1 w) rfl (hb C.2.2.2.1 hd) (hq ▸ s)
theorem Go.ldcWI (C : Cx Z x code maxL ret E) {i : Nat} {v : Int32} (w : (Cond.constant x.cls i v).before a0 Z = true) (hd : decode code pc = .ok (.ldc_w i, 3)) (hq : pc + 3 = q) (hr : Go l Z R E Q M k n q Ls (.int v :: st)) : Go l Z R E Q M k n pc Ls st :=
  Go.plain hr fun _ _ _ X s => Stand.ldcWI X C.1 C.2.2.1 (mv C.2.1 w) rfl (hb C.2.2.2.1 hd) (hq ▸ s)
theorem Go.ldc2J (C : Cx Z x code maxL ret E) {i : Nat} {v : Int64} (w : (Cond.constantLong x.cls i v).before a0 Z = true) (hd : decode code pc = .ok (.ldc2_w i, 3)) (hq : pc + 3 = q) (hr : Go l Z R E Q M k n q Ls (.long v :: st)) : Go l Z R E Q M k n pc Ls st :=
  Go.plain hr fun _ _ _ X s => Stand.ldc2J X C.1 C.2.2.1 (mv C.2.1 w) rfl (hb C.2.2.2.1 hd) (hq ▸ s)
theorem Go.dup (C : Cx Z x code maxL ret E) {v : Value} (hd : decode code pc = .ok (.dup, 1)) (hq : pc + 1 = q) (hc : v.category = 1) (hr : Go l Z R E Q M k n q Ls (v :: v :: st)) : Go l Z R E Q M k n pc Ls (v :: st) :=
  Go.plain hr fun _ _ _ X s => XS.dup X.here C.1 rfl (hb C.2.2.2.1 hd) rfl hc (hq ▸ s)
theorem Go.dupX1 (C : Cx Z x code maxL ret E) {v w : Value} (hd : decode code pc = .ok (.dup_x1, 1)) (hq : pc + 1 = q) (hc : v.category = 1) (hc' : w.category = 1) (hr : Go l Z R E Q M k n q Ls (v :: w :: v :: st)) : Go l Z R E Q M k n pc Ls (v :: w :: st) :=
  Go.plain hr fun _ _ _ X s => XT.dupX1 X.here C.1 rfl (hb C.2.2.2.1 hd) rfl hc hc' (hq ▸ s)
theorem Go.dup2 (C : Cx Z x code maxL ret E) {v w : Value} (hd : decode code pc = .ok (.dup2, 1)) (hq : pc + 1 = q) (hc : v.category = 1) (hc' : w.category = 1) (hr : Go l Z R E Q M k n q Ls (v :: w :: v :: w :: st)) : Go l Z R E Q M k n pc Ls (v :: w :: st) :=
  Go.plain hr fun _ _ _ X s => XT.dup2 X.here C.1 rfl (hb C.2.2.2.1 hd) rfl hc hc' (hq ▸ s)
theorem Go.dup2L (C : Cx Z x code maxL ret E) {v : Int64} (hd : decode code pc = .ok (.dup2, 1)) (hq : pc + 1 = q) (hr : Go l Z R E Q M k n q Ls (.long v :: .long v :: st)) : Go l Z R E Q M k n pc Ls (.long v :: st) :=
  Go.plain hr fun _ _ _ X s => XT.dup2L X.here C.1 rfl (hb C.2.2.2.1 hd) rfl (hq ▸ s)
theorem Go.pop (C : Cx Z x code maxL ret E) {v : Value} (hd : decode code pc = .ok (.pop, 1)) (hq : pc + 1 = q) (hc : v.category = 1) (hr : Go l Z R E Q M k n q Ls st) : Go l Z R E Q M k n pc Ls (v :: st) :=
  Go.plain hr fun _ _ _ X s => XT.pop X.here C.1 rfl (hb C.2.2.2.1 hd) rfl hc (hq ▸ s)
theorem Go.iadd (C : Cx Z x code maxL ret E) {u : Int32} {v : Int32} (hd : decode code pc = .ok (.iadd, 1)) (hq : pc + 1 = q) (hr : Go l Z R E Q M k n q Ls (.int (u + v) :: st)) : Go l Z R E Q M k n pc Ls (.int v :: .int u :: st) :=
  Go.plain hr fun _ _ _ X s => XS.iadd X.here C.1 rfl (hb C.2.2.2.1 hd) rfl (hq ▸ s)
theorem Go.isub (C : Cx Z x code maxL ret E) {u : Int32} {v : Int32} (hd : decode code pc = .ok (.isub, 1)) (hq : pc + 1 = q) (hr : Go l Z R E Q M k n q Ls (.int (u - v) :: st)) : Go l Z R E Q M k n pc Ls (.int v :: .int u :: st) :=
  Go.plain hr fun _ _ _ X s => XS.isub X.here C.1 rfl (hb C.2.2.2.1 hd) rfl (hq ▸ s)
theorem Go.imul (C : Cx Z x code maxL ret E) {u : Int32} {v : Int32} (hd : decode code pc = .ok (.imul, 1)) (hq : pc + 1 = q) (hr : Go l Z R E Q M k n q Ls (.int (u * v) :: st)) : Go l Z R E Q M k n pc Ls (.int v :: .int u :: st) :=
  Go.plain hr fun _ _ _ X s => XS.imul X.here C.1 rfl (hb C.2.2.2.1 hd) rfl (hq ▸ s)
theorem Go.iand (C : Cx Z x code maxL ret E) {u : Int32} {v : Int32} (hd : decode code pc = .ok (.iand, 1)) (hq : pc + 1 = q) (hr : Go l Z R E Q M k n q Ls (.int (u &&& v) :: st)) : Go l Z R E Q M k n pc Ls (.int v :: .int u :: st) :=
  Go.plain hr fun _ _ _ X s => XS.iand X.here C.1 rfl (hb C.2.2.2.1 hd) rfl (hq ▸ s)
theorem Go.ior (C : Cx Z x code maxL ret E) {u : Int32} {v : Int32} (hd : decode code pc = .ok (.ior, 1)) (hq : pc + 1 = q) (hr : Go l Z R E Q M k n q Ls (.int (u ||| v) :: st)) : Go l Z R E Q M k n pc Ls (.int v :: .int u :: st) :=
  Go.plain hr fun _ _ _ X s => XT.ior X.here C.1 rfl (hb C.2.2.2.1 hd) rfl (hq ▸ s)
theorem Go.ixor (C : Cx Z x code maxL ret E) {u : Int32} {v : Int32} (hd : decode code pc = .ok (.ixor, 1)) (hq : pc + 1 = q) (hr : Go l Z R E Q M k n q Ls (.int (u ^^^ v) :: st)) : Go l Z R E Q M k n pc Ls (.int v :: .int u :: st) :=
  Go.plain hr fun _ _ _ X s => XT.ixor X.here C.1 rfl (hb C.2.2.2.1 hd) rfl (hq ▸ s)
theorem Go.ishl (C : Cx Z x code maxL ret E) {u : Int32} {v : Int32} (hd : decode code pc = .ok (.ishl, 1)) (hq : pc + 1 = q) (hr : Go l Z R E Q M k n q Ls (.int (u <<< (v &&& 31)) :: st)) : Go l Z R E Q M k n pc Ls (.int v :: .int u :: st) :=
  Go.plain hr fun _ _ _ X s => XT.ishl X.here C.1 rfl (hb C.2.2.2.1 hd) rfl (hq ▸ s)
theorem Go.ishr (C : Cx Z x code maxL ret E) {u : Int32} {v : Int32} (hd : decode code pc = .ok (.ishr, 1)) (hq : pc + 1 = q) (hr : Go l Z R E Q M k n q Ls (.int (u >>> (v &&& 31)) :: st)) : Go l Z R E Q M k n pc Ls (.int v :: .int u :: st) :=
  Go.plain hr fun _ _ _ X s => XT.ishr X.here C.1 rfl (hb C.2.2.2.1 hd) rfl (hq ▸ s)
theorem Go.iushr (C : Cx Z x code maxL ret E) {u : Int32} {v : Int32} (hd : decode code pc = .ok (.iushr, 1)) (hq : pc + 1 = q) (hr : Go l Z R E Q M k n q Ls (.int (XT.ushr u v) :: st)) : Go l Z R E Q M k n pc Ls (.int v :: .int u :: st) :=
  Go.plain hr fun _ _ _ X s => XT.iushr X.here C.1 rfl (hb C.2.2.2.1 hd) rfl (hq ▸ s)
theorem Go.ladd (C : Cx Z x code maxL ret E) {u : Int64} {v : Int64} (hd : decode code pc = .ok (.ladd, 1)) (hq : pc + 1 = q) (hr : Go l Z R E Q M k n q Ls (.long (u + v) :: st)) : Go l Z R E Q M k n pc Ls (.long v :: .long u :: st) :=
  Go.plain hr fun _ _ _ X s => XT.ladd X.here C.1 rfl (hb C.2.2.2.1 hd) rfl (hq ▸ s)
theorem Go.lsub (C : Cx Z x code maxL ret E) {u : Int64} {v : Int64} (hd : decode code pc = .ok (.lsub, 1)) (hq : pc + 1 = q) (hr : Go l Z R E Q M k n q Ls (.long (u - v) :: st)) : Go l Z R E Q M k n pc Ls (.long v :: .long u :: st) :=
  Go.plain hr fun _ _ _ X s => XT.lsub X.here C.1 rfl (hb C.2.2.2.1 hd) rfl (hq ▸ s)
theorem Go.lmul (C : Cx Z x code maxL ret E) {u : Int64} {v : Int64} (hd : decode code pc = .ok (.lmul, 1)) (hq : pc + 1 = q) (hr : Go l Z R E Q M k n q Ls (.long (u * v) :: st)) : Go l Z R E Q M k n pc Ls (.long v :: .long u :: st) :=
  Go.plain hr fun _ _ _ X s => XT.lmul X.here C.1 rfl (hb C.2.2.2.1 hd) rfl (hq ▸ s)
theorem Go.land (C : Cx Z x code maxL ret E) {u : Int64} {v : Int64} (hd : decode code pc = .ok (.land, 1)) (hq : pc + 1 = q) (hr : Go l Z R E Q M k n q Ls (.long (u &&& v) :: st)) : Go l Z R E Q M k n pc Ls (.long v :: .long u :: st) :=
  Go.plain hr fun _ _ _ X s => XT.land X.here C.1 rfl (hb C.2.2.2.1 hd) rfl (hq ▸ s)
theorem Go.lor (C : Cx Z x code maxL ret E) {u : Int64} {v : Int64} (hd : decode code pc = .ok (.lor, 1)) (hq : pc + 1 = q) (hr : Go l Z R E Q M k n q Ls (.long (u ||| v) :: st)) : Go l Z R E Q M k n pc Ls (.long v :: .long u :: st) :=
  Go.plain hr fun _ _ _ X s => XT.lor X.here C.1 rfl (hb C.2.2.2.1 hd) rfl (hq ▸ s)
theorem Go.lxor (C : Cx Z x code maxL ret E) {u : Int64} {v : Int64} (hd : decode code pc = .ok (.lxor, 1)) (hq : pc + 1 = q) (hr : Go l Z R E Q M k n q Ls (.long (u ^^^ v) :: st)) : Go l Z R E Q M k n pc Ls (.long v :: .long u :: st) :=
  Go.plain hr fun _ _ _ X s => XT.lxor X.here C.1 rfl (hb C.2.2.2.1 hd) rfl (hq ▸ s)
theorem Go.lshl (C : Cx Z x code maxL ret E) {u : Int64} {v : Int32} (hd : decode code pc = .ok (.lshl, 1)) (hq : pc + 1 = q) (hr : Go l Z R E Q M k n q Ls (.long (u <<< (v.toInt64 &&& 63)) :: st)) : Go l Z R E Q M k n pc Ls (.int v :: .long u :: st) :=
  Go.plain hr fun _ _ _ X s => XT.lshl X.here C.1 rfl (hb C.2.2.2.1 hd) rfl (hq ▸ s)
theorem Go.lshr (C : Cx Z x code maxL ret E) {u : Int64} {v : Int32} (hd : decode code pc = .ok (.lshr, 1)) (hq : pc + 1 = q) (hr : Go l Z R E Q M k n q Ls (.long (u >>> (v.toInt64 &&& 63)) :: st)) : Go l Z R E Q M k n pc Ls (.int v :: .long u :: st) :=
  Go.plain hr fun _ _ _ X s => XT.lshr X.here C.1 rfl (hb C.2.2.2.1 hd) rfl (hq ▸ s)
theorem Go.lushr (C : Cx Z x code maxL ret E) {u : Int64} {v : Int32} (hd : decode code pc = .ok (.lushr, 1)) (hq : pc + 1 = q) (hr : Go l Z R E Q M k n q Ls (.long (XT.ushrL u v) :: st)) : Go l Z R E Q M k n pc Ls (.int v :: .long u :: st) :=
  Go.plain hr fun _ _ _ X s => XT.lushr X.here C.1 rfl (hb C.2.2.2.1 hd) rfl (hq ▸ s)
theorem Go.ineg (C : Cx Z x code maxL ret E) {u : Int32} (hd : decode code pc = .ok (.ineg, 1)) (hq : pc + 1 = q) (hr : Go l Z R E Q M k n q Ls (.int (-u) :: st)) : Go l Z R E Q M k n pc Ls (.int u :: st) :=
  Go.plain hr fun _ _ _ X s => XS.ineg X.here C.1 rfl (hb C.2.2.2.1 hd) rfl (hq ▸ s)
theorem Go.lneg (C : Cx Z x code maxL ret E) {u : Int64} (hd : decode code pc = .ok (.lneg, 1)) (hq : pc + 1 = q) (hr : Go l Z R E Q M k n q Ls (.long (-u) :: st)) : Go l Z R E Q M k n pc Ls (.long u :: st) :=
  Go.plain hr fun _ _ _ X s => XT.lneg X.here C.1 rfl (hb C.2.2.2.1 hd) rfl (hq ▸ s)
theorem Go.i2l (C : Cx Z x code maxL ret E) {u : Int32} (hd : decode code pc = .ok (.i2l, 1)) (hq : pc + 1 = q) (hr : Go l Z R E Q M k n q Ls (.long u.toInt64 :: st)) : Go l Z R E Q M k n pc Ls (.int u :: st) :=
  Go.plain hr fun _ _ _ X s => XT.i2l X.here C.1 rfl (hb C.2.2.2.1 hd) rfl (hq ▸ s)
theorem Go.l2i (C : Cx Z x code maxL ret E) {u : Int64} (hd : decode code pc = .ok (.l2i, 1)) (hq : pc + 1 = q) (hr : Go l Z R E Q M k n q Ls (.int u.toInt32 :: st)) : Go l Z R E Q M k n pc Ls (.long u :: st) :=
  Go.plain hr fun _ _ _ X s => XT.l2i X.here C.1 rfl (hb C.2.2.2.1 hd) rfl (hq ▸ s)
theorem Go.i2b (C : Cx Z x code maxL ret E) {u : Int32} (hd : decode code pc = .ok (.i2b, 1)) (hq : pc + 1 = q) (hr : Go l Z R E Q M k n q Ls (.int u.toInt8.toInt32 :: st)) : Go l Z R E Q M k n pc Ls (.int u :: st) :=
  Go.plain hr fun _ _ _ X s => XT.i2b X.here C.1 rfl (hb C.2.2.2.1 hd) rfl (hq ▸ s)
theorem Go.i2c (C : Cx Z x code maxL ret E) {u : Int32} (hd : decode code pc = .ok (.i2c, 1)) (hq : pc + 1 = q) (hr : Go l Z R E Q M k n q Ls (.int u.toUInt32.toUInt16.toUInt32.toInt32 :: st)) : Go l Z R E Q M k n pc Ls (.int u :: st) :=
  Go.plain hr fun _ _ _ X s => XT.i2c X.here C.1 rfl (hb C.2.2.2.1 hd) rfl (hq ▸ s)
theorem Go.i2s (C : Cx Z x code maxL ret E) {u : Int32} (hd : decode code pc = .ok (.i2s, 1)) (hq : pc + 1 = q) (hr : Go l Z R E Q M k n q Ls (.int u.toInt16.toInt32 :: st)) : Go l Z R E Q M k n pc Ls (.int u :: st) :=
  Go.plain hr fun _ _ _ X s => XT.i2s X.here C.1 rfl (hb C.2.2.2.1 hd) rfl (hq ▸ s)
theorem Go.lrem (C : Cx Z x code maxL ret E) {u v : Int64} (hd : decode code pc = .ok (.lrem, 1)) (hq : pc + 1 = q) (hv : v ≠ 0) (hr : Go l Z R E Q M k n q Ls (.long (u - u / v * v) :: st)) : Go l Z R E Q M k n pc Ls (.long v :: .long u :: st) :=
  Go.plain hr fun _ _ _ X s => XT.lrem X.here C.1 rfl (hb C.2.2.2.1 hd) rfl hv (hq ▸ s)
theorem Go.idiv (C : Cx Z x code maxL ret E) {u v : Int32} (hd : decode code pc = .ok (.idiv, 1)) (hq : pc + 1 = q) (hv : v ≠ 0) (hr : Go l Z R E Q M k n q Ls (.int (u / v) :: st)) : Go l Z R E Q M k n pc Ls (.int v :: .int u :: st) :=
  Go.plain hr fun _ _ _ X s => XS.idiv X.here C.1 rfl (hb C.2.2.2.1 hd) rfl hv (hq ▸ s)
theorem Go.irem (C : Cx Z x code maxL ret E) {u v : Int32} (hd : decode code pc = .ok (.irem, 1)) (hq : pc + 1 = q) (hv : v ≠ 0) (hr : Go l Z R E Q M k n q Ls (.int (u % v) :: st)) : Go l Z R E Q M k n pc Ls (.int v :: .int u :: st) :=
  Go.plain hr fun _ _ _ X s => iremM X C.1 rfl (hb C.2.2.2.1 hd) rfl hv (hq ▸ s)
theorem Go.ldiv (C : Cx Z x code maxL ret E) {u v : Int64} (hd : decode code pc = .ok (.ldiv, 1)) (hq : pc + 1 = q) (hv : v ≠ 0) (hr : Go l Z R E Q M k n q Ls (.long (u / v) :: st)) : Go l Z R E Q M k n pc Ls (.long v :: .long u :: st) :=
  Go.plain hr fun _ _ _ X s => XT.ldiv X.here C.1 rfl (hb C.2.2.2.1 hd) rfl hv (hq ▸ s)
theorem Go.iinc (C : Cx Z x code maxL ret E) {j : Nat} {i : Int} {u v : Int32} (hd : decode code pc = .ok (.iinc j i, 3)) (hq : pc + 3 = q) (hl : Ls[j]? = some (.val (.int u))) (hv : u + Int32.ofInt i = v) (hl' : storeLocals Ls j (.int v) = some Ls') (hr : Go l Z R E Q M k n q Ls' st) : Go l Z R E Q M k n pc Ls st :=
  Go.plain hr fun _ _ _ X s => XS.iinc X.here C.1 rfl (hb C.2.2.2.1 hd) hl (hv ▸ hl') (hq ▸ s)
theorem Go.goto (C : Cx Z x code maxL ret E) {o : Int} (hd : decode code pc = .ok (.goto o, 3)) (ho : 0 ≤ (pc : Int) + o) (hq : ((pc : Int) + o).toNat = q) (hr : Go l Z R E Q M k n q Ls st) : Go l Z R E Q M k n pc Ls st :=
  Go.plain hr fun _ _ _ X s => XS.goto X.here C.1 rfl rfl (hb C.2.2.2.1 hd) ho hq s
theorem Go.ifYes (C : Cx Z x code maxL ret E) {cd : ClassFile.Cond} {o : Int} {u : Int32} (hd : decode code pc = .ok (.ifCond cd o, 3)) (ho : 0 ≤ (pc : Int) + o) (hq : ((pc : Int) + o).toNat = q) (hc : ifCond.holds cd u = true) (hr : Go l Z R E Q M k n q Ls st) : Go l Z R E Q M k n pc Ls (.int u :: st) :=
  Go.plain hr fun _ _ _ X s => XS.ifYes X.here C.1 rfl rfl (hb C.2.2.2.1 hd) rfl hc ho hq s
theorem Go.ifNo (C : Cx Z x code maxL ret E) {cd : ClassFile.Cond} {o : Int} {u : Int32} (hd : decode code pc = .ok (.ifCond cd o, 3)) (hq : pc + 3 = q) (hc : ifCond.holds cd u = false) (hr : Go l Z R E Q M k n q Ls st) : Go l Z R E Q M k n pc Ls (.int u :: st) :=
  Go.plain hr fun _ _ _ X s => XS.ifNo X.here C.1 rfl (hb C.2.2.2.1 hd) rfl hc (hq ▸ s)
theorem Go.icmpYes (C : Cx Z x code maxL ret E) {cd : ClassFile.Cond} {o : Int} {u v : Int32} (hd : decode code pc = .ok (.if_icmp cd o, 3)) (ho : 0 ≤ (pc : Int) + o) (hq : ((pc : Int) + o).toNat = q) (hc : if_icmp.holds cd u v = true) (hr : Go l Z R E Q M k n q Ls st) : Go l Z R E Q M k n pc Ls (.int v :: .int u :: st) :=
  Go.plain hr fun _ _ _ X s => XS.icmpYes X.here C.1 rfl rfl (hb C.2.2.2.1 hd) rfl hc ho hq s
theorem Go.icmpNo (C : Cx Z x code maxL ret E) {cd : ClassFile.Cond} {o : Int} {u v : Int32} (hd : decode code pc = .ok (.if_icmp cd o, 3)) (hq : pc + 3 = q) (hc : if_icmp.holds cd u v = false) (hr : Go l Z R E Q M k n q Ls st) : Go l Z R E Q M k n pc Ls (.int v :: .int u :: st) :=
  Go.plain hr fun _ _ _ X s => XS.icmpNo X.here C.1 rfl (hb C.2.2.2.1 hd) rfl hc (hq ▸ s)
theorem Go.acmpYes (C : Cx Z x code maxL ret E) {cd : ClassFile.ACond} {o : Int} {u v : Value} (hd : decode code pc = .ok (.if_acmp cd o, 3)) (ho : 0 ≤ (pc : Int) + o) (hq : ((pc : Int) + o).toNat = q) (hu : u.isRef = true) (hv : v.isRef = true) (hc : XT.acmp cd u v = true) (hr : Go l Z R E Q M k n q Ls st) : Go l Z R E Q M k n pc Ls (v :: u :: st) :=
  Go.plain hr fun _ _ _ X s => XT.acmpYes X.here C.1 rfl rfl (hb C.2.2.2.1 hd) rfl hu hv hc ho hq s
theorem Go.acmpNo (C : Cx Z x code maxL ret E) {cd : ClassFile.ACond} {o : Int} {u v : Value} (hd : decode code pc = .ok (.if_acmp cd o, 3)) (hq : pc + 3 = q) (hu : u.isRef = true) (hv : v.isRef = true) (hc : XT.acmp cd u v = false) (hr : Go l Z R E Q M k n q Ls st) : Go l Z R E Q M k n pc Ls (v :: u :: st) :=
  Go.plain hr fun _ _ _ X s => XT.acmpNo X.here C.1 rfl (hb C.2.2.2.1 hd) rfl hu hv hc (hq ▸ s)
theorem Go.nullYes (C : Cx Z x code maxL ret E) {o : Int} {v : Value} (hd : decode code pc = .ok (.ifnull o, 3)) (ho : 0 ≤ (pc : Int) + o) (hq : ((pc : Int) + o).toNat = q) (hv : v = .null) (hr : Go l Z R E Q M k n q Ls st) : Go l Z R E Q M k n pc Ls (v :: st) :=
  Go.plain hr fun _ _ _ X s => XT.nullYes X.here C.1 rfl rfl (hb C.2.2.2.1 hd) rfl hv ho hq s
theorem Go.nullNo (C : Cx Z x code maxL ret E) {o : Int} {v : Value} (hd : decode code pc = .ok (.ifnull o, 3)) (hq : pc + 3 = q) (hu : v.isRef = true) (hv : ¬ v = .null) (hr : Go l Z R E Q M k n q Ls st) : Go l Z R E Q M k n pc Ls (v :: st) :=
  Go.plain hr fun _ _ _ X s => XT.nullNo X.here C.1 rfl (hb C.2.2.2.1 hd) rfl hu hv (hq ▸ s)
theorem Go.nonnullYes (C : Cx Z x code maxL ret E) {o : Int} {v : Value} (hd : decode code pc = .ok (.ifnonnull o, 3)) (ho : 0 ≤ (pc : Int) + o) (hq : ((pc : Int) + o).toNat = q) (hu : v.isRef = true) (hv : ¬ v = .null) (hr : Go l Z R E Q M k n q Ls st) : Go l Z R E Q M k n pc Ls (v :: st) :=
  Go.plain hr fun _ _ _ X s => XT.nonnullYes X.here C.1 rfl rfl (hb C.2.2.2.1 hd) rfl hu hv ho hq s
theorem Go.nonnullNo (C : Cx Z x code maxL ret E) {o : Int} {v : Value} (hd : decode code pc = .ok (.ifnonnull o, 3)) (hq : pc + 3 = q) (hv : v = .null) (hr : Go l Z R E Q M k n q Ls st) : Go l Z R E Q M k n pc Ls (v :: st) :=
  Go.plain hr fun _ _ _ X s => XT.nonnullNo X.here C.1 rfl (hb C.2.2.2.1 hd) rfl hv (hq ▸ s)
def icP : ClassFile.Cond → Int32 → Prop
  | .eq, u => u = 0 | .ne, u => ¬ u = 0 | .lt, u => u < 0 | .ge, u => ¬ u < 0 | .gt, u => 0 < u | .le, u => ¬ 0 < u
def icN : ClassFile.Cond → Int32 → Prop
  | .eq, u => ¬ u = 0 | .ne, u => u = 0 | .lt, u => ¬ u < 0 | .ge, u => u < 0 | .gt, u => ¬ 0 < u | .le, u => 0 < u
def iiP : ClassFile.Cond → Int32 → Int32 → Prop
  | .eq, u, v => u = v | .ne, u, v => ¬ u = v | .lt, u, v => u < v | .ge, u, v => ¬ u < v | .gt, u, v => v < u | .le, u, v => ¬ v < u
def iiN : ClassFile.Cond → Int32 → Int32 → Prop
  | .eq, u, v => ¬ u = v | .ne, u, v => u = v | .lt, u, v => ¬ u < v | .ge, u, v => u < v | .gt, u, v => ¬ v < u | .le, u, v => v < u
def llP : ClassFile.Cond → Int64 → Int64 → Prop
  | .eq, u, v => u = v | .ne, u, v => ¬ u = v | .lt, u, v => u < v | .ge, u, v => ¬ u < v | .gt, u, v => v < u | .le, u, v => ¬ v < u
def llN : ClassFile.Cond → Int64 → Int64 → Prop
  | .eq, u, v => ¬ u = v | .ne, u, v => u = v | .lt, u, v => ¬ u < v | .ge, u, v => u < v | .gt, u, v => ¬ v < u | .le, u, v => v < u
theorem ic_or (cd : ClassFile.Cond) (u : Int32) : (ifCond.holds cd u = true ∧ icP cd u) ∨ (ifCond.holds cd u = false ∧ icN cd u) := by
  cases cd
  · by_cases h : u = 0
    · exact Or.inl ⟨XT.i0_eq_t h, h⟩
    · exact Or.inr ⟨XT.i0_eq_f h, h⟩
  · by_cases h : u = 0
    · exact Or.inr ⟨XT.i0_ne_f h, h⟩
    · exact Or.inl ⟨XT.i0_ne_t h, h⟩
  · by_cases h : u < 0
    · exact Or.inl ⟨XT.i0_lt_t h, h⟩
    · exact Or.inr ⟨XT.i0_lt_f h, h⟩
  · by_cases h : u < 0
    · exact Or.inr ⟨XT.i0_ge_f h, h⟩
    · exact Or.inl ⟨XT.i0_ge_t h, h⟩
  · by_cases h : 0 < u
    · exact Or.inl ⟨XT.i0_gt_t h, h⟩
    · exact Or.inr ⟨XT.i0_gt_f h, h⟩
  · by_cases h : 0 < u
    · exact Or.inr ⟨XT.i0_le_f h, h⟩
    · exact Or.inl ⟨XT.i0_le_t h, h⟩
theorem ii_or (cd : ClassFile.Cond) (u v : Int32) : (if_icmp.holds cd u v = true ∧ iiP cd u v) ∨ (if_icmp.holds cd u v = false ∧ iiN cd u v) := by
  cases cd
  · by_cases h : u = v
    · exact Or.inl ⟨XT.ii_eq_t h, h⟩
    · exact Or.inr ⟨XT.ii_eq_f h, h⟩
  · by_cases h : u = v
    · exact Or.inr ⟨XT.ii_ne_f h, h⟩
    · exact Or.inl ⟨XT.ii_ne_t h, h⟩
  · by_cases h : u < v
    · exact Or.inl ⟨XT.ii_lt_t h, h⟩
    · exact Or.inr ⟨XT.ii_lt_f h, h⟩
  · by_cases h : u < v
    · exact Or.inr ⟨XT.ii_ge_f h, h⟩
    · exact Or.inl ⟨XT.ii_ge_t h, h⟩
  · by_cases h : v < u
    · exact Or.inl ⟨XT.ii_gt_t h, h⟩
    · exact Or.inr ⟨XT.ii_gt_f h, h⟩
  · by_cases h : v < u
    · exact Or.inr ⟨XT.ii_le_f h, h⟩
    · exact Or.inl ⟨XT.ii_le_t h, h⟩
theorem ll_or (cd : ClassFile.Cond) (u v : Int64) : (ifCond.holds cd (XT.cmpL u v) = true ∧ llP cd u v) ∨ (ifCond.holds cd (XT.cmpL u v) = false ∧ llN cd u v) := by
  cases cd
  · by_cases h : u = v
    · exact Or.inl ⟨XT.ll_eq_t h, h⟩
    · exact Or.inr ⟨XT.ll_eq_f h, h⟩
  · by_cases h : u = v
    · exact Or.inr ⟨XT.ll_ne_f h, h⟩
    · exact Or.inl ⟨XT.ll_ne_t h, h⟩
  · by_cases h : u < v
    · exact Or.inl ⟨XT.ll_lt_t h, h⟩
    · exact Or.inr ⟨XT.ll_lt_f h, h⟩
  · by_cases h : u < v
    · exact Or.inr ⟨XT.ll_ge_f h, h⟩
    · exact Or.inl ⟨XT.ll_ge_t h, h⟩
  · by_cases h : v < u
    · exact Or.inl ⟨XT.ll_gt_t h, h⟩
    · exact Or.inr ⟨XT.ll_gt_f h, h⟩
  · by_cases h : v < u
    · exact Or.inr ⟨XT.ll_le_f h, h⟩
    · exact Or.inl ⟨XT.ll_le_t h, h⟩
theorem Go.ifc (C : Cx Z x code maxL ret E) {cd : ClassFile.Cond} {o : Int} {u : Int32} {q' : Nat} (hd : decode code pc = .ok (.ifCond cd o, 3)) (ho : 0 ≤ (pc : Int) + o) (hq : ((pc : Int) + o).toNat = q) (hq' : pc + 3 = q')
    (h1 : icP cd u → Go l Z R E Q M k n q Ls st) (h2 : icN cd u → Go l Z R E Q M k n q' Ls st) : Go l Z R E Q M k n pc Ls (.int u :: st) := by
  rcases ic_or cd u with ⟨a, b⟩ | ⟨a, b⟩
  · exact Go.ifYes C hd ho hq a (h1 b)
  · exact Go.ifNo C hd hq' a (h2 b)
theorem Go.icmp (C : Cx Z x code maxL ret E) {cd : ClassFile.Cond} {o : Int} {u v : Int32} {q' : Nat} (hd : decode code pc = .ok (.if_icmp cd o, 3)) (ho : 0 ≤ (pc : Int) + o) (hq : ((pc : Int) + o).toNat = q) (hq' : pc + 3 = q')
    (h1 : iiP cd u v → Go l Z R E Q M k n q Ls st) (h2 : iiN cd u v → Go l Z R E Q M k n q' Ls st) : Go l Z R E Q M k n pc Ls (.int v :: .int u :: st) := by
  rcases ii_or cd u v with ⟨a, b⟩ | ⟨a, b⟩
  · exact Go.icmpYes C hd ho hq a (h1 b)
  · exact Go.icmpNo C hd hq' a (h2 b)
theorem Go.lcmp (C : Cx Z x code maxL ret E) {u v : Int64} (hd : decode code pc = .ok (.lcmp, 1)) (hq : pc + 1 = q) (hr : Go l Z R E Q M k n q Ls (.int (XT.cmpL u v) :: st)) : Go l Z R E Q M k n pc Ls (.long v :: .long u :: st) :=
  Go.plain hr fun _ _ _ X s => XT.lcmp X.here C.1 rfl (hb C.2.2.2.1 hd) rfl (hq ▸ s)
theorem Go.lcmpif (C : Cx Z x code maxL ret E) {cd : ClassFile.Cond} {o : Int} {u v : Int64} {p' q' : Nat} (hd : decode code pc = .ok (.lcmp, 1)) (hp : pc + 1 = p') (hd' : decode code p' = .ok (.ifCond cd o, 3)) (ho : 0 ≤ (p' : Int) + o) (hq : ((p' : Int) + o).toNat = q) (hq' : p' + 3 = q')
    (h1 : llP cd u v → Go l Z R E Q M k n q Ls st) (h2 : llN cd u v → Go l Z R E Q M k n q' Ls st) : Go l Z R E Q M k n pc Ls (.long v :: .long u :: st) := by
  refine Go.lcmp C hd hp ?_
  rcases ll_or cd u v with ⟨a, b⟩ | ⟨a, b⟩
  · exact Go.ifYes C hd' ho hq a (h1 b)
  · exact Go.ifNo C hd' hq' a (h2 b)
def acP : ClassFile.ACond → Value → Value → Prop
  | .eq, u, v => u = v | .ne, u, v => ¬ u = v
def acN : ClassFile.ACond → Value → Value → Prop
  | .eq, u, v => ¬ u = v | .ne, u, v => u = v
theorem ac_or (cd : ClassFile.ACond) (u v : Value) : (XT.acmp cd u v = true ∧ acP cd u v) ∨ (XT.acmp cd u v = false ∧ acN cd u v) := by
  cases cd
  · by_cases h : u = v
    · exact Or.inl ⟨XT.aa_eq_t h, h⟩
    · exact Or.inr ⟨XT.aa_eq_f h, h⟩
  · by_cases h : u = v
    · exact Or.inr ⟨XT.aa_ne_f h, h⟩
    · exact Or.inl ⟨XT.aa_ne_t h, h⟩
theorem Go.acmp (C : Cx Z x code maxL ret E) {cd : ClassFile.ACond} {o : Int} {u v : Value} {q' : Nat} (hd : decode code pc = .ok (.if_acmp cd o, 3)) (ho : 0 ≤ (pc : Int) + o) (hq : ((pc : Int) + o).toNat = q) (hq' : pc + 3 = q') (hu : u.isRef = true) (hv : v.isRef = true)
    (h1 : acP cd u v → Go l Z R E Q M k n q Ls st) (h2 : acN cd u v → Go l Z R E Q M k n q' Ls st) : Go l Z R E Q M k n pc Ls (v :: u :: st) := by
  rcases ac_or cd u v with ⟨a, b⟩ | ⟨a, b⟩
  · exact Go.acmpYes C hd ho hq hu hv a (h1 b)
  · exact Go.acmpNo C hd hq' hu hv a (h2 b)
theorem Go.tswIn (C : Cx Z x code maxL ret E) {dflt low high o : Int} {offs : Array Int} {len : Nat} {u : Int32} (hd : decode code pc = .ok (.tableswitch dflt low high offs, len)) (hin : ¬ (u.toInt < low ∨ u.toInt > high)) (hoff : offs[(u.toInt - low).toNat]? = some o) (ho : 0 ≤ (pc : Int) + o) (hq : ((pc : Int) + o).toNat = q) (hr : Go l Z R E Q M k n q Ls st) : Go l Z R E Q M k n pc Ls (.int u :: st) :=
  Go.plain hr fun _ _ _ X s => XS.tswIn X.here C.1 rfl rfl (hb C.2.2.2.1 hd) rfl hin hoff ho hq s
theorem Go.tswOut (C : Cx Z x code maxL ret E) {dflt low high : Int} {offs : Array Int} {len : Nat} {u : Int32} (hd : decode code pc = .ok (.tableswitch dflt low high offs, len)) (hout : u.toInt < low ∨ u.toInt > high) (ho : 0 ≤ (pc : Int) + dflt) (hq : ((pc : Int) + dflt).toNat = q) (hr : Go l Z R E Q M k n q Ls st) : Go l Z R E Q M k n pc Ls (.int u :: st) :=
  Go.plain hr fun _ _ _ X s => XS.tswOut X.here C.1 rfl rfl (hb C.2.2.2.1 hd) rfl hout ho hq s
/-! the heap -/
theorem Go.getS (C : Cx Z x code maxL ret E) {idx : Nat} {R0 O nm d host : String} {v : Value} (w : (Cond.fieldLink x.cls idx R0 nm d).before a0 Z = true ∨ (Cond.fieldLinkNest x.cls idx R0 nm d host).before a0 Z = true) (via : Via Z R0 O nm d) (S : Sta Z Z.heap O nm d v) (hd : decode code pc = .ok (.getstatic idx, 3)) (hq : pc + 3 = q) (hr : Go l Z R E Q M k n q Ls (v :: st)) : Go l Z R E Q M k n pc Ls st := by
  intro T locs X F r
  obtain ⟨T', X', e', s'⟩ := RoadKit.getS2 X C.1 C.2.1 C.2.2.1 w via rfl (S.ext r.1) (g := mkF E.2.2.2.1 pc Ls st) rfl (hb C.2.2.2.1 hd)
  obtain ⟨s₂, v, L, h1, h2⟩ := hr T' locs X' F (by rw [e']; exact r)
  exact ⟨s₂, v, L, s' _ (hq ▸ h1), h2⟩
theorem Go.getF (C : Cx Z x code maxL ret E) {idx : Nat} {R0 O nm d host : String} {a : Addr} {v : Value} (w : (Cond.fieldLink x.cls idx R0 nm d).before a0 Z = true ∨ (Cond.fieldLinkNest x.cls idx R0 nm d host).before a0 Z = true) (via : Via Z R0 O nm d) (H : ∀ h, Rep Z h M → Fld Z h a O nm d v) (hd : decode code pc = .ok (.getfield idx, 3)) (hq : pc + 3 = q) (hr : Go l Z R E Q M k n q Ls (v :: st)) : Go l Z R E Q M k n pc Ls (.ref a :: st) := by
  intro T locs X F r
  obtain ⟨T', X', e', s'⟩ := RoadKit.getF X C.1 C.2.1 C.2.2.1 w via rfl (H _ r) (g := mkF E.2.2.2.1 pc Ls (.ref a :: st)) rfl rfl (hb C.2.2.2.1 hd)
  obtain ⟨s₂, v, L, h1, h2⟩ := hr T' locs X' F (by rw [e']; exact r)
  exact ⟨s₂, v, L, s' _ (hq ▸ h1), h2⟩
theorem Go.putF (C : Cx Z x code maxL ret E) {idx kk i j : Nat} {R0 O nm d host K : String} {a : Addr} {v old : Value} {fs : Fs} {ty : FieldType} {M' : List Ent} (w : (Cond.fieldLink x.cls idx R0 nm d).before a0 Z = true ∨ (Cond.fieldLinkNest x.cls idx R0 nm d host).before a0 Z = true) (via : Via Z R0 O nm d)
    (hi : M[i]? = some (a, .inl (K, fs))) (hj : fs[j]? = some ((O, nm, d), old)) (L : (Cond.lays K O nm d).before a0 Z = true ∨ ((Cond.laysFinal K O nm d).before a0 Z = true ∧ x.cls = O ∧ x.name = "<init>")) (wi : (Cond.instantiable K kk).before a0 Z = true)
    (hty : parseFieldDescriptor d = some ty) (hn : narrow ty v = v) (hf : fits ty v = true) (hd : decode code pc = .ok (.putfield idx, 3)) (hq : pc + 3 = q) (hM : M.set i (a, .inl (K, fs.set j ((O, nm, d), v))) = M') (hr : Go l Z R E Q M' k n q Ls st) : Go l Z R E Q M k n pc Ls (v :: .ref a :: st) := by
  intro T locs X F r
  have Fl := r.fld i j hi hj
  obtain ⟨T', h', X', e', W, s'⟩ := RoadKit.putF X C.1 C.2.1 C.2.2.1 w via rfl Fl (r.exa i hi) (L.imp id fun q => ⟨q.1, q.2.1, C.2.2.2.2.2.2.2.trans q.2.2⟩) wi hty hn hf (g := mkF E.2.2.2.1 pc Ls (v :: .ref a :: st)) rfl rfl (hb C.2.2.2.1 hd)
  obtain ⟨s₂, v, L, h1, h2⟩ := hr T' _ X' (Fr.snoc X' F (r.fresh hi)) (by rw [e', ← hM]; exact r.wrote hi W ((r.2.1 i _ hi).2.put hj W))
  exact ⟨s₂, v, L, s' _ (hq ▸ h1), h2⟩
def LaidAll (Z : State) (a0 : Array Value) (K : String) : Fs → Prop
  | [] => True
  | f :: r => (Laid Z a0 K f.1.1 f.1.2.1 f.1.2.2 ∧ ∃ ty, parseFieldDescriptor f.1.2.2 = some ty ∧ f.2 = defaultValue ty) ∧ LaidAll Z a0 K r
theorem LaidAll.at {K : String} : ∀ {fs : Fs}, LaidAll Z a0 K fs → ∀ f ∈ fs, Laid Z a0 K f.1.1 f.1.2.1 f.1.2.2 ∧ ∃ ty, parseFieldDescriptor f.1.2.2 = some ty ∧ f.2 = defaultValue ty
  | _ :: _, H, f, hf => by
    rcases List.mem_cons.mp hf with rfl | q
    · exact H.1
    · exact H.2.at f q
theorem LaidAll.nodup {K : String} : ∀ {fs : Fs}, LaidAll Z a0 K fs → (fs.map fun f => f.1.2.1).Nodup → (fs.map fun f => slK Z f.1).Nodup
  | [], _, _ => List.nodup_nil
  | f :: r, H, hn => by
    rw [List.map_cons, List.nodup_cons] at hn ⊢
    refine ⟨fun m => ?_, H.2.nodup hn.2⟩
    obtain ⟨g, hg, e⟩ := List.mem_map.mp m
    obtain ⟨Lg, tg, pg, -⟩ := H.2.at g hg
    obtain ⟨Lf, tf, pf, -⟩ := H.1
    refine slot_ne Lg Lf (fun q => hn.1 ?_) pg pf e
    exact List.mem_map.mpr ⟨g, hg, q⟩
theorem Go.new (C : Cx Z x code maxL ret E) {idx n1 k' n' : Nat} {K : String} (w1 : (Cond.classLink x.cls idx K).before a0 Z = true) (w2 : (Cond.instantiable K n1).before a0 Z = true) (w3 : (Cond.initialized K).before a0 Z = true) (fs : Fs) (Lf : LaidAll Z a0 K fs) (hnd : (fs.map fun f => f.1.2.1).Nodup)
    (hd : decode code pc = .ok (.new idx, 3)) (hq : pc + 3 = q) (hc : k + 1 ≤ R.cells) (hs : n + n1 ≤ R.slots) (hk : k + 1 = k') (hn : n + n1 = n') (hr : ∀ a, Go l Z R E Q ((a, .inl (K, fs)) :: M) k' n' q Ls (.ref a :: st)) : Go l Z R E Q M k n pc Ls st := by
  intro T locs X F r
  obtain ⟨T', h', X', e', Ex, A, D, -, s'⟩ := newO X C.1 C.2.1 C.2.2.1 w1 w2 w3 rfl (g := mkF E.2.2.2.1 pc Ls st) rfl (hb C.2.2.2.1 hd) hc hs
  subst hk hn
  obtain ⟨s₂, v, L, h1, h2⟩ := hr _ T' _ X' F (by
    rw [e']
    refine r.new Ex rfl ⟨A, fun i f hf => ?_, Lf.nodup hnd⟩
    obtain ⟨La, ty, hp, hv⟩ := Lf.at f (List.mem_of_getElem? hf)
    rw [hv]
    exact D La hp)
  exact ⟨s₂, v, L, s' _ (hq ▸ h1), h2⟩
theorem Go.initO (C : Cx Z x code maxL ret E) {idx : Nat} {a : Addr} (w1 : (Cond.methodLink x.cls idx Lib.objectInit).before a0 Z = true) (w2 : (Cond.instanceMethod Lib.objectInit).before a0 Z = true) (w3 : (Cond.code Lib.objectInit ⟨#[0xb1]⟩ 1 none).before a0 Z = true) (hd : decode code pc = .ok (.invokespecial idx, 3)) (hq : pc + 3 = q) (hsz : Ls.size = maxL) (hf : 1 ≤ R.frames) {W : Nat} (hW : (st.map fun v => v.category).sum = W) (hl : W + 12 ≤ R.locals)
    (hr : Go l Z R E Q M k n q Ls st) : Go l Z R E Q M k n pc Ls (.ref a :: st) := by
  subst hW
  intro T locs X F r
  obtain ⟨T', X', e', s'⟩ := RoadKit.initO X C.1 C.2.1 C.2.2.1 w1 w2 w3 rfl (g := mkF E.2.2.2.1 pc Ls (.ref a :: st)) rfl (hsz.trans C.2.2.2.2.1.symm) rfl (hb C.2.2.2.1 hd) hf (W := (st.map fun v => v.category).sum) (by show 2 * 0 + _ ≤ _; omega) hl
  obtain ⟨s₂, v, L, h1, h2⟩ := hr T' locs X' F (by rw [e']; exact r)
  exact ⟨s₂, v, L, s' _ (hq ▸ h1), h2⟩
/-- an array that is owned, or that stood at the start -/
def ArrIs (Z : State) (h : Heap) (a : Addr) (ty : FieldType) (vs : List Value) : Prop := ∃ c : Cell, Arr Z h a c ty ∧ c.slots.toList = vs
theorem Rep.arr {h : Heap} {a : Addr} {ty : FieldType} {vs : List Value} {b : Bool} (r : Rep Z h M) (i : Nat) (hi : M[i]? = some (a, .inr (ty, vs, b))) : ArrIs Z h a ty vs := by
  obtain ⟨c, A, e, -⟩ := (r.2.1 i _ hi).2
  exact ⟨c, A, e⟩
theorem ArrIs.ext {h h' : Heap} {a : Addr} {ty : FieldType} {vs : List Value} (A : ArrIs Z h a ty vs) (E : Ext h h') : ArrIs Z h' a ty vs := by
  obtain ⟨c, A, e⟩ := A
  exact ⟨c, A.ext E, e⟩
theorem in_of {c : Cell} {vs : List Value} {j : Int32} {v : Value} (e : c.slots.toList = vs) (h0 : ¬ j < 0) (hv : vs[j.toNatClampNeg]? = some v) : ¬ (j < 0 ∨ c.slots.size ≤ j.toNatClampNeg) ∧ c.slots[j.toNatClampNeg]? = some v := by
  subst e
  rw [Array.getElem?_toList] at hv
  have := (Array.getElem?_eq_some_iff.mp hv).1
  exact ⟨fun q => q.elim h0 fun q => by omega, hv⟩
theorem Go.arraylength (C : Cx Z x code maxL ret E) {a : Addr} {ty : FieldType} {vs : List Value} {z : Int32} (H : ∀ h, Rep Z h M → ArrIs Z h a ty vs) (hz : vs.length.toInt32 = z) (hd : decode code pc = .ok (.arraylength, 1)) (hq : pc + 1 = q) (hr : Go l Z R E Q M k n q Ls (.int z :: st)) : Go l Z R E Q M k n pc Ls (.ref a :: st) := by
  intro T locs X F r
  obtain ⟨c, A, e⟩ := H _ r
  obtain ⟨s₂, v, L, h1, h2⟩ := hr T locs X F r
  refine ⟨s₂, v, L, Stand.arraylength X C.1 A.1 (State.isArrayOf_alike C.2.1.alike A.2.1) (g := mkF E.2.2.2.1 pc Ls (.ref a :: st)) rfl rfl (hb C.2.2.2.1 hd) _ ?_, h2⟩
  have : c.slots.size.toInt32 = z := by rw [← hz, ← e, Array.length_toList]
  rw [this]
  exact hq ▸ h1
theorem Go.iaload (C : Cx Z x code maxL ret E) {a : Addr} {vs : List Value} {j : Int32} {v : Value} (H : ∀ h, Rep Z h M → ArrIs Z h a .int vs) (h0 : ¬ j < 0) (hv : vs[j.toNatClampNeg]? = some v) (hd : decode code pc = .ok (.iaload, 1)) (hq : pc + 1 = q) (hr : Go l Z R E Q M k n q Ls (v :: st)) : Go l Z R E Q M k n pc Ls (.int j :: .ref a :: st) := by
  intro T locs X F r
  obtain ⟨c, A, e⟩ := H _ r
  obtain ⟨g1, g2⟩ := in_of e h0 hv
  obtain ⟨s₂, v, L, h1, h2⟩ := hr T locs X F r
  exact ⟨s₂, v, L, Stand.iaload X C.1 A.1 (State.isArrayOf_alike C.2.1.alike A.2.1) A.2.2 g1 g2 (g := mkF E.2.2.2.1 pc Ls (.int j :: .ref a :: st)) rfl rfl (hb C.2.2.2.1 hd) _ (hq ▸ h1), h2⟩
theorem Go.laload (C : Cx Z x code maxL ret E) {a : Addr} {vs : List Value} {j : Int32} {v : Value} (H : ∀ h, Rep Z h M → ArrIs Z h a .long vs) (h0 : ¬ j < 0) (hv : vs[j.toNatClampNeg]? = some v) (hd : decode code pc = .ok (.laload, 1)) (hq : pc + 1 = q) (hr : Go l Z R E Q M k n q Ls (v :: st)) : Go l Z R E Q M k n pc Ls (.int j :: .ref a :: st) := by
  intro T locs X F r
  obtain ⟨c, A, e⟩ := H _ r
  obtain ⟨g1, g2⟩ := in_of e h0 hv
  obtain ⟨s₂, v, L, h1, h2⟩ := hr T locs X F r
  exact ⟨s₂, v, L, Stand.laload X C.1 A.1 (State.isArrayOf_alike C.2.1.alike A.2.1) A.2.2 g1 g2 (g := mkF E.2.2.2.1 pc Ls (.int j :: .ref a :: st)) rfl rfl (hb C.2.2.2.1 hd) _ (hq ▸ h1), h2⟩
theorem Go.caload (C : Cx Z x code maxL ret E) {a : Addr} {vs : List Value} {j : Int32} {v : Value} (H : ∀ h, Rep Z h M → ArrIs Z h a .char vs) (h0 : ¬ j < 0) (hv : vs[j.toNatClampNeg]? = some v) (hd : decode code pc = .ok (.caload, 1)) (hq : pc + 1 = q) (hr : Go l Z R E Q M k n q Ls (v :: st)) : Go l Z R E Q M k n pc Ls (.int j :: .ref a :: st) := by
  intro T locs X F r
  obtain ⟨c, A, e⟩ := H _ r
  obtain ⟨g1, g2⟩ := in_of e h0 hv
  obtain ⟨s₂, v, L, h1, h2⟩ := hr T locs X F r
  exact ⟨s₂, v, L, Stand.caload X C.1 A.1 (State.isArrayOf_alike C.2.1.alike A.2.1) A.2.2 g1 g2 (g := mkF E.2.2.2.1 pc Ls (.int j :: .ref a :: st)) rfl rfl (hb C.2.2.2.1 hd) _ (hq ▸ h1), h2⟩
theorem Go.saload (C : Cx Z x code maxL ret E) {a : Addr} {vs : List Value} {j : Int32} {v : Value} (H : ∀ h, Rep Z h M → ArrIs Z h a .short vs) (h0 : ¬ j < 0) (hv : vs[j.toNatClampNeg]? = some v) (hd : decode code pc = .ok (.saload, 1)) (hq : pc + 1 = q) (hr : Go l Z R E Q M k n q Ls (v :: st)) : Go l Z R E Q M k n pc Ls (.int j :: .ref a :: st) := by
  intro T locs X F r
  obtain ⟨c, A, e⟩ := H _ r
  obtain ⟨g1, g2⟩ := in_of e h0 hv
  obtain ⟨s₂, v, L, h1, h2⟩ := hr T locs X F r
  exact ⟨s₂, v, L, Stand.saload X C.1 A.1 (State.isArrayOf_alike C.2.1.alike A.2.1) A.2.2 g1 g2 (g := mkF E.2.2.2.1 pc Ls (.int j :: .ref a :: st)) rfl rfl (hb C.2.2.2.1 hd) _ (hq ▸ h1), h2⟩
theorem Go.baload (C : Cx Z x code maxL ret E) {a : Addr} {vs : List Value} {j : Int32} {v : Value} (H : ∀ h, Rep Z h M → ArrIs Z h a .byte vs) (h0 : ¬ j < 0) (hv : vs[j.toNatClampNeg]? = some v) (hd : decode code pc = .ok (.baload, 1)) (hq : pc + 1 = q) (hr : Go l Z R E Q M k n q Ls (v :: st)) : Go l Z R E Q M k n pc Ls (.int j :: .ref a :: st) := by
  intro T locs X F r
  obtain ⟨c, A, e⟩ := H _ r
  obtain ⟨g1, g2⟩ := in_of e h0 hv
  obtain ⟨s₂, v, L, h1, h2⟩ := hr T locs X F r
  exact ⟨s₂, v, L, Stand.baloadBytes X C.1 A.1 (State.isArrayOf_alike C.2.1.alike A.2.1) A.2.2 g1 g2 (g := mkF E.2.2.2.1 pc Ls (.int j :: .ref a :: st)) rfl rfl (hb C.2.2.2.1 hd) _ (hq ▸ h1), h2⟩
theorem Go.zaload (C : Cx Z x code maxL ret E) {a : Addr} {vs : List Value} {j : Int32} {v : Value} (H : ∀ h, Rep Z h M → ArrIs Z h a .boolean vs) (h0 : ¬ j < 0) (hv : vs[j.toNatClampNeg]? = some v) (hd : decode code pc = .ok (.baload, 1)) (hq : pc + 1 = q) (hr : Go l Z R E Q M k n q Ls (v :: st)) : Go l Z R E Q M k n pc Ls (.int j :: .ref a :: st) := by
  intro T locs X F r
  obtain ⟨c, A, e⟩ := H _ r
  obtain ⟨g1, g2⟩ := in_of e h0 hv
  obtain ⟨s₂, v, L, h1, h2⟩ := hr T locs X F r
  exact ⟨s₂, v, L, Stand.baloadBooleans X C.1 A.1 (State.isArrayOf_alike C.2.1.alike A.2.1) A.2.2 g1 g2 (g := mkF E.2.2.2.1 pc Ls (.int j :: .ref a :: st)) rfl rfl (hb C.2.2.2.1 hd) _ (hq ▸ h1), h2⟩
theorem Go.aaload (C : Cx Z x code maxL ret E) {a : Addr} {ty : FieldType} {vs : List Value} {j : Int32} {v : Value} (H : ∀ h, Rep Z h M → ArrIs Z h a ty vs) (hty : ty.isReference = true) (h0 : ¬ j < 0) (hv : vs[j.toNatClampNeg]? = some v) (hd : decode code pc = .ok (.aaload, 1)) (hq : pc + 1 = q) (hr : Go l Z R E Q M k n q Ls (v :: st)) : Go l Z R E Q M k n pc Ls (.int j :: .ref a :: st) := by
  intro T locs X F r
  obtain ⟨c, A, e⟩ := H _ r
  obtain ⟨g1, g2⟩ := in_of e h0 hv
  obtain ⟨s₂, v, L, h1, h2⟩ := hr T locs X F r
  exact ⟨s₂, v, L, Stand.aaload X C.1 A.1 (State.isArrayOf_alike C.2.1.alike A.2.1) hty A.2.2 g1 g2 (g := mkF E.2.2.2.1 pc Ls (.int j :: .ref a :: st)) rfl rfl (hb C.2.2.2.1 hd) _ (hq ▸ h1), h2⟩
theorem Go.iastore (C : Cx Z x code maxL ret E) {a : Addr} {vs : List Value} {i : Nat} {j : Int32} {w : Int32} {w' : Value} {M' : List Ent} (hi : M[i]? = some (a, .inr (.int, vs, true))) (h0 : ¬ j < 0) (hv : j.toNatClampNeg < vs.length) (hw : .int w = w') (hd : decode code pc = .ok (.iastore, 1)) (hq : pc + 1 = q) (hM : M.set i (a, .inr (.int, vs.set j.toNatClampNeg w', true)) = M') (hr : Go l Z R E Q M' k n q Ls st) : Go l Z R E Q M k n pc Ls (.int w :: .int j :: .ref a :: st) := by
  intro T locs X F r
  subst hw
  obtain ⟨c, A, e, o⟩ := (r.2.1 i _ hi).2
  have g1 : ¬ (j < 0 ∨ c.slots.size ≤ j.toNatClampNeg) := fun q => q.elim h0 fun q => by rw [← e, Array.length_toList] at hv; omega
  obtain ⟨T', h', X', e', W, s'⟩ := stI X C.1 C.2.1 rfl A g1 (g := mkF E.2.2.2.1 pc Ls (.int w :: .int j :: .ref a :: st)) rfl rfl (hb C.2.2.2.1 hd)
  obtain ⟨s₂, v, L, h1, h2⟩ := hr T' _ X' (Fr.snoc X' F (r.fresh hi)) (by rw [e', ← hM]; exact r.wrote hi W ((r.2.1 i _ hi).2.store W))
  exact ⟨s₂, v, L, s' _ (hq ▸ h1), h2⟩
theorem Go.lastore (C : Cx Z x code maxL ret E) {a : Addr} {vs : List Value} {i : Nat} {j : Int32} {w : Int64} {w' : Value} {M' : List Ent} (hi : M[i]? = some (a, .inr (.long, vs, true))) (h0 : ¬ j < 0) (hv : j.toNatClampNeg < vs.length) (hw : .long w = w') (hd : decode code pc = .ok (.lastore, 1)) (hq : pc + 1 = q) (hM : M.set i (a, .inr (.long, vs.set j.toNatClampNeg w', true)) = M') (hr : Go l Z R E Q M' k n q Ls st) : Go l Z R E Q M k n pc Ls (.long w :: .int j :: .ref a :: st) := by
  intro T locs X F r
  subst hw
  obtain ⟨c, A, e, o⟩ := (r.2.1 i _ hi).2
  have g1 : ¬ (j < 0 ∨ c.slots.size ≤ j.toNatClampNeg) := fun q => q.elim h0 fun q => by rw [← e, Array.length_toList] at hv; omega
  obtain ⟨T', h', X', e', W, s'⟩ := stJ X C.1 C.2.1 rfl A g1 (g := mkF E.2.2.2.1 pc Ls (.long w :: .int j :: .ref a :: st)) rfl rfl (hb C.2.2.2.1 hd)
  obtain ⟨s₂, v, L, h1, h2⟩ := hr T' _ X' (Fr.snoc X' F (r.fresh hi)) (by rw [e', ← hM]; exact r.wrote hi W ((r.2.1 i _ hi).2.store W))
  exact ⟨s₂, v, L, s' _ (hq ▸ h1), h2⟩
theorem Go.castore (C : Cx Z x code maxL ret E) {a : Addr} {vs : List Value} {i : Nat} {j : Int32} {w : Int32} {w' : Value} {M' : List Ent} (hi : M[i]? = some (a, .inr (.char, vs, true))) (h0 : ¬ j < 0) (hv : j.toNatClampNeg < vs.length) (hw : .int (nar .char w) = w') (hd : decode code pc = .ok (.castore, 1)) (hq : pc + 1 = q) (hM : M.set i (a, .inr (.char, vs.set j.toNatClampNeg w', true)) = M') (hr : Go l Z R E Q M' k n q Ls st) : Go l Z R E Q M k n pc Ls (.int w :: .int j :: .ref a :: st) := by
  intro T locs X F r
  subst hw
  obtain ⟨c, A, e, o⟩ := (r.2.1 i _ hi).2
  have g1 : ¬ (j < 0 ∨ c.slots.size ≤ j.toNatClampNeg) := fun q => q.elim h0 fun q => by rw [← e, Array.length_toList] at hv; omega
  obtain ⟨T', h', X', e', W, s'⟩ := stC X C.1 C.2.1 rfl A g1 (g := mkF E.2.2.2.1 pc Ls (.int w :: .int j :: .ref a :: st)) rfl rfl (hb C.2.2.2.1 hd)
  obtain ⟨s₂, v, L, h1, h2⟩ := hr T' _ X' (Fr.snoc X' F (r.fresh hi)) (by rw [e', ← hM]; exact r.wrote hi W ((r.2.1 i _ hi).2.store W))
  exact ⟨s₂, v, L, s' _ (hq ▸ h1), h2⟩
theorem Go.bastore (C : Cx Z x code maxL ret E) {a : Addr} {vs : List Value} {i : Nat} {j : Int32} {w : Int32} {w' : Value} {M' : List Ent} (hi : M[i]? = some (a, .inr (.byte, vs, true))) (h0 : ¬ j < 0) (hv : j.toNatClampNeg < vs.length) (hw : .int (nar .byte w) = w') (hd : decode code pc = .ok (.bastore, 1)) (hq : pc + 1 = q) (hM : M.set i (a, .inr (.byte, vs.set j.toNatClampNeg w', true)) = M') (hr : Go l Z R E Q M' k n q Ls st) : Go l Z R E Q M k n pc Ls (.int w :: .int j :: .ref a :: st) := by
  intro T locs X F r
  subst hw
  obtain ⟨c, A, e, o⟩ := (r.2.1 i _ hi).2
  have g1 : ¬ (j < 0 ∨ c.slots.size ≤ j.toNatClampNeg) := fun q => q.elim h0 fun q => by rw [← e, Array.length_toList] at hv; omega
  obtain ⟨T', h', X', e', W, s'⟩ := stB X C.1 C.2.1 rfl A g1 (g := mkF E.2.2.2.1 pc Ls (.int w :: .int j :: .ref a :: st)) rfl rfl (hb C.2.2.2.1 hd)
  obtain ⟨s₂, v, L, h1, h2⟩ := hr T' _ X' (Fr.snoc X' F (r.fresh hi)) (by rw [e', ← hM]; exact r.wrote hi W ((r.2.1 i _ hi).2.store W))
  exact ⟨s₂, v, L, s' _ (hq ▸ h1), h2⟩
theorem Go.zastore (C : Cx Z x code maxL ret E) {a : Addr} {vs : List Value} {i : Nat} {j : Int32} {w : Int32} {w' : Value} {M' : List Ent} (hi : M[i]? = some (a, .inr (.boolean, vs, true))) (h0 : ¬ j < 0) (hv : j.toNatClampNeg < vs.length) (hw : .int (nar .boolean w) = w') (hd : decode code pc = .ok (.bastore, 1)) (hq : pc + 1 = q) (hM : M.set i (a, .inr (.boolean, vs.set j.toNatClampNeg w', true)) = M') (hr : Go l Z R E Q M' k n q Ls st) : Go l Z R E Q M k n pc Ls (.int w :: .int j :: .ref a :: st) := by
  intro T locs X F r
  subst hw
  obtain ⟨c, A, e, o⟩ := (r.2.1 i _ hi).2
  have g1 : ¬ (j < 0 ∨ c.slots.size ≤ j.toNatClampNeg) := fun q => q.elim h0 fun q => by rw [← e, Array.length_toList] at hv; omega
  obtain ⟨T', h', X', e', W, s'⟩ := stZ X C.1 C.2.1 rfl A g1 (g := mkF E.2.2.2.1 pc Ls (.int w :: .int j :: .ref a :: st)) rfl rfl (hb C.2.2.2.1 hd)
  obtain ⟨s₂, v, L, h1, h2⟩ := hr T' _ X' (Fr.snoc X' F (r.fresh hi)) (by rw [e', ← hM]; exact r.wrote hi W ((r.2.1 i _ hi).2.store W))
  exact ⟨s₂, v, L, s' _ (hq ▸ h1), h2⟩
/-- v may lie in an array of K -/
def Fits (Z : State) (h : Heap) (K : String) (v : Value) : Prop := v = .null ∨ ∃ y, v = .ref y ∧ Ins Z h y K true
theorem Go.aastore (C : Cx Z x code maxL ret E) {a : Addr} {K : String} {vs : List Value} {i : Nat} {j : Int32} {v : Value} {M' : List Ent} (hi : M[i]? = some (a, .inr (.object K, vs, true))) (h0 : ¬ j < 0) (hv : j.toNatClampNeg < vs.length) (S : ∀ h, Rep Z h M → Fits Z h K v) (hd : decode code pc = .ok (.aastore, 1)) (hq : pc + 1 = q) (hM : M.set i (a, .inr (.object K, vs.set j.toNatClampNeg v, true)) = M') (hr : Go l Z R E Q M' k n q Ls st) : Go l Z R E Q M k n pc Ls (v :: .int j :: .ref a :: st) := by
  intro T locs X F r
  obtain ⟨c, A, e, o⟩ := (r.2.1 i _ hi).2
  have g1 : ¬ (j < 0 ∨ c.slots.size ≤ j.toNatClampNeg) := fun q => q.elim h0 fun q => by rw [← e, Array.length_toList] at hv; omega
  have g2 : Sto Z T.heap a v := (S _ r).imp id fun ⟨y, e', I⟩ => by
    subst e'
    exact (Sto.of A (o rfl K rfl) I).elim (fun q => by cases q) id
  obtain ⟨T', h', X', e', W, s'⟩ := stR X C.1 C.2.1 rfl A g1 rfl g2 (g := mkF E.2.2.2.1 pc Ls (v :: .int j :: .ref a :: st)) rfl rfl (hb C.2.2.2.1 hd)
  obtain ⟨s₂, v, L, h1, h2⟩ := hr T' _ X' (Fr.snoc X' F (r.fresh hi)) (by rw [e', ← hM]; exact r.wrote hi W ((r.2.1 i _ hi).2.store W))
  exact ⟨s₂, v, L, s' _ (hq ▸ h1), h2⟩
theorem Go.newarray (C : Cx Z x code maxL ret E) {aty : ArrayType} {z : Int32} {cap k' n' : Nat} {ty : FieldType} {vs : List Value} (w : (Cond.arrayClass ty).before a0 Z = true) (hty : newarray.typeOf aty = ty) (hpr : ∀ C, ty ≠ .object C) (h0 : ¬ z < 0) (hcap : z.toNatClampNeg ≤ cap) (hb8 : cap * 8 ≤ 536870912) (hvs : List.replicate z.toNatClampNeg (defaultValue ty) = vs) (hd : decode code pc = .ok (.newarray aty, 2)) (hq : pc + 2 = q)
    (hc : k + 1 ≤ R.cells) (hs : n + cap ≤ R.slots) (hk : k + 1 = k') (hn : n + cap = n') (hr : ∀ a, Go l Z R E Q ((a, .inr (ty, vs, true)) :: M) k' n' q Ls (.ref a :: st)) : Go l Z R E Q M k n pc Ls (.int z :: st) := by
  intro T locs X F r
  subst hty
  obtain ⟨T', h', cA, X', e', Ex, A, s'⟩ := newP X C.1 C.2.1 w rfl (g := mkF E.2.2.2.1 pc Ls (.int z :: st)) rfl (hb C.2.2.2.1 hd) rfl h0 hcap hb8 hc hs
  subst hk hn
  obtain ⟨s₂, v, L, h1, h2⟩ := hr _ T' _ X' F (by
    rw [e']
    exact r.new Ex rfl ⟨_, A, by rw [← hvs]; simp [newA], fun _ C e => absurd e (hpr C)⟩)
  exact ⟨s₂, v, L, s' _ (hq ▸ h1), h2⟩
theorem Go.anewarray (C : Cx Z x code maxL ret E) {idx : Nat} {K : String} {z : Int32} {cap k' n' : Nat} {vs : List Value} (w1 : (Cond.classLink x.cls idx K).before a0 Z = true) (w2 : (Cond.arrayOver (.object K)).before a0 Z = true) (h0 : ¬ z < 0) (hcap : z.toNatClampNeg ≤ cap) (hb8 : cap * 8 ≤ 536870912) (hvs : List.replicate z.toNatClampNeg (.null : Value) = vs) (hd : decode code pc = .ok (.anewarray idx, 3)) (hq : pc + 3 = q)
    (hc : k + 1 ≤ R.cells) (hs : n + cap ≤ R.slots) (hk : k + 1 = k') (hn : n + cap = n') (hr : ∀ a, Go l Z R E Q ((a, .inr (.object K, vs, true)) :: M) k' n' q Ls (.ref a :: st)) : Go l Z R E Q M k n pc Ls (.int z :: st) := by
  intro T locs X F r
  obtain ⟨T', h', cA, X', e', Ex, A, O, s'⟩ := newR X C.1 C.2.1 C.2.2.1 w1 w2 rfl (g := mkF E.2.2.2.1 pc Ls (.int z :: st)) rfl (hb C.2.2.2.1 hd) rfl h0 hcap hb8 hc hs
  subst hk hn
  obtain ⟨s₂, v, L, h1, h2⟩ := hr _ T' _ X' F (by
    rw [e']
    exact r.new Ex rfl ⟨_, A, by rw [← hvs]; simp [newA, defaultValue], fun _ C e => by cases e; exact O⟩)
  exact ⟨s₂, v, L, s' _ (hq ▸ h1), h2⟩
theorem Go.castY (C : Cx Z x code maxL ret E) {idx : Nat} {K : String} {a : Addr} (w : (Cond.classLink x.cls idx K).before a0 Z = true) (H : ∀ h, Rep Z h M → Ins Z h a K true) (hd : decode code pc = .ok (.checkcast idx, 3)) (hq : pc + 3 = q) (hr : Go l Z R E Q M k n q Ls (.ref a :: st)) : Go l Z R E Q M k n pc Ls (.ref a :: st) := by
  intro T locs X F r
  obtain ⟨T', X', e', s'⟩ := RoadKit.castY X C.1 C.2.1 C.2.2.1 w rfl (H _ r) (g := mkF E.2.2.2.1 pc Ls (.ref a :: st)) rfl rfl (hb C.2.2.2.1 hd)
  obtain ⟨s₂, v, L, h1, h2⟩ := hr T' locs X' F (by rw [e']; exact r)
  exact ⟨s₂, v, L, s' _ (hq ▸ h1), h2⟩
theorem Go.instY (C : Cx Z x code maxL ret E) {idx : Nat} {K : String} {a : Addr} (w : (Cond.classLink x.cls idx K).before a0 Z = true) (H : ∀ h, Rep Z h M → Ins Z h a K true) (hd : decode code pc = .ok (.instanceof idx, 3)) (hq : pc + 3 = q) (hr : Go l Z R E Q M k n q Ls (.int 1 :: st)) : Go l Z R E Q M k n pc Ls (.ref a :: st) := by
  intro T locs X F r
  obtain ⟨T', X', e', s'⟩ := RoadKit.instY X C.1 C.2.1 C.2.2.1 w rfl (H _ r) (g := mkF E.2.2.2.1 pc Ls (.ref a :: st)) rfl rfl (hb C.2.2.2.1 hd)
  obtain ⟨s₂, v, L, h1, h2⟩ := hr T' locs X' F (by rw [e']; exact r)
  exact ⟨s₂, v, L, s' _ (hq ▸ h1), h2⟩
theorem Go.instNo (C : Cx Z x code maxL ret E) {idx : Nat} {K C' : String} {a : Addr} (w : (Cond.classLink x.cls idx K).before a0 Z = true) (H : ∀ h, Rep Z h M → Exa Z h a C') (N : ∃ c t, Z.vm.findClass C' = some c ∧ Z.vm.findClass K = some t ∧ Z.vm.assignable c t = false) (hd : decode code pc = .ok (.instanceof idx, 3)) (hq : pc + 3 = q) (hr : Go l Z R E Q M k n q Ls (.int 0 :: st)) : Go l Z R E Q M k n pc Ls (.ref a :: st) := by
  intro T locs X F r
  obtain ⟨T', X', e', s'⟩ := RoadKit.instNo X C.1 C.2.1 C.2.2.1 w rfl (H _ r) N (g := mkF E.2.2.2.1 pc Ls (.ref a :: st)) rfl rfl (hb C.2.2.2.1 hd)
  obtain ⟨s₂, v, L, h1, h2⟩ := hr T' locs X' F (by rw [e']; exact r)
  exact ⟨s₂, v, L, s' _ (hq ▸ h1), h2⟩
theorem Go.instNull (C : Cx Z x code maxL ret E) {idx : Nat} (hd : decode code pc = .ok (.instanceof idx, 3)) (hq : pc + 3 = q) (hr : Go l Z R E Q M k n q Ls (.int 0 :: st)) : Go l Z R E Q M k n pc Ls (.null :: st) :=
  Go.plain hr fun _ _ t X s => Jvm.Stand.instanceofNull X C.1 (g := mkF E.2.2.2.1 pc Ls (.null :: st)) rfl rfl (hb C.2.2.2.1 hd) t (hq ▸ s)
theorem Go.castNull (C : Cx Z x code maxL ret E) {idx : Nat} (hd : decode code pc = .ok (.checkcast idx, 3)) (hq : pc + 3 = q) (hr : Go l Z R E Q M k n q Ls (.null :: st)) : Go l Z R E Q M k n pc Ls (.null :: st) :=
  Go.plain hr fun _ _ t X s => Jvm.Stand.checkcastNull X C.1 (g := mkF E.2.2.2.1 pc Ls (.null :: st)) rfl rfl (hb C.2.2.2.1 hd) t (hq ▸ s)
theorem nsRoot {O K : String} {kk : Nat} (w : (Cond.noSuperclass O).before a0 Z = true) (wk : (Cond.instantiable K kk).before a0 Z = true) (hn : O ≠ K) : NS Z O K := by
  obtain ⟨c, k, h1, h2, h3, -, -⟩ := Cond.noSuperclass_spec w
  obtain ⟨t, _, g1, -⟩ := Cond.instantiable_spec wk
  have ne := ids_ne h1 g1 hn
  refine ⟨c, t, h1, g1, fun fuel => ?_⟩
  cases fuel with
  | zero => rfl
  | succ f => simp [Vm.isSubclassAux, ne, h2, h3]
theorem nsNo {C' S K : String} {kk : Nat} (w : (Cond.superclass C' S).before a0 Z = true) (wk : (Cond.instantiable K kk).before a0 Z = true) (n : NS Z C' K) (hn : C' ≠ K) : ∃ c t, Z.vm.findClass C' = some c ∧ Z.vm.findClass K = some t ∧ Z.vm.assignable c t = false := by
  obtain ⟨c, t, h0, g0, n3⟩ := n
  obtain ⟨p, k, kp, h1, h2, h3, h4, h5, -, h7⟩ := Cond.superclass_spec h0 w
  obtain ⟨t', k', g1, g2, g5, g7, -⟩ := Cond.instantiable_spec wk
  cases g0.symm.trans g1
  have ne := ids_ne h0 g0 hn
  have g8 : k'.isInterface = false := by cases h : k'.isInterface <;> simp [h] at g7 ⊢
  refine ⟨c, t, h0, g0, ?_⟩
  show Z.vm.assignableAux (255 + 1) c t = false
  simp [Vm.assignableAux, ne, h2, g2, h5, g5, g8, Vm.isSubclass, n3]
theorem Go.cloneCast (C : Cx Z x code maxL ret E) {idx idx2 k' n' cap p' : Nat} {ad : String} {ty : FieldType} {a : Addr} {vs : List Value} (w1 : (Cond.methodLink x.cls idx ⟨ad, "clone", "()Ljava/lang/Object;"⟩).before a0 Z = true) (w2 : (Cond.sameMethod ad "java/lang/Object" "clone" "()Ljava/lang/Object;").before a0 Z = true) (w3 : (Cond.native ⟨"java/lang/Object", "clone", "()Ljava/lang/Object;"⟩).before a0 Z = true)
    (w4 : (Cond.instanceMethod ⟨"java/lang/Object", "clone", "()Ljava/lang/Object;"⟩).before a0 Z = true) (w5 : (Cond.selects ad ⟨ad, "clone", "()Ljava/lang/Object;"⟩ ⟨"java/lang/Object", "clone", "()Ljava/lang/Object;"⟩).before a0 Z = true) (w6 : (Cond.castable ad "java/lang/Cloneable").before a0 Z = true) (w7 : (Cond.classLink x.cls idx2 ad).before a0 Z = true)
    (A : ∀ h, Rep Z h M → ArrIs Z h a ty vs) (Ex : ∀ h, Rep Z h M → Exa Z h a ad) (hfit : ∀ v ∈ vs, fits ty v = true) (hd : decode code pc = .ok (.invokevirtual idx, 3)) (hp : pc + 3 = p') (hd' : decode code p' = .ok (.checkcast idx2, 3)) (hq : p' + 3 = q) (hsz : Ls.size = maxL) (hf : 1 ≤ R.frames) {W : Nat} (hW : (st.map fun v => v.category).sum = W) (hl : W + 14 ≤ R.locals) (hcap : vs.length ≤ cap) (hc : k + 1 ≤ R.cells) (hs : n + cap ≤ R.slots) (hk : k + 1 = k') (hn : n + cap = n')
    (hr : ∀ b, Go l Z R E Q ((b, .inr (ty, vs, false)) :: M) k' n' q Ls (.ref b :: st)) : Go l Z R E Q M k n pc Ls (.ref a :: st) := by
  subst hW
  intro T locs X F r
  obtain ⟨cl, Aa, e⟩ := A _ r
  obtain ⟨T', h', X', e', Ext', A', E', s'⟩ := cloneA X C.1 C.2.1 C.2.2.1 w1 w2 w3 w4 w5 w6 rfl Aa (Ex _ r) (fitC_of Aa fun i hi v hv => hfit v (by rw [← e]; exact Array.mem_toList_iff.mpr (Array.mem_of_getElem? hv))) (g := mkF E.2.2.2.1 pc Ls (.ref a :: st)) rfl (hsz.trans C.2.2.2.2.1.symm) rfl (hb C.2.2.2.1 hd) hf (W := (st.map fun v => v.category).sum) (by show 2 * 0 + _ ≤ _; omega) hl (cap := cap) (by rw [← e, Array.length_toList] at hcap; exact hcap) hc hs
  subst hk hn hp
  obtain ⟨T2, X2, e2, s2⟩ := RoadKit.castY X' C.1 C.2.1 C.2.2.1 w7 e' (Ins.self E') (g := mkF E.2.2.2.1 (pc + 3) Ls (.ref T.heap.size :: st)) rfl rfl (hb C.2.2.2.1 hd')
  obtain ⟨s₂, v, L, h1, h2⟩ := hr _ T2 _ X2 F (by
    rw [e2]
    exact r.new Ext' rfl ⟨_, A', e, fun q => by cases q⟩)
  exact ⟨s₂, v, L, s' _ (s2 _ (hq ▸ h1)), h2⟩
/-! calls -/
theorem nf_sel {K : String} {y z : MethodName} (w : (Cond.selects K y y).before a0 Z = true) : ∀ s : State, Z.Warmed39 s.vm → NotFace s y := fun s hZ => notFace_of_selects (args := #[]) (mvT hZ w)
theorem nf_same {K : String} {y y' : MethodName} (hc : y.cls = y'.cls) (w : (Cond.selects K y' y').before a0 Z = true) : ∀ s : State, Z.Warmed39 s.vm → NotFace s y := fun s hZ r0 h0 => by
  obtain ⟨c2, r2, m2, q1, q2, q3, q4, kP, hkP, hkPi⟩ := Cond.selects_spec (mvT (args := #[]) hZ w)
  have e1 := findClass_of_methodNamed h0
  have e2 := findClass_of_methodNamed q3
  rw [hc, e2] at e1
  have e3 := Option.some.inj e1
  exact ⟨kP, e3 ▸ hkP, hkPi⟩
theorem nf_sup {y : MethodName} {S : String} (w : (Cond.superclass y.cls S).before a0 Z = true) : ∀ s : State, Z.Warmed39 s.vm → NotFace s y := fun s hZ => nf_super (args := #[]) (mvT hZ w)
theorem nf_topS {y : MethodName} (w : (Cond.noSuperclass y.cls).before a0 Z = true) : ∀ s : State, Z.Warmed39 s.vm → NotFace s y := fun s hZ => nf_top (args := #[]) (mvT hZ w)
section Calls
variable {y : MethodName} {bytes : ByteArray} {mL : Nat} {rt : Option FieldType} {rm : Room} {as rest : List Value} {Qc : PQ} {idx k' n' : Nat}
theorem len_ok {d : String} (h : (parseMethodDescriptor d).map (fun s => s.parameters.length) = some as.length) : ∀ sig, parseMethodDescriptor d = some sig → as.length = sig.parameters.length := fun sig e => by
  rw [e] at h
  exact (Option.some.inj h).symm
theorem Go.callS (C : Cx Z x code maxL ret E) (w1 : (Cond.methodLink x.cls idx y).before a0 Z = true) (w2 : (Cond.static y).before a0 Z = true) (w3 : (Cond.initialized y.cls).before a0 Z = true) (w4 : (Cond.code y bytes mL rt).before a0 Z = true) (hM : Met l Z y bytes mL rt rm as.toArray M Qc) (hst : st = as.reverse ++ rest)
    (hd : decode code pc = .ok (.invokestatic idx, 3)) (hq : pc + 3 = q) (hy : y.cls ≠ "java/lang/invoke/MethodHandle" ∧ y.cls ≠ "java/lang/invoke/VarHandle") (hsz : Ls.size = maxL) {na W : Nat} (hlen : (parseMethodDescriptor y.desc).map (fun s => s.parameters.length) = some na) (hna : as.length = na) (hf : rm.frames + 1 ≤ R.frames) (hW : (rest.map fun v => v.category).sum = W) (hl : W + (mL + 11) + rm.locals ≤ R.locals) (hc : k + rm.cells ≤ R.cells) (hs : n + rm.slots ≤ R.slots) (hk : k + rm.cells = k') (hn : n + rm.slots = n')
    (hr : ∀ v M', Qc v M' → Go l Z R E Q M' k' n' q Ls (v.toList ++ rest)) : Go l Z R E Q M k n pc Ls st := by
  subst hna hW
  intro T locs X F r
  obtain ⟨v, _, ⟨T', L', c', s'⟩, -, X', ⟨Lc, hQ, l', y', z'⟩, hst'⟩ := Jvm.LawKit.callS X C.1 C.2.2.1 (mvT C.2.1 w1) (mvT C.2.1 w2) (mvT C.2.1 w3) (mvT C.2.1 w4) hy (backOf (W := (rest.map fun v => v.category).sum) (h := T.heap) (Q := fun v h L => Fr Z.heap.size L ∧ ∃ M', Qc v M' ∧ Rep Z h M') (hM [] _ r) C.2.1 w4 w3 hf hl) (g := mkF E.2.2.2.1 pc Ls st) rfl (hsz.trans C.2.2.2.2.1.symm) (argsL := as) (rest := rest) (len_ok hlen) hst (by show 2 * 0 + _ ≤ _; omega) (hb C.2.2.2.1 hd) (fun _ _ => ⟨rfl, rfl, hc, hs⟩)
  dsimp only [Pt.U, Pt.locs, Pt.cells, Pt.slots] at X' l' y' z' hst' hQ
  obtain ⟨FL, M', hQ', r'⟩ := hQ
  subst l' y' z' hk hn
  obtain ⟨s₂, v, L, h1, h2⟩ := hr v M' hQ' T' _ X' (F.app FL) r'
  exact ⟨s₂, v, L, hst' _ (hq ▸ h1), h2⟩
theorem Go.callI (C : Cx Z x code maxL ret E) {a : Addr} (w1 : (Cond.methodLink x.cls idx y).before a0 Z = true) (w2 : (Cond.instanceMethod y).before a0 Z = true) (w3 : (Cond.initialized y.cls).before a0 Z = true) (w4 : (Cond.code y bytes mL none).before a0 Z = true) (hM : Met l Z y bytes mL none rm (.ref a :: as).toArray M Qc) (hst : st = as.reverse ++ .ref a :: rest) (hy1 : y.name = "<init>")
    (hd : decode code pc = .ok (.invokespecial idx, 3)) (hq : pc + 3 = q) (hy : y.cls ≠ "java/lang/invoke/MethodHandle" ∧ y.cls ≠ "java/lang/invoke/VarHandle") (hsz : Ls.size = maxL) {na W : Nat} (hlen : (parseMethodDescriptor y.desc).map (fun s => s.parameters.length) = some na) (hna : as.length = na) (hf : rm.frames + 1 ≤ R.frames) (hW : (rest.map fun v => v.category).sum = W) (hl : W + (mL + 11) + rm.locals ≤ R.locals) (hc : k + rm.cells ≤ R.cells) (hs : n + rm.slots ≤ R.slots) (hk : k + rm.cells = k') (hn : n + rm.slots = n')
    (hr : ∀ v M', Qc v M' → Go l Z R E Q M' k' n' q Ls (v.toList ++ rest)) : Go l Z R E Q M k n pc Ls st := by
  subst hna hW
  intro T locs X F r
  obtain ⟨v, _, ⟨T', L', c', s'⟩, -, X', ⟨Lc, hQ, l', y', z'⟩, hst'⟩ := Stand.specialBack X C.1 hy1 C.2.2.1 (mvT C.2.1 w1) (mvT C.2.1 w2) (mvT C.2.1 w4) hy (backOf (W := (rest.map fun v => v.category).sum) (h := T.heap) (Q := fun v h L => Fr Z.heap.size L ∧ ∃ M', Qc v M' ∧ Rep Z h M') (hM [] _ r) C.2.1 w4 w3 hf hl) (g := mkF E.2.2.2.1 pc Ls st) rfl (hsz.trans C.2.2.2.2.1.symm) (Steps.refl _) (a := a) (argsL := as) (rest := rest) (len_ok hlen) hst (by show 2 * 0 + _ ≤ _; omega) (hb C.2.2.2.1 hd) (fun _ _ => ⟨rfl, rfl, hc, hs⟩)
  dsimp only [Pt.U, Pt.locs, Pt.cells, Pt.slots] at X' l' y' z' hst' hQ
  obtain ⟨FL, M', hQ', r'⟩ := hQ
  subst l' y' z' hk hn
  obtain ⟨s₂, v, L, h1, h2⟩ := hr v M' hQ' T' _ X' (F.app FL) r'
  exact ⟨s₂, v, L, hst'.trans (hq ▸ h1), h2⟩
theorem Go.callV (C : Cx Z x code maxL ret E) {a : Addr} {K : String} {z : MethodName} (w1 : (Cond.methodLink x.cls idx y).before a0 Z = true) (w2 : (Cond.declares y).before a0 Z = true) (nf : ∀ s : State, Z.Warmed39 s.vm → NotFace s y) (w3 : (Cond.selects K y z).before a0 Z = true) (w4 : (Cond.instanceMethod z).before a0 Z = true) (w5 : (Cond.code z bytes mL rt).before a0 Z = true) (w6 : (Cond.initialized z.cls).before a0 Z = true) (H : ∀ h, Rep Z h M → Exa Z h a K) (hM : Met l Z z bytes mL rt rm (.ref a :: as).toArray M Qc) (hst : st = as.reverse ++ .ref a :: rest)
    (hd : decode code pc = .ok (.invokevirtual idx, 3)) (hq : pc + 3 = q) (hy : y.cls ≠ "java/lang/invoke/MethodHandle" ∧ y.cls ≠ "java/lang/invoke/VarHandle") (hsz : Ls.size = maxL) {na W : Nat} (hlen : (parseMethodDescriptor y.desc).map (fun s => s.parameters.length) = some na) (hna : as.length = na) (hf : rm.frames + 1 ≤ R.frames) (hW : (rest.map fun v => v.category).sum = W) (hl : W + (mL + 11) + rm.locals ≤ R.locals) (hc : k + rm.cells ≤ R.cells) (hs : n + rm.slots ≤ R.slots) (hk : k + rm.cells = k') (hn : n + rm.slots = n')
    (hr : ∀ v M', Qc v M' → Go l Z R E Q M' k' n' q Ls (v.toList ++ rest)) : Go l Z R E Q M k n pc Ls st := by
  subst hna hW
  intro T locs X F r
  have nf' : NotFace E.2.2.1 y := nf _ C.2.1
  obtain ⟨_, _, q1, q2, q3⟩ := isOf C.2.1 (rfl : T.heap = T.heap) (H _ r)
  obtain ⟨v, _, ⟨T', L', c', s'⟩, -, X', ⟨Lc, hQ, l', y', z'⟩, hst'⟩ := Stand.virtualBack X C.1 C.2.2.1 (mvT C.2.1 w1) (mvT C.2.1 w2) nf' (mvT C.2.1 w3) (mvT C.2.1 w4) hy (backOf (W := (rest.map fun v => v.category).sum) (h := T.heap) (Q := fun v h L => Fr Z.heap.size L ∧ ∃ M', Qc v M' ∧ Rep Z h M') (hM [] _ r) C.2.1 w5 w6 hf hl) q1 q3 (g := mkF E.2.2.2.1 pc Ls st) rfl (hsz.trans C.2.2.2.2.1.symm) (Steps.refl _) (argsL := as) (rest := rest) (len_ok hlen) hst (by show 2 * 0 + _ ≤ _; omega) (hb C.2.2.2.1 hd) (fun _ _ => ⟨rfl, rfl, hc, hs⟩)
  dsimp only [Pt.U, Pt.locs, Pt.cells, Pt.slots] at X' l' y' z' hst' hQ
  obtain ⟨FL, M', hQ', r'⟩ := hQ
  subst l' y' z' hk hn
  obtain ⟨s₂, v, L, h1, h2⟩ := hr v M' hQ' T' _ X' (F.app FL) r'
  exact ⟨s₂, v, L, hst'.trans (hq ▸ h1), h2⟩
theorem Go.callU (C : Cx Z x code maxL ret E) {a : Addr} {K owner : String} {z : MethodName} (w1 : (Cond.methodLink x.cls idx y).before a0 Z = true) (w2 : (Cond.sameMethod y.cls owner y.name y.desc).before a0 Z = true) (w2' : (Cond.declares ⟨owner, y.name, y.desc⟩).before a0 Z = true) (w3 : (Cond.selects K y z).before a0 Z = true) (w4 : (Cond.instanceMethod z).before a0 Z = true) (w5 : (Cond.code z bytes mL rt).before a0 Z = true) (w6 : (Cond.initialized z.cls).before a0 Z = true) (H : ∀ h, Rep Z h M → Exa Z h a K) (hM : Met l Z z bytes mL rt rm (.ref a :: as).toArray M Qc) (hst : st = as.reverse ++ .ref a :: rest)
    (hd : decode code pc = .ok (.invokevirtual idx, 3)) (hq : pc + 3 = q) (hy : owner ≠ "java/lang/invoke/MethodHandle" ∧ owner ≠ "java/lang/invoke/VarHandle") (hsz : Ls.size = maxL) {na W : Nat} (hlen : (parseMethodDescriptor y.desc).map (fun s => s.parameters.length) = some na) (hna : as.length = na) (hf : rm.frames + 1 ≤ R.frames) (hW : (rest.map fun v => v.category).sum = W) (hl : W + (mL + 11) + rm.locals ≤ R.locals) (hc : k + rm.cells ≤ R.cells) (hs : n + rm.slots ≤ R.slots) (hk : k + rm.cells = k') (hn : n + rm.slots = n')
    (hr : ∀ v M', Qc v M' → Go l Z R E Q M' k' n' q Ls (v.toList ++ rest)) : Go l Z R E Q M k n pc Ls st := by
  subst hna hW
  intro T locs X F r
  obtain ⟨_, _, q1, q2, q3⟩ := isOf C.2.1 (rfl : T.heap = T.heap) (H _ r)
  obtain ⟨v, _, ⟨T', L', c', s'⟩, -, X', ⟨Lc, hQ, l', y', z'⟩, hst'⟩ := Stand.virtualBackUp X C.1 C.2.2.1 (mvT C.2.1 w1) (mvT C.2.1 w2) (mvT C.2.1 w2') hy (mvT C.2.1 w3) (mvT C.2.1 w4) (backOf (W := (rest.map fun v => v.category).sum) (h := T.heap) (Q := fun v h L => Fr Z.heap.size L ∧ ∃ M', Qc v M' ∧ Rep Z h M') (hM [] _ r) C.2.1 w5 w6 hf hl) q1 q3 (g := mkF E.2.2.2.1 pc Ls st) rfl (hsz.trans C.2.2.2.2.1.symm) (Steps.refl _) (argsL := as) (rest := rest) (len_ok hlen) hst (by show 2 * 0 + _ ≤ _; omega) (hb C.2.2.2.1 hd) (fun _ _ => ⟨rfl, rfl, hc, hs⟩)
  dsimp only [Pt.U, Pt.locs, Pt.cells, Pt.slots] at X' l' y' z' hst' hQ
  obtain ⟨FL, M', hQ', r'⟩ := hQ
  subst l' y' z' hk hn
  obtain ⟨s₂, v, L, h1, h2⟩ := hr v M' hQ' T' _ X' (F.app FL) r'
  exact ⟨s₂, v, L, hst'.trans (hq ▸ h1), h2⟩
theorem Go.callP (C : Cx Z x code maxL ret E) {a : Addr} {K : String} (w1 : (Cond.methodLink x.cls idx y).before a0 Z = true) (w2 : (Cond.instanceMethod y).before a0 Z = true) (w3 : (Cond.selects y.cls y y).before a0 Z = true) (w4 : (Cond.privateMethod y).before a0 Z = true) (w5 : (Cond.code y bytes mL rt).before a0 Z = true) (w6 : (Cond.initialized y.cls).before a0 Z = true) (H : ∀ h, Rep Z h M → Exa Z h a K) (hM : Met l Z y bytes mL rt rm (.ref a :: as).toArray M Qc) (hst : st = as.reverse ++ .ref a :: rest)
    (hd : decode code pc = .ok (.invokevirtual idx, 3)) (hq : pc + 3 = q) (hy : y.cls ≠ "java/lang/invoke/MethodHandle" ∧ y.cls ≠ "java/lang/invoke/VarHandle") (hsz : Ls.size = maxL) {na W : Nat} (hlen : (parseMethodDescriptor y.desc).map (fun s => s.parameters.length) = some na) (hna : as.length = na) (hf : rm.frames + 1 ≤ R.frames) (hW : (rest.map fun v => v.category).sum = W) (hl : W + (mL + 11) + rm.locals ≤ R.locals) (hc : k + rm.cells ≤ R.cells) (hs : n + rm.slots ≤ R.slots) (hk : k + rm.cells = k') (hn : n + rm.slots = n')
    (hr : ∀ v M', Qc v M' → Go l Z R E Q M' k' n' q Ls (v.toList ++ rest)) : Go l Z R E Q M k n pc Ls st := by
  subst hna hW
  intro T locs X F r
  obtain ⟨cq, q1, q2⟩ := (H _ r).cell
  obtain ⟨v, _, ⟨T', L', c', s'⟩, -, X', ⟨Lc, hQ, l', y', z'⟩, hst'⟩ := Stand.privateBack X C.1 C.2.2.1 (mvT C.2.1 w1) (mvT C.2.1 w2) (mvT C.2.1 w3) (Cond.privateMethod_at (mvP C.2.1 w4 (args := #[]))) (mvT C.2.1 w5) hy (backOf (W := (rest.map fun v => v.category).sum) (h := T.heap) (Q := fun v h L => Fr Z.heap.size L ∧ ∃ M', Qc v M' ∧ Rep Z h M') (hM [] _ r) C.2.1 w5 w6 hf hl) (g := mkF E.2.2.2.1 pc Ls st) rfl (hsz.trans C.2.2.2.2.1.symm) (Steps.refl _) q1 q2 (argsL := as) (rest := rest) (len_ok hlen) hst (by show 2 * 0 + _ ≤ _; omega) (hb C.2.2.2.1 hd) (fun _ _ => ⟨rfl, rfl, hc, hs⟩)
  dsimp only [Pt.U, Pt.locs, Pt.cells, Pt.slots] at X' l' y' z' hst' hQ
  obtain ⟨FL, M', hQ', r'⟩ := hQ
  subst l' y' z' hk hn
  obtain ⟨s₂, v, L, h1, h2⟩ := hr v M' hQ' T' _ X' (F.app FL) r'
  exact ⟨s₂, v, L, hst'.trans (hq ▸ h1), h2⟩
end Calls
/-! returns -/
theorem Go.ret0 (C : Cx Z x code maxL ret E) (hret : ret = none) (hd : decode code pc = .ok (.return_, 1)) (hc : k ≤ R.cells) (hs : n ≤ R.slots) (hQ : Q none M) : Go l Z R E Q M k n pc Ls [] := by
  intro T locs X F r
  obtain ⟨fs, hr, hrun, hended, hW, hsame⟩ := Stand.leave X (v := none) (fun _ => rfl) C.2.2.2.2.2.2.1
  exact ⟨_, none, locs, Stand.returnOut X C.1 (C.2.2.2.2.2.1.trans hret) (hb C.2.2.2.1 hd) hr, hrun, hended, F, ⟨M, hQ, r⟩, ⟨_, rfl⟩, hW, hsame.mono hc hs⟩
theorem Go.retW (C : Cx Z x code maxL ret E) {t : FieldType} {i : Instr} {w : Value} (hret : ret = some t) (hn : narrow t w = w)
    (hi : (i = .ireturn ∧ (t = .int ∨ t = .boolean ∨ t = .byte ∨ t = .char ∨ t = .short) ∧ ∃ z, w = .int z) ∨ (i = .lreturn ∧ t = .long ∧ ∃ z, w = .long z) ∨ (i = .dreturn ∧ t = .double ∧ ∃ z, w = .double z) ∨ (i = .freturn ∧ t = .float ∧ ∃ z, w = .float z) ∨ (i = .areturn ∧ t.isReference = true ∧ w.isRef = true))
    (hd : decode code pc = .ok (i, 1)) (hc : k ≤ R.cells) (hs : n ≤ R.slots) (hQ : Q (some w) M) : Go l Z R E Q M k n pc Ls (w :: st) := by
  intro T locs X F r
  obtain ⟨fs, hr, hrun, hended, hW, hsame⟩ := Stand.leave X (v := some w) (fun h => by rw [C.2.2.2.2.2.1, hret] at h; cases h) C.2.2.2.2.2.2.1
  exact ⟨_, some w, locs, retOut X C.1 (C.2.2.2.2.2.1.trans hret) hn hi (hb C.2.2.2.1 hd) hr, hrun, hended, F, ⟨M, hQ, r⟩, ⟨_, rfl⟩, hW, hsame.mono hc hs⟩
theorem Go.retI (C : Cx Z x code maxL ret E) {z : Int32} (hret : ret = some .int) (hd : decode code pc = .ok (.ireturn, 1)) (hc : k ≤ R.cells) (hs : n ≤ R.slots) (hQ : Q (some (.int z)) M) : Go l Z R E Q M k n pc Ls (.int z :: st) :=
  Go.retW C hret rfl (Or.inl ⟨rfl, Or.inl rfl, _, rfl⟩) hd hc hs hQ
theorem Go.retL (C : Cx Z x code maxL ret E) {z : Int64} (hret : ret = some .long) (hd : decode code pc = .ok (.lreturn, 1)) (hc : k ≤ R.cells) (hs : n ≤ R.slots) (hQ : Q (some (.long z)) M) : Go l Z R E Q M k n pc Ls (.long z :: st) :=
  Go.retW C hret rfl (Or.inr (Or.inl ⟨rfl, rfl, _, rfl⟩)) hd hc hs hQ
theorem Go.retZ (C : Cx Z x code maxL ret E) {z : Int32} (hret : ret = some .boolean) (hz : z &&& 1 = z) (hd : decode code pc = .ok (.ireturn, 1)) (hc : k ≤ R.cells) (hs : n ≤ R.slots) (hQ : Q (some (.int z)) M) : Go l Z R E Q M k n pc Ls (.int z :: st) :=
  Go.retW C hret (congrArg Value.int hz) (Or.inl ⟨rfl, Or.inr (Or.inl rfl), _, rfl⟩) hd hc hs hQ
theorem Go.retA (C : Cx Z x code maxL ret E) {t : FieldType} {w : Value} (hret : ret = some t) (ht : t.isReference = true) (hw : w.isRef = true) (hd : decode code pc = .ok (.areturn, 1)) (hc : k ≤ R.cells) (hs : n ≤ R.slots) (hQ : Q (some w) M) : Go l Z R E Q M k n pc Ls (w :: st) :=
  Go.retW C hret (by cases t <;> first | (cases ht; done) | rfl) (Or.inr (Or.inr (Or.inr (Or.inr ⟨rfl, ht, hw⟩)))) hd hc hs hQ
end Walk
/-! entries that have been resolved already, and a private constructor of a nest mate -/
section Ready
variable {p : Program} {l : Launch} {e : Env} {R : Room} {s : State} {m : MethodId} {args : Array Value} {below : List Frame} {meth : Method} {c : Code} {T : State} {locs : List Loc} {cells slots : Nat}
theorem getReady (X : Stand p l e R s m args below meth c T locs cells slots) (hexec : p.tables.exec = Jvm.exec) {index cf : Nat} {f : Field} (hready : T.vm.fieldReady m.cls index cf f) (hst : f.isStatic = false) {a : Addr} {cell : Cell} {v : Value} (hcell : T.heap[a]? = some cell) (hknown : cell.vm ≠ .unknown) (hslot : cell.slots[f.slot]? = some v)
    {g : JFrame} (hg : g.method = m) {rest : List Value} (hstack : g.stack = .ref a :: rest) (hdg : decode c.code g.pc = .ok (.getfield index, 3)) : ∀ target, Steps p.tables e below (T.setTop { g with pc := g.pc + 3, stack := v :: rest }) target → Steps p.tables e below (T.setTop g) target := by
  intro target hrest
  subst hg
  jvm_step X.here [hexec, hdg, getfield.wp_ready (e := e) (s := T) (f := g) X.here.top hready hst hstack hcell hknown hslot]
  exact hrest
theorem virtReady (X : Stand p l e R s m args below meth c T locs cells slots) (hexec : p.tables.exec = Jvm.exec) {index : Nat} {r0 : MethodId} {r : Method} {kr : Class} (hres : namesResolved T.vm m.cls index r0.cls) (hready : T.vm.methodReady m.cls index r0) (hkr : T.vm.classes[r0.cls]? = some kr) (hni : kr.isInterface = false) (hnp : signaturePolymorphic kr r = false) (hrm : T.vm.method? r0 = some r) (hstatic : r.isStatic = false)
    {a : Addr} {cell : Cell} (hcell : T.heap[a]? = some cell) (hobj : ∀ c, cell.vm ≠ .statics c) (hsel : selectMethod e.platform T.vm cell.cls r0 = .method r0) (habs : r.isAbstract = false) {g : JFrame} (hg : g.method = m) {argsL rest : List Value} (hlen : argsL.length = r.sig.parameters.length) (hstack : g.stack = argsL.reverse ++ .ref a :: rest) (hdg : decode c.code g.pc = .ok (.invokevirtual index, 3)) :
    ∀ target, (∀ acts, Steps p.tables e below (doInvoke e (T.setTop { g with stack := rest }) acts r0 (.ref a :: argsL).toArray).1 target) → Steps p.tables e below (T.setTop g) target := by
  intro target hrest
  subst hg
  jvm_step X.here [hexec, hdg, invokevirtual.wp_named (e := e) (s := T) (f := g) (r := r0) (m := r0) (c' := r0.cls) (k := kr) (k' := kr) (mk := kr) (rmeth := r) (meth := r) (a := a) (args := argsL) (rest := rest) (cell := cell) X.here.top hres hkr hni hready hkr hrm hnp hstatic hlen hstack hcell hobj hsel hrm habs hkr hni]
  exact hrest
theorem initReady (X : Stand p l e R s m args below meth c T locs cells slots) (hexec : p.tables.exec = Jvm.exec) {index : Nat} {r0 : MethodId} {r : Method} {kr : Class} (hres : namesResolved T.vm m.cls index r0.cls) (hready : T.vm.methodReady m.cls index r0) (hkr : T.vm.classes[r0.cls]? = some kr) (hrm : T.vm.method? r0 = some r) (hname : r.name = "<init>") (hstatic : r.isStatic = false) (habs : r.isAbstract = false) (hfound : lookupSpecial T.vm r0.cls "<init>" r.desc = .method r0)
    {a : Addr} {g : JFrame} (hg : g.method = m) {argsL rest : List Value} (hlen : argsL.length = r.sig.parameters.length) (hstack : g.stack = argsL.reverse ++ .ref a :: rest) (hdg : decode c.code g.pc = .ok (.invokespecial index, 3)) :
    ∀ target, (∀ acts, Steps p.tables e below (doInvoke e (T.setTop { g with stack := rest }) acts r0 (.ref a :: argsL).toArray).1 target) → Steps p.tables e below (T.setTop g) target := by
  intro target hrest
  subst hg
  jvm_step X.here [hexec, hdg, invokespecial.wp_init (e := e) (s := T) (k := kr) (meth := r) (m := r0) (a := a) (args := argsL) (rest := rest) (f := g) X.here.top hres hready hkr hrm hname hstatic habs hfound hlen hstack]
  exact hrest
/-- what a resolved entry says where the walk stands -/
theorem ref_now (X : Stand p l e R s m args below meth c T locs cells slots) {Z : State} {a0 : Array Value} (hZ : Z.Warmed39 s.vm) {own : String} {index : Nat} {y : MethodName} (hown : s.vm.findClass own = some m.cls) (w : (Cond.methodRef own index y).before a0 Z = true) (hy : y.cls ≠ "java/lang/invoke/MethodHandle" ∧ y.cls ≠ "java/lang/invoke/VarHandle") {mk : MethodId} (hn : s.methodNamed? y = some mk) :
    T.vm.methodReady m.cls index mk ∧ namesResolved T.vm m.cls index mk.cls := by
  have hW : Z.Warmed39 T.vm := wtrans hZ X.warmed
  have hnT : T.methodNamed? y = some mk := X.named hn
  have hnZ : Z.methodNamed? y = some mk := by
    have q : (Z.setVm s.vm).methodNamed? y = some mk := hn
    rw [State.methodNamed?_setVm hZ.alike] at q
    exact q
  have w1 : (Cond.methodRef own index y).before a0 (Z.setVm T.vm) = true := Cond.methodRef_warmed39 hW hnZ hy w
  have w2 : (Cond.methodRef own index y).before a0 T = true := w1
  have hownT : T.vm.findClass own = some m.cls := by rw [X.warmed.alike.findClass]; exact hown
  obtain ⟨m', c', h1, h2, h3, h4⟩ := Cond.methodRef_named e hownT w2
  cases (State.methodFound?_of_named hnT hy).symm.trans h1
  cases (findClass_of_methodNamed hnT).symm.trans h3
  exact ⟨h2, h4⟩
end Ready
section Walk2
variable {l : Launch} {Z : State} {R : Room} {E : E0} {Q : PQ} {M : List Ent} {k n pc q : Nat} {Ls Ls' : Array Slot} {st : List Value} {x : MethodName} {code : ByteArray} {maxL : Nat} {ret : Option FieldType} {a0 : Array Value}
variable {y : MethodName} {bytes : ByteArray} {mL : Nat} {rt : Option FieldType} {rm : Room} {as rest : List Value} {Qc : PQ} {idx k' n' : Nat}
theorem Go.getR (C : Cx Z x code maxL ret E) {idx : Nat} {O nm d : String} {a : Addr} {v : Value} (w : (Cond.fieldRef x.cls idx O nm d).before a0 Z = true) (H : ∀ h, Rep Z h M → Fld Z h a O nm d v) (hd : decode code pc = .ok (.getfield idx, 3)) (hq : pc + 3 = q) (hr : Go l Z R E Q M k n q Ls (v :: st)) : Go l Z R E Q M k n pc Ls (.ref a :: st) := by
  intro T locs X F r
  have hW : Z.Warmed39 T.vm := wtrans C.2.1 X.warmed
  have w1 : (Cond.fieldRef x.cls idx O nm d).before a0 (Z.setVm T.vm) = true := Cond.fieldRef_warmed39 hW w
  have hown : (Z.setVm T.vm).vm.findClass x.cls = some E.2.2.2.1.cls := by
    show T.vm.findClass x.cls = _
    rw [X.warmed.alike.findClass]
    exact C.2.2.1
  obtain ⟨cf, kk, i, f, h1, h2⟩ := Cond.fieldRef_spec hown w1
  obtain ⟨cell, cf', k', i', f', g1, g2, g3, g4, -, -, g7⟩ := H _ r
  obtain ⟨k2, hi, -⟩ := State.fieldFound?_setVm (s := Z) hW.alike g2
  cases hi.symm.trans h1
  obtain ⟨s₂, v, L, p1, p2⟩ := hr T locs X F r
  exact ⟨s₂, v, L, getReady X C.1 (show T.vm.fieldReady E.2.2.2.1.cls idx _ _ from h2) g3 g1 g4 g7 (g := mkF E.2.2.2.1 pc Ls (.ref a :: st)) rfl rfl (hb C.2.2.2.1 hd) _ (hq ▸ p1), p2⟩
theorem Go.callPR (C : Cx Z x code maxL ret E) {a : Addr} {K : String} (w1 : (Cond.methodRef x.cls idx y).before a0 Z = true) (w2 : (Cond.instanceMethod y).before a0 Z = true) (w3 : (Cond.selects y.cls y y).before a0 Z = true) (w4 : (Cond.privateMethod y).before a0 Z = true) (w5 : (Cond.code y bytes mL rt).before a0 Z = true) (w6 : (Cond.initialized y.cls).before a0 Z = true) (H : ∀ h, Rep Z h M → Exa Z h a K) (hM : Met l Z y bytes mL rt rm (.ref a :: as).toArray M Qc) (hst : st = as.reverse ++ .ref a :: rest)
    (hd : decode code pc = .ok (.invokevirtual idx, 3)) (hq : pc + 3 = q) (hy : y.cls ≠ "java/lang/invoke/MethodHandle" ∧ y.cls ≠ "java/lang/invoke/VarHandle") (hsz : Ls.size = maxL) {na W : Nat} (hlen : (parseMethodDescriptor y.desc).map (fun s => s.parameters.length) = some na) (hna : as.length = na) (hf : rm.frames + 1 ≤ R.frames) (hW : (rest.map fun v => v.category).sum = W) (hl : W + (mL + 11) + rm.locals ≤ R.locals) (hc : k + rm.cells ≤ R.cells) (hs : n + rm.slots ≤ R.slots) (hk : k + rm.cells = k') (hn : n + rm.slots = n')
    (hr : ∀ v M', Qc v M' → Go l Z R E Q M' k' n' q Ls (v.toList ++ rest)) : Go l Z R E Q M k n pc Ls st := by
  subst hna hW
  intro T locs X F r
  obtain ⟨cell, q1, q2⟩ := (H _ r).cell
  obtain ⟨mk, methM, hnamed, hmethM, hstM, habM⟩ := Cond.instanceMethod_spec (mvT (args := E.2.2.2.2.1) C.2.1 w2)
  obtain ⟨methM', cM, hmethM', -, -, -, -, -, -, hsigM⟩ := Cond.code_spec hnamed (mvT (args := E.2.2.2.2.1) C.2.1 w5)
  cases hmethM.symm.trans hmethM'
  obtain ⟨c2, r2, m2, -, -, q3, -, kP, hkP, hkPi⟩ := Cond.selects_spec (mvT (args := E.2.2.2.2.1) C.2.1 w3)
  cases hnamed.symm.trans q3
  have hpriv := Cond.privateMethod_at (mvP C.2.1 w4 (args := #[]))
  obtain ⟨r1, r2⟩ := ref_now X C.2.1 C.2.2.1 w1 hy hnamed
  have al := X.warmed.alike
  obtain ⟨kr, hkr, her⟩ := al.2.2 _ _ hkP
  have hrmT : T.vm.method? mk = some methM := by rw [al.method?]; exact hmethM
  obtain ⟨kx, hkx, hnx⟩ := className_of_methodNamed hnamed
  cases hkP.symm.trans hkx
  have hselP : selectMethod E.2.1.platform T.vm cell.cls mk = .method mk := by
    rw [al.selectMethod]
    exact selectMethod_private hmethM (hpriv mk methM hnamed hmethM)
  have hstep := virtReady X C.1 r2 r1 hkr (by rw [her]; exact hkPi) (by
    have h1 : kr.name = y.cls := by rw [her]; exact hnx
    simp [signaturePolymorphic, h1, hy.1, hy.2]) hrmT hstM q1 q2 hselP habM (g := mkF E.2.2.2.1 pc Ls st) rfl (argsL := as) (rest := rest) (len_ok hlen _ hsigM) hst (hb C.2.2.2.1 hd)
  have hK := backOf (R := R) (p := E.1) (e := E.2.1) (below := E.2.2.2.2.2.1) (s := E.2.2.1) (args := E.2.2.2.2.1) (len := 3) (W := (rest.map fun v => v.category).sum) (h := T.heap) (Q := fun v h L => Fr Z.heap.size L ∧ ∃ M', Qc v M' ∧ Rep Z h M') (hM [] _ r) C.2.1 w5 w6 hf hl
  obtain ⟨v, ⟨T', L', c', s'⟩, X', ⟨Lc, hQ, l', y', z'⟩, hsteps⟩ := hK E.2.2.2.1 E.2.2.2.2.2.2.1 E.2.2.2.2.2.2.2 ⟨T, locs, k, n⟩ (mkF E.2.2.2.1 pc Ls rest) (.invokevirtual idx) mk (.ref a :: as).toArray X rfl (hsz.trans C.2.2.2.2.1.symm) (hb C.2.2.2.1 hd) (by show 2 * 0 + (rest.map fun v => v.category).sum ≤ _; omega) (X.named hnamed) ⟨rfl, rfl, hc, hs⟩
  dsimp only [Pt.U, Pt.locs, Pt.cells, Pt.slots] at X' l' y' z' hsteps hQ
  obtain ⟨FL, M', hQ', r'⟩ := hQ
  subst l' y' z' hk hn
  obtain ⟨s₂, v, L, h1, h2⟩ := hr v M' hQ' T' _ X' (F.app FL) r'
  exact ⟨s₂, v, L, hstep _ fun acts => by rw [doInvoke_state]; exact hsteps.trans (hq ▸ h1), h2⟩
theorem Go.callIR (C : Cx Z x code maxL ret E) {a : Addr} (w1 : (Cond.methodRef x.cls idx y).before a0 Z = true) (w2 : (Cond.instanceMethod y).before a0 Z = true) (w3 : (Cond.initialized y.cls).before a0 Z = true) (w4 : (Cond.code y bytes mL none).before a0 Z = true) (hM : Met l Z y bytes mL none rm (.ref a :: as).toArray M Qc) (hst : st = as.reverse ++ .ref a :: rest) (hy1 : y.name = "<init>")
    (hd : decode code pc = .ok (.invokespecial idx, 3)) (hq : pc + 3 = q) (hy : y.cls ≠ "java/lang/invoke/MethodHandle" ∧ y.cls ≠ "java/lang/invoke/VarHandle") (hsz : Ls.size = maxL) {na W : Nat} (hlen : (parseMethodDescriptor y.desc).map (fun s => s.parameters.length) = some na) (hna : as.length = na) (hf : rm.frames + 1 ≤ R.frames) (hW : (rest.map fun v => v.category).sum = W) (hl : W + (mL + 11) + rm.locals ≤ R.locals) (hc : k + rm.cells ≤ R.cells) (hs : n + rm.slots ≤ R.slots) (hk : k + rm.cells = k') (hn : n + rm.slots = n')
    (hr : ∀ v M', Qc v M' → Go l Z R E Q M' k' n' q Ls (v.toList ++ rest)) : Go l Z R E Q M k n pc Ls st := by
  subst hna hW
  intro T locs X F r
  obtain ⟨mk, methM, hnamed, hmethM, hstM, habM⟩ := Cond.instanceMethod_spec (mvT (args := E.2.2.2.2.1) C.2.1 w2)
  obtain ⟨methM', cM, hmethM', -, -, -, -, -, -, hsigM⟩ := Cond.code_spec hnamed (mvT (args := E.2.2.2.2.1) C.2.1 w4)
  cases hmethM.symm.trans hmethM'
  obtain ⟨kP, hkP, hnx⟩ := className_of_methodNamed hnamed
  obtain ⟨hnameM, hdescM⟩ := name_of_methodNamed hnamed hmethM
  obtain ⟨r1, r2⟩ := ref_now X C.2.1 C.2.2.1 w1 hy hnamed
  have al := X.warmed.alike
  obtain ⟨kr, hkr, her⟩ := al.2.2 _ _ hkP
  have hrmT : T.vm.method? mk = some methM := by rw [al.method?]; exact hmethM
  have hfound : lookupSpecial T.vm mk.cls "<init>" methM.desc = .method mk := by
    rw [al.lookupSpecial, hdescM, ← hy1]
    exact lookupSpecial_of_named hnamed hmethM hstM
  have hstep := initReady X C.1 r2 r1 hkr hrmT (by rw [hnameM]; exact hy1) hstM habM hfound (a := a) (g := mkF E.2.2.2.1 pc Ls st) rfl (argsL := as) (rest := rest) (len_ok hlen _ hsigM) hst (hb C.2.2.2.1 hd)
  have hK := backOf (R := R) (p := E.1) (e := E.2.1) (below := E.2.2.2.2.2.1) (s := E.2.2.1) (args := E.2.2.2.2.1) (len := 3) (W := (rest.map fun v => v.category).sum) (h := T.heap) (Q := fun v h L => Fr Z.heap.size L ∧ ∃ M', Qc v M' ∧ Rep Z h M') (hM [] _ r) C.2.1 w4 w3 hf hl
  obtain ⟨v, ⟨T', L', c', s'⟩, X', ⟨Lc, hQ, l', y', z'⟩, hsteps⟩ := hK E.2.2.2.1 E.2.2.2.2.2.2.1 E.2.2.2.2.2.2.2 ⟨T, locs, k, n⟩ (mkF E.2.2.2.1 pc Ls rest) (.invokespecial idx) mk (.ref a :: as).toArray X rfl (hsz.trans C.2.2.2.2.1.symm) (hb C.2.2.2.1 hd) (by show 2 * 0 + (rest.map fun v => v.category).sum ≤ _; omega) (X.named hnamed) ⟨rfl, rfl, hc, hs⟩
  dsimp only [Pt.U, Pt.locs, Pt.cells, Pt.slots] at X' l' y' z' hsteps hQ
  obtain ⟨FL, M', hQ', r'⟩ := hQ
  subst l' y' z' hk hn
  obtain ⟨s₂, v, L, h1, h2⟩ := hr v M' hQ' T' _ X' (F.app FL) r'
  exact ⟨s₂, v, L, hstep _ fun acts => by rw [doInvoke_state]; exact hsteps.trans (hq ▸ h1), h2⟩
theorem Go.callIN (C : Cx Z x code maxL ret E) {a : Addr} {host : String} (w1 : (Cond.methodLinkNest x.cls idx y host).before a0 Z = true) (w2 : (Cond.instanceMethod y).before a0 Z = true) (w3 : (Cond.initialized y.cls).before a0 Z = true) (w4 : (Cond.code y bytes mL none).before a0 Z = true) (hM : Met l Z y bytes mL none rm (.ref a :: as).toArray M Qc) (hst : st = as.reverse ++ .ref a :: rest) (hy1 : y.name = "<init>")
    (hd : decode code pc = .ok (.invokespecial idx, 3)) (hq : pc + 3 = q) (hy : y.cls ≠ "java/lang/invoke/MethodHandle" ∧ y.cls ≠ "java/lang/invoke/VarHandle") (hsz : Ls.size = maxL) {na W : Nat} (hlen : (parseMethodDescriptor y.desc).map (fun s => s.parameters.length) = some na) (hna : as.length = na) (hf : rm.frames + 1 ≤ R.frames) (hW : (rest.map fun v => v.category).sum = W) (hl : W + (mL + 11) + rm.locals ≤ R.locals) (hc : k + rm.cells ≤ R.cells) (hs : n + rm.slots ≤ R.slots) (hk : k + rm.cells = k') (hn : n + rm.slots = n')
    (hr : ∀ v M', Qc v M' → Go l Z R E Q M' k' n' q Ls (v.toList ++ rest)) : Go l Z R E Q M k n pc Ls st := by
  subst hna hW
  intro T locs X F r
  have w1' : (Cond.methodLinkNest x.cls idx y host).before a0 (Z.setVm E.2.2.1.vm) = true := Cond.methodLinkNest_wide C.2.1 w1
  obtain ⟨v, _, ⟨T', L', c', s'⟩, -, X', ⟨Lc, hQ, l', y', z'⟩, hst'⟩ := Stand.specialBackNest X C.1 hy1 C.2.2.1 (show (Cond.methodLinkNest x.cls idx y host).before E.2.2.2.2.1 E.2.2.1 = true from w1') (mvT C.2.1 w2) (mvT C.2.1 w4) hy (backOf (W := (rest.map fun v => v.category).sum) (h := T.heap) (Q := fun v h L => Fr Z.heap.size L ∧ ∃ M', Qc v M' ∧ Rep Z h M') (hM [] _ r) C.2.1 w4 w3 hf hl) (g := mkF E.2.2.2.1 pc Ls st) rfl (hsz.trans C.2.2.2.2.1.symm) (Steps.refl _) (a := a) (argsL := as) (rest := rest) (len_ok hlen) hst (by show 2 * 0 + _ ≤ _; omega) (hb C.2.2.2.1 hd) (fun _ _ => ⟨rfl, rfl, hc, hs⟩)
  dsimp only [Pt.U, Pt.locs, Pt.cells, Pt.slots] at X' l' y' z' hst' hQ
  obtain ⟨FL, M', hQ', r'⟩ := hQ
  subst l' y' z' hk hn
  obtain ⟨s₂, v, L, h1, h2⟩ := hr v M' hQ' T' _ X' (F.app FL) r'
  exact ⟨s₂, v, L, hst'.trans (hq ▸ h1), h2⟩
end Walk2
theorem nar_ref {t : FieldType} {v : Value} (h : v.isRef = true) : narrow t v = v := by rcases ref_cases h with rfl | ⟨a, rfl⟩ <;> cases t <;> rfl
theorem fit_obj {K : String} {v : Value} (h : v.isRef = true) : fits (.object K) v = true := by rcases ref_cases h with rfl | ⟨a, rfl⟩ <;> rfl
theorem fld_of_eq {Z : State} {args : Array Value} {t : Term} {a : Addr} {C nm d : String} {k : Int32} (ev : t.eval args Z none [] Z = some (.ref a)) (h : (Cond.eq (.field t C nm d) (.int k)).value args Z none Z [] = some true) : Fld Z Z.heap a C nm d (.int k) := by
  obtain ⟨x, y, h1, h2, h3, h4⟩ := cmp_v (Or.inl h)
  have h2' : (Term.int k).eval args Z none [] Z = some (.int k) := rfl
  have hy : y = .int k := Option.some.inj (h2.symm.trans h2')
  subst hy
  obtain ⟨z, rfl⟩ := h4
  have : z = k := by
    have h5 : (Cond.eq (.field t C nm d) (.int k)).value args Z none Z [] = some (decide (z = k)) := by simp [Cond.value, h1, h2]
    rw [h5] at h
    exact of_decide_eq_true (Option.some.inj h)
  subst this
  rw [fld_at ev] at h1
  exact Fld.start h1
theorem mask_nn (x : Int32) : ¬ (x &&& 2147483647) < 0 := fun h => absurd ((XT.and_neg32 _ _).mp h).2 (by decide)
theorem rem_mask (x d : Int32) (hd : 0 < d.toInt) : 0 ≤ ((x &&& 2147483647) % d).toInt ∧ ((x &&& 2147483647) % d).toInt < d.toInt := by
  have h := mask_nn x
  rw [XT.negI32] at h
  rw [Int32.toInt_mod, Int.tmod_eq_emod_of_nonneg (by omega)]
  exact ⟨Int.emod_nonneg _ (by omega), Int.emod_lt_of_pos _ hd⟩
theorem bool_ok {b : Int32} (h : b = 0 ∨ b = 1) : narrow .boolean (.int b) = .int b ∧ fits .boolean (.int b) = true := by rcases h with rfl | rfl <;> exact ⟨rfl, rfl⟩
theorem ite01 {P : Prop} [Decidable P] : (if P then (1 : Int32) else 0) = 0 ∨ (if P then (1 : Int32) else 0) = 1 := by split <;> simp
theorem ite10 {P : Prop} [Decidable P] : (if P then (0 : Int32) else 1) = 0 ∨ (if P then (0 : Int32) else 1) = 1 := by split <;> simp
theorem and1 {b : Int32} (h : b = 0 ∨ b = 1) : b &&& 1 = b := by rcases h with rfl | rfl <;> rfl
theorem fld_ev {Z : State} {args : Array Value} {t : Term} {a : Addr} {C nm d : String} {v : Value} (ev : t.eval args Z none [] Z = some (.ref a)) (h : (Term.field t C nm d).eval args Z none [] Z = some v) : Fld Z Z.heap a C nm d v := Fld.start ((fld_at ev).symm.trans h)
theorem eq_int {Z : State} {args : Array Value} {idx : List Nat} {t u : Term} {k : Int32} (hu : u.eval args Z none idx Z = some (.int k)) (h : (Cond.eq t u).value args Z none Z idx = some true) : t.eval args Z none idx Z = some (.int k) := by
  obtain ⟨x, y, h1, h2, h3, h4⟩ := cmp_v (Or.inl h)
  have hy : y = .int k := Option.some.inj (h2.symm.trans hu)
  subst hy
  obtain ⟨z, rfl⟩ := h4
  have : z = k := by
    have h5 : (Cond.eq t u).value args Z none Z idx = some (decide (z = k)) := by simp [Cond.value, h1, h2]
    rw [h5] at h
    exact of_decide_eq_true (Option.some.inj h)
  rw [h1, this]
theorem int_of_eq {Z : State} {args : Array Value} {idx : List Nat} {t : Term} {k : Int32} (h : (Cond.eq t (.int k)).value args Z none Z idx = some true) : t.eval args Z none idx Z = some (.int k) := by
  obtain ⟨x, y, h1, h2, h3, h4⟩ := cmp_v (Or.inl h)
  have h2' : (Term.int k).eval args Z none idx Z = some (.int k) := rfl
  have hy : y = .int k := Option.some.inj (h2.symm.trans h2')
  subst hy
  obtain ⟨z, rfl⟩ := h4
  have : z = k := by
    have h5 : (Cond.eq t (.int k)).value args Z none Z idx = some (decide (z = k)) := by simp [Cond.value, h1, h2]
    rw [h5] at h
    exact of_decide_eq_true (Option.some.inj h)
  rw [h1, this]
theorem len_of_eq {Z : State} {args : Array Value} {t : Term} {a : Addr} {c : Cell} {ty : FieldType} {k : Int32} (ev : t.eval args Z none [] Z = some (.ref a)) (A : Arr Z Z.heap a c ty) (h : (Cond.eq (.length t) (.int k)).value args Z none Z [] = some true) : c.slots.toList.length.toInt32 = k ∧ c.slots.toList.length < 2 ^ 31 := by
  have h1 := int_of_eq h
  have e5 := A.fin (Vm.Alike.refl _)
  rw [Array.length_toList]
  by_cases hl : c.slots.size < 2 ^ 31
  · rw [len_f ev e5 hl] at h1
    exact ⟨Value.int.inj (Option.some.inj h1), hl⟩
  · exfalso
    simp [Term.eval, ev, e5, hl] at h1
theorem elem_of_eq {Z : State} {args : Array Value} {t : Term} {a : Addr} {c : Cell} {ty : FieldType} {i k : Int32} (ev : t.eval args Z none [] Z = some (.ref a)) (A : Arr Z Z.heap a c ty) (h : (Cond.eq (.elem t (.int i)) (.int k)).value args Z none Z [] = some true) : c.slots.toList[i.toNatClampNeg]? = some (.int k) := by
  have h1 := int_of_eq h
  have h2 := elem_in (j := i) h1 ev rfl A.1
  rw [Array.getElem?_toList]
  exact h2.2
theorem ge0 {x : Int32} (h : 0 ≤ x.toInt) : ¬ x < 0 := fun q => by rw [XT.negI32] at q; omega
theorem rep0 (s : State) : Rep s s.heap [] := ⟨⟨Nat.le_refl _, fun _ _ q => q⟩, fun i x h => by simp at h, List.nodup_nil⟩
end Jvm.Own
namespace Jvm.Pilot.@@N@@
open Jvm Jvm.ClassFile Sem Op Lib Jvm.Free Jvm.Stand Jvm.LawKit Jvm.RoadKit Bundle Jvm.Own Jvm.Pilot.@@N@@.Jvm.D
abbrev own_tabs : List Jvm.Cond := tables_1 ++ jdkStatics_1
theorem cache_elem {Z : State} {args : Array Value} {C nm d K : String} {cb : Addr} {c : Cell} {ty : FieldType} {D : Jvm.Cond} (ev : (Term.static C nm d).eval args Z none [] Z = some (.ref cb)) (A : Arr Z Z.heap cb c ty) (hs : c.slots.toList.length < 2 ^ 31)
    (h : (Jvm.Cond.all (.static C nm d) (.and (.exactly (.elem (.static C nm d) (.index 0)) K) D)).value args Z none Z [] = some true) :
    ∀ j : Nat, j < c.slots.toList.length → ∃ b, c.slots.toList[j]? = some (.ref b) ∧ Exa Z Z.heap b K ∧ (Term.elem (.static C nm d) (.index 0)).eval args Z none [j] Z = some (.ref b) ∧ D.value args Z none Z [j] = some true := by
  intro j hj
  rw [Array.length_toList] at hj hs
  have h1 := Cond.all_elim ev (A.fin (Vm.Alike.refl _)) h j hj
  obtain ⟨h2, h3⟩ := and_e h1
  obtain ⟨b, e1⟩ := exa_v h2
  refine ⟨b, ?_, exa_at e1 h2, e1, h3⟩
  have ev' : (Term.static C nm d).eval args Z none [j] Z = some (.ref cb) := ev
  have ej : (Term.index 0).eval args Z none [j] Z = some (.int j.toInt32) := rfl
  have h4 := (elem_in e1 ev' ej A.1).2
  rw [Array.getElem?_toList]
  have e5 : j.toInt32.toNatClampNeg = j := by
    have := Int32.toInt_ofNat_of_lt (n := j) (by omega)
    show j.toInt32.toInt.toNat = j
    have e : j.toInt32 = Int32.ofNat j := rfl
    rw [e, this]; rfl
  rw [e5] at h4
  exact h4
theorem len256 {n : Nat} (h : n.toInt32 = 256) (hl : n < 2 ^ 31) : n = 256 := by
  have := Int32.toInt_ofNat_of_lt (n := n) (by omega)
  have e : n.toInt32 = Int32.ofNat n := rfl
  rw [← e, h] at this
  have e2 : (256 : Int32).toInt = 256 := by decide
  omega
theorem cache_val {Z : State} {args : Array Value} {t : Term} {C nm d : String} {b : Addr} {j : Nat} (e1 : t.eval args Z none [j] Z = some (.ref b)) (h : (Jvm.Cond.eq (.field t C nm d) (.sub (.index 0) (.int 128))).value args Z none Z [j] = some true) : Fld Z Z.heap b C nm d (.int (j.toInt32 - 128)) := by
  have h1 := eq_int (k := j.toInt32 - 128) (by simp [Term.eval]) h
  exact Fld.start ((fld_at e1).symm.trans h1)
theorem own_idxI (v : Int32) (h1 : ¬ v < (-128 : Int32)) (h2 : ¬ (127 : Int32) < v) : 0 ≤ (v + (128 : Int32)).toInt ∧ (v + (128 : Int32)).toInt < 256 ∧ (v + (128 : Int32)).toNatClampNeg.toInt32 - 128 = v := by
  rw [Int32.lt_iff_toInt_lt] at h1 h2
  have e1 : (-128 : Int32).toInt = -128 := by decide
  have e2 : (127 : Int32).toInt = 127 := by decide
  have e3 : (128 : Int32).toInt = 128 := by decide
  have e4 : (v + (128 : Int32)).toInt = v.toInt + 128 := by rw [XT.add32 (by rw [e3]; exact ⟨by omega, by omega⟩), e3]
  refine ⟨by omega, by omega, ?_⟩
  rw [(back32 (ge0 (by omega))).1, Int32.add_sub_cancel]
abbrev oInt (v0 : Value) : Own.Rec := .inl ("java/lang/Integer", [(("java/lang/Integer", "value", "I"), v0)])
theorem dc_jdk_18_method_1_0 : decode jdk_18_method_1_code 0 = .ok (.aload_n 0, 1) := by decide +kernel
theorem dc_jdk_18_method_1_1 : decode jdk_18_method_1_code 1 = .ok (.invokespecial 1, 3) := by decide +kernel
theorem dc_jdk_18_method_1_4 : decode jdk_18_method_1_code 4 = .ok (.return_, 1) := by decide +kernel
theorem pn_0 : plainFor (⟨"java/lang/Number", "<init>", "()V"⟩ : MethodName) = true := by first | (apply plainFor_of_name; simp [plainName, overriddenIn]; done) | decide +kernel
set_option maxRecDepth 65536 in
set_option maxHeartbeats 40000000 in
theorem m_number (l : Launch) (Z : State) (a0 : Array Value) (hw : ∀ d ∈ own_tabs, d.before a0 Z = true) (F : List Ent) (a : Addr)  :
    Met l Z (⟨"java/lang/Number", "<init>", "()V"⟩ : MethodName) jdk_18_method_1_code 1 none { frames := 1, cells := 0, slots := 0, locals := 12 } #[(.ref a)] (F) (fun v M' => v = none ∧ M' = F) := by
  refine Met.of_go pn_0 (Ls := #[.val (.ref a)]) (fun m => by first | rfl | (simp [entryFrame, mkF, argsToLocals, Value.category, maxLocals]; done)) ?_
  intro E C
  refine Go.aloadN C dc_jdk_18_method_1_0 (q := 1) rfl rfl rfl ?_
  refine Go.initO C (wd hw 66 rfl) (wd hw 19 rfl) (wd hw 20 rfl) dc_jdk_18_method_1_1 (q := 4) rfl rfl (by decide) (W := 0) rfl (by decide) ?_
  refine Go.ret0 C rfl dc_jdk_18_method_1_4 (by decide) (by decide) ?_
  exact ⟨rfl, rfl⟩
theorem dc_jdk_33_method_23_0 : decode jdk_33_method_23_code 0 = .ok (.aload_n 0, 1) := by decide +kernel
theorem dc_jdk_33_method_23_1 : decode jdk_33_method_23_code 1 = .ok (.invokespecial 202, 3) := by decide +kernel
theorem dc_jdk_33_method_23_4 : decode jdk_33_method_23_code 4 = .ok (.aload_n 0, 1) := by decide +kernel
theorem dc_jdk_33_method_23_5 : decode jdk_33_method_23_code 5 = .ok (.iload_n 1, 1) := by decide +kernel
theorem dc_jdk_33_method_23_6 : decode jdk_33_method_23_code 6 = .ok (.putfield 205, 3) := by decide +kernel
theorem dc_jdk_33_method_23_9 : decode jdk_33_method_23_code 9 = .ok (.return_, 1) := by decide +kernel
theorem pn_1 : plainFor (⟨"java/lang/Integer", "<init>", "(I)V"⟩ : MethodName) = true := by first | (apply plainFor_of_name; simp [plainName, overriddenIn]; done) | decide +kernel
set_option maxRecDepth 65536 in
set_option maxHeartbeats 40000000 in
theorem m_intInit (l : Launch) (Z : State) (a0 : Array Value) (hw : ∀ d ∈ own_tabs, d.before a0 Z = true) (F : List Ent) (a : Addr) (v : Int32)  :
    Met l Z (⟨"java/lang/Integer", "<init>", "(I)V"⟩ : MethodName) jdk_33_method_23_code 2 none { frames := 2, cells := 0, slots := 0, locals := 24 } #[(.ref a), (.int v)] ((a, oInt (.int (0 : Int32))) :: F) (fun r M' => r = none ∧ M' = ((a, oInt (.int v)) :: F)) := by
  refine Met.of_go pn_1 (Ls := #[.val (.ref a), .val (.int v)]) (fun m => by first | rfl | (simp [entryFrame, mkF, argsToLocals, Value.category, maxLocals]; done)) ?_
  intro E C
  refine Go.aloadN C dc_jdk_33_method_23_0 (q := 1) rfl rfl rfl ?_
  refine Go.callI C (y := (⟨"java/lang/Number", "<init>", "()V"⟩ : MethodName)) (a := a) (as := []) (rest := []) (wd hw 60 rfl) (wd hw 61 rfl) (wd hw 64 rfl) (wd hw 65 rfl) (m_number l Z a0 hw _ a) rfl rfl dc_jdk_33_method_23_1 (q := 4) rfl (by decide) rfl (na := 0) (by decide +kernel) rfl (by decide) (W := 0) rfl (by decide) (by decide) (by decide) (k' := 0) (n' := 0) rfl rfl ?_
  rintro _ _ ⟨rfl, rfl⟩
  show Go _ _ _ _ _ _ _ _ _ _ []
  refine Go.aloadN C dc_jdk_33_method_23_4 (q := 5) rfl rfl rfl ?_
  refine Go.iloadN C dc_jdk_33_method_23_5 (q := 6) rfl rfl ?_
  refine Go.putF C (host := "") (i := 0) (j := 0) (Or.inl (wd hw 67 rfl)) Via.refl rfl rfl (Or.inr ⟨(wd hw 68 rfl), rfl, rfl⟩) (wd hw 55 rfl) (ty := .int) (by decide) rfl rfl dc_jdk_33_method_23_6 (q := 9) rfl (M' := ((a, oInt (.int v)) :: F)) rfl ?_
  refine Go.ret0 C rfl dc_jdk_33_method_23_9 (by decide) (by decide) ?_
  exact ⟨rfl, rfl⟩
theorem dc_jdk_33_method_22_0 : decode jdk_33_method_22_code 0 = .ok (.iload_n 0, 1) := by decide +kernel
theorem dc_jdk_33_method_22_1 : decode jdk_33_method_22_code 1 = .ok (.bipush (-128), 2) := by decide +kernel
theorem dc_jdk_33_method_22_3 : decode jdk_33_method_22_code 3 = .ok (.if_icmp .lt 20, 3) := by decide +kernel
theorem dc_jdk_33_method_22_23 : decode jdk_33_method_22_code 23 = .ok (.new 1, 3) := by decide +kernel
theorem dc_jdk_33_method_22_26 : decode jdk_33_method_22_code 26 = .ok (.dup, 1) := by decide +kernel
theorem dc_jdk_33_method_22_27 : decode jdk_33_method_22_code 27 = .ok (.iload_n 0, 1) := by decide +kernel
theorem dc_jdk_33_method_22_28 : decode jdk_33_method_22_code 28 = .ok (.invokespecial 199, 3) := by decide +kernel
theorem dc_jdk_33_method_22_31 : decode jdk_33_method_22_code 31 = .ok (.areturn, 1) := by decide +kernel
theorem dc_jdk_33_method_22_6 : decode jdk_33_method_22_code 6 = .ok (.iload_n 0, 1) := by decide +kernel
theorem dc_jdk_33_method_22_7 : decode jdk_33_method_22_code 7 = .ok (.getstatic 191, 3) := by decide +kernel
theorem dc_jdk_33_method_22_10 : decode jdk_33_method_22_code 10 = .ok (.if_icmp .gt 13, 3) := by decide +kernel
theorem dc_jdk_33_method_22_13 : decode jdk_33_method_22_code 13 = .ok (.getstatic 195, 3) := by decide +kernel
theorem dc_jdk_33_method_22_16 : decode jdk_33_method_22_code 16 = .ok (.iload_n 0, 1) := by decide +kernel
theorem dc_jdk_33_method_22_17 : decode jdk_33_method_22_code 17 = .ok (.sipush 128, 3) := by decide +kernel
theorem dc_jdk_33_method_22_20 : decode jdk_33_method_22_code 20 = .ok (.iadd, 1) := by decide +kernel
theorem dc_jdk_33_method_22_21 : decode jdk_33_method_22_code 21 = .ok (.aaload, 1) := by decide +kernel
theorem dc_jdk_33_method_22_22 : decode jdk_33_method_22_code 22 = .ok (.areturn, 1) := by decide +kernel
theorem pn_2 : plainFor (⟨"java/lang/Integer", "valueOf", "(I)Ljava/lang/Integer;"⟩ : MethodName) = true := by first | (apply plainFor_of_name; simp [plainName, overriddenIn]; done) | decide +kernel
set_option maxRecDepth 65536 in
set_option maxHeartbeats 40000000 in
theorem m_valueOfI (l : Launch) (Z : State) (a0 : Array Value) (hw : ∀ d ∈ own_tabs, d.before a0 Z = true) (F : List Ent) (v : Int32) (cb : Addr) (cs : List Value) (S_high : Sta Z Z.heap "java/lang/Integer$IntegerCache" "high" "I" (.int (127 : Int32))) (S_cache : Sta Z Z.heap "java/lang/Integer$IntegerCache" "cache" "[Ljava/lang/Integer;" (.ref cb)) (A_cache : ArrIs Z Z.heap cb (.object "java/lang/Integer") cs) (H_cache : ∀ j : Nat, j < 256 → ∃ b, cs[j]? = some (.ref b) ∧ Exa Z Z.heap b "java/lang/Integer" ∧ Fld Z Z.heap b "java/lang/Integer" "value" "I" (.int (j.toInt32 - 128))) :
    Met l Z (⟨"java/lang/Integer", "valueOf", "(I)Ljava/lang/Integer;"⟩ : MethodName) jdk_33_method_22_code 1 (some (.object "java/lang/Integer")) { frames := 3, cells := 1, slots := 1, locals := 38 } #[(.int v)] (F) (fun r M' => ∃ b, r = some (.ref b) ∧ ((M' = F ∧ Exa Z Z.heap b "java/lang/Integer" ∧ Fld Z Z.heap b "java/lang/Integer" "value" "I" (.int v)) ∨ M' = ((b, oInt (.int v)) :: F))) := by
  refine Met.of_go pn_2 (Ls := #[.val (.int v)]) (fun m => by first | rfl | (simp [entryFrame, mkF, argsToLocals, Value.category, maxLocals]; done)) ?_
  intro E C
  refine Go.iloadN C dc_jdk_33_method_22_0 (q := 1) rfl rfl ?_
  refine Go.bipush C dc_jdk_33_method_22_1 (q := 3) rfl (v := (-128 : Int32)) (by decide) ?_
  refine Go.icmp C dc_jdk_33_method_22_3 (by decide) (q := 23) rfl (q' := 6) rfl (fun (h3_1 : v < (-128 : Int32)) => ?_) (fun (h3_1 : ¬ v < (-128 : Int32)) => ?_)
  · refine Go.new C (wd hw 54 rfl) (wd hw 55 rfl) (wd hw 50 rfl) [(("java/lang/Integer", "value", "I"), (.int (0 : Int32)))] ⟨⟨Or.inr (wd hw 68 rfl), .int, by decide, rfl⟩, trivial⟩ (by decide) dc_jdk_33_method_22_23 (q := 26) rfl (by decide) (by decide) (k' := 1) (n' := 1) rfl rfl (fun o1 => ?_)
    refine Go.dup C dc_jdk_33_method_22_26 (q := 27) rfl rfl ?_
    refine Go.iloadN C dc_jdk_33_method_22_27 (q := 28) rfl rfl ?_
    refine Go.callI C (y := (⟨"java/lang/Integer", "<init>", "(I)V"⟩ : MethodName)) (a := o1) (as := [(.int v)]) (rest := [(.ref o1)]) (wd hw 56 rfl) (wd hw 57 rfl) (wd hw 50 rfl) (wd hw 59 rfl) (m_intInit l Z a0 hw _ o1 v) rfl rfl dc_jdk_33_method_22_28 (q := 31) rfl (by decide) rfl (na := 1) (by decide +kernel) rfl (by decide) (W := 1) rfl (by decide) (by decide) (by decide) (k' := 1) (n' := 1) rfl rfl ?_
    rintro _ _ ⟨rfl, rfl⟩
    show Go _ _ _ _ _ _ _ _ _ _ [(.ref o1)]
    refine Go.retA C rfl rfl rfl dc_jdk_33_method_22_31 (by decide) (by decide) ?_
    exact ⟨_, rfl, Or.inr rfl⟩
  · refine Go.iloadN C dc_jdk_33_method_22_6 (q := 7) rfl rfl ?_
    refine Go.getS C (host := "") (Or.inl (wd hw 52 rfl)) Via.refl S_high dc_jdk_33_method_22_7 (q := 10) rfl ?_
    refine Go.icmp C dc_jdk_33_method_22_10 (by decide) (q := 23) rfl (q' := 13) rfl (fun (h10_2 : (127 : Int32) < v) => ?_) (fun (h10_2 : ¬ (127 : Int32) < v) => ?_)
    · refine Go.new C (wd hw 54 rfl) (wd hw 55 rfl) (wd hw 50 rfl) [(("java/lang/Integer", "value", "I"), (.int (0 : Int32)))] ⟨⟨Or.inr (wd hw 68 rfl), .int, by decide, rfl⟩, trivial⟩ (by decide) dc_jdk_33_method_22_23 (q := 26) rfl (by decide) (by decide) (k' := 1) (n' := 1) rfl rfl (fun o2 => ?_)
      refine Go.dup C dc_jdk_33_method_22_26 (q := 27) rfl rfl ?_
      refine Go.iloadN C dc_jdk_33_method_22_27 (q := 28) rfl rfl ?_
      refine Go.callI C (y := (⟨"java/lang/Integer", "<init>", "(I)V"⟩ : MethodName)) (a := o2) (as := [(.int v)]) (rest := [(.ref o2)]) (wd hw 56 rfl) (wd hw 57 rfl) (wd hw 50 rfl) (wd hw 59 rfl) (m_intInit l Z a0 hw _ o2 v) rfl rfl dc_jdk_33_method_22_28 (q := 31) rfl (by decide) rfl (na := 1) (by decide +kernel) rfl (by decide) (W := 1) rfl (by decide) (by decide) (by decide) (k' := 1) (n' := 1) rfl rfl ?_
      rintro _ _ ⟨rfl, rfl⟩
      show Go _ _ _ _ _ _ _ _ _ _ [(.ref o2)]
      refine Go.retA C rfl rfl rfl dc_jdk_33_method_22_31 (by decide) (by decide) ?_
      exact ⟨_, rfl, Or.inr rfl⟩
    · refine Go.getS C (host := "") (Or.inl (wd hw 100 rfl)) Via.refl S_cache dc_jdk_33_method_22_13 (q := 16) rfl ?_
      refine Go.iloadN C dc_jdk_33_method_22_16 (q := 17) rfl rfl ?_
      refine Go.sipush C dc_jdk_33_method_22_17 (q := 20) rfl (v := (128 : Int32)) (by decide) ?_
      refine Go.iadd C dc_jdk_33_method_22_20 (q := 21) rfl ?_
      have hix := own_idxI v h3_1 h10_2
      obtain ⟨b, hb1, hb2, hb3⟩ := H_cache (v + (128 : Int32)).toNatClampNeg (by show (v + (128 : Int32)).toInt.toNat < 256; omega)
      rw [hix.2.2] at hb3
      refine Go.aaload C (fun _ r => (A_cache).ext r.1) rfl (ge0 hix.1) (v := (.ref b)) hb1 dc_jdk_33_method_22_21 (q := 22) rfl ?_
      refine Go.retA C rfl rfl rfl dc_jdk_33_method_22_22 (by decide) (by decide) ?_
      exact ⟨b, rfl, Or.inl ⟨rfl, hb2, hb3⟩⟩
abbrev oAL (v0 v1 v2 : Value) : Own.Rec := .inl ("java/util/ArrayList", [(("java/util/AbstractList", "modCount", "I"), v0), (("java/util/ArrayList", "elementData", "[Ljava/lang/Object;"), v1), (("java/util/ArrayList", "size", "I"), v2)])
theorem dc_jdk_22_method_1_0 : decode jdk_22_method_1_code 0 = .ok (.aload_n 0, 1) := by decide +kernel
theorem dc_jdk_22_method_1_1 : decode jdk_22_method_1_code 1 = .ok (.invokespecial 1, 3) := by decide +kernel
theorem dc_jdk_22_method_1_4 : decode jdk_22_method_1_code 4 = .ok (.return_, 1) := by decide +kernel
theorem pn_3 : plainFor (⟨"java/util/AbstractCollection", "<init>", "()V"⟩ : MethodName) = true := by first | (apply plainFor_of_name; simp [plainName, overriddenIn]; done) | decide +kernel
set_option maxRecDepth 65536 in
set_option maxHeartbeats 40000000 in
theorem m_ac (l : Launch) (Z : State) (a0 : Array Value) (hw : ∀ d ∈ own_tabs, d.before a0 Z = true) (F : List Ent) (a : Addr)  :
    Met l Z (⟨"java/util/AbstractCollection", "<init>", "()V"⟩ : MethodName) jdk_22_method_1_code 1 none { frames := 1, cells := 0, slots := 0, locals := 12 } #[(.ref a)] (F) (fun v M' => v = none ∧ M' = F) := by
  refine Met.of_go pn_3 (Ls := #[.val (.ref a)]) (fun m => by first | rfl | (simp [entryFrame, mkF, argsToLocals, Value.category, maxLocals]; done)) ?_
  intro E C
  refine Go.aloadN C dc_jdk_22_method_1_0 (q := 1) rfl rfl rfl ?_
  refine Go.initO C (wd hw 18 rfl) (wd hw 19 rfl) (wd hw 20 rfl) dc_jdk_22_method_1_1 (q := 4) rfl rfl (by decide) (W := 0) rfl (by decide) ?_
  refine Go.ret0 C rfl dc_jdk_22_method_1_4 (by decide) (by decide) ?_
  exact ⟨rfl, rfl⟩
theorem dc_jdk_39_method_1_0 : decode jdk_39_method_1_code 0 = .ok (.aload_n 0, 1) := by decide +kernel
theorem dc_jdk_39_method_1_1 : decode jdk_39_method_1_code 1 = .ok (.invokespecial 1, 3) := by decide +kernel
theorem dc_jdk_39_method_1_4 : decode jdk_39_method_1_code 4 = .ok (.aload_n 0, 1) := by decide +kernel
theorem dc_jdk_39_method_1_5 : decode jdk_39_method_1_code 5 = .ok (.iconst 0, 1) := by decide +kernel
theorem dc_jdk_39_method_1_6 : decode jdk_39_method_1_code 6 = .ok (.putfield 7, 3) := by decide +kernel
theorem dc_jdk_39_method_1_9 : decode jdk_39_method_1_code 9 = .ok (.return_, 1) := by decide +kernel
theorem pn_4 : plainFor (⟨"java/util/AbstractList", "<init>", "()V"⟩ : MethodName) = true := by first | (apply plainFor_of_name; simp [plainName, overriddenIn]; done) | decide +kernel
set_option maxRecDepth 65536 in
set_option maxHeartbeats 40000000 in
theorem m_ab (l : Launch) (Z : State) (a0 : Array Value) (hw : ∀ d ∈ own_tabs, d.before a0 Z = true) (F : List Ent) (a : Addr)  :
    Met l Z (⟨"java/util/AbstractList", "<init>", "()V"⟩ : MethodName) jdk_39_method_1_code 1 none { frames := 2, cells := 0, slots := 0, locals := 24 } #[(.ref a)] ((a, oAL (.int (0 : Int32)) .null (.int (0 : Int32))) :: F) (fun v M' => v = none ∧ M' = ((a, oAL (.int (0 : Int32)) .null (.int (0 : Int32))) :: F)) := by
  refine Met.of_go pn_4 (Ls := #[.val (.ref a)]) (fun m => by first | rfl | (simp [entryFrame, mkF, argsToLocals, Value.category, maxLocals]; done)) ?_
  intro E C
  refine Go.aloadN C dc_jdk_39_method_1_0 (q := 1) rfl rfl rfl ?_
  refine Go.callI C (y := (⟨"java/util/AbstractCollection", "<init>", "()V"⟩ : MethodName)) (a := a) (as := []) (rest := []) (wd hw 12 rfl) (wd hw 13 rfl) (wd hw 16 rfl) (wd hw 17 rfl) (m_ac l Z a0 hw _ a) rfl rfl dc_jdk_39_method_1_1 (q := 4) rfl (by decide) rfl (na := 0) (by decide +kernel) rfl (by decide) (W := 0) rfl (by decide) (by decide) (by decide) (k' := 0) (n' := 0) rfl rfl ?_
  rintro _ _ ⟨rfl, rfl⟩
  show Go _ _ _ _ _ _ _ _ _ _ []
  refine Go.aloadN C dc_jdk_39_method_1_4 (q := 5) rfl rfl rfl ?_
  refine Go.iconst C dc_jdk_39_method_1_5 (q := 6) rfl (v := (0 : Int32)) rfl ?_
  refine Go.putF C (host := "") (i := 0) (j := 0) (Or.inl (wd hw 21 rfl)) Via.refl rfl rfl (Or.inl (wd hw 22 rfl)) (wd hw 1 rfl) (ty := .int) (by decide) rfl rfl dc_jdk_39_method_1_6 (q := 9) rfl (M' := ((a, oAL (.int (0 : Int32)) .null (.int (0 : Int32))) :: F)) rfl ?_
  refine Go.ret0 C rfl dc_jdk_39_method_1_9 (by decide) (by decide) ?_
  exact ⟨rfl, rfl⟩
theorem dc_jdk_38_method_2_0 : decode jdk_38_method_2_code 0 = .ok (.aload_n 0, 1) := by decide +kernel
theorem dc_jdk_38_method_2_1 : decode jdk_38_method_2_code 1 = .ok (.invokespecial 1, 3) := by decide +kernel
theorem dc_jdk_38_method_2_4 : decode jdk_38_method_2_code 4 = .ok (.aload_n 0, 1) := by decide +kernel
theorem dc_jdk_38_method_2_5 : decode jdk_38_method_2_code 5 = .ok (.getstatic 39, 3) := by decide +kernel
theorem dc_jdk_38_method_2_8 : decode jdk_38_method_2_code 8 = .ok (.putfield 9, 3) := by decide +kernel
theorem dc_jdk_38_method_2_11 : decode jdk_38_method_2_code 11 = .ok (.return_, 1) := by decide +kernel
theorem pn_5 : plainFor (⟨"java/util/ArrayList", "<init>", "()V"⟩ : MethodName) = true := by first | (apply plainFor_of_name; simp [plainName, overriddenIn]; done) | decide +kernel
set_option maxRecDepth 65536 in
set_option maxHeartbeats 40000000 in
theorem m_alInit (l : Launch) (Z : State) (a0 : Array Value) (hw : ∀ d ∈ own_tabs, d.before a0 Z = true) (F : List Ent) (a dc : Addr) (S_dc : Sta Z Z.heap "java/util/ArrayList" "DEFAULTCAPACITY_EMPTY_ELEMENTDATA" "[Ljava/lang/Object;" (.ref dc)) (A_dc : ArrIs Z Z.heap dc (.object "java/lang/Object") []) :
    Met l Z (⟨"java/util/ArrayList", "<init>", "()V"⟩ : MethodName) jdk_38_method_2_code 1 none { frames := 3, cells := 0, slots := 0, locals := 36 } #[(.ref a)] ((a, oAL (.int (0 : Int32)) .null (.int (0 : Int32))) :: F) (fun v M' => v = none ∧ M' = ((a, oAL (.int (0 : Int32)) (.ref dc) (.int (0 : Int32))) :: F)) := by
  refine Met.of_go pn_5 (Ls := #[.val (.ref a)]) (fun m => by first | rfl | (simp [entryFrame, mkF, argsToLocals, Value.category, maxLocals]; done)) ?_
  intro E C
  refine Go.aloadN C dc_jdk_38_method_2_0 (q := 1) rfl rfl rfl ?_
  refine Go.callI C (y := (⟨"java/util/AbstractList", "<init>", "()V"⟩ : MethodName)) (a := a) (as := []) (rest := []) (wd hw 6 rfl) (wd hw 7 rfl) (wd hw 10 rfl) (wd hw 11 rfl) (m_ab l Z a0 hw _ a) rfl rfl dc_jdk_38_method_2_1 (q := 4) rfl (by decide) rfl (na := 0) (by decide +kernel) rfl (by decide) (W := 0) rfl (by decide) (by decide) (by decide) (k' := 0) (n' := 0) rfl rfl ?_
  rintro _ _ ⟨rfl, rfl⟩
  show Go _ _ _ _ _ _ _ _ _ _ []
  refine Go.aloadN C dc_jdk_38_method_2_4 (q := 5) rfl rfl rfl ?_
  refine Go.getS C (host := "") (Or.inl (wd hw 23 rfl)) Via.refl S_dc dc_jdk_38_method_2_5 (q := 8) rfl ?_
  refine Go.putF C (host := "") (i := 0) (j := 1) (Or.inl (wd hw 24 rfl)) Via.refl rfl rfl (Or.inl (wd hw 25 rfl)) (wd hw 1 rfl) (ty := (.array (.object "java/lang/Object"))) (by decide) rfl rfl dc_jdk_38_method_2_8 (q := 11) rfl (M' := ((a, oAL (.int (0 : Int32)) (.ref dc) (.int (0 : Int32))) :: F)) rfl ?_
  refine Go.ret0 C rfl dc_jdk_38_method_2_11 (by decide) (by decide) ?_
  exact ⟨rfl, rfl⟩
theorem dc_jdk_29_method_65_0 : decode jdk_29_method_65_code 0 = .ok (.iload_n 0, 1) := by decide +kernel
theorem dc_jdk_29_method_65_1 : decode jdk_29_method_65_code 1 = .ok (.iload_n 1, 1) := by decide +kernel
theorem dc_jdk_29_method_65_2 : decode jdk_29_method_65_code 2 = .ok (.if_icmp .lt 7, 3) := by decide +kernel
theorem dc_jdk_29_method_65_5 : decode jdk_29_method_65_code 5 = .ok (.iload_n 0, 1) := by decide +kernel
theorem dc_jdk_29_method_65_6 : decode jdk_29_method_65_code 6 = .ok (.goto 4, 3) := by decide +kernel
theorem dc_jdk_29_method_65_10 : decode jdk_29_method_65_code 10 = .ok (.ireturn, 1) := by decide +kernel
theorem pn_6 : plainFor (⟨"java/lang/Math", "max", "(II)I"⟩ : MethodName) = true := by first | (apply plainFor_of_name; simp [plainName, overriddenIn]; done) | decide +kernel
set_option maxRecDepth 65536 in
set_option maxHeartbeats 40000000 in
theorem m_max (l : Launch) (Z : State) (a0 : Array Value) (hw : ∀ d ∈ own_tabs, d.before a0 Z = true) (F : List Ent)  :
    Met l Z (⟨"java/lang/Math", "max", "(II)I"⟩ : MethodName) jdk_29_method_65_code 2 (some .int) { frames := 0, cells := 0, slots := 0, locals := 0 } #[(.int (10 : Int32)), (.int (1 : Int32))] (F) (fun v M' => v = some (.int 10) ∧ M' = F) := by
  refine Met.of_go pn_6 (Ls := #[.val (.int (10 : Int32)), .val (.int (1 : Int32))]) (fun m => by first | rfl | (simp [entryFrame, mkF, argsToLocals, Value.category, maxLocals]; done)) ?_
  intro E C
  refine Go.iloadN C dc_jdk_29_method_65_0 (q := 1) rfl rfl ?_
  refine Go.iloadN C dc_jdk_29_method_65_1 (q := 2) rfl rfl ?_
  refine Go.icmpNo C dc_jdk_29_method_65_2 (q := 5) rfl (XT.ii_lt_f (by decide)) ?_
  refine Go.iloadN C dc_jdk_29_method_65_5 (q := 6) rfl rfl ?_
  refine Go.goto C dc_jdk_29_method_65_6 (by decide) (q := 10) rfl ?_
  refine Go.retI C rfl dc_jdk_29_method_65_10 (by decide) (by decide) ?_
  exact ⟨rfl, rfl⟩
theorem dc_jdk_38_method_6_0 : decode jdk_38_method_6_code 0 = .ok (.aload_n 0, 1) := by decide +kernel
theorem dc_jdk_38_method_6_1 : decode jdk_38_method_6_code 1 = .ok (.getfield 9, 3) := by decide +kernel
theorem dc_jdk_38_method_6_4 : decode jdk_38_method_6_code 4 = .ok (.arraylength, 1) := by decide +kernel
theorem dc_jdk_38_method_6_5 : decode jdk_38_method_6_code 5 = .ok (.istore_n 2, 1) := by decide +kernel
theorem dc_jdk_38_method_6_6 : decode jdk_38_method_6_code 6 = .ok (.iload_n 2, 1) := by decide +kernel
theorem dc_jdk_38_method_6_7 : decode jdk_38_method_6_code 7 = .ok (.ifCond .gt 13, 3) := by decide +kernel
theorem dc_jdk_38_method_6_10 : decode jdk_38_method_6_code 10 = .ok (.aload_n 0, 1) := by decide +kernel
theorem dc_jdk_38_method_6_11 : decode jdk_38_method_6_code 11 = .ok (.getfield 9, 3) := by decide +kernel
theorem dc_jdk_38_method_6_14 : decode jdk_38_method_6_code 14 = .ok (.getstatic 39, 3) := by decide +kernel
theorem dc_jdk_38_method_6_17 : decode jdk_38_method_6_code 17 = .ok (.if_acmp .eq 28, 3) := by decide +kernel
theorem dc_jdk_38_method_6_45 : decode jdk_38_method_6_code 45 = .ok (.aload_n 0, 1) := by decide +kernel
theorem dc_jdk_38_method_6_46 : decode jdk_38_method_6_code 46 = .ok (.bipush 10, 2) := by decide +kernel
theorem dc_jdk_38_method_6_48 : decode jdk_38_method_6_code 48 = .ok (.iload_n 1, 1) := by decide +kernel
theorem dc_jdk_38_method_6_49 : decode jdk_38_method_6_code 49 = .ok (.invokestatic 79, 3) := by decide +kernel
theorem dc_jdk_38_method_6_52 : decode jdk_38_method_6_code 52 = .ok (.anewarray 7, 3) := by decide +kernel
theorem dc_jdk_38_method_6_55 : decode jdk_38_method_6_code 55 = .ok (.dup_x1, 1) := by decide +kernel
theorem dc_jdk_38_method_6_56 : decode jdk_38_method_6_code 56 = .ok (.putfield 9, 3) := by decide +kernel
theorem dc_jdk_38_method_6_59 : decode jdk_38_method_6_code 59 = .ok (.areturn, 1) := by decide +kernel
theorem pn_7 : plainFor (⟨"java/util/ArrayList", "grow", "(I)[Ljava/lang/Object;"⟩ : MethodName) = true := by first | (apply plainFor_of_name; simp [plainName, overriddenIn]; done) | decide +kernel
set_option maxRecDepth 65536 in
set_option maxHeartbeats 40000000 in
theorem m_growI (l : Launch) (Z : State) (a0 : Array Value) (hw : ∀ d ∈ own_tabs, d.before a0 Z = true) (F : List Ent) (a dc : Addr) (S_dc : Sta Z Z.heap "java/util/ArrayList" "DEFAULTCAPACITY_EMPTY_ELEMENTDATA" "[Ljava/lang/Object;" (.ref dc)) (A_dc : ArrIs Z Z.heap dc (.object "java/lang/Object") []) :
    Met l Z (⟨"java/util/ArrayList", "grow", "(I)[Ljava/lang/Object;"⟩ : MethodName) jdk_38_method_6_code 4 (some (.array (.object "java/lang/Object"))) { frames := 1, cells := 1, slots := 10, locals := 14 } #[(.ref a), (.int (1 : Int32))] ((a, oAL (.int (1 : Int32)) (.ref dc) (.int (0 : Int32))) :: F) (fun v M' => ∃ d, v = some (.ref d) ∧ M' = ((d, .inr (.object "java/lang/Object", [.null, .null, .null, .null, .null, .null, .null, .null, .null, .null], true)) :: (a, oAL (.int (1 : Int32)) (.ref d) (.int (0 : Int32))) :: F)) := by
  refine Met.of_go pn_7 (Ls := #[.val (.ref a), .val (.int (1 : Int32)), .unset, .unset]) (fun m => by first | rfl | (simp [entryFrame, mkF, argsToLocals, Value.category, maxLocals]; done)) ?_
  intro E C
  refine Go.aloadN C dc_jdk_38_method_6_0 (q := 1) rfl rfl rfl ?_
  refine Go.getF C (host := "") (Or.inl (wd hw 24 rfl)) Via.refl (fun _ r => r.fld 0 1 rfl rfl) dc_jdk_38_method_6_1 (q := 4) rfl ?_
  refine Go.arraylength C (fun _ r => (A_dc).ext r.1) (z := (0 : Int32)) rfl dc_jdk_38_method_6_4 (q := 5) rfl ?_
  refine Go.istoreN C dc_jdk_38_method_6_5 (q := 6) rfl (Ls' := #[.val (.ref a), .val (.int (1 : Int32)), .val (.int (0 : Int32)), .unset]) rfl ?_
  refine Go.iloadN C dc_jdk_38_method_6_6 (q := 7) rfl rfl ?_
  refine Go.ifNo C dc_jdk_38_method_6_7 (q := 10) rfl (XT.i0_gt_f (by decide)) ?_
  refine Go.aloadN C dc_jdk_38_method_6_10 (q := 11) rfl rfl rfl ?_
  refine Go.getF C (host := "") (Or.inl (wd hw 24 rfl)) Via.refl (fun _ r => r.fld 0 1 rfl rfl) dc_jdk_38_method_6_11 (q := 14) rfl ?_
  refine Go.getS C (host := "") (Or.inl (wd hw 23 rfl)) Via.refl S_dc dc_jdk_38_method_6_14 (q := 17) rfl ?_
  refine Go.acmpYes C dc_jdk_38_method_6_17 (by decide) (q := 45) rfl rfl rfl (XT.aa_eq_t rfl) ?_
  refine Go.aloadN C dc_jdk_38_method_6_45 (q := 46) rfl rfl rfl ?_
  refine Go.bipush C dc_jdk_38_method_6_46 (q := 48) rfl (v := (10 : Int32)) (by decide) ?_
  refine Go.iloadN C dc_jdk_38_method_6_48 (q := 49) rfl rfl ?_
  refine Go.callS C (y := (⟨"java/lang/Math", "max", "(II)I"⟩ : MethodName)) (as := [(.int (10 : Int32)), (.int (1 : Int32))]) (rest := [(.ref a)]) (wd hw 93 rfl) (wd hw 94 rfl) (wd hw 95 rfl) (wd hw 96 rfl) (m_max l Z a0 hw _) rfl dc_jdk_38_method_6_49 (q := 52) rfl (by decide) rfl (na := 2) (by decide +kernel) rfl (by decide) (W := 1) rfl (by decide) (by decide) (by decide) (k' := 0) (n' := 0) rfl rfl ?_
  rintro _ _ ⟨rfl, rfl⟩
  show Go _ _ _ _ _ _ _ _ _ _ [(.int (10 : Int32)), (.ref a)]
  refine Go.anewarray C (wd hw 97 rfl) (wd hw 98 rfl) (by decide) (cap := 10) (by decide) (by decide) (vs := [.null, .null, .null, .null, .null, .null, .null, .null, .null, .null]) rfl dc_jdk_38_method_6_52 (q := 55) rfl (by decide) (by decide) (k' := 1) (n' := 10) rfl rfl (fun o3 => ?_)
  refine Go.dupX1 C dc_jdk_38_method_6_55 (q := 56) rfl rfl rfl ?_
  refine Go.putF C (host := "") (i := 1) (j := 1) (Or.inl (wd hw 24 rfl)) Via.refl rfl rfl (Or.inl (wd hw 25 rfl)) (wd hw 1 rfl) (ty := (.array (.object "java/lang/Object"))) (by decide) rfl rfl dc_jdk_38_method_6_56 (q := 59) rfl (M' := ((o3, .inr (.object "java/lang/Object", [.null, .null, .null, .null, .null, .null, .null, .null, .null, .null], true)) :: (a, oAL (.int (1 : Int32)) (.ref o3) (.int (0 : Int32))) :: F)) rfl ?_
  refine Go.retA C rfl rfl rfl dc_jdk_38_method_6_59 (by decide) (by decide) ?_
  exact ⟨_, rfl, rfl⟩
theorem dc_jdk_38_method_7_0 : decode jdk_38_method_7_code 0 = .ok (.aload_n 0, 1) := by decide +kernel
theorem dc_jdk_38_method_7_1 : decode jdk_38_method_7_code 1 = .ok (.aload_n 0, 1) := by decide +kernel
theorem dc_jdk_38_method_7_2 : decode jdk_38_method_7_code 2 = .ok (.getfield 48, 3) := by decide +kernel
theorem dc_jdk_38_method_7_5 : decode jdk_38_method_7_code 5 = .ok (.iconst 1, 1) := by decide +kernel
theorem dc_jdk_38_method_7_6 : decode jdk_38_method_7_code 6 = .ok (.iadd, 1) := by decide +kernel
theorem dc_jdk_38_method_7_7 : decode jdk_38_method_7_code 7 = .ok (.invokevirtual 69, 3) := by decide +kernel
theorem dc_jdk_38_method_7_10 : decode jdk_38_method_7_code 10 = .ok (.areturn, 1) := by decide +kernel
theorem pn_8 : plainFor (⟨"java/util/ArrayList", "grow", "()[Ljava/lang/Object;"⟩ : MethodName) = true := by first | (apply plainFor_of_name; simp [plainName, overriddenIn]; done) | decide +kernel
set_option maxRecDepth 65536 in
set_option maxHeartbeats 40000000 in
theorem m_grow (l : Launch) (Z : State) (a0 : Array Value) (hw : ∀ d ∈ own_tabs, d.before a0 Z = true) (F : List Ent) (a dc : Addr) (S_dc : Sta Z Z.heap "java/util/ArrayList" "DEFAULTCAPACITY_EMPTY_ELEMENTDATA" "[Ljava/lang/Object;" (.ref dc)) (A_dc : ArrIs Z Z.heap dc (.object "java/lang/Object") []) :
    Met l Z (⟨"java/util/ArrayList", "grow", "()[Ljava/lang/Object;"⟩ : MethodName) jdk_38_method_7_code 1 (some (.array (.object "java/lang/Object"))) { frames := 2, cells := 1, slots := 10, locals := 29 } #[(.ref a)] ((a, oAL (.int (1 : Int32)) (.ref dc) (.int (0 : Int32))) :: F) (fun v M' => ∃ d, v = some (.ref d) ∧ M' = ((d, .inr (.object "java/lang/Object", [.null, .null, .null, .null, .null, .null, .null, .null, .null, .null], true)) :: (a, oAL (.int (1 : Int32)) (.ref d) (.int (0 : Int32))) :: F)) := by
  refine Met.of_go pn_8 (Ls := #[.val (.ref a)]) (fun m => by first | rfl | (simp [entryFrame, mkF, argsToLocals, Value.category, maxLocals]; done)) ?_
  intro E C
  refine Go.aloadN C dc_jdk_38_method_7_0 (q := 1) rfl rfl rfl ?_
  refine Go.aloadN C dc_jdk_38_method_7_1 (q := 2) rfl rfl rfl ?_
  refine Go.getF C (host := "") (Or.inl (wd hw 76 rfl)) Via.refl (fun _ r => r.fld 0 2 rfl rfl) dc_jdk_38_method_7_2 (q := 5) rfl ?_
  refine Go.iconst C dc_jdk_38_method_7_5 (q := 6) rfl (v := (1 : Int32)) rfl ?_
  refine Go.iadd C dc_jdk_38_method_7_6 (q := 7) rfl ?_
  refine Go.castI (w := (1 : Int32)) (by decide) ?_
  refine Go.callP C (y := (⟨"java/util/ArrayList", "grow", "(I)[Ljava/lang/Object;"⟩ : MethodName)) (a := a) (as := [(.int (1 : Int32))]) (rest := []) (wd hw 88 rfl) (wd hw 89 rfl) (wd hw 91 rfl) (wd hw 90 rfl) (wd hw 92 rfl) (wd hw 2 rfl) (fun _ r => r.exa 0 rfl) (m_growI l Z a0 hw _ a dc S_dc A_dc) rfl dc_jdk_38_method_7_7 (q := 10) rfl (by decide) rfl (na := 1) (by decide +kernel) rfl (by decide) (W := 0) rfl (by decide) (by decide) (by decide) (k' := 1) (n' := 10) rfl rfl ?_
  rintro _ _ ⟨ar4, rfl, rfl⟩
  show Go _ _ _ _ _ _ _ _ _ _ [(.ref ar4)]
  refine Go.retA C rfl rfl rfl dc_jdk_38_method_7_10 (by decide) (by decide) ?_
  exact ⟨_, rfl, rfl⟩
theorem dc_jdk_38_method_24_0 : decode jdk_38_method_24_code 0 = .ok (.iload_n 3, 1) := by decide +kernel
theorem dc_jdk_38_method_24_1 : decode jdk_38_method_24_code 1 = .ok (.aload_n 2, 1) := by decide +kernel
theorem dc_jdk_38_method_24_2 : decode jdk_38_method_24_code 2 = .ok (.arraylength, 1) := by decide +kernel
theorem dc_jdk_38_method_24_3 : decode jdk_38_method_24_code 3 = .ok (.if_icmp .ne 8, 3) := by decide +kernel
theorem dc_jdk_38_method_24_6 : decode jdk_38_method_24_code 6 = .ok (.aload_n 0, 1) := by decide +kernel
theorem dc_jdk_38_method_24_7 : decode jdk_38_method_24_code 7 = .ok (.invokevirtual 129, 3) := by decide +kernel
theorem dc_jdk_38_method_24_10 : decode jdk_38_method_24_code 10 = .ok (.astore_n 2, 1) := by decide +kernel
theorem dc_jdk_38_method_24_11 : decode jdk_38_method_24_code 11 = .ok (.aload_n 2, 1) := by decide +kernel
theorem dc_jdk_38_method_24_12 : decode jdk_38_method_24_code 12 = .ok (.iload_n 3, 1) := by decide +kernel
theorem dc_jdk_38_method_24_13 : decode jdk_38_method_24_code 13 = .ok (.aload_n 1, 1) := by decide +kernel
theorem dc_jdk_38_method_24_14 : decode jdk_38_method_24_code 14 = .ok (.aastore, 1) := by decide +kernel
theorem dc_jdk_38_method_24_15 : decode jdk_38_method_24_code 15 = .ok (.aload_n 0, 1) := by decide +kernel
theorem dc_jdk_38_method_24_16 : decode jdk_38_method_24_code 16 = .ok (.iload_n 3, 1) := by decide +kernel
theorem dc_jdk_38_method_24_17 : decode jdk_38_method_24_code 17 = .ok (.iconst 1, 1) := by decide +kernel
theorem dc_jdk_38_method_24_18 : decode jdk_38_method_24_code 18 = .ok (.iadd, 1) := by decide +kernel
theorem dc_jdk_38_method_24_19 : decode jdk_38_method_24_code 19 = .ok (.putfield 48, 3) := by decide +kernel
theorem dc_jdk_38_method_24_22 : decode jdk_38_method_24_code 22 = .ok (.return_, 1) := by decide +kernel
theorem pn_9 : plainFor (⟨"java/util/ArrayList", "add", "(Ljava/lang/Object;[Ljava/lang/Object;I)V"⟩ : MethodName) = true := by first | (apply plainFor_of_name; simp [plainName, overriddenIn]; done) | decide +kernel
set_option maxRecDepth 65536 in
set_option maxHeartbeats 40000000 in
theorem m_add3_1o (l : Launch) (Z : State) (a0 : Array Value) (hw : ∀ d ∈ own_tabs, d.before a0 Z = true) (F : List Ent) (a dc b : Addr) (S_dc : Sta Z Z.heap "java/util/ArrayList" "DEFAULTCAPACITY_EMPTY_ELEMENTDATA" "[Ljava/lang/Object;" (.ref dc)) (A_dc : ArrIs Z Z.heap dc (.object "java/lang/Object") []) (hE : Exa Z Z.heap b "java/lang/Integer") :
    Met l Z (⟨"java/util/ArrayList", "add", "(Ljava/lang/Object;[Ljava/lang/Object;I)V"⟩ : MethodName) jdk_38_method_24_code 4 none { frames := 3, cells := 1, slots := 10, locals := 41 } #[(.ref a), (.ref b), (.ref dc), (.int (0 : Int32))] ((a, oAL (.int (1 : Int32)) (.ref dc) (.int (0 : Int32))) :: F) (fun v M' => ∃ d, v = none ∧ M' = ((d, .inr (.object "java/lang/Object", [(.ref b), .null, .null, .null, .null, .null, .null, .null, .null, .null], true)) :: (a, oAL (.int (1 : Int32)) (.ref d) (.int (1 : Int32))) :: F)) := by
  refine Met.of_go pn_9 (Ls := #[.val (.ref a), .val (.ref b), .val (.ref dc), .val (.int (0 : Int32))]) (fun m => by first | rfl | (simp [entryFrame, mkF, argsToLocals, Value.category, maxLocals]; done)) ?_
  intro E C
  refine Go.iloadN C dc_jdk_38_method_24_0 (q := 1) rfl rfl ?_
  refine Go.aloadN C dc_jdk_38_method_24_1 (q := 2) rfl rfl rfl ?_
  refine Go.arraylength C (fun _ r => (A_dc).ext r.1) (z := (0 : Int32)) rfl dc_jdk_38_method_24_2 (q := 3) rfl ?_
  refine Go.icmpNo C dc_jdk_38_method_24_3 (q := 6) rfl (XT.ii_ne_f (by decide)) ?_
  refine Go.aloadN C dc_jdk_38_method_24_6 (q := 7) rfl rfl rfl ?_
  refine Go.callP C (y := (⟨"java/util/ArrayList", "grow", "()[Ljava/lang/Object;"⟩ : MethodName)) (a := a) (as := []) (rest := []) (wd hw 83 rfl) (wd hw 84 rfl) (wd hw 86 rfl) (wd hw 85 rfl) (wd hw 87 rfl) (wd hw 2 rfl) (fun _ r => r.exa 0 rfl) (m_grow l Z a0 hw _ a dc S_dc A_dc) rfl dc_jdk_38_method_24_7 (q := 10) rfl (by decide) rfl (na := 0) (by decide +kernel) rfl (by decide) (W := 0) rfl (by decide) (by decide) (by decide) (k' := 1) (n' := 10) rfl rfl ?_
  rintro _ _ ⟨ar5, rfl, rfl⟩
  show Go _ _ _ _ _ _ _ _ _ _ [(.ref ar5)]
  refine Go.astoreN C dc_jdk_38_method_24_10 (q := 11) rfl rfl (Ls' := #[.val (.ref a), .val (.ref b), .val (.ref ar5), .val (.int (0 : Int32))]) rfl ?_
  refine Go.aloadN C dc_jdk_38_method_24_11 (q := 12) rfl rfl rfl ?_
  refine Go.iloadN C dc_jdk_38_method_24_12 (q := 13) rfl rfl ?_
  refine Go.aloadN C dc_jdk_38_method_24_13 (q := 14) rfl rfl rfl ?_
  refine Go.aastore C (i := 0) rfl (by decide) (show (0 : Int32).toNatClampNeg < 10 from by decide) (fun _ r => Or.inr ⟨_, rfl, Ins.of_exa ((hE).ext r.1) (wd hw 99 rfl)⟩) dc_jdk_38_method_24_14 (q := 15) rfl (M' := ((ar5, .inr (.object "java/lang/Object", [(.ref b), .null, .null, .null, .null, .null, .null, .null, .null, .null], true)) :: (a, oAL (.int (1 : Int32)) (.ref ar5) (.int (0 : Int32))) :: F)) rfl ?_
  refine Go.aloadN C dc_jdk_38_method_24_15 (q := 16) rfl rfl rfl ?_
  refine Go.iloadN C dc_jdk_38_method_24_16 (q := 17) rfl rfl ?_
  refine Go.iconst C dc_jdk_38_method_24_17 (q := 18) rfl (v := (1 : Int32)) rfl ?_
  refine Go.iadd C dc_jdk_38_method_24_18 (q := 19) rfl ?_
  refine Go.castI (w := (1 : Int32)) (by decide) ?_
  refine Go.putF C (host := "") (i := 1) (j := 2) (Or.inl (wd hw 76 rfl)) Via.refl rfl rfl (Or.inl (wd hw 77 rfl)) (wd hw 1 rfl) (ty := .int) (by decide) rfl rfl dc_jdk_38_method_24_19 (q := 22) rfl (M' := ((ar5, .inr (.object "java/lang/Object", [(.ref b), .null, .null, .null, .null, .null, .null, .null, .null, .null], true)) :: (a, oAL (.int (1 : Int32)) (.ref ar5) (.int (1 : Int32))) :: F)) rfl ?_
  refine Go.ret0 C rfl dc_jdk_38_method_24_22 (by decide) (by decide) ?_
  exact ⟨_, rfl, rfl⟩
set_option maxRecDepth 65536 in
set_option maxHeartbeats 40000000 in
theorem m_add3_2o (l : Launch) (Z : State) (a0 : Array Value) (hw : ∀ d ∈ own_tabs, d.before a0 Z = true) (F : List Ent) (a d e b : Addr) (hE : Exa Z Z.heap b "java/lang/Integer") :
    Met l Z (⟨"java/util/ArrayList", "add", "(Ljava/lang/Object;[Ljava/lang/Object;I)V"⟩ : MethodName) jdk_38_method_24_code 4 none { frames := 0, cells := 0, slots := 0, locals := 0 } #[(.ref a), (.ref b), (.ref d), (.int (1 : Int32))] ((a, oAL (.int (2 : Int32)) (.ref d) (.int (1 : Int32))) :: (d, .inr (.object "java/lang/Object", [(.ref e), .null, .null, .null, .null, .null, .null, .null, .null, .null], true)) :: F) (fun v M' => v = none ∧ M' = ((a, oAL (.int (2 : Int32)) (.ref d) (.int (2 : Int32))) :: (d, .inr (.object "java/lang/Object", [(.ref e), (.ref b), .null, .null, .null, .null, .null, .null, .null, .null], true)) :: F)) := by
  refine Met.of_go pn_9 (Ls := #[.val (.ref a), .val (.ref b), .val (.ref d), .val (.int (1 : Int32))]) (fun m => by first | rfl | (simp [entryFrame, mkF, argsToLocals, Value.category, maxLocals]; done)) ?_
  intro E C
  refine Go.iloadN C dc_jdk_38_method_24_0 (q := 1) rfl rfl ?_
  refine Go.aloadN C dc_jdk_38_method_24_1 (q := 2) rfl rfl rfl ?_
  refine Go.arraylength C (fun _ r => r.arr 1 rfl) (z := (10 : Int32)) rfl dc_jdk_38_method_24_2 (q := 3) rfl ?_
  refine Go.icmpYes C dc_jdk_38_method_24_3 (by decide) (q := 11) rfl (XT.ii_ne_t (by decide)) ?_
  refine Go.aloadN C dc_jdk_38_method_24_11 (q := 12) rfl rfl rfl ?_
  refine Go.iloadN C dc_jdk_38_method_24_12 (q := 13) rfl rfl ?_
  refine Go.aloadN C dc_jdk_38_method_24_13 (q := 14) rfl rfl rfl ?_
  refine Go.aastore C (i := 1) rfl (by decide) (show (1 : Int32).toNatClampNeg < 10 from by decide) (fun _ r => Or.inr ⟨_, rfl, Ins.of_exa ((hE).ext r.1) (wd hw 99 rfl)⟩) dc_jdk_38_method_24_14 (q := 15) rfl (M' := ((a, oAL (.int (2 : Int32)) (.ref d) (.int (1 : Int32))) :: (d, .inr (.object "java/lang/Object", [(.ref e), (.ref b), .null, .null, .null, .null, .null, .null, .null, .null], true)) :: F)) rfl ?_
  refine Go.aloadN C dc_jdk_38_method_24_15 (q := 16) rfl rfl rfl ?_
  refine Go.iloadN C dc_jdk_38_method_24_16 (q := 17) rfl rfl ?_
  refine Go.iconst C dc_jdk_38_method_24_17 (q := 18) rfl (v := (1 : Int32)) rfl ?_
  refine Go.iadd C dc_jdk_38_method_24_18 (q := 19) rfl ?_
  refine Go.castI (w := (2 : Int32)) (by decide) ?_
  refine Go.putF C (host := "") (i := 0) (j := 2) (Or.inl (wd hw 76 rfl)) Via.refl rfl rfl (Or.inl (wd hw 77 rfl)) (wd hw 1 rfl) (ty := .int) (by decide) rfl rfl dc_jdk_38_method_24_19 (q := 22) rfl (M' := ((a, oAL (.int (2 : Int32)) (.ref d) (.int (2 : Int32))) :: (d, .inr (.object "java/lang/Object", [(.ref e), (.ref b), .null, .null, .null, .null, .null, .null, .null, .null], true)) :: F)) rfl ?_
  refine Go.ret0 C rfl dc_jdk_38_method_24_22 (by decide) (by decide) ?_
  exact ⟨rfl, rfl⟩
theorem dc_jdk_38_method_25_0 : decode jdk_38_method_25_code 0 = .ok (.aload_n 0, 1) := by decide +kernel
theorem dc_jdk_38_method_25_1 : decode jdk_38_method_25_code 1 = .ok (.dup, 1) := by decide +kernel
theorem dc_jdk_38_method_25_2 : decode jdk_38_method_25_code 2 = .ok (.getfield 63, 3) := by decide +kernel
theorem dc_jdk_38_method_25_5 : decode jdk_38_method_25_code 5 = .ok (.iconst 1, 1) := by decide +kernel
theorem dc_jdk_38_method_25_6 : decode jdk_38_method_25_code 6 = .ok (.iadd, 1) := by decide +kernel
theorem dc_jdk_38_method_25_7 : decode jdk_38_method_25_code 7 = .ok (.putfield 63, 3) := by decide +kernel
theorem dc_jdk_38_method_25_10 : decode jdk_38_method_25_code 10 = .ok (.aload_n 0, 1) := by decide +kernel
theorem dc_jdk_38_method_25_11 : decode jdk_38_method_25_code 11 = .ok (.aload_n 1, 1) := by decide +kernel
theorem dc_jdk_38_method_25_12 : decode jdk_38_method_25_code 12 = .ok (.aload_n 0, 1) := by decide +kernel
theorem dc_jdk_38_method_25_13 : decode jdk_38_method_25_code 13 = .ok (.getfield 9, 3) := by decide +kernel
theorem dc_jdk_38_method_25_16 : decode jdk_38_method_25_code 16 = .ok (.aload_n 0, 1) := by decide +kernel
theorem dc_jdk_38_method_25_17 : decode jdk_38_method_25_code 17 = .ok (.getfield 48, 3) := by decide +kernel
theorem dc_jdk_38_method_25_20 : decode jdk_38_method_25_code 20 = .ok (.invokevirtual 131, 3) := by decide +kernel
theorem dc_jdk_38_method_25_23 : decode jdk_38_method_25_code 23 = .ok (.iconst 1, 1) := by decide +kernel
theorem dc_jdk_38_method_25_24 : decode jdk_38_method_25_code 24 = .ok (.ireturn, 1) := by decide +kernel
theorem pn_10 : plainFor (⟨"java/util/ArrayList", "add", "(Ljava/lang/Object;)Z"⟩ : MethodName) = true := by first | (apply plainFor_of_name; simp [plainName, overriddenIn]; done) | decide +kernel
set_option maxRecDepth 65536 in
set_option maxHeartbeats 40000000 in
theorem m_add_1o (l : Launch) (Z : State) (a0 : Array Value) (hw : ∀ d ∈ own_tabs, d.before a0 Z = true) (F : List Ent) (a dc b : Addr) (S_dc : Sta Z Z.heap "java/util/ArrayList" "DEFAULTCAPACITY_EMPTY_ELEMENTDATA" "[Ljava/lang/Object;" (.ref dc)) (A_dc : ArrIs Z Z.heap dc (.object "java/lang/Object") []) (hE : Exa Z Z.heap b "java/lang/Integer") :
    Met l Z (⟨"java/util/ArrayList", "add", "(Ljava/lang/Object;)Z"⟩ : MethodName) jdk_38_method_25_code 2 (some .boolean) { frames := 4, cells := 1, slots := 10, locals := 56 } #[(.ref a), (.ref b)] ((a, oAL (.int (0 : Int32)) (.ref dc) (.int (0 : Int32))) :: F) (fun v M' => ∃ d, v = some (.int 1) ∧ M' = ((d, .inr (.object "java/lang/Object", [(.ref b), .null, .null, .null, .null, .null, .null, .null, .null, .null], true)) :: (a, oAL (.int (1 : Int32)) (.ref d) (.int (1 : Int32))) :: F)) := by
  refine Met.of_go pn_10 (Ls := #[.val (.ref a), .val (.ref b)]) (fun m => by first | rfl | (simp [entryFrame, mkF, argsToLocals, Value.category, maxLocals]; done)) ?_
  intro E C
  refine Go.aloadN C dc_jdk_38_method_25_0 (q := 1) rfl rfl rfl ?_
  refine Go.dup C dc_jdk_38_method_25_1 (q := 2) rfl rfl ?_
  refine Go.getF C (host := "") (Or.inl (wd hw 74 rfl)) (Via.of (wd hw 75 rfl)) (fun _ r => r.fld 0 0 rfl rfl) dc_jdk_38_method_25_2 (q := 5) rfl ?_
  refine Go.iconst C dc_jdk_38_method_25_5 (q := 6) rfl (v := (1 : Int32)) rfl ?_
  refine Go.iadd C dc_jdk_38_method_25_6 (q := 7) rfl ?_
  refine Go.castI (w := (1 : Int32)) (by decide) ?_
  refine Go.putF C (host := "") (i := 0) (j := 0) (Or.inl (wd hw 74 rfl)) (Via.of (wd hw 75 rfl)) rfl rfl (Or.inl (wd hw 22 rfl)) (wd hw 1 rfl) (ty := .int) (by decide) rfl rfl dc_jdk_38_method_25_7 (q := 10) rfl (M' := ((a, oAL (.int (1 : Int32)) (.ref dc) (.int (0 : Int32))) :: F)) rfl ?_
  refine Go.aloadN C dc_jdk_38_method_25_10 (q := 11) rfl rfl rfl ?_
  refine Go.aloadN C dc_jdk_38_method_25_11 (q := 12) rfl rfl rfl ?_
  refine Go.aloadN C dc_jdk_38_method_25_12 (q := 13) rfl rfl rfl ?_
  refine Go.getF C (host := "") (Or.inl (wd hw 24 rfl)) Via.refl (fun _ r => r.fld 0 1 rfl rfl) dc_jdk_38_method_25_13 (q := 16) rfl ?_
  refine Go.aloadN C dc_jdk_38_method_25_16 (q := 17) rfl rfl rfl ?_
  refine Go.getF C (host := "") (Or.inl (wd hw 76 rfl)) Via.refl (fun _ r => r.fld 0 2 rfl rfl) dc_jdk_38_method_25_17 (q := 20) rfl ?_
  refine Go.callP C (y := (⟨"java/util/ArrayList", "add", "(Ljava/lang/Object;[Ljava/lang/Object;I)V"⟩ : MethodName)) (a := a) (as := [(.ref b), (.ref dc), (.int (0 : Int32))]) (rest := []) (wd hw 78 rfl) (wd hw 79 rfl) (wd hw 81 rfl) (wd hw 80 rfl) (wd hw 82 rfl) (wd hw 2 rfl) (fun _ r => r.exa 0 rfl) (m_add3_1o l Z a0 hw _ a dc b S_dc A_dc hE) rfl dc_jdk_38_method_25_20 (q := 23) rfl (by decide) rfl (na := 3) (by decide +kernel) rfl (by decide) (W := 0) rfl (by decide) (by decide) (by decide) (k' := 1) (n' := 10) rfl rfl ?_
  rintro _ _ ⟨ar6, rfl, rfl⟩
  show Go _ _ _ _ _ _ _ _ _ _ []
  refine Go.iconst C dc_jdk_38_method_25_23 (q := 24) rfl (v := (1 : Int32)) rfl ?_
  refine Go.retZ C rfl (by decide) dc_jdk_38_method_25_24 (by decide) (by decide) ?_
  exact ⟨_, rfl, rfl⟩
set_option maxRecDepth 65536 in
set_option maxHeartbeats 40000000 in
theorem m_add_2o (l : Launch) (Z : State) (a0 : Array Value) (hw : ∀ d ∈ own_tabs, d.before a0 Z = true) (F : List Ent) (a d e b : Addr) (hE : Exa Z Z.heap b "java/lang/Integer") :
    Met l Z (⟨"java/util/ArrayList", "add", "(Ljava/lang/Object;)Z"⟩ : MethodName) jdk_38_method_25_code 2 (some .boolean) { frames := 1, cells := 0, slots := 0, locals := 15 } #[(.ref a), (.ref b)] ((a, oAL (.int (1 : Int32)) (.ref d) (.int (1 : Int32))) :: (d, .inr (.object "java/lang/Object", [(.ref e), .null, .null, .null, .null, .null, .null, .null, .null, .null], true)) :: F) (fun v M' => v = some (.int 1) ∧ M' = ((a, oAL (.int (2 : Int32)) (.ref d) (.int (2 : Int32))) :: (d, .inr (.object "java/lang/Object", [(.ref e), (.ref b), .null, .null, .null, .null, .null, .null, .null, .null], true)) :: F)) := by
  refine Met.of_go pn_10 (Ls := #[.val (.ref a), .val (.ref b)]) (fun m => by first | rfl | (simp [entryFrame, mkF, argsToLocals, Value.category, maxLocals]; done)) ?_
  intro E C
  refine Go.aloadN C dc_jdk_38_method_25_0 (q := 1) rfl rfl rfl ?_
  refine Go.dup C dc_jdk_38_method_25_1 (q := 2) rfl rfl ?_
  refine Go.getF C (host := "") (Or.inl (wd hw 74 rfl)) (Via.of (wd hw 75 rfl)) (fun _ r => r.fld 0 0 rfl rfl) dc_jdk_38_method_25_2 (q := 5) rfl ?_
  refine Go.iconst C dc_jdk_38_method_25_5 (q := 6) rfl (v := (1 : Int32)) rfl ?_
  refine Go.iadd C dc_jdk_38_method_25_6 (q := 7) rfl ?_
  refine Go.castI (w := (2 : Int32)) (by decide) ?_
  refine Go.putF C (host := "") (i := 0) (j := 0) (Or.inl (wd hw 74 rfl)) (Via.of (wd hw 75 rfl)) rfl rfl (Or.inl (wd hw 22 rfl)) (wd hw 1 rfl) (ty := .int) (by decide) rfl rfl dc_jdk_38_method_25_7 (q := 10) rfl (M' := ((a, oAL (.int (2 : Int32)) (.ref d) (.int (1 : Int32))) :: (d, .inr (.object "java/lang/Object", [(.ref e), .null, .null, .null, .null, .null, .null, .null, .null, .null], true)) :: F)) rfl ?_
  refine Go.aloadN C dc_jdk_38_method_25_10 (q := 11) rfl rfl rfl ?_
  refine Go.aloadN C dc_jdk_38_method_25_11 (q := 12) rfl rfl rfl ?_
  refine Go.aloadN C dc_jdk_38_method_25_12 (q := 13) rfl rfl rfl ?_
  refine Go.getF C (host := "") (Or.inl (wd hw 24 rfl)) Via.refl (fun _ r => r.fld 0 1 rfl rfl) dc_jdk_38_method_25_13 (q := 16) rfl ?_
  refine Go.aloadN C dc_jdk_38_method_25_16 (q := 17) rfl rfl rfl ?_
  refine Go.getF C (host := "") (Or.inl (wd hw 76 rfl)) Via.refl (fun _ r => r.fld 0 2 rfl rfl) dc_jdk_38_method_25_17 (q := 20) rfl ?_
  refine Go.callP C (y := (⟨"java/util/ArrayList", "add", "(Ljava/lang/Object;[Ljava/lang/Object;I)V"⟩ : MethodName)) (a := a) (as := [(.ref b), (.ref d), (.int (1 : Int32))]) (rest := []) (wd hw 78 rfl) (wd hw 79 rfl) (wd hw 81 rfl) (wd hw 80 rfl) (wd hw 82 rfl) (wd hw 2 rfl) (fun _ r => r.exa 0 rfl) (m_add3_2o l Z a0 hw _ a d e b hE) rfl dc_jdk_38_method_25_20 (q := 23) rfl (by decide) rfl (na := 3) (by decide +kernel) rfl (by decide) (W := 0) rfl (by decide) (by decide) (by decide) (k' := 0) (n' := 0) rfl rfl ?_
  rintro _ _ ⟨rfl, rfl⟩
  show Go _ _ _ _ _ _ _ _ _ _ []
  refine Go.iconst C dc_jdk_38_method_25_23 (q := 24) rfl (v := (1 : Int32)) rfl ?_
  refine Go.retZ C rfl (by decide) dc_jdk_38_method_25_24 (by decide) (by decide) ?_
  exact ⟨rfl, rfl⟩
set_option maxRecDepth 65536 in
set_option maxHeartbeats 40000000 in
theorem m_add3_1n (l : Launch) (Z : State) (a0 : Array Value) (hw : ∀ d ∈ own_tabs, d.before a0 Z = true) (F : List Ent) (a dc b : Addr) (w : Int32) (S_dc : Sta Z Z.heap "java/util/ArrayList" "DEFAULTCAPACITY_EMPTY_ELEMENTDATA" "[Ljava/lang/Object;" (.ref dc)) (A_dc : ArrIs Z Z.heap dc (.object "java/lang/Object") []) :
    Met l Z (⟨"java/util/ArrayList", "add", "(Ljava/lang/Object;[Ljava/lang/Object;I)V"⟩ : MethodName) jdk_38_method_24_code 4 none { frames := 3, cells := 1, slots := 10, locals := 41 } #[(.ref a), (.ref b), (.ref dc), (.int (0 : Int32))] ((a, oAL (.int (1 : Int32)) (.ref dc) (.int (0 : Int32))) :: (b, oInt (.int w)) :: F) (fun v M' => ∃ d, v = none ∧ M' = ((d, .inr (.object "java/lang/Object", [(.ref b), .null, .null, .null, .null, .null, .null, .null, .null, .null], true)) :: (a, oAL (.int (1 : Int32)) (.ref d) (.int (1 : Int32))) :: (b, oInt (.int w)) :: F)) := by
  refine Met.of_go pn_9 (Ls := #[.val (.ref a), .val (.ref b), .val (.ref dc), .val (.int (0 : Int32))]) (fun m => by first | rfl | (simp [entryFrame, mkF, argsToLocals, Value.category, maxLocals]; done)) ?_
  intro E C
  refine Go.iloadN C dc_jdk_38_method_24_0 (q := 1) rfl rfl ?_
  refine Go.aloadN C dc_jdk_38_method_24_1 (q := 2) rfl rfl rfl ?_
  refine Go.arraylength C (fun _ r => (A_dc).ext r.1) (z := (0 : Int32)) rfl dc_jdk_38_method_24_2 (q := 3) rfl ?_
  refine Go.icmpNo C dc_jdk_38_method_24_3 (q := 6) rfl (XT.ii_ne_f (by decide)) ?_
  refine Go.aloadN C dc_jdk_38_method_24_6 (q := 7) rfl rfl rfl ?_
  refine Go.callP C (y := (⟨"java/util/ArrayList", "grow", "()[Ljava/lang/Object;"⟩ : MethodName)) (a := a) (as := []) (rest := []) (wd hw 83 rfl) (wd hw 84 rfl) (wd hw 86 rfl) (wd hw 85 rfl) (wd hw 87 rfl) (wd hw 2 rfl) (fun _ r => r.exa 0 rfl) (m_grow l Z a0 hw _ a dc S_dc A_dc) rfl dc_jdk_38_method_24_7 (q := 10) rfl (by decide) rfl (na := 0) (by decide +kernel) rfl (by decide) (W := 0) rfl (by decide) (by decide) (by decide) (k' := 1) (n' := 10) rfl rfl ?_
  rintro _ _ ⟨ar7, rfl, rfl⟩
  show Go _ _ _ _ _ _ _ _ _ _ [(.ref ar7)]
  refine Go.astoreN C dc_jdk_38_method_24_10 (q := 11) rfl rfl (Ls' := #[.val (.ref a), .val (.ref b), .val (.ref ar7), .val (.int (0 : Int32))]) rfl ?_
  refine Go.aloadN C dc_jdk_38_method_24_11 (q := 12) rfl rfl rfl ?_
  refine Go.iloadN C dc_jdk_38_method_24_12 (q := 13) rfl rfl ?_
  refine Go.aloadN C dc_jdk_38_method_24_13 (q := 14) rfl rfl rfl ?_
  refine Go.aastore C (i := 0) rfl (by decide) (show (0 : Int32).toNatClampNeg < 10 from by decide) (fun _ r => Or.inr ⟨_, rfl, Ins.of_exa (r.exa 2 rfl) (wd hw 99 rfl)⟩) dc_jdk_38_method_24_14 (q := 15) rfl (M' := ((ar7, .inr (.object "java/lang/Object", [(.ref b), .null, .null, .null, .null, .null, .null, .null, .null, .null], true)) :: (a, oAL (.int (1 : Int32)) (.ref ar7) (.int (0 : Int32))) :: (b, oInt (.int w)) :: F)) rfl ?_
  refine Go.aloadN C dc_jdk_38_method_24_15 (q := 16) rfl rfl rfl ?_
  refine Go.iloadN C dc_jdk_38_method_24_16 (q := 17) rfl rfl ?_
  refine Go.iconst C dc_jdk_38_method_24_17 (q := 18) rfl (v := (1 : Int32)) rfl ?_
  refine Go.iadd C dc_jdk_38_method_24_18 (q := 19) rfl ?_
  refine Go.castI (w := (1 : Int32)) (by decide) ?_
  refine Go.putF C (host := "") (i := 1) (j := 2) (Or.inl (wd hw 76 rfl)) Via.refl rfl rfl (Or.inl (wd hw 77 rfl)) (wd hw 1 rfl) (ty := .int) (by decide) rfl rfl dc_jdk_38_method_24_19 (q := 22) rfl (M' := ((ar7, .inr (.object "java/lang/Object", [(.ref b), .null, .null, .null, .null, .null, .null, .null, .null, .null], true)) :: (a, oAL (.int (1 : Int32)) (.ref ar7) (.int (1 : Int32))) :: (b, oInt (.int w)) :: F)) rfl ?_
  refine Go.ret0 C rfl dc_jdk_38_method_24_22 (by decide) (by decide) ?_
  exact ⟨_, rfl, rfl⟩
set_option maxRecDepth 65536 in
set_option maxHeartbeats 40000000 in
theorem m_add3_2n (l : Launch) (Z : State) (a0 : Array Value) (hw : ∀ d ∈ own_tabs, d.before a0 Z = true) (F : List Ent) (a d e b : Addr) (w : Int32)  :
    Met l Z (⟨"java/util/ArrayList", "add", "(Ljava/lang/Object;[Ljava/lang/Object;I)V"⟩ : MethodName) jdk_38_method_24_code 4 none { frames := 0, cells := 0, slots := 0, locals := 0 } #[(.ref a), (.ref b), (.ref d), (.int (1 : Int32))] ((a, oAL (.int (2 : Int32)) (.ref d) (.int (1 : Int32))) :: (d, .inr (.object "java/lang/Object", [(.ref e), .null, .null, .null, .null, .null, .null, .null, .null, .null], true)) :: (b, oInt (.int w)) :: F) (fun v M' => v = none ∧ M' = ((a, oAL (.int (2 : Int32)) (.ref d) (.int (2 : Int32))) :: (d, .inr (.object "java/lang/Object", [(.ref e), (.ref b), .null, .null, .null, .null, .null, .null, .null, .null], true)) :: (b, oInt (.int w)) :: F)) := by
  refine Met.of_go pn_9 (Ls := #[.val (.ref a), .val (.ref b), .val (.ref d), .val (.int (1 : Int32))]) (fun m => by first | rfl | (simp [entryFrame, mkF, argsToLocals, Value.category, maxLocals]; done)) ?_
  intro E C
  refine Go.iloadN C dc_jdk_38_method_24_0 (q := 1) rfl rfl ?_
  refine Go.aloadN C dc_jdk_38_method_24_1 (q := 2) rfl rfl rfl ?_
  refine Go.arraylength C (fun _ r => r.arr 1 rfl) (z := (10 : Int32)) rfl dc_jdk_38_method_24_2 (q := 3) rfl ?_
  refine Go.icmpYes C dc_jdk_38_method_24_3 (by decide) (q := 11) rfl (XT.ii_ne_t (by decide)) ?_
  refine Go.aloadN C dc_jdk_38_method_24_11 (q := 12) rfl rfl rfl ?_
  refine Go.iloadN C dc_jdk_38_method_24_12 (q := 13) rfl rfl ?_
  refine Go.aloadN C dc_jdk_38_method_24_13 (q := 14) rfl rfl rfl ?_
  refine Go.aastore C (i := 1) rfl (by decide) (show (1 : Int32).toNatClampNeg < 10 from by decide) (fun _ r => Or.inr ⟨_, rfl, Ins.of_exa (r.exa 2 rfl) (wd hw 99 rfl)⟩) dc_jdk_38_method_24_14 (q := 15) rfl (M' := ((a, oAL (.int (2 : Int32)) (.ref d) (.int (1 : Int32))) :: (d, .inr (.object "java/lang/Object", [(.ref e), (.ref b), .null, .null, .null, .null, .null, .null, .null, .null], true)) :: (b, oInt (.int w)) :: F)) rfl ?_
  refine Go.aloadN C dc_jdk_38_method_24_15 (q := 16) rfl rfl rfl ?_
  refine Go.iloadN C dc_jdk_38_method_24_16 (q := 17) rfl rfl ?_
  refine Go.iconst C dc_jdk_38_method_24_17 (q := 18) rfl (v := (1 : Int32)) rfl ?_
  refine Go.iadd C dc_jdk_38_method_24_18 (q := 19) rfl ?_
  refine Go.castI (w := (2 : Int32)) (by decide) ?_
  refine Go.putF C (host := "") (i := 0) (j := 2) (Or.inl (wd hw 76 rfl)) Via.refl rfl rfl (Or.inl (wd hw 77 rfl)) (wd hw 1 rfl) (ty := .int) (by decide) rfl rfl dc_jdk_38_method_24_19 (q := 22) rfl (M' := ((a, oAL (.int (2 : Int32)) (.ref d) (.int (2 : Int32))) :: (d, .inr (.object "java/lang/Object", [(.ref e), (.ref b), .null, .null, .null, .null, .null, .null, .null, .null], true)) :: (b, oInt (.int w)) :: F)) rfl ?_
  refine Go.ret0 C rfl dc_jdk_38_method_24_22 (by decide) (by decide) ?_
  exact ⟨rfl, rfl⟩
set_option maxRecDepth 65536 in
set_option maxHeartbeats 40000000 in
theorem m_add_1n (l : Launch) (Z : State) (a0 : Array Value) (hw : ∀ d ∈ own_tabs, d.before a0 Z = true) (F : List Ent) (a dc b : Addr) (w : Int32) (S_dc : Sta Z Z.heap "java/util/ArrayList" "DEFAULTCAPACITY_EMPTY_ELEMENTDATA" "[Ljava/lang/Object;" (.ref dc)) (A_dc : ArrIs Z Z.heap dc (.object "java/lang/Object") []) :
    Met l Z (⟨"java/util/ArrayList", "add", "(Ljava/lang/Object;)Z"⟩ : MethodName) jdk_38_method_25_code 2 (some .boolean) { frames := 4, cells := 1, slots := 10, locals := 56 } #[(.ref a), (.ref b)] ((a, oAL (.int (0 : Int32)) (.ref dc) (.int (0 : Int32))) :: (b, oInt (.int w)) :: F) (fun v M' => ∃ d, v = some (.int 1) ∧ M' = ((d, .inr (.object "java/lang/Object", [(.ref b), .null, .null, .null, .null, .null, .null, .null, .null, .null], true)) :: (a, oAL (.int (1 : Int32)) (.ref d) (.int (1 : Int32))) :: (b, oInt (.int w)) :: F)) := by
  refine Met.of_go pn_10 (Ls := #[.val (.ref a), .val (.ref b)]) (fun m => by first | rfl | (simp [entryFrame, mkF, argsToLocals, Value.category, maxLocals]; done)) ?_
  intro E C
  refine Go.aloadN C dc_jdk_38_method_25_0 (q := 1) rfl rfl rfl ?_
  refine Go.dup C dc_jdk_38_method_25_1 (q := 2) rfl rfl ?_
  refine Go.getF C (host := "") (Or.inl (wd hw 74 rfl)) (Via.of (wd hw 75 rfl)) (fun _ r => r.fld 0 0 rfl rfl) dc_jdk_38_method_25_2 (q := 5) rfl ?_
  refine Go.iconst C dc_jdk_38_method_25_5 (q := 6) rfl (v := (1 : Int32)) rfl ?_
  refine Go.iadd C dc_jdk_38_method_25_6 (q := 7) rfl ?_
  refine Go.castI (w := (1 : Int32)) (by decide) ?_
  refine Go.putF C (host := "") (i := 0) (j := 0) (Or.inl (wd hw 74 rfl)) (Via.of (wd hw 75 rfl)) rfl rfl (Or.inl (wd hw 22 rfl)) (wd hw 1 rfl) (ty := .int) (by decide) rfl rfl dc_jdk_38_method_25_7 (q := 10) rfl (M' := ((a, oAL (.int (1 : Int32)) (.ref dc) (.int (0 : Int32))) :: (b, oInt (.int w)) :: F)) rfl ?_
  refine Go.aloadN C dc_jdk_38_method_25_10 (q := 11) rfl rfl rfl ?_
  refine Go.aloadN C dc_jdk_38_method_25_11 (q := 12) rfl rfl rfl ?_
  refine Go.aloadN C dc_jdk_38_method_25_12 (q := 13) rfl rfl rfl ?_
  refine Go.getF C (host := "") (Or.inl (wd hw 24 rfl)) Via.refl (fun _ r => r.fld 0 1 rfl rfl) dc_jdk_38_method_25_13 (q := 16) rfl ?_
  refine Go.aloadN C dc_jdk_38_method_25_16 (q := 17) rfl rfl rfl ?_
  refine Go.getF C (host := "") (Or.inl (wd hw 76 rfl)) Via.refl (fun _ r => r.fld 0 2 rfl rfl) dc_jdk_38_method_25_17 (q := 20) rfl ?_
  refine Go.callP C (y := (⟨"java/util/ArrayList", "add", "(Ljava/lang/Object;[Ljava/lang/Object;I)V"⟩ : MethodName)) (a := a) (as := [(.ref b), (.ref dc), (.int (0 : Int32))]) (rest := []) (wd hw 78 rfl) (wd hw 79 rfl) (wd hw 81 rfl) (wd hw 80 rfl) (wd hw 82 rfl) (wd hw 2 rfl) (fun _ r => r.exa 0 rfl) (m_add3_1n l Z a0 hw _ a dc b w S_dc A_dc) rfl dc_jdk_38_method_25_20 (q := 23) rfl (by decide) rfl (na := 3) (by decide +kernel) rfl (by decide) (W := 0) rfl (by decide) (by decide) (by decide) (k' := 1) (n' := 10) rfl rfl ?_
  rintro _ _ ⟨ar8, rfl, rfl⟩
  show Go _ _ _ _ _ _ _ _ _ _ []
  refine Go.iconst C dc_jdk_38_method_25_23 (q := 24) rfl (v := (1 : Int32)) rfl ?_
  refine Go.retZ C rfl (by decide) dc_jdk_38_method_25_24 (by decide) (by decide) ?_
  exact ⟨_, rfl, rfl⟩
set_option maxRecDepth 65536 in
set_option maxHeartbeats 40000000 in
theorem m_add_2n (l : Launch) (Z : State) (a0 : Array Value) (hw : ∀ d ∈ own_tabs, d.before a0 Z = true) (F : List Ent) (a d e b : Addr) (w : Int32)  :
    Met l Z (⟨"java/util/ArrayList", "add", "(Ljava/lang/Object;)Z"⟩ : MethodName) jdk_38_method_25_code 2 (some .boolean) { frames := 1, cells := 0, slots := 0, locals := 15 } #[(.ref a), (.ref b)] ((a, oAL (.int (1 : Int32)) (.ref d) (.int (1 : Int32))) :: (d, .inr (.object "java/lang/Object", [(.ref e), .null, .null, .null, .null, .null, .null, .null, .null, .null], true)) :: (b, oInt (.int w)) :: F) (fun v M' => v = some (.int 1) ∧ M' = ((a, oAL (.int (2 : Int32)) (.ref d) (.int (2 : Int32))) :: (d, .inr (.object "java/lang/Object", [(.ref e), (.ref b), .null, .null, .null, .null, .null, .null, .null, .null], true)) :: (b, oInt (.int w)) :: F)) := by
  refine Met.of_go pn_10 (Ls := #[.val (.ref a), .val (.ref b)]) (fun m => by first | rfl | (simp [entryFrame, mkF, argsToLocals, Value.category, maxLocals]; done)) ?_
  intro E C
  refine Go.aloadN C dc_jdk_38_method_25_0 (q := 1) rfl rfl rfl ?_
  refine Go.dup C dc_jdk_38_method_25_1 (q := 2) rfl rfl ?_
  refine Go.getF C (host := "") (Or.inl (wd hw 74 rfl)) (Via.of (wd hw 75 rfl)) (fun _ r => r.fld 0 0 rfl rfl) dc_jdk_38_method_25_2 (q := 5) rfl ?_
  refine Go.iconst C dc_jdk_38_method_25_5 (q := 6) rfl (v := (1 : Int32)) rfl ?_
  refine Go.iadd C dc_jdk_38_method_25_6 (q := 7) rfl ?_
  refine Go.castI (w := (2 : Int32)) (by decide) ?_
  refine Go.putF C (host := "") (i := 0) (j := 0) (Or.inl (wd hw 74 rfl)) (Via.of (wd hw 75 rfl)) rfl rfl (Or.inl (wd hw 22 rfl)) (wd hw 1 rfl) (ty := .int) (by decide) rfl rfl dc_jdk_38_method_25_7 (q := 10) rfl (M' := ((a, oAL (.int (2 : Int32)) (.ref d) (.int (1 : Int32))) :: (d, .inr (.object "java/lang/Object", [(.ref e), .null, .null, .null, .null, .null, .null, .null, .null, .null], true)) :: (b, oInt (.int w)) :: F)) rfl ?_
  refine Go.aloadN C dc_jdk_38_method_25_10 (q := 11) rfl rfl rfl ?_
  refine Go.aloadN C dc_jdk_38_method_25_11 (q := 12) rfl rfl rfl ?_
  refine Go.aloadN C dc_jdk_38_method_25_12 (q := 13) rfl rfl rfl ?_
  refine Go.getF C (host := "") (Or.inl (wd hw 24 rfl)) Via.refl (fun _ r => r.fld 0 1 rfl rfl) dc_jdk_38_method_25_13 (q := 16) rfl ?_
  refine Go.aloadN C dc_jdk_38_method_25_16 (q := 17) rfl rfl rfl ?_
  refine Go.getF C (host := "") (Or.inl (wd hw 76 rfl)) Via.refl (fun _ r => r.fld 0 2 rfl rfl) dc_jdk_38_method_25_17 (q := 20) rfl ?_
  refine Go.callP C (y := (⟨"java/util/ArrayList", "add", "(Ljava/lang/Object;[Ljava/lang/Object;I)V"⟩ : MethodName)) (a := a) (as := [(.ref b), (.ref d), (.int (1 : Int32))]) (rest := []) (wd hw 78 rfl) (wd hw 79 rfl) (wd hw 81 rfl) (wd hw 80 rfl) (wd hw 82 rfl) (wd hw 2 rfl) (fun _ r => r.exa 0 rfl) (m_add3_2n l Z a0 hw _ a d e b w) rfl dc_jdk_38_method_25_20 (q := 23) rfl (by decide) rfl (na := 3) (by decide +kernel) rfl (by decide) (W := 0) rfl (by decide) (by decide) (by decide) (k' := 0) (n' := 0) rfl rfl ?_
  rintro _ _ ⟨rfl, rfl⟩
  show Go _ _ _ _ _ _ _ _ _ _ []
  refine Go.iconst C dc_jdk_38_method_25_23 (q := 24) rfl (v := (1 : Int32)) rfl ?_
  refine Go.retZ C rfl (by decide) dc_jdk_38_method_25_24 (by decide) (by decide) ?_
  exact ⟨rfl, rfl⟩
abbrev oIx (v0 : Value) : Own.Rec := .inl ("com/example/querist/querist/engine/ElementLookup$Indexed", [(("com/example/querist/querist/engine/ElementLookup$Indexed", "collection", "Ljava/util/Collection;"), v0)])
theorem dc_prog_34_method_1_0 : decode prog_34_method_1_code 0 = .ok (.aload_n 0, 1) := by decide +kernel
theorem dc_prog_34_method_1_1 : decode prog_34_method_1_code 1 = .ok (.invokespecial 1, 3) := by decide +kernel
theorem dc_prog_34_method_1_4 : decode prog_34_method_1_code 4 = .ok (.aload_n 0, 1) := by decide +kernel
theorem dc_prog_34_method_1_5 : decode prog_34_method_1_code 5 = .ok (.aload_n 1, 1) := by decide +kernel
theorem dc_prog_34_method_1_6 : decode prog_34_method_1_code 6 = .ok (.putfield 7, 3) := by decide +kernel
theorem dc_prog_34_method_1_9 : decode prog_34_method_1_code 9 = .ok (.return_, 1) := by decide +kernel
theorem pn_11 : plainFor (⟨"com/example/querist/querist/engine/ElementLookup$Indexed", "<init>", "(Ljava/util/Collection;)V"⟩ : MethodName) = true := by first | (apply plainFor_of_name; simp [plainName, overriddenIn]; done) | decide +kernel
set_option maxRecDepth 65536 in
set_option maxHeartbeats 40000000 in
theorem m_ixInit (l : Launch) (Z : State) (a0 : Array Value) (hw : ∀ d ∈ own_tabs, d.before a0 Z = true) (F : List Ent) (a b : Addr)  :
    Met l Z (⟨"com/example/querist/querist/engine/ElementLookup$Indexed", "<init>", "(Ljava/util/Collection;)V"⟩ : MethodName) prog_34_method_1_code 2 none { frames := 2, cells := 0, slots := 0, locals := 24 } #[(.ref a), (.ref b)] ((a, oIx .null) :: F) (fun v M' => v = none ∧ M' = ((a, oIx (.ref b)) :: F)) := by
  refine Met.of_go pn_11 (Ls := #[.val (.ref a), .val (.ref b)]) (fun m => by first | rfl | (simp [entryFrame, mkF, argsToLocals, Value.category, maxLocals]; done)) ?_
  intro E C
  refine Go.aloadN C dc_prog_34_method_1_0 (q := 1) rfl rfl rfl ?_
  refine Go.callI C (y := (⟨"java/util/AbstractCollection", "<init>", "()V"⟩ : MethodName)) (a := a) (as := []) (rest := []) (wd hw 36 rfl) (wd hw 13 rfl) (wd hw 16 rfl) (wd hw 17 rfl) (m_ac l Z a0 hw _ a) rfl rfl dc_prog_34_method_1_1 (q := 4) rfl (by decide) rfl (na := 0) (by decide +kernel) rfl (by decide) (W := 0) rfl (by decide) (by decide) (by decide) (k' := 0) (n' := 0) rfl rfl ?_
  rintro _ _ ⟨rfl, rfl⟩
  show Go _ _ _ _ _ _ _ _ _ _ []
  refine Go.aloadN C dc_prog_34_method_1_4 (q := 5) rfl rfl rfl ?_
  refine Go.aloadN C dc_prog_34_method_1_5 (q := 6) rfl rfl rfl ?_
  refine Go.putF C (host := "") (i := 0) (j := 0) (Or.inl (wd hw 37 rfl)) Via.refl rfl rfl (Or.inr ⟨(wd hw 38 rfl), rfl, rfl⟩) (wd hw 31 rfl) (ty := (.object "java/util/Collection")) (by decide) rfl rfl dc_prog_34_method_1_6 (q := 9) rfl (M' := ((a, oIx (.ref b)) :: F)) rfl ?_
  refine Go.ret0 C rfl dc_prog_34_method_1_9 (by decide) (by decide) ?_
  exact ⟨rfl, rfl⟩
theorem dc_prog_33_method_3_0 : decode prog_33_method_3_code 0 = .ok (.new 26, 3) := by decide +kernel
theorem dc_prog_33_method_3_3 : decode prog_33_method_3_code 3 = .ok (.dup, 1) := by decide +kernel
theorem dc_prog_33_method_3_4 : decode prog_33_method_3_code 4 = .ok (.aload_n 0, 1) := by decide +kernel
theorem dc_prog_33_method_3_5 : decode prog_33_method_3_code 5 = .ok (.invokespecial 28, 3) := by decide +kernel
theorem dc_prog_33_method_3_8 : decode prog_33_method_3_code 8 = .ok (.areturn, 1) := by decide +kernel
theorem pn_12 : plainFor (⟨"com/example/querist/querist/engine/ElementLookup", "indexed", "(Ljava/util/Collection;)Ljava/util/Collection;"⟩ : MethodName) = true := by first | (apply plainFor_of_name; simp [plainName, overriddenIn]; done) | decide +kernel
set_option maxRecDepth 65536 in
set_option maxHeartbeats 40000000 in
theorem m_indexed (l : Launch) (Z : State) (a0 : Array Value) (hw : ∀ d ∈ own_tabs, d.before a0 Z = true) (F : List Ent) (b : Addr)  :
    Met l Z (⟨"com/example/querist/querist/engine/ElementLookup", "indexed", "(Ljava/util/Collection;)Ljava/util/Collection;"⟩ : MethodName) prog_33_method_3_code 1 (some (.object "java/util/Collection")) { frames := 3, cells := 1, slots := 2, locals := 38 } #[(.ref b)] (F) (fun v M' => ∃ a, v = some (.ref a) ∧ M' = ((a, oIx (.ref b)) :: F)) := by
  refine Met.of_go pn_12 (Ls := #[.val (.ref b)]) (fun m => by first | rfl | (simp [entryFrame, mkF, argsToLocals, Value.category, maxLocals]; done)) ?_
  intro E C
  refine Go.new C (wd hw 30 rfl) (wd hw 31 rfl) (wd hw 32 rfl) [(("com/example/querist/querist/engine/ElementLookup$Indexed", "collection", "Ljava/util/Collection;"), .null)] ⟨⟨Or.inr (wd hw 38 rfl), (.object "java/util/Collection"), by decide, rfl⟩, trivial⟩ (by decide) dc_prog_33_method_3_0 (q := 3) rfl (by decide) (by decide) (k' := 1) (n' := 2) rfl rfl (fun o9 => ?_)
  refine Go.dup C dc_prog_33_method_3_3 (q := 4) rfl rfl ?_
  refine Go.aloadN C dc_prog_33_method_3_4 (q := 5) rfl rfl rfl ?_
  refine Go.callI C (y := (⟨"com/example/querist/querist/engine/ElementLookup$Indexed", "<init>", "(Ljava/util/Collection;)V"⟩ : MethodName)) (a := o9) (as := [(.ref b)]) (rest := [(.ref o9)]) (wd hw 33 rfl) (wd hw 34 rfl) (wd hw 32 rfl) (wd hw 35 rfl) (m_ixInit l Z a0 hw _ o9 b) rfl rfl dc_prog_33_method_3_5 (q := 8) rfl (by decide) rfl (na := 1) (by decide +kernel) rfl (by decide) (W := 1) rfl (by decide) (by decide) (by decide) (k' := 1) (n' := 2) rfl rfl ?_
  rintro _ _ ⟨rfl, rfl⟩
  show Go _ _ _ _ _ _ _ _ _ _ [(.ref o9)]
  refine Go.retA C rfl rfl rfl dc_prog_33_method_3_8 (by decide) (by decide) ?_
  exact ⟨_, rfl, rfl⟩
theorem dc_prog_33_method_4_0 : decode prog_33_method_4_code 0 = .ok (.aload_n 0, 1) := by decide +kernel
theorem dc_prog_33_method_4_1 : decode prog_33_method_4_code 1 = .ok (.instanceof 26, 3) := by decide +kernel
theorem dc_prog_33_method_4_4 : decode prog_33_method_4_code 4 = .ok (.ifCond .eq 15, 3) := by decide +kernel
theorem dc_prog_33_method_4_19 : decode prog_33_method_4_code 19 = .ok (.aload_n 0, 1) := by decide +kernel
theorem dc_prog_33_method_4_20 : decode prog_33_method_4_code 20 = .ok (.areturn, 1) := by decide +kernel
theorem pn_13 : plainFor (⟨"com/example/querist/querist/engine/ElementLookup", "unwrapped", "(Ljava/util/Collection;)Ljava/util/Collection;"⟩ : MethodName) = true := by first | (apply plainFor_of_name; simp [plainName, overriddenIn]; done) | decide +kernel
set_option maxRecDepth 65536 in
set_option maxHeartbeats 40000000 in
theorem m_unwL (l : Launch) (Z : State) (a0 : Array Value) (hw : ∀ d ∈ own_tabs, d.before a0 Z = true) (F : List Ent) (a ed : Addr) (mc sz : Int32)  :
    Met l Z (⟨"com/example/querist/querist/engine/ElementLookup", "unwrapped", "(Ljava/util/Collection;)Ljava/util/Collection;"⟩ : MethodName) prog_33_method_4_code 2 (some (.object "java/util/Collection")) { frames := 0, cells := 0, slots := 0, locals := 0 } #[(.ref a)] ((a, oAL (.int mc) (.ref ed) (.int sz)) :: F) (fun v M' => v = some (.ref a) ∧ M' = ((a, oAL (.int mc) (.ref ed) (.int sz)) :: F)) := by
  refine Met.of_go pn_13 (Ls := #[.val (.ref a), .unset]) (fun m => by first | rfl | (simp [entryFrame, mkF, argsToLocals, Value.category, maxLocals]; done)) ?_
  intro E C
  refine Go.aloadN C dc_prog_33_method_4_0 (q := 1) rfl rfl rfl ?_
  refine Go.instNo C (wd hw 30 rfl) (fun _ r => r.exa 0 rfl) (nsNo (wd hw 44 rfl) (wd hw 31 rfl) (NS.step (wd hw 44 rfl) (NS.step (wd hw 45 rfl) (NS.step (wd hw 46 rfl) (nsRoot (wd hw 47 rfl) (wd hw 31 rfl) (by decide)) (by decide)) (by decide)) (by decide)) (by decide)) dc_prog_33_method_4_1 (q := 4) rfl ?_
  refine Go.ifYes C dc_prog_33_method_4_4 (by decide) (q := 19) rfl (XT.i0_eq_t (by decide)) ?_
  refine Go.aloadN C dc_prog_33_method_4_19 (q := 20) rfl rfl rfl ?_
  refine Go.retA C rfl rfl rfl dc_prog_33_method_4_20 (by decide) (by decide) ?_
  exact ⟨rfl, rfl⟩
theorem dc_prog_33_method_4_7 : decode prog_33_method_4_code 7 = .ok (.aload_n 0, 1) := by decide +kernel
theorem dc_prog_33_method_4_8 : decode prog_33_method_4_code 8 = .ok (.checkcast 26, 3) := by decide +kernel
theorem dc_prog_33_method_4_11 : decode prog_33_method_4_code 11 = .ok (.astore_n 1, 1) := by decide +kernel
theorem dc_prog_33_method_4_12 : decode prog_33_method_4_code 12 = .ok (.aload_n 1, 1) := by decide +kernel
theorem dc_prog_33_method_4_13 : decode prog_33_method_4_code 13 = .ok (.getfield 31, 3) := by decide +kernel
theorem dc_prog_33_method_4_16 : decode prog_33_method_4_code 16 = .ok (.goto 4, 3) := by decide +kernel
set_option maxRecDepth 65536 in
set_option maxHeartbeats 40000000 in
theorem m_unwX (l : Launch) (Z : State) (a0 : Array Value) (hw : ∀ d ∈ own_tabs, d.before a0 Z = true) (F : List Ent) (a b : Addr)  :
    Met l Z (⟨"com/example/querist/querist/engine/ElementLookup", "unwrapped", "(Ljava/util/Collection;)Ljava/util/Collection;"⟩ : MethodName) prog_33_method_4_code 2 (some (.object "java/util/Collection")) { frames := 0, cells := 0, slots := 0, locals := 0 } #[(.ref a)] ((a, oIx (.ref b)) :: F) (fun v M' => v = some (.ref b) ∧ M' = ((a, oIx (.ref b)) :: F)) := by
  refine Met.of_go pn_13 (Ls := #[.val (.ref a), .unset]) (fun m => by first | rfl | (simp [entryFrame, mkF, argsToLocals, Value.category, maxLocals]; done)) ?_
  intro E C
  refine Go.aloadN C dc_prog_33_method_4_0 (q := 1) rfl rfl rfl ?_
  refine Go.instY C (wd hw 30 rfl) (fun _ r => Ins.self (r.exa 0 rfl)) dc_prog_33_method_4_1 (q := 4) rfl ?_
  refine Go.ifNo C dc_prog_33_method_4_4 (q := 7) rfl (XT.i0_eq_f (by decide)) ?_
  refine Go.aloadN C dc_prog_33_method_4_7 (q := 8) rfl rfl rfl ?_
  refine Go.castY C (wd hw 30 rfl) (fun _ r => Ins.self (r.exa 0 rfl)) dc_prog_33_method_4_8 (q := 11) rfl ?_
  refine Go.astoreN C dc_prog_33_method_4_11 (q := 12) rfl rfl (Ls' := #[.val (.ref a), .val (.ref a)]) rfl ?_
  refine Go.aloadN C dc_prog_33_method_4_12 (q := 13) rfl rfl rfl ?_
  refine Go.getR C (wd hw 43 rfl) (fun _ r => r.fld 0 0 rfl rfl) dc_prog_33_method_4_13 (q := 16) rfl ?_
  refine Go.goto C dc_prog_33_method_4_16 (by decide) (q := 20) rfl ?_
  refine Go.retA C rfl rfl rfl dc_prog_33_method_4_20 (by decide) (by decide) ?_
  exact ⟨rfl, rfl⟩
theorem pn_14 : plainFor x = true := by first | (apply plainFor_of_name; simp [plainName, overriddenIn]; done) | decide +kernel
set_option maxRecDepth 65536 in
set_option maxHeartbeats 40000000 in
theorem m_law (l : Launch) (Z : State) (a0 : Array Value) (hw : ∀ d ∈ own_tabs, d.before a0 Z = true) (p q mode : Int32) (cb : Addr) (cs : List Value) (dc : Addr) (S_high : Sta Z Z.heap "java/lang/Integer$IntegerCache" "high" "I" (.int (127 : Int32))) (S_cache : Sta Z Z.heap "java/lang/Integer$IntegerCache" "cache" "[Ljava/lang/Integer;" (.ref cb)) (A_cache : ArrIs Z Z.heap cb (.object "java/lang/Integer") cs) (H_cache : ∀ j : Nat, j < 256 → ∃ b, cs[j]? = some (.ref b) ∧ Exa Z Z.heap b "java/lang/Integer" ∧ Fld Z Z.heap b "java/lang/Integer" "value" "I" (.int (j.toInt32 - 128))) (S_dc : Sta Z Z.heap "java/util/ArrayList" "DEFAULTCAPACITY_EMPTY_ELEMENTDATA" "[Ljava/lang/Object;" (.ref dc)) (A_dc : ArrIs Z Z.heap dc (.object "java/lang/Object") []) :
    Met l Z x code maxLocals ret room_1 #[(.int p), (.int q), (.int mode)] ([]) (fun v _ => v = some (.int 1)) := by
  refine Met.of_go pn_14 (Ls := #[.val (.int p), .val (.int q), .val (.int mode), .unset, .unset, .unset, .unset]) (fun m => by first | rfl | (simp [entryFrame, mkF, argsToLocals, Value.category, maxLocals]; done)) ?_
  intro E C
  refine Go.new C (wd hw 0 rfl) (wd hw 1 rfl) (wd hw 2 rfl) [(("java/util/AbstractList", "modCount", "I"), (.int (0 : Int32))), (("java/util/ArrayList", "elementData", "[Ljava/lang/Object;"), .null), (("java/util/ArrayList", "size", "I"), (.int (0 : Int32)))] ⟨⟨Or.inl (wd hw 22 rfl), .int, by decide, rfl⟩, ⟨Or.inl (wd hw 25 rfl), (.array (.object "java/lang/Object")), by decide, rfl⟩, ⟨Or.inl (wd hw 77 rfl), .int, by decide, rfl⟩, trivial⟩ (by decide) at_0 (q := 3) rfl (by decide) (by decide) (k' := 1) (n' := 3) rfl rfl (fun o10 => ?_)
  refine Go.dup C at_3 (q := 4) rfl rfl ?_
  refine Go.callI C (y := (⟨"java/util/ArrayList", "<init>", "()V"⟩ : MethodName)) (a := o10) (as := []) (rest := [(.ref o10)]) (wd hw 3 rfl) (wd hw 4 rfl) (wd hw 2 rfl) (wd hw 5 rfl) (m_alInit l Z a0 hw _ o10 dc S_dc A_dc) rfl rfl at_4 (q := 7) rfl (by decide) rfl (na := 0) (by decide +kernel) rfl (by decide) (W := 1) rfl (by decide) (by decide) (by decide) (k' := 1) (n' := 3) rfl rfl ?_
  rintro _ _ ⟨rfl, rfl⟩
  show Go _ _ _ _ _ _ _ _ _ _ [(.ref o10)]
  refine Go.astoreN C at_7 (q := 8) rfl rfl (Ls' := #[.val (.int p), .val (.int q), .val (.int mode), .val (.ref o10), .unset, .unset, .unset]) rfl ?_
  refine Go.iloadN C at_8 (q := 9) rfl rfl ?_
  refine Go.iconst C at_9 (q := 10) rfl (v := (4 : Int32)) rfl ?_
  refine Go.iand C at_10 (q := 11) rfl ?_
  refine Go.ifc C at_11 (by decide) (q := 32) rfl (q' := 14) rfl (fun (h11_1 : (mode &&& (4 : Int32)) = 0) => ?_) (fun (h11_1 : ¬ (mode &&& (4 : Int32)) = 0) => ?_)
  · refine Go.iloadN C at_32 (q := 33) rfl rfl ?_
    refine Go.iconst C at_33 (q := 34) rfl (v := (3 : Int32)) rfl ?_
    refine Go.iand C at_34 (q := 35) rfl ?_
    refine Go.iconst C at_35 (q := 36) rfl (v := (3 : Int32)) rfl ?_
    refine Go.irem C at_36 (q := 37) rfl (by decide) ?_
    refine Go.istore C at_37 (q := 39) rfl (Ls' := #[.val (.int p), .val (.int q), .val (.int mode), .val (.ref o10), .val (.int ((mode &&& (3 : Int32)) % (3 : Int32))), .unset, .unset]) rfl ?_
    refine Go.iload C at_39 (q := 41) rfl rfl ?_
    refine Go.ifc C at_41 (by decide) (q := 58) rfl (q' := 44) rfl (fun (h41_2 : ¬ ((mode &&& (3 : Int32)) % (3 : Int32)) = 0) => ?_) (fun (h41_2 : ((mode &&& (3 : Int32)) % (3 : Int32)) = 0) => ?_)
    · refine Go.aloadN C at_58 (q := 59) rfl rfl rfl ?_
      refine Go.callS C (y := (⟨"com/example/querist/querist/engine/ElementLookup", "indexed", "(Ljava/util/Collection;)Ljava/util/Collection;"⟩ : MethodName)) (as := [(.ref o10)]) (rest := []) (wd hw 26 rfl) (wd hw 27 rfl) (wd hw 28 rfl) (wd hw 29 rfl) (m_indexed l Z a0 hw _ o10) rfl at_59 (q := 62) rfl (by decide) rfl (na := 1) (by decide +kernel) rfl (by decide) (W := 0) rfl (by decide) (by decide) (by decide) (k' := 2) (n' := 5) rfl rfl ?_
      rintro _ _ ⟨ix11, rfl, rfl⟩
      show Go _ _ _ _ _ _ _ _ _ _ [(.ref ix11)]
      refine Go.astore C at_62 (q := 64) rfl rfl (Ls' := #[.val (.int p), .val (.int q), .val (.int mode), .val (.ref o10), .val (.int ((mode &&& (3 : Int32)) % (3 : Int32))), .val (.ref ix11), .unset]) rfl ?_
      refine Go.iload C at_64 (q := 66) rfl rfl ?_
      refine Go.iconst C at_66 (q := 67) rfl (v := (1 : Int32)) rfl ?_
      refine Go.icmp C at_67 (by decide) (q := 85) rfl (q' := 70) rfl (fun (h67_3 : ¬ ((mode &&& (3 : Int32)) % (3 : Int32)) = (1 : Int32)) => ?_) (fun (h67_3 : ((mode &&& (3 : Int32)) % (3 : Int32)) = (1 : Int32)) => ?_)
      · refine Go.aload C at_85 (q := 87) rfl rfl rfl ?_
        refine Go.callS C (y := (⟨"com/example/querist/querist/engine/ElementLookup", "indexed", "(Ljava/util/Collection;)Ljava/util/Collection;"⟩ : MethodName)) (as := [(.ref ix11)]) (rest := []) (wd hw 26 rfl) (wd hw 27 rfl) (wd hw 28 rfl) (wd hw 29 rfl) (m_indexed l Z a0 hw _ ix11) rfl at_87 (q := 90) rfl (by decide) rfl (na := 1) (by decide +kernel) rfl (by decide) (W := 0) rfl (by decide) (by decide) (by decide) (k' := 3) (n' := 7) rfl rfl ?_
        rintro _ _ ⟨ix12, rfl, rfl⟩
        show Go _ _ _ _ _ _ _ _ _ _ [(.ref ix12)]
        refine Go.astore C at_90 (q := 92) rfl rfl (Ls' := #[.val (.int p), .val (.int q), .val (.int mode), .val (.ref o10), .val (.int ((mode &&& (3 : Int32)) % (3 : Int32))), .val (.ref ix11), .val (.ref ix12)]) rfl ?_
        refine Go.aload C at_92 (q := 94) rfl rfl rfl ?_
        refine Go.callS C (y := (⟨"com/example/querist/querist/engine/ElementLookup", "unwrapped", "(Ljava/util/Collection;)Ljava/util/Collection;"⟩ : MethodName)) (as := [(.ref ix12)]) (rest := []) (wd hw 39 rfl) (wd hw 40 rfl) (wd hw 28 rfl) (wd hw 41 rfl) (m_unwX l Z a0 hw _ ix12 ix11) rfl at_94 (q := 97) rfl (by decide) rfl (na := 1) (by decide +kernel) rfl (by decide) (W := 0) rfl (by decide) (by decide) (by decide) (k' := 3) (n' := 7) rfl rfl ?_
        rintro _ _ ⟨rfl, rfl⟩
        show Go _ _ _ _ _ _ _ _ _ _ [(.ref ix11)]
        refine Go.aload C at_97 (q := 99) rfl rfl rfl ?_
        refine Go.acmpNo C at_99 (q := 102) rfl rfl rfl (XT.aa_ne_f rfl) ?_
        refine Go.iconst C at_102 (q := 103) rfl (v := (1 : Int32)) rfl ?_
        refine Go.goto C at_103 (by decide) (q := 107) rfl ?_
        refine Go.retZ C rfl (by decide) at_107 (by decide) (by decide) ?_
        exact rfl
      · refine Go.aload C at_70 (q := 72) rfl rfl rfl ?_
        refine Go.callS C (y := (⟨"com/example/querist/querist/engine/ElementLookup", "unwrapped", "(Ljava/util/Collection;)Ljava/util/Collection;"⟩ : MethodName)) (as := [(.ref ix11)]) (rest := []) (wd hw 39 rfl) (wd hw 40 rfl) (wd hw 28 rfl) (wd hw 41 rfl) (m_unwX l Z a0 hw _ ix11 o10) rfl at_72 (q := 75) rfl (by decide) rfl (na := 1) (by decide +kernel) rfl (by decide) (W := 0) rfl (by decide) (by decide) (by decide) (k' := 2) (n' := 5) rfl rfl ?_
        rintro _ _ ⟨rfl, rfl⟩
        show Go _ _ _ _ _ _ _ _ _ _ [(.ref o10)]
        refine Go.aloadN C at_75 (q := 76) rfl rfl rfl ?_
        refine Go.acmpNo C at_76 (q := 79) rfl rfl rfl (XT.aa_ne_f rfl) ?_
        refine Go.iconst C at_79 (q := 80) rfl (v := (1 : Int32)) rfl ?_
        refine Go.goto C at_80 (by decide) (q := 84) rfl ?_
        refine Go.retZ C rfl (by decide) at_84 (by decide) (by decide) ?_
        exact rfl
    · refine Go.aloadN C at_44 (q := 45) rfl rfl rfl ?_
      refine Go.callS C (y := (⟨"com/example/querist/querist/engine/ElementLookup", "unwrapped", "(Ljava/util/Collection;)Ljava/util/Collection;"⟩ : MethodName)) (as := [(.ref o10)]) (rest := []) (wd hw 39 rfl) (wd hw 40 rfl) (wd hw 28 rfl) (wd hw 41 rfl) (m_unwL l Z a0 hw _ o10 dc (0 : Int32) (0 : Int32)) rfl at_45 (q := 48) rfl (by decide) rfl (na := 1) (by decide +kernel) rfl (by decide) (W := 0) rfl (by decide) (by decide) (by decide) (k' := 1) (n' := 3) rfl rfl ?_
      rintro _ _ ⟨rfl, rfl⟩
      show Go _ _ _ _ _ _ _ _ _ _ [(.ref o10)]
      refine Go.aloadN C at_48 (q := 49) rfl rfl rfl ?_
      refine Go.acmpNo C at_49 (q := 52) rfl rfl rfl (XT.aa_ne_f rfl) ?_
      refine Go.iconst C at_52 (q := 53) rfl (v := (1 : Int32)) rfl ?_
      refine Go.goto C at_53 (by decide) (q := 57) rfl ?_
      refine Go.retZ C rfl (by decide) at_57 (by decide) (by decide) ?_
      exact rfl
  · refine Go.aloadN C at_14 (q := 15) rfl rfl rfl ?_
    refine Go.iloadN C at_15 (q := 16) rfl rfl ?_
    refine Go.callS C (y := (⟨"java/lang/Integer", "valueOf", "(I)Ljava/lang/Integer;"⟩ : MethodName)) (as := [(.int p)]) (rest := [(.ref o10)]) (wd hw 48 rfl) (wd hw 49 rfl) (wd hw 50 rfl) (wd hw 51 rfl) (m_valueOfI l Z a0 hw _ p cb cs S_high S_cache A_cache H_cache) rfl at_16 (q := 19) rfl (by decide) rfl (na := 1) (by decide +kernel) rfl (by decide) (W := 1) rfl (by decide) (by decide) (by decide) (k' := 2) (n' := 4) rfl rfl ?_
    rintro _ _ ⟨bx13, rfl, ⟨rfl, hE_bx13, hF_bx13⟩ | rfl⟩
    · show Go _ _ _ _ _ _ _ _ _ _ [(.ref bx13), (.ref o10)]
      refine Go.callV C (y := (⟨"java/util/ArrayList", "add", "(Ljava/lang/Object;)Z"⟩ : MethodName)) (z := (⟨"java/util/ArrayList", "add", "(Ljava/lang/Object;)Z"⟩ : MethodName)) (a := o10) (as := [(.ref bx13)]) (rest := []) (wd hw 69 rfl) (wd hw 70 rfl) (nf_sel (z := (⟨"java/util/ArrayList", "add", "(Ljava/lang/Object;)Z"⟩ : MethodName)) (wd hw 72 rfl)) (wd hw 72 rfl) (wd hw 71 rfl) (wd hw 73 rfl) (wd hw 2 rfl) (fun _ r => r.exa 0 rfl) (m_add_1o l Z a0 hw _ o10 dc bx13 S_dc A_dc hE_bx13) rfl at_19 (q := 22) rfl (by decide) rfl (na := 1) (by decide +kernel) rfl (by decide) (W := 0) rfl (by decide) (by decide) (by decide) (k' := 3) (n' := 14) rfl rfl ?_
      rintro _ _ ⟨ar14, rfl, rfl⟩
      show Go _ _ _ _ _ _ _ _ _ _ [(.int (1 : Int32))]
      refine Go.pop C at_22 (q := 23) rfl rfl ?_
      refine Go.aloadN C at_23 (q := 24) rfl rfl rfl ?_
      refine Go.iloadN C at_24 (q := 25) rfl rfl ?_
      refine Go.callS C (y := (⟨"java/lang/Integer", "valueOf", "(I)Ljava/lang/Integer;"⟩ : MethodName)) (as := [(.int q)]) (rest := [(.ref o10)]) (wd hw 48 rfl) (wd hw 49 rfl) (wd hw 50 rfl) (wd hw 51 rfl) (m_valueOfI l Z a0 hw _ q cb cs S_high S_cache A_cache H_cache) rfl at_25 (q := 28) rfl (by decide) rfl (na := 1) (by decide +kernel) rfl (by decide) (W := 1) rfl (by decide) (by decide) (by decide) (k' := 4) (n' := 15) rfl rfl ?_
      rintro _ _ ⟨bx15, rfl, ⟨rfl, hE_bx15, hF_bx15⟩ | rfl⟩
      · show Go _ _ _ _ _ _ _ _ _ _ [(.ref bx15), (.ref o10)]
        refine Go.pick (M' := ((o10, oAL (.int (1 : Int32)) (.ref ar14) (.int (1 : Int32))) :: (ar14, .inr (.object "java/lang/Object", [(.ref bx13), .null, .null, .null, .null, .null, .null, .null, .null, .null], true)) :: [])) 2 [1, 0] (by decide) (by decide) rfl ?_
        refine Go.callV C (y := (⟨"java/util/ArrayList", "add", "(Ljava/lang/Object;)Z"⟩ : MethodName)) (z := (⟨"java/util/ArrayList", "add", "(Ljava/lang/Object;)Z"⟩ : MethodName)) (a := o10) (as := [(.ref bx15)]) (rest := []) (wd hw 69 rfl) (wd hw 70 rfl) (nf_sel (z := (⟨"java/util/ArrayList", "add", "(Ljava/lang/Object;)Z"⟩ : MethodName)) (wd hw 72 rfl)) (wd hw 72 rfl) (wd hw 71 rfl) (wd hw 73 rfl) (wd hw 2 rfl) (fun _ r => r.exa 0 rfl) (m_add_2o l Z a0 hw _ o10 ar14 bx13 bx15 hE_bx15) rfl at_28 (q := 31) rfl (by decide) rfl (na := 1) (by decide +kernel) rfl (by decide) (W := 0) rfl (by decide) (by decide) (by decide) (k' := 4) (n' := 15) rfl rfl ?_
        rintro _ _ ⟨rfl, rfl⟩
        show Go _ _ _ _ _ _ _ _ _ _ [(.int (1 : Int32))]
        refine Go.pop C at_31 (q := 32) rfl rfl ?_
        refine Go.iloadN C at_32 (q := 33) rfl rfl ?_
        refine Go.iconst C at_33 (q := 34) rfl (v := (3 : Int32)) rfl ?_
        refine Go.iand C at_34 (q := 35) rfl ?_
        refine Go.iconst C at_35 (q := 36) rfl (v := (3 : Int32)) rfl ?_
        refine Go.irem C at_36 (q := 37) rfl (by decide) ?_
        refine Go.istore C at_37 (q := 39) rfl (Ls' := #[.val (.int p), .val (.int q), .val (.int mode), .val (.ref o10), .val (.int ((mode &&& (3 : Int32)) % (3 : Int32))), .unset, .unset]) rfl ?_
        refine Go.iload C at_39 (q := 41) rfl rfl ?_
        refine Go.ifc C at_41 (by decide) (q := 58) rfl (q' := 44) rfl (fun (h41_4 : ¬ ((mode &&& (3 : Int32)) % (3 : Int32)) = 0) => ?_) (fun (h41_4 : ((mode &&& (3 : Int32)) % (3 : Int32)) = 0) => ?_)
        · refine Go.aloadN C at_58 (q := 59) rfl rfl rfl ?_
          refine Go.callS C (y := (⟨"com/example/querist/querist/engine/ElementLookup", "indexed", "(Ljava/util/Collection;)Ljava/util/Collection;"⟩ : MethodName)) (as := [(.ref o10)]) (rest := []) (wd hw 26 rfl) (wd hw 27 rfl) (wd hw 28 rfl) (wd hw 29 rfl) (m_indexed l Z a0 hw _ o10) rfl at_59 (q := 62) rfl (by decide) rfl (na := 1) (by decide +kernel) rfl (by decide) (W := 0) rfl (by decide) (by decide) (by decide) (k' := 5) (n' := 17) rfl rfl ?_
          rintro _ _ ⟨ix16, rfl, rfl⟩
          show Go _ _ _ _ _ _ _ _ _ _ [(.ref ix16)]
          refine Go.astore C at_62 (q := 64) rfl rfl (Ls' := #[.val (.int p), .val (.int q), .val (.int mode), .val (.ref o10), .val (.int ((mode &&& (3 : Int32)) % (3 : Int32))), .val (.ref ix16), .unset]) rfl ?_
          refine Go.iload C at_64 (q := 66) rfl rfl ?_
          refine Go.iconst C at_66 (q := 67) rfl (v := (1 : Int32)) rfl ?_
          refine Go.icmp C at_67 (by decide) (q := 85) rfl (q' := 70) rfl (fun (h67_5 : ¬ ((mode &&& (3 : Int32)) % (3 : Int32)) = (1 : Int32)) => ?_) (fun (h67_5 : ((mode &&& (3 : Int32)) % (3 : Int32)) = (1 : Int32)) => ?_)
          · refine Go.aload C at_85 (q := 87) rfl rfl rfl ?_
            refine Go.callS C (y := (⟨"com/example/querist/querist/engine/ElementLookup", "indexed", "(Ljava/util/Collection;)Ljava/util/Collection;"⟩ : MethodName)) (as := [(.ref ix16)]) (rest := []) (wd hw 26 rfl) (wd hw 27 rfl) (wd hw 28 rfl) (wd hw 29 rfl) (m_indexed l Z a0 hw _ ix16) rfl at_87 (q := 90) rfl (by decide) rfl (na := 1) (by decide +kernel) rfl (by decide) (W := 0) rfl (by decide) (by decide) (by decide) (k' := 6) (n' := 19) rfl rfl ?_
            rintro _ _ ⟨ix17, rfl, rfl⟩
            show Go _ _ _ _ _ _ _ _ _ _ [(.ref ix17)]
            refine Go.astore C at_90 (q := 92) rfl rfl (Ls' := #[.val (.int p), .val (.int q), .val (.int mode), .val (.ref o10), .val (.int ((mode &&& (3 : Int32)) % (3 : Int32))), .val (.ref ix16), .val (.ref ix17)]) rfl ?_
            refine Go.aload C at_92 (q := 94) rfl rfl rfl ?_
            refine Go.callS C (y := (⟨"com/example/querist/querist/engine/ElementLookup", "unwrapped", "(Ljava/util/Collection;)Ljava/util/Collection;"⟩ : MethodName)) (as := [(.ref ix17)]) (rest := []) (wd hw 39 rfl) (wd hw 40 rfl) (wd hw 28 rfl) (wd hw 41 rfl) (m_unwX l Z a0 hw _ ix17 ix16) rfl at_94 (q := 97) rfl (by decide) rfl (na := 1) (by decide +kernel) rfl (by decide) (W := 0) rfl (by decide) (by decide) (by decide) (k' := 6) (n' := 19) rfl rfl ?_
            rintro _ _ ⟨rfl, rfl⟩
            show Go _ _ _ _ _ _ _ _ _ _ [(.ref ix16)]
            refine Go.aload C at_97 (q := 99) rfl rfl rfl ?_
            refine Go.acmpNo C at_99 (q := 102) rfl rfl rfl (XT.aa_ne_f rfl) ?_
            refine Go.iconst C at_102 (q := 103) rfl (v := (1 : Int32)) rfl ?_
            refine Go.goto C at_103 (by decide) (q := 107) rfl ?_
            refine Go.retZ C rfl (by decide) at_107 (by decide) (by decide) ?_
            exact rfl
          · refine Go.aload C at_70 (q := 72) rfl rfl rfl ?_
            refine Go.callS C (y := (⟨"com/example/querist/querist/engine/ElementLookup", "unwrapped", "(Ljava/util/Collection;)Ljava/util/Collection;"⟩ : MethodName)) (as := [(.ref ix16)]) (rest := []) (wd hw 39 rfl) (wd hw 40 rfl) (wd hw 28 rfl) (wd hw 41 rfl) (m_unwX l Z a0 hw _ ix16 o10) rfl at_72 (q := 75) rfl (by decide) rfl (na := 1) (by decide +kernel) rfl (by decide) (W := 0) rfl (by decide) (by decide) (by decide) (k' := 5) (n' := 17) rfl rfl ?_
            rintro _ _ ⟨rfl, rfl⟩
            show Go _ _ _ _ _ _ _ _ _ _ [(.ref o10)]
            refine Go.aloadN C at_75 (q := 76) rfl rfl rfl ?_
            refine Go.acmpNo C at_76 (q := 79) rfl rfl rfl (XT.aa_ne_f rfl) ?_
            refine Go.iconst C at_79 (q := 80) rfl (v := (1 : Int32)) rfl ?_
            refine Go.goto C at_80 (by decide) (q := 84) rfl ?_
            refine Go.retZ C rfl (by decide) at_84 (by decide) (by decide) ?_
            exact rfl
        · refine Go.aloadN C at_44 (q := 45) rfl rfl rfl ?_
          refine Go.callS C (y := (⟨"com/example/querist/querist/engine/ElementLookup", "unwrapped", "(Ljava/util/Collection;)Ljava/util/Collection;"⟩ : MethodName)) (as := [(.ref o10)]) (rest := []) (wd hw 39 rfl) (wd hw 40 rfl) (wd hw 28 rfl) (wd hw 41 rfl) (m_unwL l Z a0 hw _ o10 ar14 (2 : Int32) (2 : Int32)) rfl at_45 (q := 48) rfl (by decide) rfl (na := 1) (by decide +kernel) rfl (by decide) (W := 0) rfl (by decide) (by decide) (by decide) (k' := 4) (n' := 15) rfl rfl ?_
          rintro _ _ ⟨rfl, rfl⟩
          show Go _ _ _ _ _ _ _ _ _ _ [(.ref o10)]
          refine Go.aloadN C at_48 (q := 49) rfl rfl rfl ?_
          refine Go.acmpNo C at_49 (q := 52) rfl rfl rfl (XT.aa_ne_f rfl) ?_
          refine Go.iconst C at_52 (q := 53) rfl (v := (1 : Int32)) rfl ?_
          refine Go.goto C at_53 (by decide) (q := 57) rfl ?_
          refine Go.retZ C rfl (by decide) at_57 (by decide) (by decide) ?_
          exact rfl
      · show Go _ _ _ _ _ _ _ _ _ _ [(.ref bx15), (.ref o10)]
        refine Go.pick (M' := ((o10, oAL (.int (1 : Int32)) (.ref ar14) (.int (1 : Int32))) :: (ar14, .inr (.object "java/lang/Object", [(.ref bx13), .null, .null, .null, .null, .null, .null, .null, .null, .null], true)) :: (bx15, oInt (.int q)) :: [])) 3 [2, 1, 0] (by decide) (by decide) rfl ?_
        refine Go.callV C (y := (⟨"java/util/ArrayList", "add", "(Ljava/lang/Object;)Z"⟩ : MethodName)) (z := (⟨"java/util/ArrayList", "add", "(Ljava/lang/Object;)Z"⟩ : MethodName)) (a := o10) (as := [(.ref bx15)]) (rest := []) (wd hw 69 rfl) (wd hw 70 rfl) (nf_sel (z := (⟨"java/util/ArrayList", "add", "(Ljava/lang/Object;)Z"⟩ : MethodName)) (wd hw 72 rfl)) (wd hw 72 rfl) (wd hw 71 rfl) (wd hw 73 rfl) (wd hw 2 rfl) (fun _ r => r.exa 0 rfl) (m_add_2n l Z a0 hw _ o10 ar14 bx13 bx15 q) rfl at_28 (q := 31) rfl (by decide) rfl (na := 1) (by decide +kernel) rfl (by decide) (W := 0) rfl (by decide) (by decide) (by decide) (k' := 4) (n' := 15) rfl rfl ?_
        rintro _ _ ⟨rfl, rfl⟩
        show Go _ _ _ _ _ _ _ _ _ _ [(.int (1 : Int32))]
        refine Go.pop C at_31 (q := 32) rfl rfl ?_
        refine Go.iloadN C at_32 (q := 33) rfl rfl ?_
        refine Go.iconst C at_33 (q := 34) rfl (v := (3 : Int32)) rfl ?_
        refine Go.iand C at_34 (q := 35) rfl ?_
        refine Go.iconst C at_35 (q := 36) rfl (v := (3 : Int32)) rfl ?_
        refine Go.irem C at_36 (q := 37) rfl (by decide) ?_
        refine Go.istore C at_37 (q := 39) rfl (Ls' := #[.val (.int p), .val (.int q), .val (.int mode), .val (.ref o10), .val (.int ((mode &&& (3 : Int32)) % (3 : Int32))), .unset, .unset]) rfl ?_
        refine Go.iload C at_39 (q := 41) rfl rfl ?_
        refine Go.ifc C at_41 (by decide) (q := 58) rfl (q' := 44) rfl (fun (h41_6 : ¬ ((mode &&& (3 : Int32)) % (3 : Int32)) = 0) => ?_) (fun (h41_6 : ((mode &&& (3 : Int32)) % (3 : Int32)) = 0) => ?_)
        · refine Go.aloadN C at_58 (q := 59) rfl rfl rfl ?_
          refine Go.callS C (y := (⟨"com/example/querist/querist/engine/ElementLookup", "indexed", "(Ljava/util/Collection;)Ljava/util/Collection;"⟩ : MethodName)) (as := [(.ref o10)]) (rest := []) (wd hw 26 rfl) (wd hw 27 rfl) (wd hw 28 rfl) (wd hw 29 rfl) (m_indexed l Z a0 hw _ o10) rfl at_59 (q := 62) rfl (by decide) rfl (na := 1) (by decide +kernel) rfl (by decide) (W := 0) rfl (by decide) (by decide) (by decide) (k' := 5) (n' := 17) rfl rfl ?_
          rintro _ _ ⟨ix18, rfl, rfl⟩
          show Go _ _ _ _ _ _ _ _ _ _ [(.ref ix18)]
          refine Go.astore C at_62 (q := 64) rfl rfl (Ls' := #[.val (.int p), .val (.int q), .val (.int mode), .val (.ref o10), .val (.int ((mode &&& (3 : Int32)) % (3 : Int32))), .val (.ref ix18), .unset]) rfl ?_
          refine Go.iload C at_64 (q := 66) rfl rfl ?_
          refine Go.iconst C at_66 (q := 67) rfl (v := (1 : Int32)) rfl ?_
          refine Go.icmp C at_67 (by decide) (q := 85) rfl (q' := 70) rfl (fun (h67_7 : ¬ ((mode &&& (3 : Int32)) % (3 : Int32)) = (1 : Int32)) => ?_) (fun (h67_7 : ((mode &&& (3 : Int32)) % (3 : Int32)) = (1 : Int32)) => ?_)
          · refine Go.aload C at_85 (q := 87) rfl rfl rfl ?_
            refine Go.callS C (y := (⟨"com/example/querist/querist/engine/ElementLookup", "indexed", "(Ljava/util/Collection;)Ljava/util/Collection;"⟩ : MethodName)) (as := [(.ref ix18)]) (rest := []) (wd hw 26 rfl) (wd hw 27 rfl) (wd hw 28 rfl) (wd hw 29 rfl) (m_indexed l Z a0 hw _ ix18) rfl at_87 (q := 90) rfl (by decide) rfl (na := 1) (by decide +kernel) rfl (by decide) (W := 0) rfl (by decide) (by decide) (by decide) (k' := 6) (n' := 19) rfl rfl ?_
            rintro _ _ ⟨ix19, rfl, rfl⟩
            show Go _ _ _ _ _ _ _ _ _ _ [(.ref ix19)]
            refine Go.astore C at_90 (q := 92) rfl rfl (Ls' := #[.val (.int p), .val (.int q), .val (.int mode), .val (.ref o10), .val (.int ((mode &&& (3 : Int32)) % (3 : Int32))), .val (.ref ix18), .val (.ref ix19)]) rfl ?_
            refine Go.aload C at_92 (q := 94) rfl rfl rfl ?_
            refine Go.callS C (y := (⟨"com/example/querist/querist/engine/ElementLookup", "unwrapped", "(Ljava/util/Collection;)Ljava/util/Collection;"⟩ : MethodName)) (as := [(.ref ix19)]) (rest := []) (wd hw 39 rfl) (wd hw 40 rfl) (wd hw 28 rfl) (wd hw 41 rfl) (m_unwX l Z a0 hw _ ix19 ix18) rfl at_94 (q := 97) rfl (by decide) rfl (na := 1) (by decide +kernel) rfl (by decide) (W := 0) rfl (by decide) (by decide) (by decide) (k' := 6) (n' := 19) rfl rfl ?_
            rintro _ _ ⟨rfl, rfl⟩
            show Go _ _ _ _ _ _ _ _ _ _ [(.ref ix18)]
            refine Go.aload C at_97 (q := 99) rfl rfl rfl ?_
            refine Go.acmpNo C at_99 (q := 102) rfl rfl rfl (XT.aa_ne_f rfl) ?_
            refine Go.iconst C at_102 (q := 103) rfl (v := (1 : Int32)) rfl ?_
            refine Go.goto C at_103 (by decide) (q := 107) rfl ?_
            refine Go.retZ C rfl (by decide) at_107 (by decide) (by decide) ?_
            exact rfl
          · refine Go.aload C at_70 (q := 72) rfl rfl rfl ?_
            refine Go.callS C (y := (⟨"com/example/querist/querist/engine/ElementLookup", "unwrapped", "(Ljava/util/Collection;)Ljava/util/Collection;"⟩ : MethodName)) (as := [(.ref ix18)]) (rest := []) (wd hw 39 rfl) (wd hw 40 rfl) (wd hw 28 rfl) (wd hw 41 rfl) (m_unwX l Z a0 hw _ ix18 o10) rfl at_72 (q := 75) rfl (by decide) rfl (na := 1) (by decide +kernel) rfl (by decide) (W := 0) rfl (by decide) (by decide) (by decide) (k' := 5) (n' := 17) rfl rfl ?_
            rintro _ _ ⟨rfl, rfl⟩
            show Go _ _ _ _ _ _ _ _ _ _ [(.ref o10)]
            refine Go.aloadN C at_75 (q := 76) rfl rfl rfl ?_
            refine Go.acmpNo C at_76 (q := 79) rfl rfl rfl (XT.aa_ne_f rfl) ?_
            refine Go.iconst C at_79 (q := 80) rfl (v := (1 : Int32)) rfl ?_
            refine Go.goto C at_80 (by decide) (q := 84) rfl ?_
            refine Go.retZ C rfl (by decide) at_84 (by decide) (by decide) ?_
            exact rfl
        · refine Go.aloadN C at_44 (q := 45) rfl rfl rfl ?_
          refine Go.callS C (y := (⟨"com/example/querist/querist/engine/ElementLookup", "unwrapped", "(Ljava/util/Collection;)Ljava/util/Collection;"⟩ : MethodName)) (as := [(.ref o10)]) (rest := []) (wd hw 39 rfl) (wd hw 40 rfl) (wd hw 28 rfl) (wd hw 41 rfl) (m_unwL l Z a0 hw _ o10 ar14 (2 : Int32) (2 : Int32)) rfl at_45 (q := 48) rfl (by decide) rfl (na := 1) (by decide +kernel) rfl (by decide) (W := 0) rfl (by decide) (by decide) (by decide) (k' := 4) (n' := 15) rfl rfl ?_
          rintro _ _ ⟨rfl, rfl⟩
          show Go _ _ _ _ _ _ _ _ _ _ [(.ref o10)]
          refine Go.aloadN C at_48 (q := 49) rfl rfl rfl ?_
          refine Go.acmpNo C at_49 (q := 52) rfl rfl rfl (XT.aa_ne_f rfl) ?_
          refine Go.iconst C at_52 (q := 53) rfl (v := (1 : Int32)) rfl ?_
          refine Go.goto C at_53 (by decide) (q := 57) rfl ?_
          refine Go.retZ C rfl (by decide) at_57 (by decide) (by decide) ?_
          exact rfl
    · show Go _ _ _ _ _ _ _ _ _ _ [(.ref bx13), (.ref o10)]
      refine Go.pick (M' := ((o10, oAL (.int (0 : Int32)) (.ref dc) (.int (0 : Int32))) :: (bx13, oInt (.int p)) :: [])) 2 [1, 0] (by decide) (by decide) rfl ?_
      refine Go.callV C (y := (⟨"java/util/ArrayList", "add", "(Ljava/lang/Object;)Z"⟩ : MethodName)) (z := (⟨"java/util/ArrayList", "add", "(Ljava/lang/Object;)Z"⟩ : MethodName)) (a := o10) (as := [(.ref bx13)]) (rest := []) (wd hw 69 rfl) (wd hw 70 rfl) (nf_sel (z := (⟨"java/util/ArrayList", "add", "(Ljava/lang/Object;)Z"⟩ : MethodName)) (wd hw 72 rfl)) (wd hw 72 rfl) (wd hw 71 rfl) (wd hw 73 rfl) (wd hw 2 rfl) (fun _ r => r.exa 0 rfl) (m_add_1n l Z a0 hw _ o10 dc bx13 p S_dc A_dc) rfl at_19 (q := 22) rfl (by decide) rfl (na := 1) (by decide +kernel) rfl (by decide) (W := 0) rfl (by decide) (by decide) (by decide) (k' := 3) (n' := 14) rfl rfl ?_
      rintro _ _ ⟨ar20, rfl, rfl⟩
      show Go _ _ _ _ _ _ _ _ _ _ [(.int (1 : Int32))]
      refine Go.pop C at_22 (q := 23) rfl rfl ?_
      refine Go.aloadN C at_23 (q := 24) rfl rfl rfl ?_
      refine Go.iloadN C at_24 (q := 25) rfl rfl ?_
      refine Go.callS C (y := (⟨"java/lang/Integer", "valueOf", "(I)Ljava/lang/Integer;"⟩ : MethodName)) (as := [(.int q)]) (rest := [(.ref o10)]) (wd hw 48 rfl) (wd hw 49 rfl) (wd hw 50 rfl) (wd hw 51 rfl) (m_valueOfI l Z a0 hw _ q cb cs S_high S_cache A_cache H_cache) rfl at_25 (q := 28) rfl (by decide) rfl (na := 1) (by decide +kernel) rfl (by decide) (W := 1) rfl (by decide) (by decide) (by decide) (k' := 4) (n' := 15) rfl rfl ?_
      rintro _ _ ⟨bx21, rfl, ⟨rfl, hE_bx21, hF_bx21⟩ | rfl⟩
      · show Go _ _ _ _ _ _ _ _ _ _ [(.ref bx21), (.ref o10)]
        refine Go.pick (M' := ((o10, oAL (.int (1 : Int32)) (.ref ar20) (.int (1 : Int32))) :: (ar20, .inr (.object "java/lang/Object", [(.ref bx13), .null, .null, .null, .null, .null, .null, .null, .null, .null], true)) :: (bx13, oInt (.int p)) :: [])) 3 [1, 0, 2] (by decide) (by decide) rfl ?_
        refine Go.callV C (y := (⟨"java/util/ArrayList", "add", "(Ljava/lang/Object;)Z"⟩ : MethodName)) (z := (⟨"java/util/ArrayList", "add", "(Ljava/lang/Object;)Z"⟩ : MethodName)) (a := o10) (as := [(.ref bx21)]) (rest := []) (wd hw 69 rfl) (wd hw 70 rfl) (nf_sel (z := (⟨"java/util/ArrayList", "add", "(Ljava/lang/Object;)Z"⟩ : MethodName)) (wd hw 72 rfl)) (wd hw 72 rfl) (wd hw 71 rfl) (wd hw 73 rfl) (wd hw 2 rfl) (fun _ r => r.exa 0 rfl) (m_add_2o l Z a0 hw _ o10 ar20 bx13 bx21 hE_bx21) rfl at_28 (q := 31) rfl (by decide) rfl (na := 1) (by decide +kernel) rfl (by decide) (W := 0) rfl (by decide) (by decide) (by decide) (k' := 4) (n' := 15) rfl rfl ?_
        rintro _ _ ⟨rfl, rfl⟩
        show Go _ _ _ _ _ _ _ _ _ _ [(.int (1 : Int32))]
        refine Go.pop C at_31 (q := 32) rfl rfl ?_
        refine Go.iloadN C at_32 (q := 33) rfl rfl ?_
        refine Go.iconst C at_33 (q := 34) rfl (v := (3 : Int32)) rfl ?_
        refine Go.iand C at_34 (q := 35) rfl ?_
        refine Go.iconst C at_35 (q := 36) rfl (v := (3 : Int32)) rfl ?_
        refine Go.irem C at_36 (q := 37) rfl (by decide) ?_
        refine Go.istore C at_37 (q := 39) rfl (Ls' := #[.val (.int p), .val (.int q), .val (.int mode), .val (.ref o10), .val (.int ((mode &&& (3 : Int32)) % (3 : Int32))), .unset, .unset]) rfl ?_
        refine Go.iload C at_39 (q := 41) rfl rfl ?_
        refine Go.ifc C at_41 (by decide) (q := 58) rfl (q' := 44) rfl (fun (h41_8 : ¬ ((mode &&& (3 : Int32)) % (3 : Int32)) = 0) => ?_) (fun (h41_8 : ((mode &&& (3 : Int32)) % (3 : Int32)) = 0) => ?_)
        · refine Go.aloadN C at_58 (q := 59) rfl rfl rfl ?_
          refine Go.callS C (y := (⟨"com/example/querist/querist/engine/ElementLookup", "indexed", "(Ljava/util/Collection;)Ljava/util/Collection;"⟩ : MethodName)) (as := [(.ref o10)]) (rest := []) (wd hw 26 rfl) (wd hw 27 rfl) (wd hw 28 rfl) (wd hw 29 rfl) (m_indexed l Z a0 hw _ o10) rfl at_59 (q := 62) rfl (by decide) rfl (na := 1) (by decide +kernel) rfl (by decide) (W := 0) rfl (by decide) (by decide) (by decide) (k' := 5) (n' := 17) rfl rfl ?_
          rintro _ _ ⟨ix22, rfl, rfl⟩
          show Go _ _ _ _ _ _ _ _ _ _ [(.ref ix22)]
          refine Go.astore C at_62 (q := 64) rfl rfl (Ls' := #[.val (.int p), .val (.int q), .val (.int mode), .val (.ref o10), .val (.int ((mode &&& (3 : Int32)) % (3 : Int32))), .val (.ref ix22), .unset]) rfl ?_
          refine Go.iload C at_64 (q := 66) rfl rfl ?_
          refine Go.iconst C at_66 (q := 67) rfl (v := (1 : Int32)) rfl ?_
          refine Go.icmp C at_67 (by decide) (q := 85) rfl (q' := 70) rfl (fun (h67_9 : ¬ ((mode &&& (3 : Int32)) % (3 : Int32)) = (1 : Int32)) => ?_) (fun (h67_9 : ((mode &&& (3 : Int32)) % (3 : Int32)) = (1 : Int32)) => ?_)
          · refine Go.aload C at_85 (q := 87) rfl rfl rfl ?_
            refine Go.callS C (y := (⟨"com/example/querist/querist/engine/ElementLookup", "indexed", "(Ljava/util/Collection;)Ljava/util/Collection;"⟩ : MethodName)) (as := [(.ref ix22)]) (rest := []) (wd hw 26 rfl) (wd hw 27 rfl) (wd hw 28 rfl) (wd hw 29 rfl) (m_indexed l Z a0 hw _ ix22) rfl at_87 (q := 90) rfl (by decide) rfl (na := 1) (by decide +kernel) rfl (by decide) (W := 0) rfl (by decide) (by decide) (by decide) (k' := 6) (n' := 19) rfl rfl ?_
            rintro _ _ ⟨ix23, rfl, rfl⟩
            show Go _ _ _ _ _ _ _ _ _ _ [(.ref ix23)]
            refine Go.astore C at_90 (q := 92) rfl rfl (Ls' := #[.val (.int p), .val (.int q), .val (.int mode), .val (.ref o10), .val (.int ((mode &&& (3 : Int32)) % (3 : Int32))), .val (.ref ix22), .val (.ref ix23)]) rfl ?_
            refine Go.aload C at_92 (q := 94) rfl rfl rfl ?_
            refine Go.callS C (y := (⟨"com/example/querist/querist/engine/ElementLookup", "unwrapped", "(Ljava/util/Collection;)Ljava/util/Collection;"⟩ : MethodName)) (as := [(.ref ix23)]) (rest := []) (wd hw 39 rfl) (wd hw 40 rfl) (wd hw 28 rfl) (wd hw 41 rfl) (m_unwX l Z a0 hw _ ix23 ix22) rfl at_94 (q := 97) rfl (by decide) rfl (na := 1) (by decide +kernel) rfl (by decide) (W := 0) rfl (by decide) (by decide) (by decide) (k' := 6) (n' := 19) rfl rfl ?_
            rintro _ _ ⟨rfl, rfl⟩
            show Go _ _ _ _ _ _ _ _ _ _ [(.ref ix22)]
            refine Go.aload C at_97 (q := 99) rfl rfl rfl ?_
            refine Go.acmpNo C at_99 (q := 102) rfl rfl rfl (XT.aa_ne_f rfl) ?_
            refine Go.iconst C at_102 (q := 103) rfl (v := (1 : Int32)) rfl ?_
            refine Go.goto C at_103 (by decide) (q := 107) rfl ?_
            refine Go.retZ C rfl (by decide) at_107 (by decide) (by decide) ?_
            exact rfl
          · refine Go.aload C at_70 (q := 72) rfl rfl rfl ?_
            refine Go.callS C (y := (⟨"com/example/querist/querist/engine/ElementLookup", "unwrapped", "(Ljava/util/Collection;)Ljava/util/Collection;"⟩ : MethodName)) (as := [(.ref ix22)]) (rest := []) (wd hw 39 rfl) (wd hw 40 rfl) (wd hw 28 rfl) (wd hw 41 rfl) (m_unwX l Z a0 hw _ ix22 o10) rfl at_72 (q := 75) rfl (by decide) rfl (na := 1) (by decide +kernel) rfl (by decide) (W := 0) rfl (by decide) (by decide) (by decide) (k' := 5) (n' := 17) rfl rfl ?_
            rintro _ _ ⟨rfl, rfl⟩
            show Go _ _ _ _ _ _ _ _ _ _ [(.ref o10)]
            refine Go.aloadN C at_75 (q := 76) rfl rfl rfl ?_
            refine Go.acmpNo C at_76 (q := 79) rfl rfl rfl (XT.aa_ne_f rfl) ?_
            refine Go.iconst C at_79 (q := 80) rfl (v := (1 : Int32)) rfl ?_
            refine Go.goto C at_80 (by decide) (q := 84) rfl ?_
            refine Go.retZ C rfl (by decide) at_84 (by decide) (by decide) ?_
            exact rfl
        · refine Go.aloadN C at_44 (q := 45) rfl rfl rfl ?_
          refine Go.callS C (y := (⟨"com/example/querist/querist/engine/ElementLookup", "unwrapped", "(Ljava/util/Collection;)Ljava/util/Collection;"⟩ : MethodName)) (as := [(.ref o10)]) (rest := []) (wd hw 39 rfl) (wd hw 40 rfl) (wd hw 28 rfl) (wd hw 41 rfl) (m_unwL l Z a0 hw _ o10 ar20 (2 : Int32) (2 : Int32)) rfl at_45 (q := 48) rfl (by decide) rfl (na := 1) (by decide +kernel) rfl (by decide) (W := 0) rfl (by decide) (by decide) (by decide) (k' := 4) (n' := 15) rfl rfl ?_
          rintro _ _ ⟨rfl, rfl⟩
          show Go _ _ _ _ _ _ _ _ _ _ [(.ref o10)]
          refine Go.aloadN C at_48 (q := 49) rfl rfl rfl ?_
          refine Go.acmpNo C at_49 (q := 52) rfl rfl rfl (XT.aa_ne_f rfl) ?_
          refine Go.iconst C at_52 (q := 53) rfl (v := (1 : Int32)) rfl ?_
          refine Go.goto C at_53 (by decide) (q := 57) rfl ?_
          refine Go.retZ C rfl (by decide) at_57 (by decide) (by decide) ?_
          exact rfl
      · show Go _ _ _ _ _ _ _ _ _ _ [(.ref bx21), (.ref o10)]
        refine Go.pick (M' := ((o10, oAL (.int (1 : Int32)) (.ref ar20) (.int (1 : Int32))) :: (ar20, .inr (.object "java/lang/Object", [(.ref bx13), .null, .null, .null, .null, .null, .null, .null, .null, .null], true)) :: (bx21, oInt (.int q)) :: (bx13, oInt (.int p)) :: [])) 4 [2, 1, 0, 3] (by decide) (by decide) rfl ?_
        refine Go.callV C (y := (⟨"java/util/ArrayList", "add", "(Ljava/lang/Object;)Z"⟩ : MethodName)) (z := (⟨"java/util/ArrayList", "add", "(Ljava/lang/Object;)Z"⟩ : MethodName)) (a := o10) (as := [(.ref bx21)]) (rest := []) (wd hw 69 rfl) (wd hw 70 rfl) (nf_sel (z := (⟨"java/util/ArrayList", "add", "(Ljava/lang/Object;)Z"⟩ : MethodName)) (wd hw 72 rfl)) (wd hw 72 rfl) (wd hw 71 rfl) (wd hw 73 rfl) (wd hw 2 rfl) (fun _ r => r.exa 0 rfl) (m_add_2n l Z a0 hw _ o10 ar20 bx13 bx21 q) rfl at_28 (q := 31) rfl (by decide) rfl (na := 1) (by decide +kernel) rfl (by decide) (W := 0) rfl (by decide) (by decide) (by decide) (k' := 4) (n' := 15) rfl rfl ?_
        rintro _ _ ⟨rfl, rfl⟩
        show Go _ _ _ _ _ _ _ _ _ _ [(.int (1 : Int32))]
        refine Go.pop C at_31 (q := 32) rfl rfl ?_
        refine Go.iloadN C at_32 (q := 33) rfl rfl ?_
        refine Go.iconst C at_33 (q := 34) rfl (v := (3 : Int32)) rfl ?_
        refine Go.iand C at_34 (q := 35) rfl ?_
        refine Go.iconst C at_35 (q := 36) rfl (v := (3 : Int32)) rfl ?_
        refine Go.irem C at_36 (q := 37) rfl (by decide) ?_
        refine Go.istore C at_37 (q := 39) rfl (Ls' := #[.val (.int p), .val (.int q), .val (.int mode), .val (.ref o10), .val (.int ((mode &&& (3 : Int32)) % (3 : Int32))), .unset, .unset]) rfl ?_
        refine Go.iload C at_39 (q := 41) rfl rfl ?_
        refine Go.ifc C at_41 (by decide) (q := 58) rfl (q' := 44) rfl (fun (h41_10 : ¬ ((mode &&& (3 : Int32)) % (3 : Int32)) = 0) => ?_) (fun (h41_10 : ((mode &&& (3 : Int32)) % (3 : Int32)) = 0) => ?_)
        · refine Go.aloadN C at_58 (q := 59) rfl rfl rfl ?_
          refine Go.callS C (y := (⟨"com/example/querist/querist/engine/ElementLookup", "indexed", "(Ljava/util/Collection;)Ljava/util/Collection;"⟩ : MethodName)) (as := [(.ref o10)]) (rest := []) (wd hw 26 rfl) (wd hw 27 rfl) (wd hw 28 rfl) (wd hw 29 rfl) (m_indexed l Z a0 hw _ o10) rfl at_59 (q := 62) rfl (by decide) rfl (na := 1) (by decide +kernel) rfl (by decide) (W := 0) rfl (by decide) (by decide) (by decide) (k' := 5) (n' := 17) rfl rfl ?_
          rintro _ _ ⟨ix24, rfl, rfl⟩
          show Go _ _ _ _ _ _ _ _ _ _ [(.ref ix24)]
          refine Go.astore C at_62 (q := 64) rfl rfl (Ls' := #[.val (.int p), .val (.int q), .val (.int mode), .val (.ref o10), .val (.int ((mode &&& (3 : Int32)) % (3 : Int32))), .val (.ref ix24), .unset]) rfl ?_
          refine Go.iload C at_64 (q := 66) rfl rfl ?_
          refine Go.iconst C at_66 (q := 67) rfl (v := (1 : Int32)) rfl ?_
          refine Go.icmp C at_67 (by decide) (q := 85) rfl (q' := 70) rfl (fun (h67_11 : ¬ ((mode &&& (3 : Int32)) % (3 : Int32)) = (1 : Int32)) => ?_) (fun (h67_11 : ((mode &&& (3 : Int32)) % (3 : Int32)) = (1 : Int32)) => ?_)
          · refine Go.aload C at_85 (q := 87) rfl rfl rfl ?_
            refine Go.callS C (y := (⟨"com/example/querist/querist/engine/ElementLookup", "indexed", "(Ljava/util/Collection;)Ljava/util/Collection;"⟩ : MethodName)) (as := [(.ref ix24)]) (rest := []) (wd hw 26 rfl) (wd hw 27 rfl) (wd hw 28 rfl) (wd hw 29 rfl) (m_indexed l Z a0 hw _ ix24) rfl at_87 (q := 90) rfl (by decide) rfl (na := 1) (by decide +kernel) rfl (by decide) (W := 0) rfl (by decide) (by decide) (by decide) (k' := 6) (n' := 19) rfl rfl ?_
            rintro _ _ ⟨ix25, rfl, rfl⟩
            show Go _ _ _ _ _ _ _ _ _ _ [(.ref ix25)]
            refine Go.astore C at_90 (q := 92) rfl rfl (Ls' := #[.val (.int p), .val (.int q), .val (.int mode), .val (.ref o10), .val (.int ((mode &&& (3 : Int32)) % (3 : Int32))), .val (.ref ix24), .val (.ref ix25)]) rfl ?_
            refine Go.aload C at_92 (q := 94) rfl rfl rfl ?_
            refine Go.callS C (y := (⟨"com/example/querist/querist/engine/ElementLookup", "unwrapped", "(Ljava/util/Collection;)Ljava/util/Collection;"⟩ : MethodName)) (as := [(.ref ix25)]) (rest := []) (wd hw 39 rfl) (wd hw 40 rfl) (wd hw 28 rfl) (wd hw 41 rfl) (m_unwX l Z a0 hw _ ix25 ix24) rfl at_94 (q := 97) rfl (by decide) rfl (na := 1) (by decide +kernel) rfl (by decide) (W := 0) rfl (by decide) (by decide) (by decide) (k' := 6) (n' := 19) rfl rfl ?_
            rintro _ _ ⟨rfl, rfl⟩
            show Go _ _ _ _ _ _ _ _ _ _ [(.ref ix24)]
            refine Go.aload C at_97 (q := 99) rfl rfl rfl ?_
            refine Go.acmpNo C at_99 (q := 102) rfl rfl rfl (XT.aa_ne_f rfl) ?_
            refine Go.iconst C at_102 (q := 103) rfl (v := (1 : Int32)) rfl ?_
            refine Go.goto C at_103 (by decide) (q := 107) rfl ?_
            refine Go.retZ C rfl (by decide) at_107 (by decide) (by decide) ?_
            exact rfl
          · refine Go.aload C at_70 (q := 72) rfl rfl rfl ?_
            refine Go.callS C (y := (⟨"com/example/querist/querist/engine/ElementLookup", "unwrapped", "(Ljava/util/Collection;)Ljava/util/Collection;"⟩ : MethodName)) (as := [(.ref ix24)]) (rest := []) (wd hw 39 rfl) (wd hw 40 rfl) (wd hw 28 rfl) (wd hw 41 rfl) (m_unwX l Z a0 hw _ ix24 o10) rfl at_72 (q := 75) rfl (by decide) rfl (na := 1) (by decide +kernel) rfl (by decide) (W := 0) rfl (by decide) (by decide) (by decide) (k' := 5) (n' := 17) rfl rfl ?_
            rintro _ _ ⟨rfl, rfl⟩
            show Go _ _ _ _ _ _ _ _ _ _ [(.ref o10)]
            refine Go.aloadN C at_75 (q := 76) rfl rfl rfl ?_
            refine Go.acmpNo C at_76 (q := 79) rfl rfl rfl (XT.aa_ne_f rfl) ?_
            refine Go.iconst C at_79 (q := 80) rfl (v := (1 : Int32)) rfl ?_
            refine Go.goto C at_80 (by decide) (q := 84) rfl ?_
            refine Go.retZ C rfl (by decide) at_84 (by decide) (by decide) ?_
            exact rfl
        · refine Go.aloadN C at_44 (q := 45) rfl rfl rfl ?_
          refine Go.callS C (y := (⟨"com/example/querist/querist/engine/ElementLookup", "unwrapped", "(Ljava/util/Collection;)Ljava/util/Collection;"⟩ : MethodName)) (as := [(.ref o10)]) (rest := []) (wd hw 39 rfl) (wd hw 40 rfl) (wd hw 28 rfl) (wd hw 41 rfl) (m_unwL l Z a0 hw _ o10 ar20 (2 : Int32) (2 : Int32)) rfl at_45 (q := 48) rfl (by decide) rfl (na := 1) (by decide +kernel) rfl (by decide) (W := 0) rfl (by decide) (by decide) (by decide) (k' := 4) (n' := 15) rfl rfl ?_
          rintro _ _ ⟨rfl, rfl⟩
          show Go _ _ _ _ _ _ _ _ _ _ [(.ref o10)]
          refine Go.aloadN C at_48 (q := 49) rfl rfl rfl ?_
          refine Go.acmpNo C at_49 (q := 52) rfl rfl rfl (XT.aa_ne_f rfl) ?_
          refine Go.iconst C at_52 (q := 53) rfl (v := (1 : Int32)) rfl ?_
          refine Go.goto C at_53 (by decide) (q := 57) rfl ?_
          refine Go.retZ C rfl (by decide) at_57 (by decide) (by decide) ?_
          exact rfl
theorem own_nil {vs : List Value} (h : vs.length.toInt32 = 0) (hl : vs.length < 2 ^ 31) : vs = [] := by
  have := Int32.toInt_ofNat_of_lt (n := vs.length) (by omega)
  have e : vs.length.toInt32 = Int32.ofNat vs.length := rfl
  rw [← e, h] at this
  have e2 : (0 : Int32).toInt = 0 := by decide
  exact List.eq_nil_of_length_eq_zero (by omega)
set_option maxRecDepth 65536 in
set_option maxHeartbeats 40000000 in
theorem comes_1 {Post : Tables → Env → Array Value → State → Outcome → State → Prop} (hpost : ∀ tb e args s v u, (limb_1_1.after args s (.returned v) u = true ∧ limb_1_2.after args s (.returned v) u = true ∧ True) → FrameEnd s (.returned v) u (Jvm.fieldLocs frame_1_writes args s ++ Jvm.arrayLocs frame_1_arrays args s ++ Jvm.staticLocs frame_1_statics s) 24 128 → Post tb e args s (.returned v) u) :
    ArmFor flags0 classFile x code maxLocals ret World_1 tables_1 room_1 Calls_1 rest_1 Pre_1 Post := by
  intro l hfl _ _ p e ha hc hk s m args below hf hA hF happ hP
  obtain ⟨hcalls, hrest, hpre⟩ := hP
  obtain ⟨-, -, -, hnamed, -, -, -, hat⟩ := (Spec.applies_iff hf).mp happ
  obtain ⟨hg, hn⟩ := and_e (Cond.before_iff.mp (show (Jvm.Cond.and given_1 narrow_1).before args s = true from hpre))
  obtain ⟨hcount, hg⟩ := and_e hg
  obtain ⟨w0, w1, w2, rfl⟩ : ∃ w0 w1 w2 : Value, args = #[w0, w1, w2] := by
    have hs : args.size = 3 := by simpa [Cond.value, given_1] using hcount
    obtain ⟨L⟩ := args
    match L, hs with
    | [w0, w1, w2], _ => exact ⟨w0, w1, w2, rfl⟩
  have hw := fun d (hd : d ∈ tables_1) => atoms_spec (ws := Jvm.Cond.code x code maxLocals ret :: tables_1) hat d (List.mem_cons_of_mem _ hd)
  obtain ⟨hsets, hown0⟩ := atoms_of _ (rest_1_c_eq ▸ (show rest_1_c.before _ s = true from hrest))
  have hw : ∀ d ∈ own_tabs, d.before _ s = true := fun d hd => (List.mem_append.mp hd).elim (hw d) (hsets d)
  obtain ⟨g0, hg⟩ := and_e hg
  obtain ⟨pa, e0⟩ := is_v g0
  obtain rfl : w0 = (.int pa) := Option.some.inj e0
  obtain ⟨g1, hg⟩ := and_e hg
  obtain ⟨pb, e1⟩ := is_v g1
  obtain rfl : w1 = (.int pb) := Option.some.inj e1
  have g2 := hg
  obtain ⟨mode, e2⟩ := is_v g2
  obtain rfl : w2 = (.int mode) := Option.some.inj e2
  have st2 := Cond.before_iff.mp (hsets _ (List.mem_of_getElem? (i := 13) rfl))
  have st4 := Cond.before_iff.mp (hsets _ (List.mem_of_getElem? (i := 15) rfl))
  have st5 := Cond.before_iff.mp (hsets _ (List.mem_of_getElem? (i := 16) rfl))
  have st6 := int_of_eq (Cond.before_iff.mp (hsets _ (List.mem_of_getElem? (i := 12) rfl)))
  have S_high := Sta.start st6 (Or.inl (hsets _ (List.mem_of_getElem? (i := 10) rfl)))
  obtain ⟨cb, ev_cb⟩ := arr_v st2
  obtain ⟨cc, AA⟩ := Arr.start ev_cb st2
  have hlen := len_of_eq ev_cb AA st4
  have hlen2 : cc.slots.toList.length = 256 := len256 hlen.1 hlen.2
  have S_cache := Sta.start ev_cb (Or.inr ⟨(wd hw 53 rfl), hsets _ (List.mem_of_getElem? (i := 11) rfl)⟩)
  have H0 := cache_elem ev_cb AA hlen.2 st5
  rw [hlen2] at H0
  have A_cache : ArrIs s s.heap cb (.object "java/lang/Integer") cc.slots.toList := ⟨_, AA, rfl⟩
  have H_cache : ∀ j : Nat, j < 256 → ∃ b, cc.slots.toList[j]? = some (.ref b) ∧ Exa s s.heap b "java/lang/Integer" ∧ Fld s s.heap b "java/lang/Integer" "value" "I" (.int (j.toInt32 - 128)) := fun j hj => by obtain ⟨b, q1, q2, q3, q4⟩ := H0 j hj; exact ⟨b, q1, q2, cache_val q3 q4⟩
  have dc1 := Cond.before_iff.mp (hsets _ (List.mem_of_getElem? (i := 6) rfl))
  have dc2 := Cond.before_iff.mp (hsets _ (List.mem_of_getElem? (i := 8) rfl))
  obtain ⟨dc, ev_dc⟩ := arr_v dc1
  obtain ⟨cd, AD⟩ := Arr.start ev_dc dc1
  have hld := len_of_eq ev_dc AD dc2
  have S_dc := Sta.start ev_dc (Or.inr ⟨(wd hw 2 rfl), (wd hw 103 rfl)⟩)
  have A_dc : ArrIs s s.heap dc (.object "java/lang/Object") [] := ⟨cd, AD, own_nil hld.1 hld.2⟩
  obtain ⟨n, o, h1, h2, h3, _, L, rfl, ⟨N, _, rfl, -⟩, hq⟩ := m_law l s _ hw pa pb mode cb cc.slots.toList dc S_high S_cache A_cache H_cache S_dc A_dc tables_1 s.heap (rep0 s) p e ha hc hk s m _ below hf ((Spec.applies_iff_loose hf).mp happ).1 ⟨rfl, State.Warmed39.refl s, rfl⟩ trivial
  refine ⟨n, _, h1, h2, h3, hpost _ _ _ _ _ _ ⟨Cond.after_iff.mpr rfl, Cond.after_iff.mpr (eq_i res_at (Term.int_eval (1)) rfl), trivial⟩ ⟨hq.1, hq.2.1, (hq.2.2.sift fun y hy => Or.inr (N y hy)).mono (by decide) (by decide)⟩⟩
theorem main_1_1 : Claimed_1_1 := comes_1 fun _ _ _ _ _ _ h hF => ⟨h.1, hF⟩
theorem main_1_2 : Claimed_1_2 := comes_1 fun _ _ _ _ _ _ h hF => ⟨h.2.1, hF⟩
end Jvm.Pilot.@@N@@
namespace Jvm.Pilot.@@N@@
open Jvm Jvm.ClassFile Sem Op Lib Jvm.Free Jvm.Stand Jvm.Pilot.@@N@@.Jvm.D
/-! MADE BY PROGRAM (witnessworld.py) out of the Statement's table words and the real class files: 27 classes; the members and pool entries that the words name. The judged class is class 1, her method 1. -/
namespace start1
open Jvm.ClassFile
def u (s : String) : CpInfo := .utf8 (stringToUtf16 s)
/-- a pool by its gaps: so many unusable entries, then the entry; so many at the end -/
def gap : Nat → List CpInfo → List CpInfo
  | 0, r => r
  | n + 1, r => .unusable :: gap n r
def poolList (es : List (Nat × CpInfo)) (last : Nat) : List CpInfo := es.foldr (fun e r => gap e.1 (e.2 :: r)) (gap last [])
def pool (es : List (Nat × CpInfo)) (last : Nat) : Array CpInfo := ⟨poolList es last⟩
def fileOf (pool : Array CpInfo) (this : Nat) (attrs : Array Attribute := #[]) (ms : Array MethodInfo := #[]) (fl : Nat := 33) (sup : Nat := 0) (ifs : Array Nat := #[]) (fds : Array FieldInfo := #[]) : ClassFile where
  minorVersion := 0
  majorVersion := 65
  constantPool := pool
  accessFlags := fl
  thisClass := this
  superClass := sup
  interfaces := ifs
  fields := fds
  methods := ms
  attributes := attrs
def plain (name : String) (sup : Option ClassId) : Class where
  name := name
  kind := .ordinary
  loader := none
  accessFlags := 33
  super := sup
  interfaces := #[]
  cf := none
  fields := #[]
  methods := #[]
  instanceTypes := #[]
  staticTypes := #[]
  resolved := #[]
  callSites := []
  init := .initialized
  statics := none
  mirror := none

def pool0 : Array CpInfo := pool [(5, u "<init>"), (0, u "()V"), (1, .class_ 10), (1, u "java/lang/Object")] 113

def k0c0 : Code := { maxStack := 0, maxLocals := 1, code := object_method_1_code, exceptionTable := #[], attributes := #[] }
def k0m0 : Method := { name := "<init>", desc := "()V", sig := { parameters := [], returnType := none }, accessFlags := 1, code := some k0c0 }
/-- java/lang/Object -/
def k0 : Class := { plain "java/lang/Object" none with
  accessFlags := 33
  interfaces := #[]
  cf := some (fileOf pool0 8 #[] #[{ accessFlags := 1, nameIndex := 5, descriptorIndex := 6, attributes := #[] }] 33 0 #[] #[])
  fields := #[]
  methods := #[k0m0]
  instanceTypes := #[]
  staticTypes := #[]
  resolved := Array.replicate 124 none
  statics := none }

def pool1 : Array CpInfo := pool [(2, .class_ 4), (0, .nameAndType 5 6), (0, u "java/lang/Object"), (0, u "<init>"), (0, u "()V"), (0, .class_ 8), (0, u "java/util/ArrayList"), (0, .methodref 7 3), (0, .methodref 11 12), (0, .class_ 13), (0, .nameAndType 14 15), (0, u "java/lang/Integer"), (0, u "valueOf"), (0, u "(I)Ljava/lang/Integer;"), (0, .methodref 7 17), (0, .nameAndType 18 19), (0, u "add"), (0, u "(Ljava/lang/Object;)Z"), (0, .methodref 21 22), (0, .class_ 23), (0, .nameAndType 24 25), (0, u "com/example/querist/querist/engine/ElementLookup"), (0, u "unwrapped"), (0, u "(Ljava/util/Collection;)Ljava/util/Collection;"), (0, .methodref 21 27), (0, .nameAndType 28 25), (0, u "indexed"), (0, .class_ 30), (0, u "com/example/querist/querist/engine/ElementLookupUnwrappedPinLaw"), (2, u "law"), (0, u "(III)Z")] 5

def k1m0 : Method := { name := "<init>", desc := "()V", sig := { parameters := [], returnType := none }, accessFlags := 1, code := none }
def k1c1 : Code := { maxStack := 2, maxLocals := 7, code := code, exceptionTable := #[], attributes := #[] }
def k1m1 : Method := { name := "law", desc := "(III)Z", sig := { parameters := [.int, .int, .int], returnType := some .boolean }, accessFlags := 9, code := some k1c1 }
/-- com/example/querist/querist/engine/ElementLookupUnwrappedPinLaw -/
def k1 : Class := { plain "com/example/querist/querist/engine/ElementLookupUnwrappedPinLaw" (some 0) with
  accessFlags := 49
  interfaces := #[]
  cf := some (fileOf pool1 29 #[] #[{ accessFlags := 1, nameIndex := 5, descriptorIndex := 6, attributes := #[] }, { accessFlags := 9, nameIndex := 33, descriptorIndex := 34, attributes := #[] }] 49 2 #[] #[])
  fields := #[]
  methods := #[k1m0, k1m1]
  instanceTypes := #[]
  staticTypes := #[]
  resolved := Array.replicate 40 none
  statics := none }

def pool2 : Array CpInfo := pool [(8, .class_ 10), (1, u "java/lang/Iterable"), (24, .class_ 36), (0, u "java/lang/Object")] 25

/-- java/lang/Iterable -/
def k2 : Class := { plain "java/lang/Iterable" (some 0) with
  accessFlags := 1537
  interfaces := #[]
  cf := some (fileOf pool2 8 #[] #[] 1537 35 #[] #[])
  fields := #[]
  methods := #[]
  instanceTypes := #[]
  staticTypes := #[]
  resolved := Array.replicate 62 none
  statics := none }

def pool3 : Array CpInfo := pool [(10, .class_ 12), (1, u "java/util/Collection"), (47, .class_ 61), (0, u "java/lang/Object"), (0, .class_ 63), (0, u "java/lang/Iterable")] 51

/-- java/util/Collection -/
def k3 : Class := { plain "java/util/Collection" (some 0) with
  accessFlags := 1537
  interfaces := #[2]
  cf := some (fileOf pool3 10 #[] #[] 1537 60 #[62] #[])
  fields := #[]
  methods := #[]
  instanceTypes := #[]
  staticTypes := #[]
  resolved := Array.replicate 115 none
  statics := none }

def pool4 : Array CpInfo := pool [(1, .methodref 2 3), (0, .class_ 4), (0, .nameAndType 5 6), (0, u "java/lang/Object"), (0, u "<init>"), (0, u "()V"), (1, .class_ 10), (1, u "java/util/AbstractCollection"), (66, .class_ 78), (0, u "java/util/Collection")] 81

def k4c0 : Code := { maxStack := 1, maxLocals := 1, code := jdk_22_method_1_code, exceptionTable := #[], attributes := #[] }
def k4m0 : Method := { name := "<init>", desc := "()V", sig := { parameters := [], returnType := none }, accessFlags := 4, code := some k4c0 }
/-- java/util/AbstractCollection -/
def k4 : Class := { plain "java/util/AbstractCollection" (some 0) with
  accessFlags := 1057
  interfaces := #[3]
  cf := some (fileOf pool4 8 #[] #[{ accessFlags := 4, nameIndex := 5, descriptorIndex := 6, attributes := #[] }] 1057 2 #[77] #[])
  fields := #[]
  methods := #[k4m0]
  instanceTypes := #[]
  staticTypes := #[]
  resolved := Array.replicate 160 none
  statics := none }

def pool5 : Array CpInfo := pool [(8, .class_ 10), (1, u "java/util/SequencedCollection"), (15, .class_ 27), (0, u "java/lang/Object"), (0, .class_ 29), (0, u "java/util/Collection")] 27

/-- java/util/SequencedCollection -/
def k5 : Class := { plain "java/util/SequencedCollection" (some 0) with
  accessFlags := 1537
  interfaces := #[3]
  cf := some (fileOf pool5 8 #[] #[] 1537 26 #[28] #[])
  fields := #[]
  methods := #[]
  instanceTypes := #[]
  staticTypes := #[]
  resolved := Array.replicate 57 none
  statics := none }

def pool6 : Array CpInfo := pool [(8, .class_ 10), (1, u "java/util/List"), (92, .class_ 104), (0, u "java/lang/Object"), (15, .class_ 121), (0, u "java/util/SequencedCollection")] 129

/-- java/util/List -/
def k6 : Class := { plain "java/util/List" (some 0) with
  accessFlags := 1537
  interfaces := #[5]
  cf := some (fileOf pool6 8 #[] #[] 1537 103 #[120] #[])
  fields := #[]
  methods := #[]
  instanceTypes := #[]
  staticTypes := #[]
  resolved := Array.replicate 251 none
  statics := none }

def pool7 : Array CpInfo := pool [(1, .methodref 2 3), (0, .class_ 4), (0, .nameAndType 5 6), (0, u "java/util/AbstractCollection"), (0, u "<init>"), (0, u "()V"), (0, .fieldref 8 9), (0, .class_ 10), (0, .nameAndType 11 12), (0, u "java/util/AbstractList"), (0, u "modCount"), (0, u "I"), (64, .class_ 78), (0, u "java/util/AbstractList$Itr"), (3, .class_ 83), (0, u "java/util/AbstractList$ListItr"), (9, .class_ 94), (0, u "java/util/AbstractList$RandomAccessSubList"), (3, .class_ 99), (0, u "java/util/AbstractList$SubList"), (33, .class_ 134), (0, u "java/util/List"), (73, .class_ 209), (0, u "java/util/AbstractList$SubList$1"), (0, .class_ 211), (0, u "java/util/AbstractList$RandomAccessSpliterator")] 6

def k7c0 : Code := { maxStack := 2, maxLocals := 1, code := jdk_39_method_1_code, exceptionTable := #[], attributes := #[] }
def k7m0 : Method := { name := "<init>", desc := "()V", sig := { parameters := [], returnType := none }, accessFlags := 4, code := some k7c0 }
/-- java/util/AbstractList -/
def k7 : Class := { plain "java/util/AbstractList" (some 4) with
  accessFlags := 1057
  interfaces := #[6]
  cf := some (fileOf pool7 8 #[.nestMembers #[93, 98, 208, 210, 82, 77]] #[{ accessFlags := 4, nameIndex := 5, descriptorIndex := 6, attributes := #[] }] 1057 2 #[133] #[{ accessFlags := 132, nameIndex := 11, descriptorIndex := 12, attributes := #[] }])
  fields := #[{ name := "modCount", type := .int, accessFlags := 132, slot := 0, constantValue := 0 }]
  methods := #[k7m0]
  instanceTypes := #[.int]
  staticTypes := #[]
  resolved := Array.replicate 218 none
  statics := none }

def pool8 : Array CpInfo := pool [(1, .class_ 2), (0, u "java/util/RandomAccess"), (0, .class_ 4), (0, u "java/lang/Object")] 2

/-- java/util/RandomAccess -/
def k8 : Class := { plain "java/util/RandomAccess" (some 0) with
  accessFlags := 1537
  interfaces := #[]
  cf := some (fileOf pool8 1 #[] #[] 1537 3 #[] #[])
  fields := #[]
  methods := #[]
  instanceTypes := #[]
  staticTypes := #[]
  resolved := Array.replicate 7 none
  statics := none }

def pool9 : Array CpInfo := pool [(1, .class_ 2), (0, u "java/lang/Cloneable"), (0, .class_ 4), (0, u "java/lang/Object")] 2

/-- java/lang/Cloneable -/
def k9 : Class := { plain "java/lang/Cloneable" (some 0) with
  accessFlags := 1537
  interfaces := #[]
  cf := some (fileOf pool9 1 #[] #[] 1537 3 #[] #[])
  fields := #[]
  methods := #[]
  instanceTypes := #[]
  staticTypes := #[]
  resolved := Array.replicate 7 none
  statics := none }

def pool10 : Array CpInfo := pool [(1, .class_ 2), (0, u "java/io/Serializable"), (0, .class_ 4), (0, u "java/lang/Object")] 2

/-- java/io/Serializable -/
def k10 : Class := { plain "java/io/Serializable" (some 0) with
  accessFlags := 1537
  interfaces := #[]
  cf := some (fileOf pool10 1 #[] #[] 1537 3 #[] #[])
  fields := #[]
  methods := #[]
  instanceTypes := #[]
  staticTypes := #[]
  resolved := Array.replicate 7 none
  statics := none }

def pool11 : Array CpInfo := pool [(1, .methodref 2 3), (0, .class_ 4), (0, .nameAndType 5 6), (0, u "java/util/AbstractList"), (0, u "<init>"), (0, u "()V"), (0, .class_ 8), (0, u "java/lang/Object"), (0, .fieldref 10 11), (0, .class_ 12), (0, .nameAndType 13 14), (0, u "java/util/ArrayList"), (0, u "elementData"), (0, u "[Ljava/lang/Object;"), (2, u "EMPTY_ELEMENTDATA"), (21, .fieldref 10 40), (0, .nameAndType 41 14), (0, u "DEFAULTCAPACITY_EMPTY_ELEMENTDATA"), (5, u "()[Ljava/lang/Object;"), (0, .fieldref 10 49), (0, .nameAndType 50 51), (0, u "size"), (0, u "I"), (11, .fieldref 10 64), (0, .nameAndType 65 51), (0, u "modCount"), (3, .methodref 10 70), (0, .nameAndType 71 72), (0, u "grow"), (0, u "(I)[Ljava/lang/Object;"), (6, .methodref 80 81), (0, .class_ 82), (0, .nameAndType 83 84), (0, u "java/lang/Math"), (0, u "max"), (0, u "(II)I"), (11, u "(Ljava/lang/Object;)Z"), (32, .methodref 10 130), (0, .nameAndType 71 47), (0, .methodref 10 132), (0, .nameAndType 133 134), (0, u "add"), (0, u "(Ljava/lang/Object;[Ljava/lang/Object;I)V"), (13, .class_ 149), (0, u "java/util/List"), (112, .class_ 263), (0, u "java/util/ArrayList$ListItr"), (3, .class_ 268), (0, u "java/util/ArrayList$Itr"), (7, .class_ 277), (0, u "java/util/ArrayList$SubList"), (12, .class_ 291), (0, u "java/util/ArrayList$ArrayListSpliterator"), (37, .class_ 330), (0, u "java/util/RandomAccess"), (0, .class_ 332), (0, u "java/lang/Cloneable"), (0, .class_ 334), (0, u "java/io/Serializable"), (0, u "serialVersionUID"), (0, u "J"), (3, u "DEFAULT_CAPACITY"), (159, .class_ 501), (0, u "java/util/ArrayList$SubList$2"), (0, .class_ 503), (0, u "java/util/ArrayList$SubList$1")] 5

def k11c0 : Code := { maxStack := 2, maxLocals := 1, code := jdk_38_method_2_code, exceptionTable := #[], attributes := #[] }
def k11m0 : Method := { name := "<init>", desc := "()V", sig := { parameters := [], returnType := none }, accessFlags := 1, code := some k11c0 }
def k11c1 : Code := { maxStack := 4, maxLocals := 4, code := jdk_38_method_6_code, exceptionTable := #[], attributes := #[] }
def k11m1 : Method := { name := "grow", desc := "(I)[Ljava/lang/Object;", sig := { parameters := [.int], returnType := some (.array (.object "java/lang/Object")) }, accessFlags := 2, code := some k11c1 }
def k11c2 : Code := { maxStack := 3, maxLocals := 1, code := jdk_38_method_7_code, exceptionTable := #[], attributes := #[] }
def k11m2 : Method := { name := "grow", desc := "()[Ljava/lang/Object;", sig := { parameters := [], returnType := some (.array (.object "java/lang/Object")) }, accessFlags := 2, code := some k11c2 }
def k11c3 : Code := { maxStack := 3, maxLocals := 4, code := jdk_38_method_24_code, exceptionTable := #[], attributes := #[] }
def k11m3 : Method := { name := "add", desc := "(Ljava/lang/Object;[Ljava/lang/Object;I)V", sig := { parameters := [(.object "java/lang/Object"), (.array (.object "java/lang/Object")), .int], returnType := none }, accessFlags := 2, code := some k11c3 }
def k11c4 : Code := { maxStack := 4, maxLocals := 2, code := jdk_38_method_25_code, exceptionTable := #[], attributes := #[] }
def k11m4 : Method := { name := "add", desc := "(Ljava/lang/Object;)Z", sig := { parameters := [(.object "java/lang/Object")], returnType := some .boolean }, accessFlags := 1, code := some k11c4 }
/-- java/util/ArrayList -/
def k11 : Class := { plain "java/util/ArrayList" (some 7) with
  accessFlags := 33
  interfaces := #[6, 8, 9, 10]
  cf := some (fileOf pool11 10 #[.nestMembers #[290, 276, 500, 502, 262, 267]] #[{ accessFlags := 1, nameIndex := 5, descriptorIndex := 6, attributes := #[] }, { accessFlags := 2, nameIndex := 71, descriptorIndex := 72, attributes := #[] }, { accessFlags := 2, nameIndex := 71, descriptorIndex := 47, attributes := #[] }, { accessFlags := 2, nameIndex := 133, descriptorIndex := 134, attributes := #[] }, { accessFlags := 1, nameIndex := 133, descriptorIndex := 96, attributes := #[] }] 33 2 #[148, 329, 331, 333] #[{ accessFlags := 26, nameIndex := 335, descriptorIndex := 336, attributes := #[] }, { accessFlags := 26, nameIndex := 340, descriptorIndex := 51, attributes := #[] }, { accessFlags := 26, nameIndex := 17, descriptorIndex := 14, attributes := #[] }, { accessFlags := 26, nameIndex := 41, descriptorIndex := 14, attributes := #[] }, { accessFlags := 128, nameIndex := 13, descriptorIndex := 14, attributes := #[] }, { accessFlags := 2, nameIndex := 50, descriptorIndex := 51, attributes := #[] }])
  fields := #[{ name := "serialVersionUID", type := .long, accessFlags := 26, slot := 0, constantValue := 0 }, { name := "DEFAULT_CAPACITY", type := .int, accessFlags := 26, slot := 1, constantValue := 0 }, { name := "EMPTY_ELEMENTDATA", type := (.array (.object "java/lang/Object")), accessFlags := 26, slot := 2, constantValue := 0 }, { name := "DEFAULTCAPACITY_EMPTY_ELEMENTDATA", type := (.array (.object "java/lang/Object")), accessFlags := 26, slot := 3, constantValue := 0 }, { name := "elementData", type := (.array (.object "java/lang/Object")), accessFlags := 128, slot := 1, constantValue := 0 }, { name := "size", type := .int, accessFlags := 2, slot := 2, constantValue := 0 }]
  methods := #[k11m0, k11m1, k11m2, k11m3, k11m4]
  instanceTypes := #[.int, (.array (.object "java/lang/Object")), .int]
  staticTypes := #[.long, .int, (.array (.object "java/lang/Object")), (.array (.object "java/lang/Object"))]
  resolved := Array.replicate 509 none
  statics := some 0 }

def pool12 : Array CpInfo := pool [(2, .class_ 4), (1, u "java/lang/Object"), (0, u "<init>"), (2, .class_ 10), (1, u "com/example/querist/querist/engine/ElementLookup"), (0, u "asked"), (0, u "Ljava/lang/Class;"), (13, .class_ 27), (0, u "com/example/querist/querist/engine/ElementLookup$Indexed"), (0, .methodref 26 29), (0, .nameAndType 5 30), (0, u "(Ljava/util/Collection;)V"), (0, .fieldref 26 32), (0, .nameAndType 33 34), (0, u "collection"), (0, u "Ljava/util/Collection;"), (77, u "indexed"), (0, u "(Ljava/util/Collection;)Ljava/util/Collection;"), (1, u "unwrapped")] 9

def k12c0 : Code := { maxStack := 3, maxLocals := 1, code := prog_33_method_3_code, exceptionTable := #[], attributes := #[] }
def k12m0 : Method := { name := "indexed", desc := "(Ljava/util/Collection;)Ljava/util/Collection;", sig := { parameters := [(.object "java/util/Collection")], returnType := some (.object "java/util/Collection") }, accessFlags := 8, code := some k12c0 }
def k12c1 : Code := { maxStack := 1, maxLocals := 2, code := prog_33_method_4_code, exceptionTable := #[], attributes := #[] }
def k12m1 : Method := { name := "unwrapped", desc := "(Ljava/util/Collection;)Ljava/util/Collection;", sig := { parameters := [(.object "java/util/Collection")], returnType := some (.object "java/util/Collection") }, accessFlags := 8, code := some k12c1 }
/-- com/example/querist/querist/engine/ElementLookup -/
def k12 : Class := { plain "com/example/querist/querist/engine/ElementLookup" (some 0) with
  accessFlags := 48
  interfaces := #[]
  cf := some (fileOf pool12 8 #[.nestMembers #[26]] #[{ accessFlags := 8, nameIndex := 112, descriptorIndex := 113, attributes := #[] }, { accessFlags := 8, nameIndex := 115, descriptorIndex := 113, attributes := #[] }] 48 2 #[] #[{ accessFlags := 18, nameIndex := 11, descriptorIndex := 12, attributes := #[] }])
  fields := #[{ name := "asked", type := (.object "java/lang/Class"), accessFlags := 18, slot := 0, constantValue := 0 }]
  methods := #[k12m0, k12m1]
  instanceTypes := #[(.object "java/lang/Class")]
  staticTypes := #[]
  resolved := (((Array.replicate 125 none).setIfInBounds 26 (some (.cls 13))).setIfInBounds 31 (some (.field 13 0)))
  statics := none }

def pool13 : Array CpInfo := pool [(1, .methodref 2 3), (0, .class_ 4), (0, .nameAndType 5 6), (0, u "java/util/AbstractCollection"), (0, u "<init>"), (0, u "()V"), (0, .fieldref 8 9), (0, .class_ 10), (0, .nameAndType 11 12), (0, u "com/example/querist/querist/engine/ElementLookup$Indexed"), (0, u "collection"), (0, u "Ljava/util/Collection;"), (2, u "numberKeys"), (0, u "Ljava/util/Set;"), (49, u "(Ljava/util/Collection;)V"), (11, .class_ 79), (0, u "com/example/querist/querist/engine/ElementLookup")] 2

def k13c0 : Code := { maxStack := 2, maxLocals := 2, code := prog_34_method_1_code, exceptionTable := #[], attributes := #[] }
def k13m0 : Method := { name := "<init>", desc := "(Ljava/util/Collection;)V", sig := { parameters := [(.object "java/util/Collection")], returnType := none }, accessFlags := 0, code := some k13c0 }
/-- com/example/querist/querist/engine/ElementLookup$Indexed -/
def k13 : Class := { plain "com/example/querist/querist/engine/ElementLookup$Indexed" (some 4) with
  accessFlags := 48
  interfaces := #[]
  cf := some (fileOf pool13 8 #[.nestHost 78] #[{ accessFlags := 0, nameIndex := 5, descriptorIndex := 66, attributes := #[] }] 48 2 #[] #[{ accessFlags := 18, nameIndex := 11, descriptorIndex := 12, attributes := #[] }, { accessFlags := 2, nameIndex := 15, descriptorIndex := 16, attributes := #[] }])
  fields := #[{ name := "collection", type := (.object "java/util/Collection"), accessFlags := 18, slot := 0, constantValue := 0 }, { name := "numberKeys", type := (.object "java/util/Set"), accessFlags := 2, slot := 1, constantValue := 0 }]
  methods := #[k13m0]
  instanceTypes := #[(.object "java/util/Collection"), (.object "java/util/Set")]
  staticTypes := #[]
  resolved := Array.replicate 82 none
  statics := none }

def pool14 : Array CpInfo := pool [(1, .methodref 2 3), (0, .class_ 4), (0, .nameAndType 5 6), (0, u "java/lang/Object"), (0, u "<init>"), (0, u "()V"), (1, .class_ 10), (1, u "java/lang/Number"), (2, .class_ 14), (0, u "java/io/Serializable"), (0, u "serialVersionUID"), (0, u "J")] 20

def k14c0 : Code := { maxStack := 1, maxLocals := 1, code := jdk_18_method_1_code, exceptionTable := #[], attributes := #[] }
def k14m0 : Method := { name := "<init>", desc := "()V", sig := { parameters := [], returnType := none }, accessFlags := 1, code := some k14c0 }
/-- java/lang/Number -/
def k14 : Class := { plain "java/lang/Number" (some 0) with
  accessFlags := 1057
  interfaces := #[10]
  cf := some (fileOf pool14 8 #[] #[{ accessFlags := 1, nameIndex := 5, descriptorIndex := 6, attributes := #[] }] 1057 2 #[13] #[{ accessFlags := 26, nameIndex := 15, descriptorIndex := 16, attributes := #[] }])
  fields := #[{ name := "serialVersionUID", type := .long, accessFlags := 26, slot := 0, constantValue := 0 }]
  methods := #[k14m0]
  instanceTypes := #[]
  staticTypes := #[.long]
  resolved := Array.replicate 37 none
  statics := none }

def pool15 : Array CpInfo := pool [(1, .class_ 2), (0, u "java/lang/Comparable"), (0, .class_ 4), (0, u "java/lang/Object")] 7

/-- java/lang/Comparable -/
def k15 : Class := { plain "java/lang/Comparable" (some 0) with
  accessFlags := 1537
  interfaces := #[]
  cf := some (fileOf pool15 1 #[] #[] 1537 3 #[] #[])
  fields := #[]
  methods := #[]
  instanceTypes := #[]
  staticTypes := #[]
  resolved := Array.replicate 12 none
  statics := none }

def pool16 : Array CpInfo := pool [(1, .class_ 2), (0, u "java/lang/constant/Constable"), (0, .class_ 4), (0, u "java/lang/Object")] 6

/-- java/lang/constant/Constable -/
def k16 : Class := { plain "java/lang/constant/Constable" (some 0) with
  accessFlags := 1537
  interfaces := #[]
  cf := some (fileOf pool16 1 #[] #[] 1537 3 #[] #[])
  fields := #[]
  methods := #[]
  instanceTypes := #[]
  staticTypes := #[]
  resolved := Array.replicate 11 none
  statics := none }

def pool17 : Array CpInfo := pool [(1, .class_ 2), (0, u "java/lang/constant/ConstantDesc"), (0, .class_ 4), (0, u "java/lang/Object")] 32

/-- java/lang/constant/ConstantDesc -/
def k17 : Class := { plain "java/lang/constant/ConstantDesc" (some 0) with
  accessFlags := 1537
  interfaces := #[]
  cf := some (fileOf pool17 1 #[] #[] 1537 3 #[] #[])
  fields := #[]
  methods := #[]
  instanceTypes := #[]
  staticTypes := #[]
  resolved := Array.replicate 37 none
  statics := none }

def pool18 : Array CpInfo := pool [(1, .class_ 2), (0, u "java/lang/Integer"), (16, u "digits"), (0, u "[C"), (46, u "<init>"), (17, u "DigitOnes"), (0, u "[B"), (2, u "DigitTens"), (10, .nameAndType 67 101), (0, u "()V"), (85, u "valueOf"), (0, u "(I)Ljava/lang/Integer;"), (0, .class_ 190), (0, u "java/lang/Integer$IntegerCache"), (0, .fieldref 189 192), (0, .nameAndType 193 194), (0, u "high"), (0, u "I"), (0, .fieldref 189 196), (0, .nameAndType 197 198), (0, u "cache"), (0, u "[Ljava/lang/Integer;"), (0, .methodref 1 200), (0, .nameAndType 67 201), (0, u "(I)V"), (0, .methodref 203 100), (0, .class_ 204), (0, u "java/lang/Number"), (0, .fieldref 1 206), (0, .nameAndType 207 194), (0, u "value"), (94, u "TYPE"), (0, u "Ljava/lang/Class;"), (0, .class_ 305), (0, u "java/lang/Comparable"), (0, .class_ 307), (0, u "java/lang/constant/Constable"), (0, .class_ 309), (0, u "java/lang/constant/ConstantDesc"), (0, u "MIN_VALUE"), (1, u "MAX_VALUE"), (3, u "SIZE"), (1, u "BYTES"), (1, u "serialVersionUID"), (0, u "J")] 131

def k18c0 : Code := { maxStack := 3, maxLocals := 1, code := jdk_33_method_22_code, exceptionTable := #[], attributes := #[] }
def k18m0 : Method := { name := "valueOf", desc := "(I)Ljava/lang/Integer;", sig := { parameters := [.int], returnType := some (.object "java/lang/Integer") }, accessFlags := 9, code := some k18c0 }
def k18c1 : Code := { maxStack := 2, maxLocals := 2, code := jdk_33_method_23_code, exceptionTable := #[], attributes := #[] }
def k18m1 : Method := { name := "<init>", desc := "(I)V", sig := { parameters := [.int], returnType := none }, accessFlags := 1, code := some k18c1 }
/-- java/lang/Integer -/
def k18 : Class := { plain "java/lang/Integer" (some 14) with
  accessFlags := 49
  interfaces := #[15, 16, 17]
  cf := some (fileOf pool18 1 #[.nestMembers #[189]] #[{ accessFlags := 9, nameIndex := 187, descriptorIndex := 188, attributes := #[] }, { accessFlags := 1, nameIndex := 67, descriptorIndex := 201, attributes := #[] }] 49 203 #[304, 306, 308] #[{ accessFlags := 25, nameIndex := 310, descriptorIndex := 194, attributes := #[] }, { accessFlags := 25, nameIndex := 312, descriptorIndex := 194, attributes := #[] }, { accessFlags := 25, nameIndex := 302, descriptorIndex := 303, attributes := #[] }, { accessFlags := 24, nameIndex := 19, descriptorIndex := 20, attributes := #[] }, { accessFlags := 24, nameIndex := 89, descriptorIndex := 86, attributes := #[] }, { accessFlags := 24, nameIndex := 85, descriptorIndex := 86, attributes := #[] }, { accessFlags := 18, nameIndex := 207, descriptorIndex := 194, attributes := #[] }, { accessFlags := 25, nameIndex := 316, descriptorIndex := 194, attributes := #[] }, { accessFlags := 25, nameIndex := 318, descriptorIndex := 194, attributes := #[] }, { accessFlags := 26, nameIndex := 320, descriptorIndex := 321, attributes := #[] }])
  fields := #[{ name := "MIN_VALUE", type := .int, accessFlags := 25, slot := 0, constantValue := 0 }, { name := "MAX_VALUE", type := .int, accessFlags := 25, slot := 1, constantValue := 0 }, { name := "TYPE", type := (.object "java/lang/Class"), accessFlags := 25, slot := 2, constantValue := 0 }, { name := "digits", type := (.array .char), accessFlags := 24, slot := 3, constantValue := 0 }, { name := "DigitTens", type := (.array .byte), accessFlags := 24, slot := 4, constantValue := 0 }, { name := "DigitOnes", type := (.array .byte), accessFlags := 24, slot := 5, constantValue := 0 }, { name := "value", type := .int, accessFlags := 18, slot := 0, constantValue := 0 }, { name := "SIZE", type := .int, accessFlags := 25, slot := 6, constantValue := 0 }, { name := "BYTES", type := .int, accessFlags := 25, slot := 7, constantValue := 0 }, { name := "serialVersionUID", type := .long, accessFlags := 26, slot := 8, constantValue := 0 }]
  methods := #[k18m0, k18m1]
  instanceTypes := #[.int]
  staticTypes := #[.int, .int, (.object "java/lang/Class"), (.array .char), (.array .byte), (.array .byte), .int, .int, .long]
  resolved := Array.replicate 453 none
  statics := none }

def pool19 : Array CpInfo := pool [(2, .class_ 4), (1, u "java/lang/Object"), (0, u "<init>"), (0, u "()V"), (0, .class_ 8), (0, u "java/lang/Integer"), (7, .class_ 18), (1, u "java/lang/Integer$IntegerCache"), (0, u "$assertionsDisabled"), (0, u "Z"), (26, u "high"), (0, u "I"), (8, u "archivedCache"), (0, u "[Ljava/lang/Integer;"), (12, u "cache"), (0, u "low")] 27

def k19m0 : Method := { name := "<init>", desc := "()V", sig := { parameters := [], returnType := none }, accessFlags := 2, code := none }
/-- java/lang/Integer$IntegerCache -/
def k19 : Class := { plain "java/lang/Integer$IntegerCache" (some 0) with
  accessFlags := 48
  interfaces := #[]
  cf := some (fileOf pool19 16 #[.nestHost 7] #[{ accessFlags := 2, nameIndex := 5, descriptorIndex := 6, attributes := #[] }] 48 2 #[] #[{ accessFlags := 24, nameIndex := 72, descriptorIndex := 48, attributes := #[] }, { accessFlags := 24, nameIndex := 47, descriptorIndex := 48, attributes := #[] }, { accessFlags := 24, nameIndex := 71, descriptorIndex := 58, attributes := #[] }, { accessFlags := 8, nameIndex := 57, descriptorIndex := 58, attributes := #[] }, { accessFlags := 4120, nameIndex := 19, descriptorIndex := 20, attributes := #[] }])
  fields := #[{ name := "low", type := .int, accessFlags := 24, slot := 0, constantValue := 0 }, { name := "high", type := .int, accessFlags := 24, slot := 1, constantValue := 0 }, { name := "cache", type := (.array (.object "java/lang/Integer")), accessFlags := 24, slot := 2, constantValue := 0 }, { name := "archivedCache", type := (.array (.object "java/lang/Integer")), accessFlags := 8, slot := 3, constantValue := 0 }, { name := "$assertionsDisabled", type := .boolean, accessFlags := 4120, slot := 4, constantValue := 0 }]
  methods := #[k19m0]
  instanceTypes := #[]
  staticTypes := #[.int, .int, (.array (.object "java/lang/Integer")), (.array (.object "java/lang/Integer")), .boolean]
  resolved := Array.replicate 100 none
  statics := some 1 }

def pool20 : Array CpInfo := pool [(1, .class_ 2), (0, u "java/lang/Math"), (1, .class_ 6), (1, u "java/lang/Object"), (0, u "<init>"), (0, u "()V"), (89, .class_ 100), (1, u "java/lang/Math$RandomNumberGeneratorHolder"), (71, u "negativeZeroFloatBits"), (0, u "J"), (2, u "negativeZeroDoubleBits"), (21, u "max"), (46, u "$assertionsDisabled"), (0, u "Z"), (88, u "(II)I"), (2, u "twoToTheDoubleScaleDown"), (0, u "D"), (4, u "twoToTheDoubleScaleUp"), (9, u "E"), (3, u "PI"), (2, u "TAU"), (2, u "DEGREES_TO_RADIANS"), (0, u "RADIANS_TO_DEGREES")] 94

def k20m0 : Method := { name := "<init>", desc := "()V", sig := { parameters := [], returnType := none }, accessFlags := 2, code := none }
def k20c1 : Code := { maxStack := 2, maxLocals := 2, code := jdk_29_method_65_code, exceptionTable := #[], attributes := #[] }
def k20m1 : Method := { name := "max", desc := "(II)I", sig := { parameters := [.int, .int], returnType := some .int }, accessFlags := 9, code := some k20c1 }
/-- java/lang/Math -/
def k20 : Class := { plain "java/lang/Math" (some 0) with
  accessFlags := 49
  interfaces := #[]
  cf := some (fileOf pool20 1 #[.nestMembers #[98]] #[{ accessFlags := 2, nameIndex := 7, descriptorIndex := 8, attributes := #[] }, { accessFlags := 9, nameIndex := 198, descriptorIndex := 335, attributes := #[] }] 49 4 #[] #[{ accessFlags := 25, nameIndex := 354, descriptorIndex := 339, attributes := #[] }, { accessFlags := 25, nameIndex := 358, descriptorIndex := 339, attributes := #[] }, { accessFlags := 25, nameIndex := 361, descriptorIndex := 339, attributes := #[] }, { accessFlags := 26, nameIndex := 364, descriptorIndex := 339, attributes := #[] }, { accessFlags := 26, nameIndex := 365, descriptorIndex := 339, attributes := #[] }, { accessFlags := 26, nameIndex := 172, descriptorIndex := 173, attributes := #[] }, { accessFlags := 26, nameIndex := 176, descriptorIndex := 173, attributes := #[] }, { accessFlags := 8, nameIndex := 344, descriptorIndex := 339, attributes := #[] }, { accessFlags := 8, nameIndex := 338, descriptorIndex := 339, attributes := #[] }, { accessFlags := 4120, nameIndex := 245, descriptorIndex := 246, attributes := #[] }])
  fields := #[{ name := "E", type := .double, accessFlags := 25, slot := 0, constantValue := 0 }, { name := "PI", type := .double, accessFlags := 25, slot := 1, constantValue := 0 }, { name := "TAU", type := .double, accessFlags := 25, slot := 2, constantValue := 0 }, { name := "DEGREES_TO_RADIANS", type := .double, accessFlags := 26, slot := 3, constantValue := 0 }, { name := "RADIANS_TO_DEGREES", type := .double, accessFlags := 26, slot := 4, constantValue := 0 }, { name := "negativeZeroFloatBits", type := .long, accessFlags := 26, slot := 5, constantValue := 0 }, { name := "negativeZeroDoubleBits", type := .long, accessFlags := 26, slot := 6, constantValue := 0 }, { name := "twoToTheDoubleScaleUp", type := .double, accessFlags := 8, slot := 7, constantValue := 0 }, { name := "twoToTheDoubleScaleDown", type := .double, accessFlags := 8, slot := 8, constantValue := 0 }, { name := "$assertionsDisabled", type := .boolean, accessFlags := 4120, slot := 9, constantValue := 0 }]
  methods := #[k20m0, k20m1]
  instanceTypes := #[]
  staticTypes := #[.double, .double, .double, .double, .double, .long, .long, .double, .double, .boolean]
  resolved := Array.replicate 460 none
  statics := none }

/-- the primitive byte -/
def k21 : Class := { plain "byte" none with kind := .primitive 'B', accessFlags := 0x411 }
/-- [B -/
def k22 : Class := { plain "[B" (some 0) with kind := .array 21 .byte, interfaces := #[9, 10], accessFlags := 1041 }

/-- the primitive int -/
def k23 : Class := { plain "int" none with kind := .primitive 'I', accessFlags := 0x411 }
/-- [I -/
def k24 : Class := { plain "[I" (some 0) with kind := .array 23 .int, interfaces := #[9, 10], accessFlags := 1041 }

/-- [Ljava/lang/Integer; -/
def k25 : Class := { plain "[Ljava/lang/Integer;" (some 0) with kind := .array 18 (.object "java/lang/Integer"), interfaces := #[9, 10], accessFlags := 1041 }

/-- [Ljava/lang/Object; -/
def k26 : Class := { plain "[Ljava/lang/Object;" (some 0) with kind := .array 0 (.object "java/lang/Object"), interfaces := #[9, 10], accessFlags := 1041 }

def heap : Heap := #[{ cls := 11, slots := #[.long 0, .int 0, .ref 259, .ref 260], vm := .statics 11 },
  { cls := 19, slots := #[.int 0, .int 127, .ref 2, .null, .int 0], vm := .statics 19 },
  { cls := 25, slots := #[.ref 3, .ref 4, .ref 5, .ref 6, .ref 7, .ref 8, .ref 9, .ref 10, .ref 11, .ref 12, .ref 13, .ref 14, .ref 15, .ref 16, .ref 17, .ref 18, .ref 19, .ref 20, .ref 21, .ref 22, .ref 23, .ref 24, .ref 25, .ref 26, .ref 27, .ref 28, .ref 29, .ref 30, .ref 31, .ref 32, .ref 33, .ref 34, .ref 35, .ref 36, .ref 37, .ref 38, .ref 39, .ref 40, .ref 41, .ref 42, .ref 43, .ref 44, .ref 45, .ref 46, .ref 47, .ref 48, .ref 49, .ref 50, .ref 51, .ref 52, .ref 53, .ref 54, .ref 55, .ref 56, .ref 57, .ref 58, .ref 59, .ref 60, .ref 61, .ref 62, .ref 63, .ref 64, .ref 65, .ref 66, .ref 67, .ref 68, .ref 69, .ref 70, .ref 71, .ref 72, .ref 73, .ref 74, .ref 75, .ref 76, .ref 77, .ref 78, .ref 79, .ref 80, .ref 81, .ref 82, .ref 83, .ref 84, .ref 85, .ref 86, .ref 87, .ref 88, .ref 89, .ref 90, .ref 91, .ref 92, .ref 93, .ref 94, .ref 95, .ref 96, .ref 97, .ref 98, .ref 99, .ref 100, .ref 101, .ref 102, .ref 103, .ref 104, .ref 105, .ref 106, .ref 107, .ref 108, .ref 109, .ref 110, .ref 111, .ref 112, .ref 113, .ref 114, .ref 115, .ref 116, .ref 117, .ref 118, .ref 119, .ref 120, .ref 121, .ref 122, .ref 123, .ref 124, .ref 125, .ref 126, .ref 127, .ref 128, .ref 129, .ref 130, .ref 131, .ref 132, .ref 133, .ref 134, .ref 135, .ref 136, .ref 137, .ref 138, .ref 139, .ref 140, .ref 141, .ref 142, .ref 143, .ref 144, .ref 145, .ref 146, .ref 147, .ref 148, .ref 149, .ref 150, .ref 151, .ref 152, .ref 153, .ref 154, .ref 155, .ref 156, .ref 157, .ref 158, .ref 159, .ref 160, .ref 161, .ref 162, .ref 163, .ref 164, .ref 165, .ref 166, .ref 167, .ref 168, .ref 169, .ref 170, .ref 171, .ref 172, .ref 173, .ref 174, .ref 175, .ref 176, .ref 177, .ref 178, .ref 179, .ref 180, .ref 181, .ref 182, .ref 183, .ref 184, .ref 185, .ref 186, .ref 187, .ref 188, .ref 189, .ref 190, .ref 191, .ref 192, .ref 193, .ref 194, .ref 195, .ref 196, .ref 197, .ref 198, .ref 199, .ref 200, .ref 201, .ref 202, .ref 203, .ref 204, .ref 205, .ref 206, .ref 207, .ref 208, .ref 209, .ref 210, .ref 211, .ref 212, .ref 213, .ref 214, .ref 215, .ref 216, .ref 217, .ref 218, .ref 219, .ref 220, .ref 221, .ref 222, .ref 223, .ref 224, .ref 225, .ref 226, .ref 227, .ref 228, .ref 229, .ref 230, .ref 231, .ref 232, .ref 233, .ref 234, .ref 235, .ref 236, .ref 237, .ref 238, .ref 239, .ref 240, .ref 241, .ref 242, .ref 243, .ref 244, .ref 245, .ref 246, .ref 247, .ref 248, .ref 249, .ref 250, .ref 251, .ref 252, .ref 253, .ref 254, .ref 255, .ref 256, .ref 257, .ref 258], vm := .none },
  { cls := 18, slots := #[.int (-128)], vm := .none },
  { cls := 18, slots := #[.int (-127)], vm := .none },
  { cls := 18, slots := #[.int (-126)], vm := .none },
  { cls := 18, slots := #[.int (-125)], vm := .none },
  { cls := 18, slots := #[.int (-124)], vm := .none },
  { cls := 18, slots := #[.int (-123)], vm := .none },
  { cls := 18, slots := #[.int (-122)], vm := .none },
  { cls := 18, slots := #[.int (-121)], vm := .none },
  { cls := 18, slots := #[.int (-120)], vm := .none },
  { cls := 18, slots := #[.int (-119)], vm := .none },
  { cls := 18, slots := #[.int (-118)], vm := .none },
  { cls := 18, slots := #[.int (-117)], vm := .none },
  { cls := 18, slots := #[.int (-116)], vm := .none },
  { cls := 18, slots := #[.int (-115)], vm := .none },
  { cls := 18, slots := #[.int (-114)], vm := .none },
  { cls := 18, slots := #[.int (-113)], vm := .none },
  { cls := 18, slots := #[.int (-112)], vm := .none },
  { cls := 18, slots := #[.int (-111)], vm := .none },
  { cls := 18, slots := #[.int (-110)], vm := .none },
  { cls := 18, slots := #[.int (-109)], vm := .none },
  { cls := 18, slots := #[.int (-108)], vm := .none },
  { cls := 18, slots := #[.int (-107)], vm := .none },
  { cls := 18, slots := #[.int (-106)], vm := .none },
  { cls := 18, slots := #[.int (-105)], vm := .none },
  { cls := 18, slots := #[.int (-104)], vm := .none },
  { cls := 18, slots := #[.int (-103)], vm := .none },
  { cls := 18, slots := #[.int (-102)], vm := .none },
  { cls := 18, slots := #[.int (-101)], vm := .none },
  { cls := 18, slots := #[.int (-100)], vm := .none },
  { cls := 18, slots := #[.int (-99)], vm := .none },
  { cls := 18, slots := #[.int (-98)], vm := .none },
  { cls := 18, slots := #[.int (-97)], vm := .none },
  { cls := 18, slots := #[.int (-96)], vm := .none },
  { cls := 18, slots := #[.int (-95)], vm := .none },
  { cls := 18, slots := #[.int (-94)], vm := .none },
  { cls := 18, slots := #[.int (-93)], vm := .none },
  { cls := 18, slots := #[.int (-92)], vm := .none },
  { cls := 18, slots := #[.int (-91)], vm := .none },
  { cls := 18, slots := #[.int (-90)], vm := .none },
  { cls := 18, slots := #[.int (-89)], vm := .none },
  { cls := 18, slots := #[.int (-88)], vm := .none },
  { cls := 18, slots := #[.int (-87)], vm := .none },
  { cls := 18, slots := #[.int (-86)], vm := .none },
  { cls := 18, slots := #[.int (-85)], vm := .none },
  { cls := 18, slots := #[.int (-84)], vm := .none },
  { cls := 18, slots := #[.int (-83)], vm := .none },
  { cls := 18, slots := #[.int (-82)], vm := .none },
  { cls := 18, slots := #[.int (-81)], vm := .none },
  { cls := 18, slots := #[.int (-80)], vm := .none },
  { cls := 18, slots := #[.int (-79)], vm := .none },
  { cls := 18, slots := #[.int (-78)], vm := .none },
  { cls := 18, slots := #[.int (-77)], vm := .none },
  { cls := 18, slots := #[.int (-76)], vm := .none },
  { cls := 18, slots := #[.int (-75)], vm := .none },
  { cls := 18, slots := #[.int (-74)], vm := .none },
  { cls := 18, slots := #[.int (-73)], vm := .none },
  { cls := 18, slots := #[.int (-72)], vm := .none },
  { cls := 18, slots := #[.int (-71)], vm := .none },
  { cls := 18, slots := #[.int (-70)], vm := .none },
  { cls := 18, slots := #[.int (-69)], vm := .none },
  { cls := 18, slots := #[.int (-68)], vm := .none },
  { cls := 18, slots := #[.int (-67)], vm := .none },
  { cls := 18, slots := #[.int (-66)], vm := .none },
  { cls := 18, slots := #[.int (-65)], vm := .none },
  { cls := 18, slots := #[.int (-64)], vm := .none },
  { cls := 18, slots := #[.int (-63)], vm := .none },
  { cls := 18, slots := #[.int (-62)], vm := .none },
  { cls := 18, slots := #[.int (-61)], vm := .none },
  { cls := 18, slots := #[.int (-60)], vm := .none },
  { cls := 18, slots := #[.int (-59)], vm := .none },
  { cls := 18, slots := #[.int (-58)], vm := .none },
  { cls := 18, slots := #[.int (-57)], vm := .none },
  { cls := 18, slots := #[.int (-56)], vm := .none },
  { cls := 18, slots := #[.int (-55)], vm := .none },
  { cls := 18, slots := #[.int (-54)], vm := .none },
  { cls := 18, slots := #[.int (-53)], vm := .none },
  { cls := 18, slots := #[.int (-52)], vm := .none },
  { cls := 18, slots := #[.int (-51)], vm := .none },
  { cls := 18, slots := #[.int (-50)], vm := .none },
  { cls := 18, slots := #[.int (-49)], vm := .none },
  { cls := 18, slots := #[.int (-48)], vm := .none },
  { cls := 18, slots := #[.int (-47)], vm := .none },
  { cls := 18, slots := #[.int (-46)], vm := .none },
  { cls := 18, slots := #[.int (-45)], vm := .none },
  { cls := 18, slots := #[.int (-44)], vm := .none },
  { cls := 18, slots := #[.int (-43)], vm := .none },
  { cls := 18, slots := #[.int (-42)], vm := .none },
  { cls := 18, slots := #[.int (-41)], vm := .none },
  { cls := 18, slots := #[.int (-40)], vm := .none },
  { cls := 18, slots := #[.int (-39)], vm := .none },
  { cls := 18, slots := #[.int (-38)], vm := .none },
  { cls := 18, slots := #[.int (-37)], vm := .none },
  { cls := 18, slots := #[.int (-36)], vm := .none },
  { cls := 18, slots := #[.int (-35)], vm := .none },
  { cls := 18, slots := #[.int (-34)], vm := .none },
  { cls := 18, slots := #[.int (-33)], vm := .none },
  { cls := 18, slots := #[.int (-32)], vm := .none },
  { cls := 18, slots := #[.int (-31)], vm := .none },
  { cls := 18, slots := #[.int (-30)], vm := .none },
  { cls := 18, slots := #[.int (-29)], vm := .none },
  { cls := 18, slots := #[.int (-28)], vm := .none },
  { cls := 18, slots := #[.int (-27)], vm := .none },
  { cls := 18, slots := #[.int (-26)], vm := .none },
  { cls := 18, slots := #[.int (-25)], vm := .none },
  { cls := 18, slots := #[.int (-24)], vm := .none },
  { cls := 18, slots := #[.int (-23)], vm := .none },
  { cls := 18, slots := #[.int (-22)], vm := .none },
  { cls := 18, slots := #[.int (-21)], vm := .none },
  { cls := 18, slots := #[.int (-20)], vm := .none },
  { cls := 18, slots := #[.int (-19)], vm := .none },
  { cls := 18, slots := #[.int (-18)], vm := .none },
  { cls := 18, slots := #[.int (-17)], vm := .none },
  { cls := 18, slots := #[.int (-16)], vm := .none },
  { cls := 18, slots := #[.int (-15)], vm := .none },
  { cls := 18, slots := #[.int (-14)], vm := .none },
  { cls := 18, slots := #[.int (-13)], vm := .none },
  { cls := 18, slots := #[.int (-12)], vm := .none },
  { cls := 18, slots := #[.int (-11)], vm := .none },
  { cls := 18, slots := #[.int (-10)], vm := .none },
  { cls := 18, slots := #[.int (-9)], vm := .none },
  { cls := 18, slots := #[.int (-8)], vm := .none },
  { cls := 18, slots := #[.int (-7)], vm := .none },
  { cls := 18, slots := #[.int (-6)], vm := .none },
  { cls := 18, slots := #[.int (-5)], vm := .none },
  { cls := 18, slots := #[.int (-4)], vm := .none },
  { cls := 18, slots := #[.int (-3)], vm := .none },
  { cls := 18, slots := #[.int (-2)], vm := .none },
  { cls := 18, slots := #[.int (-1)], vm := .none },
  { cls := 18, slots := #[.int 0], vm := .none },
  { cls := 18, slots := #[.int 1], vm := .none },
  { cls := 18, slots := #[.int 2], vm := .none },
  { cls := 18, slots := #[.int 3], vm := .none },
  { cls := 18, slots := #[.int 4], vm := .none },
  { cls := 18, slots := #[.int 5], vm := .none },
  { cls := 18, slots := #[.int 6], vm := .none },
  { cls := 18, slots := #[.int 7], vm := .none },
  { cls := 18, slots := #[.int 8], vm := .none },
  { cls := 18, slots := #[.int 9], vm := .none },
  { cls := 18, slots := #[.int 10], vm := .none },
  { cls := 18, slots := #[.int 11], vm := .none },
  { cls := 18, slots := #[.int 12], vm := .none },
  { cls := 18, slots := #[.int 13], vm := .none },
  { cls := 18, slots := #[.int 14], vm := .none },
  { cls := 18, slots := #[.int 15], vm := .none },
  { cls := 18, slots := #[.int 16], vm := .none },
  { cls := 18, slots := #[.int 17], vm := .none },
  { cls := 18, slots := #[.int 18], vm := .none },
  { cls := 18, slots := #[.int 19], vm := .none },
  { cls := 18, slots := #[.int 20], vm := .none },
  { cls := 18, slots := #[.int 21], vm := .none },
  { cls := 18, slots := #[.int 22], vm := .none },
  { cls := 18, slots := #[.int 23], vm := .none },
  { cls := 18, slots := #[.int 24], vm := .none },
  { cls := 18, slots := #[.int 25], vm := .none },
  { cls := 18, slots := #[.int 26], vm := .none },
  { cls := 18, slots := #[.int 27], vm := .none },
  { cls := 18, slots := #[.int 28], vm := .none },
  { cls := 18, slots := #[.int 29], vm := .none },
  { cls := 18, slots := #[.int 30], vm := .none },
  { cls := 18, slots := #[.int 31], vm := .none },
  { cls := 18, slots := #[.int 32], vm := .none },
  { cls := 18, slots := #[.int 33], vm := .none },
  { cls := 18, slots := #[.int 34], vm := .none },
  { cls := 18, slots := #[.int 35], vm := .none },
  { cls := 18, slots := #[.int 36], vm := .none },
  { cls := 18, slots := #[.int 37], vm := .none },
  { cls := 18, slots := #[.int 38], vm := .none },
  { cls := 18, slots := #[.int 39], vm := .none },
  { cls := 18, slots := #[.int 40], vm := .none },
  { cls := 18, slots := #[.int 41], vm := .none },
  { cls := 18, slots := #[.int 42], vm := .none },
  { cls := 18, slots := #[.int 43], vm := .none },
  { cls := 18, slots := #[.int 44], vm := .none },
  { cls := 18, slots := #[.int 45], vm := .none },
  { cls := 18, slots := #[.int 46], vm := .none },
  { cls := 18, slots := #[.int 47], vm := .none },
  { cls := 18, slots := #[.int 48], vm := .none },
  { cls := 18, slots := #[.int 49], vm := .none },
  { cls := 18, slots := #[.int 50], vm := .none },
  { cls := 18, slots := #[.int 51], vm := .none },
  { cls := 18, slots := #[.int 52], vm := .none },
  { cls := 18, slots := #[.int 53], vm := .none },
  { cls := 18, slots := #[.int 54], vm := .none },
  { cls := 18, slots := #[.int 55], vm := .none },
  { cls := 18, slots := #[.int 56], vm := .none },
  { cls := 18, slots := #[.int 57], vm := .none },
  { cls := 18, slots := #[.int 58], vm := .none },
  { cls := 18, slots := #[.int 59], vm := .none },
  { cls := 18, slots := #[.int 60], vm := .none },
  { cls := 18, slots := #[.int 61], vm := .none },
  { cls := 18, slots := #[.int 62], vm := .none },
  { cls := 18, slots := #[.int 63], vm := .none },
  { cls := 18, slots := #[.int 64], vm := .none },
  { cls := 18, slots := #[.int 65], vm := .none },
  { cls := 18, slots := #[.int 66], vm := .none },
  { cls := 18, slots := #[.int 67], vm := .none },
  { cls := 18, slots := #[.int 68], vm := .none },
  { cls := 18, slots := #[.int 69], vm := .none },
  { cls := 18, slots := #[.int 70], vm := .none },
  { cls := 18, slots := #[.int 71], vm := .none },
  { cls := 18, slots := #[.int 72], vm := .none },
  { cls := 18, slots := #[.int 73], vm := .none },
  { cls := 18, slots := #[.int 74], vm := .none },
  { cls := 18, slots := #[.int 75], vm := .none },
  { cls := 18, slots := #[.int 76], vm := .none },
  { cls := 18, slots := #[.int 77], vm := .none },
  { cls := 18, slots := #[.int 78], vm := .none },
  { cls := 18, slots := #[.int 79], vm := .none },
  { cls := 18, slots := #[.int 80], vm := .none },
  { cls := 18, slots := #[.int 81], vm := .none },
  { cls := 18, slots := #[.int 82], vm := .none },
  { cls := 18, slots := #[.int 83], vm := .none },
  { cls := 18, slots := #[.int 84], vm := .none },
  { cls := 18, slots := #[.int 85], vm := .none },
  { cls := 18, slots := #[.int 86], vm := .none },
  { cls := 18, slots := #[.int 87], vm := .none },
  { cls := 18, slots := #[.int 88], vm := .none },
  { cls := 18, slots := #[.int 89], vm := .none },
  { cls := 18, slots := #[.int 90], vm := .none },
  { cls := 18, slots := #[.int 91], vm := .none },
  { cls := 18, slots := #[.int 92], vm := .none },
  { cls := 18, slots := #[.int 93], vm := .none },
  { cls := 18, slots := #[.int 94], vm := .none },
  { cls := 18, slots := #[.int 95], vm := .none },
  { cls := 18, slots := #[.int 96], vm := .none },
  { cls := 18, slots := #[.int 97], vm := .none },
  { cls := 18, slots := #[.int 98], vm := .none },
  { cls := 18, slots := #[.int 99], vm := .none },
  { cls := 18, slots := #[.int 100], vm := .none },
  { cls := 18, slots := #[.int 101], vm := .none },
  { cls := 18, slots := #[.int 102], vm := .none },
  { cls := 18, slots := #[.int 103], vm := .none },
  { cls := 18, slots := #[.int 104], vm := .none },
  { cls := 18, slots := #[.int 105], vm := .none },
  { cls := 18, slots := #[.int 106], vm := .none },
  { cls := 18, slots := #[.int 107], vm := .none },
  { cls := 18, slots := #[.int 108], vm := .none },
  { cls := 18, slots := #[.int 109], vm := .none },
  { cls := 18, slots := #[.int 110], vm := .none },
  { cls := 18, slots := #[.int 111], vm := .none },
  { cls := 18, slots := #[.int 112], vm := .none },
  { cls := 18, slots := #[.int 113], vm := .none },
  { cls := 18, slots := #[.int 114], vm := .none },
  { cls := 18, slots := #[.int 115], vm := .none },
  { cls := 18, slots := #[.int 116], vm := .none },
  { cls := 18, slots := #[.int 117], vm := .none },
  { cls := 18, slots := #[.int 118], vm := .none },
  { cls := 18, slots := #[.int 119], vm := .none },
  { cls := 18, slots := #[.int 120], vm := .none },
  { cls := 18, slots := #[.int 121], vm := .none },
  { cls := 18, slots := #[.int 122], vm := .none },
  { cls := 18, slots := #[.int 123], vm := .none },
  { cls := 18, slots := #[.int 124], vm := .none },
  { cls := 18, slots := #[.int 125], vm := .none },
  { cls := 18, slots := #[.int 126], vm := .none },
  { cls := 18, slots := #[.int 127], vm := .none },
  { cls := 26, slots := #[], vm := .none },
  { cls := 26, slots := #[], vm := .none }]
def classes : Array Class := #[k0, k1, k2, k3, k4, k5, k6, k7, k8, k9, k10, k11, k12, k13, k14, k15, k16, k17, k18, k19, k20, k21, k22, k23, k24, k25, k26]
def interned : List (Array UInt16 × Addr) := []
def slotsUsed : Nat := 521
def theMethod : MethodId := ⟨1, 1⟩
def args0 : Array Value := #[.int 5, .int 6, .int 7]
def aboutOver (below : List Frame) : State where
  vm := { classes := classes, interned := interned.toArray }
  heap := heap
  slotsUsed := slotsUsed
  threads := #[{ frames := .invoking theMethod args0 :: below }]
def below0 : List Frame := [.native { method := ⟨0, 0⟩, args := #[] }]
def about1 : State := aboutOver below0
def p0 : Program := .bare "" "" ""
def e0 : Env := launch0.env 0 0 0
theorem w_frames : about1.frames = Frame.invoking theMethod args0 :: below0 := rfl
set_option maxRecDepth 65536 in
theorem w_args : argsFit about1.vm theMethod args0 = true := by decide +kernel
set_option maxRecDepth 65536 in
theorem w_heap : heapFits about1 = true := by decide +kernel
set_option maxRecDepth 65536 in
theorem w_runnable : about1.curStatus? = some .runnable := by decide +kernel
set_option maxRecDepth 65536 in
theorem w_alone : about1.alone = true := by decide +kernel
set_option maxRecDepth 65536 in
theorem w_named : about1.methodNamed? x = some theMethod := by decide +kernel
set_option maxRecDepth 65536 in
theorem w_hears : about1.hears theMethod below0 = true := by decide +kernel
set_option maxRecDepth 65536 in
theorem w_ripe : about1.ripe theMethod args0 below0 = true := by decide +kernel
theorem w_running : about1.status = .running := rfl
set_option maxRecDepth 65536 in
theorem w_room : about1.hasRoom e0.platform room_1 = true :=
  launch0.hasRoom_least _ room_1 (by decide +kernel) (by decide +kernel) (by decide +kernel) (by decide +kernel) (by decide +kernel) (by decide +kernel)
theorem allAtoms_all (ts : List Jvm.Cond) (a : Array Jvm.Value) (st : Jvm.State) : (allAtoms ts).before a st = ts.all (fun c => c.before a st) := by
  induction ts with
  | nil => rfl
  | cons c t ih =>
    show (Jvm.Cond.and c (allAtoms t)).before a st = _
    rw [Jvm.Cond.before_and, ih, List.all_cons]
def words1 : List Jvm.Cond := Jvm.Cond.code x code maxLocals ret :: tables_1
/-- a 'code' word, met by the world's own term for the bytes: nothing is compared byte by byte -/
theorem code_word {y : MethodName} {bytes : ByteArray} {mx : Nat} {rt : Option FieldType} {a : Array Value} {s : State} {m : MethodId} {meth : Method} {c : Code} (h1 : s.methodNamed? y = some m) (h2 : s.vm.method? m = some meth) (h3 : meth.code = some c) (h4 : c.code = bytes)
    (h5 : (c.maxLocals == mx && c.exceptionTable.isEmpty && decide (c.maxStack ≤ mostOperands) && decide (meth.sig.returnType = rt) && !meth.locks && decide (parseMethodDescriptor y.desc = some meth.sig)) = true) : (Jvm.Cond.code y bytes mx rt).before a s = true := by
  simp only [Bool.and_eq_true, beq_iff_eq, Bool.not_eq_true', decide_eq_true_eq] at h5
  obtain ⟨⟨⟨⟨⟨g1, g2⟩, g3⟩, g4⟩, g5⟩, g6⟩ := h5
  simp [Cond.before, Cond.holds, Cond.value, h1, h2, h3, h4, g1, g2, g3, g4, g5, g6]
def isCode : Jvm.Cond → Bool
  | .code _ _ _ _ => true
  | _ => false
theorem all_split {L : List Jvm.Cond} {P : Jvm.Cond → Bool} (h1 : L.all (fun c => isCode c || P c) = true) (h2 : ∀ c ∈ L.filter isCode, P c = true) : L.all P = true := by
  refine List.all_eq_true.mpr fun c hc => ?_
  have h := List.all_eq_true.mp h1 c hc
  rcases Bool.eq_false_or_eq_true (isCode c) with hi | hi
  · exact h2 c (List.mem_filter.mpr ⟨hc, hi⟩)
  · simpa [hi] using h
set_option maxRecDepth 65536 in
theorem w_c0 : (Jvm.Cond.code x code maxLocals ret).before args0 about1 = true := code_word (m := ⟨1, 1⟩) (meth := k1m1) (c := k1c1) (by decide +kernel) rfl rfl rfl (by decide +kernel)
set_option maxRecDepth 65536 in
theorem w_c1 : (Jvm.Cond.code ({ cls := "java/util/ArrayList", name := "<init>", desc := "()V" } : Jvm.MethodName) jdk_38_method_2_code (1 : Nat) (Option.none : Option Jvm.ClassFile.FieldType)).before args0 about1 = true := code_word (m := ⟨11, 0⟩) (meth := k11m0) (c := k11c0) (by decide +kernel) rfl rfl rfl (by decide +kernel)
set_option maxRecDepth 65536 in
theorem w_c2 : (Jvm.Cond.code ({ cls := "java/util/AbstractList", name := "<init>", desc := "()V" } : Jvm.MethodName) jdk_39_method_1_code (1 : Nat) (Option.none : Option Jvm.ClassFile.FieldType)).before args0 about1 = true := code_word (m := ⟨7, 0⟩) (meth := k7m0) (c := k7c0) (by decide +kernel) rfl rfl rfl (by decide +kernel)
set_option maxRecDepth 65536 in
theorem w_c3 : (Jvm.Cond.code ({ cls := "java/util/AbstractCollection", name := "<init>", desc := "()V" } : Jvm.MethodName) jdk_22_method_1_code (1 : Nat) (Option.none : Option Jvm.ClassFile.FieldType)).before args0 about1 = true := code_word (m := ⟨4, 0⟩) (meth := k4m0) (c := k4c0) (by decide +kernel) rfl rfl rfl (by decide +kernel)
set_option maxRecDepth 65536 in
theorem w_c4 : (Jvm.Cond.code ({ cls := "java/lang/Object", name := "<init>", desc := "()V" } : Jvm.MethodName) object_method_1_code (1 : Nat) (Option.none : Option Jvm.ClassFile.FieldType)).before args0 about1 = true := code_word (m := ⟨0, 0⟩) (meth := k0m0) (c := k0c0) (by decide +kernel) rfl rfl rfl (by decide +kernel)
set_option maxRecDepth 65536 in
theorem w_c5 : (Jvm.Cond.code ({ cls := "com/example/querist/querist/engine/ElementLookup", name := "indexed", desc := "(Ljava/util/Collection;)Ljava/util/Collection;" } : Jvm.MethodName) prog_33_method_3_code (1 : Nat) (Option.some (Jvm.ClassFile.FieldType.object "java/util/Collection"))).before args0 about1 = true := code_word (m := ⟨12, 0⟩) (meth := k12m0) (c := k12c0) (by decide +kernel) rfl rfl rfl (by decide +kernel)
set_option maxRecDepth 65536 in
theorem w_c6 : (Jvm.Cond.code ({ cls := "com/example/querist/querist/engine/ElementLookup$Indexed", name := "<init>", desc := "(Ljava/util/Collection;)V" } : Jvm.MethodName) prog_34_method_1_code (2 : Nat) (Option.none : Option Jvm.ClassFile.FieldType)).before args0 about1 = true := code_word (m := ⟨13, 0⟩) (meth := k13m0) (c := k13c0) (by decide +kernel) rfl rfl rfl (by decide +kernel)
set_option maxRecDepth 65536 in
theorem w_c7 : (Jvm.Cond.code ({ cls := "com/example/querist/querist/engine/ElementLookup", name := "unwrapped", desc := "(Ljava/util/Collection;)Ljava/util/Collection;" } : Jvm.MethodName) prog_33_method_4_code (2 : Nat) (Option.some (Jvm.ClassFile.FieldType.object "java/util/Collection"))).before args0 about1 = true := code_word (m := ⟨12, 1⟩) (meth := k12m1) (c := k12c1) (by decide +kernel) rfl rfl rfl (by decide +kernel)
set_option maxRecDepth 65536 in
theorem w_c8 : (Jvm.Cond.code ({ cls := "java/lang/Integer", name := "valueOf", desc := "(I)Ljava/lang/Integer;" } : Jvm.MethodName) jdk_33_method_22_code (1 : Nat) (Option.some (Jvm.ClassFile.FieldType.object "java/lang/Integer"))).before args0 about1 = true := code_word (m := ⟨18, 0⟩) (meth := k18m0) (c := k18c0) (by decide +kernel) rfl rfl rfl (by decide +kernel)
set_option maxRecDepth 65536 in
theorem w_c9 : (Jvm.Cond.code ({ cls := "java/lang/Integer", name := "<init>", desc := "(I)V" } : Jvm.MethodName) jdk_33_method_23_code (2 : Nat) (Option.none : Option Jvm.ClassFile.FieldType)).before args0 about1 = true := code_word (m := ⟨18, 1⟩) (meth := k18m1) (c := k18c1) (by decide +kernel) rfl rfl rfl (by decide +kernel)
set_option maxRecDepth 65536 in
theorem w_c10 : (Jvm.Cond.code ({ cls := "java/lang/Number", name := "<init>", desc := "()V" } : Jvm.MethodName) jdk_18_method_1_code (1 : Nat) (Option.none : Option Jvm.ClassFile.FieldType)).before args0 about1 = true := code_word (m := ⟨14, 0⟩) (meth := k14m0) (c := k14c0) (by decide +kernel) rfl rfl rfl (by decide +kernel)
set_option maxRecDepth 65536 in
theorem w_c11 : (Jvm.Cond.code ({ cls := "java/util/ArrayList", name := "add", desc := "(Ljava/lang/Object;)Z" } : Jvm.MethodName) jdk_38_method_25_code (2 : Nat) (Option.some Jvm.ClassFile.FieldType.boolean)).before args0 about1 = true := code_word (m := ⟨11, 4⟩) (meth := k11m4) (c := k11c4) (by decide +kernel) rfl rfl rfl (by decide +kernel)
set_option maxRecDepth 65536 in
theorem w_c12 : (Jvm.Cond.code ({ cls := "java/util/ArrayList", name := "add", desc := "(Ljava/lang/Object;[Ljava/lang/Object;I)V" } : Jvm.MethodName) jdk_38_method_24_code (4 : Nat) (Option.none : Option Jvm.ClassFile.FieldType)).before args0 about1 = true := code_word (m := ⟨11, 3⟩) (meth := k11m3) (c := k11c3) (by decide +kernel) rfl rfl rfl (by decide +kernel)
set_option maxRecDepth 65536 in
theorem w_c13 : (Jvm.Cond.code ({ cls := "java/util/ArrayList", name := "grow", desc := "()[Ljava/lang/Object;" } : Jvm.MethodName) jdk_38_method_7_code (1 : Nat) (Option.some (Jvm.ClassFile.FieldType.array (Jvm.ClassFile.FieldType.object "java/lang/Object")))).before args0 about1 = true := code_word (m := ⟨11, 2⟩) (meth := k11m2) (c := k11c2) (by decide +kernel) rfl rfl rfl (by decide +kernel)
set_option maxRecDepth 65536 in
theorem w_c14 : (Jvm.Cond.code ({ cls := "java/util/ArrayList", name := "grow", desc := "(I)[Ljava/lang/Object;" } : Jvm.MethodName) jdk_38_method_6_code (4 : Nat) (Option.some (Jvm.ClassFile.FieldType.array (Jvm.ClassFile.FieldType.object "java/lang/Object")))).before args0 about1 = true := code_word (m := ⟨11, 1⟩) (meth := k11m1) (c := k11c1) (by decide +kernel) rfl rfl rfl (by decide +kernel)
set_option maxRecDepth 65536 in
theorem w_c15 : (Jvm.Cond.code ({ cls := "java/lang/Math", name := "max", desc := "(II)I" } : Jvm.MethodName) jdk_29_method_65_code (2 : Nat) (Option.some Jvm.ClassFile.FieldType.int)).before args0 about1 = true := code_word (m := ⟨20, 1⟩) (meth := k20m1) (c := k20c1) (by decide +kernel) rfl rfl rfl (by decide +kernel)
def codes1 : List Jvm.Cond := [Jvm.Cond.code x code maxLocals ret, Jvm.Cond.code ({ cls := "java/util/ArrayList", name := "<init>", desc := "()V" } : Jvm.MethodName) jdk_38_method_2_code (1 : Nat) (Option.none : Option Jvm.ClassFile.FieldType), Jvm.Cond.code ({ cls := "java/util/AbstractList", name := "<init>", desc := "()V" } : Jvm.MethodName) jdk_39_method_1_code (1 : Nat) (Option.none : Option Jvm.ClassFile.FieldType), Jvm.Cond.code ({ cls := "java/util/AbstractCollection", name := "<init>", desc := "()V" } : Jvm.MethodName) jdk_22_method_1_code (1 : Nat) (Option.none : Option Jvm.ClassFile.FieldType), Jvm.Cond.code ({ cls := "java/lang/Object", name := "<init>", desc := "()V" } : Jvm.MethodName) object_method_1_code (1 : Nat) (Option.none : Option Jvm.ClassFile.FieldType), Jvm.Cond.code ({ cls := "com/example/querist/querist/engine/ElementLookup", name := "indexed", desc := "(Ljava/util/Collection;)Ljava/util/Collection;" } : Jvm.MethodName) prog_33_method_3_code (1 : Nat) (Option.some (Jvm.ClassFile.FieldType.object "java/util/Collection")), Jvm.Cond.code ({ cls := "com/example/querist/querist/engine/ElementLookup$Indexed", name := "<init>", desc := "(Ljava/util/Collection;)V" } : Jvm.MethodName) prog_34_method_1_code (2 : Nat) (Option.none : Option Jvm.ClassFile.FieldType), Jvm.Cond.code ({ cls := "com/example/querist/querist/engine/ElementLookup", name := "unwrapped", desc := "(Ljava/util/Collection;)Ljava/util/Collection;" } : Jvm.MethodName) prog_33_method_4_code (2 : Nat) (Option.some (Jvm.ClassFile.FieldType.object "java/util/Collection")), Jvm.Cond.code ({ cls := "java/lang/Integer", name := "valueOf", desc := "(I)Ljava/lang/Integer;" } : Jvm.MethodName) jdk_33_method_22_code (1 : Nat) (Option.some (Jvm.ClassFile.FieldType.object "java/lang/Integer")), Jvm.Cond.code ({ cls := "java/lang/Integer", name := "<init>", desc := "(I)V" } : Jvm.MethodName) jdk_33_method_23_code (2 : Nat) (Option.none : Option Jvm.ClassFile.FieldType), Jvm.Cond.code ({ cls := "java/lang/Number", name := "<init>", desc := "()V" } : Jvm.MethodName) jdk_18_method_1_code (1 : Nat) (Option.none : Option Jvm.ClassFile.FieldType), Jvm.Cond.code ({ cls := "java/util/ArrayList", name := "add", desc := "(Ljava/lang/Object;)Z" } : Jvm.MethodName) jdk_38_method_25_code (2 : Nat) (Option.some Jvm.ClassFile.FieldType.boolean), Jvm.Cond.code ({ cls := "java/util/ArrayList", name := "add", desc := "(Ljava/lang/Object;[Ljava/lang/Object;I)V" } : Jvm.MethodName) jdk_38_method_24_code (4 : Nat) (Option.none : Option Jvm.ClassFile.FieldType), Jvm.Cond.code ({ cls := "java/util/ArrayList", name := "grow", desc := "()[Ljava/lang/Object;" } : Jvm.MethodName) jdk_38_method_7_code (1 : Nat) (Option.some (Jvm.ClassFile.FieldType.array (Jvm.ClassFile.FieldType.object "java/lang/Object"))), Jvm.Cond.code ({ cls := "java/util/ArrayList", name := "grow", desc := "(I)[Ljava/lang/Object;" } : Jvm.MethodName) jdk_38_method_6_code (4 : Nat) (Option.some (Jvm.ClassFile.FieldType.array (Jvm.ClassFile.FieldType.object "java/lang/Object"))), Jvm.Cond.code ({ cls := "java/lang/Math", name := "max", desc := "(II)I" } : Jvm.MethodName) jdk_29_method_65_code (2 : Nat) (Option.some Jvm.ClassFile.FieldType.int)]
set_option maxRecDepth 65536 in
theorem codes_eq : words1.filter isCode = codes1 := rfl
theorem w_codes : ∀ c ∈ words1.filter isCode, c.before args0 about1 = true := by
  rw [codes_eq]
  intro c hc
  simp only [codes1, List.mem_cons, List.not_mem_nil, or_false] at hc
  rcases hc with rfl | rfl | rfl | rfl | rfl | rfl | rfl | rfl | rfl | rfl | rfl | rfl | rfl | rfl | rfl | rfl
  · exact w_c0
  · exact w_c1
  · exact w_c2
  · exact w_c3
  · exact w_c4
  · exact w_c5
  · exact w_c6
  · exact w_c7
  · exact w_c8
  · exact w_c9
  · exact w_c10
  · exact w_c11
  · exact w_c12
  · exact w_c13
  · exact w_c14
  · exact w_c15
set_option maxRecDepth 65536 in
theorem w_t1 : (words1.take 24).all (fun c => isCode c || c.before args0 about1) = true := by decide +kernel
set_option maxRecDepth 65536 in
theorem w_t2 : ((words1.drop 24).take 24).all (fun c => isCode c || c.before args0 about1) = true := by decide +kernel
set_option maxRecDepth 65536 in
theorem w_t3 : (((words1.drop 24).drop 24).take 24).all (fun c => isCode c || c.before args0 about1) = true := by decide +kernel
set_option maxRecDepth 65536 in
theorem w_t4 : ((((words1.drop 24).drop 24).drop 24).take 24).all (fun c => isCode c || c.before args0 about1) = true := by decide +kernel
set_option maxRecDepth 65536 in
theorem w_t5 : ((((words1.drop 24).drop 24).drop 24).drop 24).all (fun c => isCode c || c.before args0 about1) = true := by decide +kernel
theorem w_tables : (allAtoms (Jvm.Cond.code x code maxLocals ret :: tables_1)).before args0 about1 = true := by
  rw [allAtoms_all]
  show words1.all (fun c => c.before args0 about1) = true
  refine all_split ?_ w_codes
  rw [← List.take_append_drop 24 words1, List.all_append, w_t1, ← List.take_append_drop 24 (words1.drop 24), List.all_append, w_t2, ← List.take_append_drop 24 ((words1.drop 24).drop 24), List.all_append, w_t3, ← List.take_append_drop 24 (((words1.drop 24).drop 24).drop 24), List.all_append, w_t4, w_t5]
  rfl
set_option maxRecDepth 65536 in
theorem w_rest : rest_1_c.before args0 about1 = true := by decide +kernel
set_option maxRecDepth 65536 in
theorem w_case : (Jvm.Cond.and given_1 narrow_1).before args0 about1 = true := by decide +kernel
theorem w_applies : (headSpec (Jvm.Cond.code x code maxLocals ret :: tables_1) room_1).applies x e0.platform about1 = true :=
  (Spec.applies_iff w_frames).mpr ⟨w_running, w_runnable, w_alone, w_named, w_hears, w_ripe, w_room, w_tables⟩
theorem atStart : AtStart classFile x code maxLocals ret World_1 tables_1 room_1 Calls_1 rest_1 Pre_1 launch0 p0 e0 about1 theMethod args0 below0 :=
  ⟨lists_1, trivial, launch0.admits_env _ _ _, launch0.least_env, fairChoices_fair.cas, fairChoices_fair.clock, w_frames, w_args, w_heap, w_applies, trivial, w_rest, w_case⟩
end start1
theorem witness_1 : WitnessClaimed_1 := ⟨start1.p0, start1.e0, start1.about1, start1.theMethod, start1.args0, start1.below0, start1.atStart⟩
end Jvm.Pilot.@@N@@
