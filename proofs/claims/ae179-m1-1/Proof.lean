import JvmDerived
import JvmDerived.Pilot.@@N@@Statement
import JvmDerived.Pilot.@@N@@Code
set_option linter.unusedVariables false
set_option linter.unusedSimpArgs false
@@BLOCK:NumsL.lean.txt@@
namespace Jvm.Own
open Sem ClassFile Op Lib Jvm.Stand Jvm.Free Jvm.LawKit Jvm.RoadKit
/-! a list of owned cells (all made since the start), each with what it holds; the start's own heap stays as it was -/
abbrev FK := String × String × String
abbrev Fs := List (FK × Value)
abbrev Rec := (String × Fs) ⊕ (FieldType × List Value × Bool)
abbrev Ent := Addr × Rec
def slK (Z : State) (k : FK) : Nat := RoadKit.slotOf Z k.1 k.2.1 k.2.2
def Hold (Z : State) (h : Heap) (a : Addr) : Rec → Prop
  | .inl (C, fs) => Exa Z h a C ∧ (∀ (i : Nat) (f : FK × Value), fs[i]? = some f → Fld Z h a f.1.1 f.1.2.1 f.1.2.2 f.2) ∧ (fs.map fun f => slK Z f.1).Nodup
  | .inr (ty, vs, b) => ∃ c : Cell, Arr Z h a c ty ∧ c.slots.toList = vs ∧ (b = true → ∀ C, ty = .object C → Ovr Z c.cls C)
def Rep (Z : State) (h : Heap) (M : List Ent) : Prop := Ext Z.heap h ∧ (∀ (i : Nat) (x : Ent), M[i]? = some x → Z.heap.size ≤ x.1 ∧ Hold Z h x.1 x.2) ∧ (M.map fun x => x.1).Nodup
section Facts
variable {Z : State} {h h' : Heap} {a b : Addr} {sl k j : Nat} {v w : Value} {r : Rec} {M : List Ent} {C : String} {fs : Fs} {f : FK}
theorem Hold.other (W : Wr h h' a sl v) (H : Hold Z h b r) (hne : b ≠ a) : Hold Z h' b r := by
  rcases r with ⟨C, fs⟩ | ⟨ty, vs, b'⟩
  · exact ⟨H.1.wr W, fun i f hf => (H.2.1 i f hf).other W (Or.inl hne), H.2.2⟩
  · obtain ⟨c, A, q⟩ := H
    exact ⟨c, A.other W hne, q⟩
theorem Hold.ext (E : Ext h h') (H : Hold Z h b r) : Hold Z h' b r := by
  rcases r with ⟨C, fs⟩ | ⟨ty, vs, b'⟩
  · exact ⟨H.1.ext E, fun i f hf => (H.2.1 i f hf).ext E, H.2.2⟩
  · obtain ⟨c, A, q⟩ := H
    exact ⟨c, A.ext E, q⟩
theorem Hold.lt (H : Hold Z h b r) : b < h.size := by
  rcases r with ⟨C, fs⟩ | ⟨ty, vs, b'⟩
  · exact H.1.lt
  · obtain ⟨c, A, q⟩ := H
    exact A.lt
theorem nd_inj {α : Type} {L : List α} (hn : L.Nodup) {i j : Nat} {x : α} (h1 : L[i]? = some x) (h2 : L[j]? = some x) : i = j :=
  (List.getElem?_inj (List.getElem?_eq_some_iff.mp h1).1 hn).mp (h1.trans h2.symm)
theorem Rep.inj (R : Rep Z h M) {i j : Nat} {x y : Ent} (h1 : M[i]? = some x) (h2 : M[j]? = some y) (e : x.1 = y.1) : i = j :=
  nd_inj (x := x.1) R.2.2 (by rw [List.getElem?_map, h1]; rfl) (by rw [List.getElem?_map, h2, e]; rfl)
theorem Rep.ne (R : Rep Z h M) {i j : Nat} {x y : Ent} (h1 : M[i]? = some x) (h2 : M[j]? = some y) (e : i ≠ j) : x.1 ≠ y.1 := fun q => e (R.inj h1 h2 q)
theorem Rep.fresh (R : Rep Z h M) {i : Nat} {x : Ent} (h1 : M[i]? = some x) : Z.heap.size ≤ x.1 := (R.2.1 i x h1).1
theorem map_set_same {α β : Type} {g : α → β} {L : List α} {x y : α} (h1 : L[k]? = some x) (e : g y = g x) : (L.set k y).map g = L.map g := by
  apply List.ext_getElem?
  intro i
  simp only [List.getElem?_map, List.getElem?_set]
  by_cases q : k = i
  · subst q
    obtain ⟨hl, hx⟩ := List.getElem?_eq_some_iff.mp h1
    simp [hl, e, h1, hx]
  · simp [q]
theorem Rep.wrote (R : Rep Z h M) (hk : M[k]? = some (a, r)) (W : Wr h h' a sl v) {r' : Rec} (H : Hold Z h' a r') : Rep Z h' (M.set k (a, r')) := by
  have ha := R.fresh hk
  refine ⟨(Old.wr ⟨rfl, R.1⟩ W ha).2, fun i x hx => ?_, ?_⟩
  · rw [List.getElem?_set] at hx
    by_cases q : k = i
    · subst q
      rw [if_pos rfl] at hx
      split at hx
      · cases hx
        exact ⟨ha, H⟩
      · cases hx
    · rw [if_neg q] at hx
      have g := R.2.1 i x hx
      exact ⟨g.1, g.2.other W (R.ne hx hk (Ne.symm q))⟩
  · rw [map_set_same (g := fun x : Ent => x.1) (y := (a, r')) hk rfl]
    exact R.2.2
theorem Hold.put (H : Hold Z h a (.inl (C, fs))) (hj : fs[j]? = some (f, w)) (W : Wr h h' a (slK Z f) v) : Hold Z h' a (.inl (C, fs.set j (f, v))) := by
  refine ⟨H.1.wr W, fun i x hx => ?_, ?_⟩
  · rw [List.getElem?_set] at hx
    by_cases q : j = i
    · subst q
      rw [if_pos rfl] at hx
      split at hx
      · cases hx
        exact (H.2.1 _ _ hj).same W
      · cases hx
    · rw [if_neg q] at hx
      refine (H.2.1 i x hx).other W (Or.inr fun e => q ?_)
      exact nd_inj (x := slK Z f) H.2.2 (by rw [List.getElem?_map, hj]; rfl) (by rw [List.getElem?_map, hx]; exact congrArg some e)
  · rw [map_set_same (g := fun f : FK × Value => slK Z f.1) (y := (f, v)) hj rfl]
    exact H.2.2
theorem Hold.store {ty : FieldType} {vs : List Value} {b : Bool} (H : Hold Z h a (.inr (ty, vs, b))) (W : Wr h h' a j v) : Hold Z h' a (.inr (ty, vs.set j v, b)) := by
  obtain ⟨c, A, q, o⟩ := H
  refine ⟨_, A.same W, ?_, o⟩
  simp [Cell.setSlot, ← q]
theorem Rep.new (R : Rep Z h M) (E : Ext h h') (hs : a = h.size) {r : Rec} (H : Hold Z h' a r) : Rep Z h' ((a, r) :: M) := by
  refine ⟨(Old.ext ⟨rfl, R.1⟩ E).2, fun i x hx => ?_, ?_⟩
  · rcases i with _ | i
    · cases hx
      exact ⟨by rw [hs]; exact R.1.1, H⟩
    · have g := R.2.1 i x hx
      exact ⟨g.1, g.2.ext E⟩
  · rw [List.map_cons, List.nodup_cons]
    refine ⟨fun m => ?_, R.2.2⟩
    obtain ⟨x, hx, e⟩ := List.mem_map.mp m
    obtain ⟨i, hi⟩ := List.mem_iff_getElem?.mp hx
    have hlt := (R.2.1 i x hi).2.lt
    have e : x.1 = a := e
    rw [e, hs] at hlt
    exact Nat.lt_irrefl _ hlt
theorem nd_pick {α : Type} {N : List α} (hn : N.Nodup) (n : Nat) (idx : List Nat) (h1 : idx.Nodup) (h2 : ∀ i ∈ idx, i < n) : (idx.filterMap (fun i => N[i]?) ++ N.drop n).Nodup := by
  rw [List.nodup_append]
  refine ⟨?_, hn.sublist (List.drop_sublist n N), ?_⟩
  · refine List.Pairwise.filterMap (fun i => N[i]?) ?_ h1
    intro i j hij x hx y hy e
    subst e
    exact hij (nd_inj hn hx hy)
  · intro x hx y hy e
    subst e
    obtain ⟨i, hi, hx⟩ := List.mem_filterMap.mp hx
    obtain ⟨j, hj⟩ := List.mem_iff_getElem?.mp hy
    rw [List.getElem?_drop] at hj
    have := nd_inj hn hx hj
    have := h2 i hi
    omega
theorem Rep.pick (R : Rep Z h M) (n : Nat) (idx : List Nat) (h1 : idx.Nodup) (h2 : ∀ i ∈ idx, i < n) : Rep Z h (idx.filterMap (fun i => M[i]?) ++ M.drop n) := by
  refine ⟨R.1, fun i x hx => ?_, ?_⟩
  · have hm := List.mem_of_getElem? hx
    rcases List.mem_append.mp hm with q | q
    · obtain ⟨j, -, hj⟩ := List.mem_filterMap.mp q
      exact R.2.1 j x hj
    · obtain ⟨j, hj⟩ := List.mem_iff_getElem?.mp (List.mem_of_mem_drop q)
      exact R.2.1 j x hj
  · have := nd_pick R.2.2 n idx h1 h2
    rw [List.map_append, List.map_drop, List.map_filterMap]
    simpa [List.getElem?_map] using this
theorem Rep.fld {O nm d : String} (R : Rep Z h M) (k j : Nat) (hk : M[k]? = some (a, .inl (C, fs))) (hj : fs[j]? = some ((O, nm, d), v)) : Fld Z h a O nm d v := (R.2.1 k _ hk).2.2.1 j _ hj
theorem Rep.exa (R : Rep Z h M) (k : Nat) (hk : M[k]? = some (a, .inl (C, fs))) : Exa Z h a C := (R.2.1 k _ hk).2.1
end Facts
theorem wd {L : List Cond} {a0 : Array Value} {Z : State} {d : Cond} (hw : ∀ d ∈ L, d.before a0 Z = true) (i : Nat) (h : L[i]? = some d) : d.before a0 Z = true := hw d (List.mem_of_getElem? h)
/-! the walk -/
abbrev E0 := Program × Env × State × MethodId × Array Value × List Frame × Method × Code
def Cx (Z : State) (y : MethodName) (code : ByteArray) (maxL : Nat) (ret : Option FieldType) (E : E0) : Prop :=
  E.1.tables.exec = Jvm.exec ∧ Z.Warmed39 E.2.2.1.vm ∧ E.2.2.1.vm.findClass y.cls = some E.2.2.2.1.cls ∧ E.2.2.2.2.2.2.2.code = code ∧ E.2.2.2.2.2.2.2.maxLocals = maxL ∧ E.2.2.2.2.2.2.1.sig.returnType = ret ∧ E.2.2.2.2.2.2.1.locks = false ∧ E.2.2.2.2.2.2.1.name = y.name
abbrev PQ := Option Value → List Ent → Prop
def StE (l : Launch) (R : Room) (E : E0) (T : State) (locs : List Loc) (k n : Nat) : Prop :=
  Stand E.1 l E.2.1 R E.2.2.1 E.2.2.2.1 E.2.2.2.2.1 E.2.2.2.2.2.1 E.2.2.2.2.2.2.1 E.2.2.2.2.2.2.2 T locs k n
def Go (l : Launch) (Z : State) (R : Room) (E : E0) (Q : PQ) (M : List Ent) (k n pc : Nat) (Ls : Array Slot) (st : List Value) : Prop :=
  ∀ T locs, StE l R E T locs k n → Fr Z.heap.size locs → Rep Z T.heap M →
    ∃ s₂ v L, Steps E.1.tables E.2.1 E.2.2.2.2.2.1 (T.setTop (mkF E.2.2.2.1 pc Ls st)) s₂ ∧ s₂.status = .running ∧ Ended s₂ E.2.2.2.2.2.1 (.returned v) ∧ Fr Z.heap.size L ∧ (∃ M', Q v M' ∧ Rep Z s₂.heap M') ∧ FrameEnd E.2.2.1 (.returned v) s₂ L R.cells R.slots
def Met (l : Launch) (Z : State) (y : MethodName) (bytes : ByteArray) (maxL : Nat) (ret : Option FieldType) (rm : Room) (as : Array Value) (M : List Ent) (Q : PQ) : Prop :=
  ∀ (ws : List Cond) (h : Heap), Rep Z h M → MetFree l y (head1 (Cond.code y bytes maxL ret :: ws) rm) (fun a U => a = as ∧ Z.Warmed39 U.vm ∧ U.heap = h) (fun _ _ _ _ _ => True) (fun _ U o U' => ∃ v L, o = .returned v ∧ (Fr Z.heap.size L ∧ ∃ M', Q v M' ∧ Rep Z U'.heap M') ∧ FrameEnd U o U' L rm.cells rm.slots)
theorem Met.of_go {l : Launch} {Z : State} {y : MethodName} {bytes : ByteArray} {maxL : Nat} {ret : Option FieldType} {rm : Room} {as : Array Value} {M : List Ent} {Q : PQ} {Ls : Array Slot} (hp : plainFor y = true) (hef : ∀ m, entryFrame m as maxL = mkF m 0 Ls [])
    (H : ∀ E, Cx Z y bytes maxL ret E → Go l Z rm E Q M 0 0 0 Ls []) : Met l Z y bytes maxL ret rm as M Q := by
  intro ws h r
  refine MetFree.of_bodySF hp hisR ?_
  intro p e s m args below meth c s₁ Bd hml0 hP hK
  obtain ⟨rfl, hZ, hh⟩ := hP
  have X0 : Stand p l e rm s m args below meth c s₁ [] 0 0 := Stand.of_body Bd
  have e0 : s₁.heap = h := by rw [← hh, Bd.state]; rfl
  obtain ⟨s₂, v, L, h1, h2, h3, h4, h5, h6⟩ := H (p, e, s, m, args, below, meth, c) ⟨Bd.exec, hZ, findClass_of_methodNamed Bd.named, Bd.bytes, hml0, Bd.returns, Bd.notSynchronized, (name_of_methodNamed Bd.named Bd.method).1⟩ s₁ [] X0 (Fr.nil _) (by rw [e0]; exact r)
  exact ⟨s₂, .returned v, castTop (hef m) h1, h2, h3, v, L, rfl, ⟨h4, h5⟩, h6⟩
theorem Met.mono {l : Launch} {Z : State} {y : MethodName} {bytes : ByteArray} {maxL : Nat} {ret : Option FieldType} {rm : Room} {as : Array Value} {M : List Ent} {Q Q' : PQ} (H : Met l Z y bytes maxL ret rm as M Q) (hq : ∀ v M', Q v M' → Q' v M') : Met l Z y bytes maxL ret rm as M Q' := by
  intro ws h r p e ha hc hk s m args below hf happ hP hK
  obtain ⟨n, o, h1, h2, h3, v, L, h4, ⟨h5, M', h6, h7⟩, h8⟩ := H ws h r p e ha hc hk s m args below hf happ hP hK
  exact ⟨n, o, h1, h2, h3, v, L, h4, ⟨h5, M', hq _ _ h6, h7⟩, h8⟩
section Walk
variable {l : Launch} {Z : State} {R : Room} {E : E0} {Q : PQ} {M : List Ent} {k n pc q : Nat} {Ls Ls' : Array Slot} {st : List Value} {x : MethodName} {code : ByteArray} {maxL : Nat} {ret : Option FieldType} {a0 : Array Value}
theorem Go.plain {q : Nat} {Ls' : Array Slot} {st' : List Value} (hr : Go l Z R E Q M k n q Ls' st')
    (hs : ∀ T locs t, StE l R E T locs k n → Steps E.1.tables E.2.1 E.2.2.2.2.2.1 (T.setTop (mkF E.2.2.2.1 q Ls' st')) t → Steps E.1.tables E.2.1 E.2.2.2.2.2.1 (T.setTop (mkF E.2.2.2.1 pc Ls st)) t) : Go l Z R E Q M k n pc Ls st := by
  intro T locs X F r
  obtain ⟨s₂, v, L, h1, h2⟩ := hr T locs X F r
  exact ⟨s₂, v, L, hs _ _ _ X h1, h2⟩
theorem Go.rep {M' : List Ent} (h : ∀ h, Rep Z h M → Rep Z h M') (hr : Go l Z R E Q M' k n pc Ls st) : Go l Z R E Q M k n pc Ls st := fun T locs X F r => hr T locs X F (h _ r)
theorem Go.know {P : Prop} (h : ∀ h, Rep Z h M → P) (hr : P → Go l Z R E Q M k n pc Ls st) : Go l Z R E Q M k n pc Ls st := fun T locs X F r => hr (h _ r) T locs X F r
theorem Go.more {k' n' : Nat} (hk : k ≤ k') (hn : n ≤ n') (hr : Go l Z R E Q M k' n' pc Ls st) : Go l Z R E Q M k n pc Ls st := fun T locs X F r => hr T locs (X.more hk hn) F r
theorem Go.pick {M' : List Ent} (i : Nat) (idx : List Nat) (h1 : idx.Nodup) (h2 : ∀ j ∈ idx, j < i) (hM : idx.filterMap (fun i => M[i]?) ++ M.drop i = M') (hr : Go l Z R E Q M' k n pc Ls st) : Go l Z R E Q M k n pc Ls st :=
  Go.rep (fun _ r => hM ▸ r.pick i idx h1 h2) hr
theorem Go.joinI {q : Nat} {Ls' : Array Slot} {st' : List Value} (v : Int32) (hJ : Go l Z R E Q M k n q Ls' (.int v :: st')) (hr : (∀ c : Int32, c = v → Go l Z R E Q M k n q Ls' (.int c :: st')) → Go l Z R E Q M k n pc Ls st) : Go l Z R E Q M k n pc Ls st := hr fun c e => e ▸ hJ
theorem Go.joinJ {q : Nat} {Ls' : Array Slot} {st' : List Value} (v : Int64) (hJ : Go l Z R E Q M k n q Ls' (.long v :: st')) (hr : (∀ c : Int64, c = v → Go l Z R E Q M k n q Ls' (.long c :: st')) → Go l Z R E Q M k n pc Ls st) : Go l Z R E Q M k n pc Ls st := hr fun c e => e ▸ hJ
theorem Go.joinW {q : Nat} {Ls' : Array Slot} {st' : List Value} (hJ : Go l Z R E Q M k n q Ls' st') (hr : Go l Z R E Q M k n q Ls' st' → Go l Z R E Q M k n pc Ls st) : Go l Z R E Q M k n pc Ls st := hr hJ
theorem Go.castI {u w : Int32} (h : u = w) (hr : Go l Z R E Q M k n pc Ls (.int w :: st)) : Go l Z R E Q M k n pc Ls (.int u :: st) := h ▸ hr
theorem Go.castJ {u w : Int64} (h : u = w) (hr : Go l Z R E Q M k n pc Ls (.long w :: st)) : Go l Z R E Q M k n pc Ls (.long u :: st) := h ▸ hr
/-! plain steps -/
theorem Go.aloadN (C : Cx Z x code maxL ret E) {j : Fin 4} {v : Value} (hd : decode code pc = .ok (.aload_n j, 1)) (hq : pc + 1 = q) (hl : Ls[j.val]? = some (.val v)) (hv : v.isRef = true) (hr : Go l Z R E Q M k n q Ls (v :: st)) : Go l Z R E Q M k n pc Ls st :=
  Go.plain hr fun _ _ _ X s => XS.aloadN X.here C.1 rfl (hb C.2.2.2.1 hd) hl hv (hq ▸ s)
theorem Go.aload (C : Cx Z x code maxL ret E) {j : Nat} {v : Value} (hd : decode code pc = .ok (.aload j, 2)) (hq : pc + 2 = q) (hl : Ls[j]? = some (.val v)) (hv : v.isRef = true) (hr : Go l Z R E Q M k n q Ls (v :: st)) : Go l Z R E Q M k n pc Ls st :=
  Go.plain hr fun _ _ _ X s => XS.aload X.here C.1 rfl (hb C.2.2.2.1 hd) hl hv (hq ▸ s)
theorem Go.iloadN (C : Cx Z x code maxL ret E) {j : Fin 4} {v : Int32} (hd : decode code pc = .ok (.iload_n j, 1)) (hq : pc + 1 = q) (hl : Ls[j.val]? = some (.val (.int v))) (hr : Go l Z R E Q M k n q Ls (.int v :: st)) : Go l Z R E Q M k n pc Ls st :=
  Go.plain hr fun _ _ _ X s => XS.iloadN X.here C.1 rfl (hb C.2.2.2.1 hd) hl (hq ▸ s)
theorem Go.iload (C : Cx Z x code maxL ret E) {j : Nat} {v : Int32} (hd : decode code pc = .ok (.iload j, 2)) (hq : pc + 2 = q) (hl : Ls[j]? = some (.val (.int v))) (hr : Go l Z R E Q M k n q Ls (.int v :: st)) : Go l Z R E Q M k n pc Ls st :=
  Go.plain hr fun _ _ _ X s => XS.iload X.here C.1 rfl (hb C.2.2.2.1 hd) hl (hq ▸ s)
theorem Go.lloadN (C : Cx Z x code maxL ret E) {j : Fin 4} {v : Int64} (hd : decode code pc = .ok (.lload_n j, 1)) (hq : pc + 1 = q) (hl : Ls[j.val]? = some (.val (.long v))) (hr : Go l Z R E Q M k n q Ls (.long v :: st)) : Go l Z R E Q M k n pc Ls st :=
  Go.plain hr fun _ _ _ X s => XT.lloadN X.here C.1 rfl (hb C.2.2.2.1 hd) hl (hq ▸ s)
theorem Go.lload (C : Cx Z x code maxL ret E) {j : Nat} {v : Int64} (hd : decode code pc = .ok (.lload j, 2)) (hq : pc + 2 = q) (hl : Ls[j]? = some (.val (.long v))) (hr : Go l Z R E Q M k n q Ls (.long v :: st)) : Go l Z R E Q M k n pc Ls st :=
  Go.plain hr fun _ _ _ X s => XT.lload X.here C.1 rfl (hb C.2.2.2.1 hd) hl (hq ▸ s)
theorem Go.istoreN (C : Cx Z x code maxL ret E) {j : Fin 4} {v : Int32} (hd : decode code pc = .ok (.istore_n j, 1)) (hq : pc + 1 = q) (hl : storeLocals Ls j.val (.int v) = some Ls') (hr : Go l Z R E Q M k n q Ls' st) : Go l Z R E Q M k n pc Ls (.int v :: st) :=
  Go.plain hr fun _ _ _ X s => XS.istoreN X.here C.1 rfl (hb C.2.2.2.1 hd) rfl hl (hq ▸ s)
theorem Go.istore (C : Cx Z x code maxL ret E) {j : Nat} {v : Int32} (hd : decode code pc = .ok (.istore j, 2)) (hq : pc + 2 = q) (hl : storeLocals Ls j (.int v) = some Ls') (hr : Go l Z R E Q M k n q Ls' st) : Go l Z R E Q M k n pc Ls (.int v :: st) :=
  Go.plain hr fun _ _ _ X s => XS.istore X.here C.1 rfl (hb C.2.2.2.1 hd) rfl hl (hq ▸ s)
theorem Go.lstoreN (C : Cx Z x code maxL ret E) {j : Fin 4} {v : Int64} (hd : decode code pc = .ok (.lstore_n j, 1)) (hq : pc + 1 = q) (hl : storeLocals Ls j.val (.long v) = some Ls') (hr : Go l Z R E Q M k n q Ls' st) : Go l Z R E Q M k n pc Ls (.long v :: st) :=
  Go.plain hr fun _ _ _ X s => XT.lstoreN X.here C.1 rfl (hb C.2.2.2.1 hd) rfl hl (hq ▸ s)
theorem Go.lstore (C : Cx Z x code maxL ret E) {j : Nat} {v : Int64} (hd : decode code pc = .ok (.lstore j, 2)) (hq : pc + 2 = q) (hl : storeLocals Ls j (.long v) = some Ls') (hr : Go l Z R E Q M k n q Ls' st) : Go l Z R E Q M k n pc Ls (.long v :: st) :=
  Go.plain hr fun _ _ _ X s => XT.lstore X.here C.1 rfl (hb C.2.2.2.1 hd) rfl hl (hq ▸ s)
theorem Go.astoreN (C : Cx Z x code maxL ret E) {j : Fin 4} {v : Value} (hd : decode code pc = .ok (.astore_n j, 1)) (hq : pc + 1 = q) (hv : v.isRef = true) (hl : storeLocals Ls j.val v = some Ls') (hr : Go l Z R E Q M k n q Ls' st) : Go l Z R E Q M k n pc Ls (v :: st) :=
  Go.plain hr fun _ _ _ X s => XS.astoreN X.here C.1 rfl (hb C.2.2.2.1 hd) rfl hv hl (hq ▸ s)
theorem Go.astore (C : Cx Z x code maxL ret E) {j : Nat} {v : Value} (hd : decode code pc = .ok (.astore j, 2)) (hq : pc + 2 = q) (hv : v.isRef = true) (hl : storeLocals Ls j v = some Ls') (hr : Go l Z R E Q M k n q Ls' st) : Go l Z R E Q M k n pc Ls (v :: st) :=
  Go.plain hr fun _ _ _ X s => XS.astore X.here C.1 rfl (hb C.2.2.2.1 hd) rfl hv hl (hq ▸ s)
theorem Go.iconst (C : Cx Z x code maxL ret E) {i : Int} {v : Int32} (hd : decode code pc = .ok (.iconst i, 1)) (hq : pc + 1 = q) (hv : Int32.ofInt i = v) (hr : Go l Z R E Q M k n q Ls (.int v :: st)) : Go l Z R E Q M k n pc Ls st :=
  Go.plain hr fun _ _ _ X s => XS.iconst X.here C.1 rfl (hb C.2.2.2.1 hd) (hv ▸ hq ▸ s)
theorem Go.bipush (C : Cx Z x code maxL ret E) {i : Int} {v : Int32} (hd : decode code pc = .ok (.bipush i, 2)) (hq : pc + 2 = q) (hv : (Int8.ofInt i).toInt32 = v) (hr : Go l Z R E Q M k n q Ls (.int v :: st)) : Go l Z R E Q M k n pc Ls st :=
  Go.plain hr fun _ _ _ X s => XS.bipush X.here C.1 rfl (hb C.2.2.2.1 hd) (hv ▸ hq ▸ s)
theorem Go.sipush (C : Cx Z x code maxL ret E) {i : Int} {v : Int32} (hd : decode code pc = .ok (.sipush i, 3)) (hq : pc + 3 = q) (hv : (Int16.ofInt i).toInt32 = v) (hr : Go l Z R E Q M k n q Ls (.int v :: st)) : Go l Z R E Q M k n pc Ls st :=
  Go.plain hr fun _ _ _ X s => XS.sipush X.here C.1 rfl (hb C.2.2.2.1 hd) (hv ▸ hq ▸ s)
theorem Go.lconst (C : Cx Z x code maxL ret E) {i : Fin 2} {v : Int64} (hd : decode code pc = .ok (.lconst i, 1)) (hq : pc + 1 = q) (hv : Int64.ofNat i = v) (hr : Go l Z R E Q M k n q Ls (.long v :: st)) : Go l Z R E Q M k n pc Ls st :=
  Go.plain hr fun _ _ _ X s => XT.lconst X.here C.1 rfl (hb C.2.2.2.1 hd) (hv ▸ hq ▸ s)
theorem Go.aconstNull (C : Cx Z x code maxL ret E) (hd : decode code pc = .ok (.aconst_null, 1)) (hq : pc + 1 = q) (hr : Go l Z R E Q M k n q Ls (.null :: st)) : Go l Z R E Q M k n pc Ls st :=
  Go.plain hr fun _ _ _ X s => XS.aconstNull X.here C.1 rfl (hb C.2.2.2.1 hd) (hq ▸ s)
theorem Go.ldcI (C : Cx Z x code maxL ret E) {i : Nat} {v : Int32} (w : (Cond.constant x.cls i v).before a0 Z = true) (hd : decode code pc = .ok (.ldc i, 2)) (hq : pc + 2 = q) (hr : Go l Z R E Q M k n q Ls (.int v :: st)) : Go l Z R E Q M k n pc Ls st :=
  Go.plain hr fun _ _ _ X s => Stand.ldcI X C.1 C.2.2.1 (mv C.2.1 w) rfl (hb C.2.2.2.1 hd) (hq ▸ s)
theorem Go.ldcWI (C : Cx Z x code maxL ret E) {i : Nat} {v : Int32} (w : (Cond.constant x.cls i v).before a0 Z = true) (hd : decode code pc = .ok (.ldc_w i, 3)) (hq : pc + 3 = q) (hr : Go l Z R E Q M k n q Ls (.int v :: st)) : Go l Z R E Q M k n pc Ls st :=
  Go.plain hr fun _ _ _ X s => Stand.ldcWI X C.1 C.2.2.1 (mv C.2.1 w) rfl (hb C.2.2.2.1 hd) (hq ▸ s)
theorem Go.ldc2J (C : Cx Z x code maxL ret E) {i : Nat} {v : Int64} (w : (Cond.constantLong x.cls i v).before a0 Z = true) (hd : decode code pc = .ok (.ldc2_w i, 3)) (hq : pc + 3 = q) (hr : Go l Z R E Q M k n q Ls (.long v :: st)) : Go l Z R E Q M k n pc Ls st :=
  Go.plain hr fun _ _ _ X s => Stand.ldc2J X C.1 C.2.2.1 (mv C.2.1 w) rfl (hb C.2.2.2.1 hd) (hq ▸ s)
theorem Go.dup (C : Cx Z x code maxL ret E) {v : Value} (hd : decode code pc = .ok (.dup, 1)) (hq : pc + 1 = q) (hc : v.category = 1) (hr : Go l Z R E Q M k n q Ls (v :: v :: st)) : Go l Z R E Q M k n pc Ls (v :: st) :=
  Go.plain hr fun _ _ _ X s => XS.dup X.here C.1 rfl (hb C.2.2.2.1 hd) rfl hc (hq ▸ s)
theorem Go.dupX1 (C : Cx Z x code maxL ret E) {v w : Value} (hd : decode code pc = .ok (.dup_x1, 1)) (hq : pc + 1 = q) (hc : v.category = 1) (hc' : w.category = 1) (hr : Go l Z R E Q M k n q Ls (v :: w :: v :: st)) : Go l Z R E Q M k n pc Ls (v :: w :: st) :=
  Go.plain hr fun _ _ _ X s => XT.dupX1 X.here C.1 rfl (hb C.2.2.2.1 hd) rfl hc hc' (hq ▸ s)
theorem Go.dup2 (C : Cx Z x code maxL ret E) {v w : Value} (hd : decode code pc = .ok (.dup2, 1)) (hq : pc + 1 = q) (hc : v.category = 1) (hc' : w.category = 1) (hr : Go l Z R E Q M k n q Ls (v :: w :: v :: w :: st)) : Go l Z R E Q M k n pc Ls (v :: w :: st) :=
  Go.plain hr fun _ _ _ X s => XT.dup2 X.here C.1 rfl (hb C.2.2.2.1 hd) rfl hc hc' (hq ▸ s)
theorem Go.dup2L (C : Cx Z x code maxL ret E) {v : Int64} (hd : decode code pc = .ok (.dup2, 1)) (hq : pc + 1 = q) (hr : Go l Z R E Q M k n q Ls (.long v :: .long v :: st)) : Go l Z R E Q M k n pc Ls (.long v :: st) :=
  Go.plain hr fun _ _ _ X s => XT.dup2L X.here C.1 rfl (hb C.2.2.2.1 hd) rfl (hq ▸ s)
theorem Go.pop (C : Cx Z x code maxL ret E) {v : Value} (hd : decode code pc = .ok (.pop, 1)) (hq : pc + 1 = q) (hc : v.category = 1) (hr : Go l Z R E Q M k n q Ls st) : Go l Z R E Q M k n pc Ls (v :: st) :=
  Go.plain hr fun _ _ _ X s => XT.pop X.here C.1 rfl (hb C.2.2.2.1 hd) rfl hc (hq ▸ s)
theorem Go.iadd (C : Cx Z x code maxL ret E) {u : Int32} {v : Int32} (hd : decode code pc = .ok (.iadd, 1)) (hq : pc + 1 = q) (hr : Go l Z R E Q M k n q Ls (.int (u + v) :: st)) : Go l Z R E Q M k n pc Ls (.int v :: .int u :: st) :=
  Go.plain hr fun _ _ _ X s => XS.iadd X.here C.1 rfl (hb C.2.2.2.1 hd) rfl (hq ▸ s)
theorem Go.isub (C : Cx Z x code maxL ret E) {u : Int32} {v : Int32} (hd : decode code pc = .ok (.isub, 1)) (hq : pc + 1 = q) (hr : Go l Z R E Q M k n q Ls (.int (u - v) :: st)) : Go l Z R E Q M k n pc Ls (.int v :: .int u :: st) :=
  Go.plain hr fun _ _ _ X s => XS.isub X.here C.1 rfl (hb C.2.2.2.1 hd) rfl (hq ▸ s)
theorem Go.imul (C : Cx Z x code maxL ret E) {u : Int32} {v : Int32} (hd : decode code pc = .ok (.imul, 1)) (hq : pc + 1 = q) (hr : Go l Z R E Q M k n q Ls (.int (u * v) :: st)) : Go l Z R E Q M k n pc Ls (.int v :: .int u :: st) :=
  Go.plain hr fun _ _ _ X s => XS.imul X.here C.1 rfl (hb C.2.2.2.1 hd) rfl (hq ▸ s)
theorem Go.iand (C : Cx Z x code maxL ret E) {u : Int32} {v : Int32} (hd : decode code pc = .ok (.iand, 1)) (hq : pc + 1 = q) (hr : Go l Z R E Q M k n q Ls (.int (u &&& v) :: st)) : Go l Z R E Q M k n pc Ls (.int v :: .int u :: st) :=
  Go.plain hr fun _ _ _ X s => XS.iand X.here C.1 rfl (hb C.2.2.2.1 hd) rfl (hq ▸ s)
theorem Go.ior (C : Cx Z x code maxL ret E) {u : Int32} {v : Int32} (hd : decode code pc = .ok (.ior, 1)) (hq : pc + 1 = q) (hr : Go l Z R E Q M k n q Ls (.int (u ||| v) :: st)) : Go l Z R E Q M k n pc Ls (.int v :: .int u :: st) :=
  Go.plain hr fun _ _ _ X s => XT.ior X.here C.1 rfl (hb C.2.2.2.1 hd) rfl (hq ▸ s)
theorem Go.ixor (C : Cx Z x code maxL ret E) {u : Int32} {v : Int32} (hd : decode code pc = .ok (.ixor, 1)) (hq : pc + 1 = q) (hr : Go l Z R E Q M k n q Ls (.int (u ^^^ v) :: st)) : Go l Z R E Q M k n pc Ls (.int v :: .int u :: st) :=
  Go.plain hr fun _ _ _ X s => XT.ixor X.here C.1 rfl (hb C.2.2.2.1 hd) rfl (hq ▸ s)
theorem Go.ishl (C : Cx Z x code maxL ret E) {u : Int32} {v : Int32} (hd : decode code pc = .ok (.ishl, 1)) (hq : pc + 1 = q) (hr : Go l Z R E Q M k n q Ls (.int (u <<< (v &&& 31)) :: st)) : Go l Z R E Q M k n pc Ls (.int v :: .int u :: st) :=
  Go.plain hr fun _ _ _ X s => XT.ishl X.here C.1 rfl (hb C.2.2.2.1 hd) rfl (hq ▸ s)
theorem Go.ishr (C : Cx Z x code maxL ret E) {u : Int32} {v : Int32} (hd : decode code pc = .ok (.ishr, 1)) (hq : pc + 1 = q) (hr : Go l Z R E Q M k n q Ls (.int (u >>> (v &&& 31)) :: st)) : Go l Z R E Q M k n pc Ls (.int v :: .int u :: st) :=
  Go.plain hr fun _ _ _ X s => XT.ishr X.here C.1 rfl (hb C.2.2.2.1 hd) rfl (hq ▸ s)
theorem Go.iushr (C : Cx Z x code maxL ret E) {u : Int32} {v : Int32} (hd : decode code pc = .ok (.iushr, 1)) (hq : pc + 1 = q) (hr : Go l Z R E Q M k n q Ls (.int (XT.ushr u v) :: st)) : Go l Z R E Q M k n pc Ls (.int v :: .int u :: st) :=
  Go.plain hr fun _ _ _ X s => XT.iushr X.here C.1 rfl (hb C.2.2.2.1 hd) rfl (hq ▸ s)
theorem Go.ladd (C : Cx Z x code maxL ret E) {u : Int64} {v : Int64} (hd : decode code pc = .ok (.ladd, 1)) (hq : pc + 1 = q) (hr : Go l Z R E Q M k n q Ls (.long (u + v) :: st)) : Go l Z R E Q M k n pc Ls (.long v :: .long u :: st) :=
  Go.plain hr fun _ _ _ X s => XT.ladd X.here C.1 rfl (hb C.2.2.2.1 hd) rfl (hq ▸ s)
theorem Go.lsub (C : Cx Z x code maxL ret E) {u : Int64} {v : Int64} (hd : decode code pc = .ok (.lsub, 1)) (hq : pc + 1 = q) (hr : Go l Z R E Q M k n q Ls (.long (u - v) :: st)) : Go l Z R E Q M k n pc Ls (.long v :: .long u :: st) :=
  Go.plain hr fun _ _ _ X s => XT.lsub X.here C.1 rfl (hb C.2.2.2.1 hd) rfl (hq ▸ s)
theorem Go.lmul (C : Cx Z x code maxL ret E) {u : Int64} {v : Int64} (hd : decode code pc = .ok (.lmul, 1)) (hq : pc + 1 = q) (hr : Go l Z R E Q M k n q Ls (.long (u * v) :: st)) : Go l Z R E Q M k n pc Ls (.long v :: .long u :: st) :=
  Go.plain hr fun _ _ _ X s => XT.lmul X.here C.1 rfl (hb C.2.2.2.1 hd) rfl (hq ▸ s)
theorem Go.land (C : Cx Z x code maxL ret E) {u : Int64} {v : Int64} (hd : decode code pc = .ok (.land, 1)) (hq : pc + 1 = q) (hr : Go l Z R E Q M k n q Ls (.long (u &&& v) :: st)) : Go l Z R E Q M k n pc Ls (.long v :: .long u :: st) :=
  Go.plain hr fun _ _ _ X s => XT.land X.here C.1 rfl (hb C.2.2.2.1 hd) rfl (hq ▸ s)
theorem Go.lor (C : Cx Z x code maxL ret E) {u : Int64} {v : Int64} (hd : decode code pc = .ok (.lor, 1)) (hq : pc + 1 = q) (hr : Go l Z R E Q M k n q Ls (.long (u ||| v) :: st)) : Go l Z R E Q M k n pc Ls (.long v :: .long u :: st) :=
  Go.plain hr fun _ _ _ X s => XT.lor X.here C.1 rfl (hb C.2.2.2.1 hd) rfl (hq ▸ s)
theorem Go.lxor (C : Cx Z x code maxL ret E) {u : Int64} {v : Int64} (hd : decode code pc = .ok (.lxor, 1)) (hq : pc + 1 = q) (hr : Go l Z R E Q M k n q Ls (.long (u ^^^ v) :: st)) : Go l Z R E Q M k n pc Ls (.long v :: .long u :: st) :=
  Go.plain hr fun _ _ _ X s => XT.lxor X.here C.1 rfl (hb C.2.2.2.1 hd) rfl (hq ▸ s)
theorem Go.lshl (C : Cx Z x code maxL ret E) {u : Int64} {v : Int32} (hd : decode code pc = .ok (.lshl, 1)) (hq : pc + 1 = q) (hr : Go l Z R E Q M k n q Ls (.long (u <<< (v.toInt64 &&& 63)) :: st)) : Go l Z R E Q M k n pc Ls (.int v :: .long u :: st) :=
  Go.plain hr fun _ _ _ X s => XT.lshl X.here C.1 rfl (hb C.2.2.2.1 hd) rfl (hq ▸ s)
theorem Go.lshr (C : Cx Z x code maxL ret E) {u : Int64} {v : Int32} (hd : decode code pc = .ok (.lshr, 1)) (hq : pc + 1 = q) (hr : Go l Z R E Q M k n q Ls (.long (u >>> (v.toInt64 &&& 63)) :: st)) : Go l Z R E Q M k n pc Ls (.int v :: .long u :: st) :=
  Go.plain hr fun _ _ _ X s => XT.lshr X.here C.1 rfl (hb C.2.2.2.1 hd) rfl (hq ▸ s)
theorem Go.lushr (C : Cx Z x code maxL ret E) {u : Int64} {v : Int32} (hd : decode code pc = .ok (.lushr, 1)) (hq : pc + 1 = q) (hr : Go l Z R E Q M k n q Ls (.long (XT.ushrL u v) :: st)) : Go l Z R E Q M k n pc Ls (.int v :: .long u :: st) :=
  Go.plain hr fun _ _ _ X s => XT.lushr X.here C.1 rfl (hb C.2.2.2.1 hd) rfl (hq ▸ s)
theorem Go.ineg (C : Cx Z x code maxL ret E) {u : Int32} (hd : decode code pc = .ok (.ineg, 1)) (hq : pc + 1 = q) (hr : Go l Z R E Q M k n q Ls (.int (-u) :: st)) : Go l Z R E Q M k n pc Ls (.int u :: st) :=
  Go.plain hr fun _ _ _ X s => XS.ineg X.here C.1 rfl (hb C.2.2.2.1 hd) rfl (hq ▸ s)
theorem Go.lneg (C : Cx Z x code maxL ret E) {u : Int64} (hd : decode code pc = .ok (.lneg, 1)) (hq : pc + 1 = q) (hr : Go l Z R E Q M k n q Ls (.long (-u) :: st)) : Go l Z R E Q M k n pc Ls (.long u :: st) :=
  Go.plain hr fun _ _ _ X s => XT.lneg X.here C.1 rfl (hb C.2.2.2.1 hd) rfl (hq ▸ s)
theorem Go.i2l (C : Cx Z x code maxL ret E) {u : Int32} (hd : decode code pc = .ok (.i2l, 1)) (hq : pc + 1 = q) (hr : Go l Z R E Q M k n q Ls (.long u.toInt64 :: st)) : Go l Z R E Q M k n pc Ls (.int u :: st) :=
  Go.plain hr fun _ _ _ X s => XT.i2l X.here C.1 rfl (hb C.2.2.2.1 hd) rfl (hq ▸ s)
theorem Go.l2i (C : Cx Z x code maxL ret E) {u : Int64} (hd : decode code pc = .ok (.l2i, 1)) (hq : pc + 1 = q) (hr : Go l Z R E Q M k n q Ls (.int u.toInt32 :: st)) : Go l Z R E Q M k n pc Ls (.long u :: st) :=
  Go.plain hr fun _ _ _ X s => XT.l2i X.here C.1 rfl (hb C.2.2.2.1 hd) rfl (hq ▸ s)
theorem Go.i2b (C : Cx Z x code maxL ret E) {u : Int32} (hd : decode code pc = .ok (.i2b, 1)) (hq : pc + 1 = q) (hr : Go l Z R E Q M k n q Ls (.int u.toInt8.toInt32 :: st)) : Go l Z R E Q M k n pc Ls (.int u :: st) :=
  Go.plain hr fun _ _ _ X s => XT.i2b X.here C.1 rfl (hb C.2.2.2.1 hd) rfl (hq ▸ s)
theorem Go.i2c (C : Cx Z x code maxL ret E) {u : Int32} (hd : decode code pc = .ok (.i2c, 1)) (hq : pc + 1 = q) (hr : Go l Z R E Q M k n q Ls (.int u.toUInt32.toUInt16.toUInt32.toInt32 :: st)) : Go l Z R E Q M k n pc Ls (.int u :: st) :=
  Go.plain hr fun _ _ _ X s => XT.i2c X.here C.1 rfl (hb C.2.2.2.1 hd) rfl (hq ▸ s)
theorem Go.i2s (C : Cx Z x code maxL ret E) {u : Int32} (hd : decode code pc = .ok (.i2s, 1)) (hq : pc + 1 = q) (hr : Go l Z R E Q M k n q Ls (.int u.toInt16.toInt32 :: st)) : Go l Z R E Q M k n pc Ls (.int u :: st) :=
  Go.plain hr fun _ _ _ X s => XT.i2s X.here C.1 rfl (hb C.2.2.2.1 hd) rfl (hq ▸ s)
theorem Go.lrem (C : Cx Z x code maxL ret E) {u v : Int64} (hd : decode code pc = .ok (.lrem, 1)) (hq : pc + 1 = q) (hv : v ≠ 0) (hr : Go l Z R E Q M k n q Ls (.long (u - u / v * v) :: st)) : Go l Z R E Q M k n pc Ls (.long v :: .long u :: st) :=
  Go.plain hr fun _ _ _ X s => XT.lrem X.here C.1 rfl (hb C.2.2.2.1 hd) rfl hv (hq ▸ s)
theorem Go.idiv (C : Cx Z x code maxL ret E) {u v : Int32} (hd : decode code pc = .ok (.idiv, 1)) (hq : pc + 1 = q) (hv : v ≠ 0) (hr : Go l Z R E Q M k n q Ls (.int (u / v) :: st)) : Go l Z R E Q M k n pc Ls (.int v :: .int u :: st) :=
  Go.plain hr fun _ _ _ X s => XS.idiv X.here C.1 rfl (hb C.2.2.2.1 hd) rfl hv (hq ▸ s)
theorem Go.irem (C : Cx Z x code maxL ret E) {u v : Int32} (hd : decode code pc = .ok (.irem, 1)) (hq : pc + 1 = q) (hv : v ≠ 0) (hr : Go l Z R E Q M k n q Ls (.int (u % v) :: st)) : Go l Z R E Q M k n pc Ls (.int v :: .int u :: st) :=
  Go.plain hr fun _ _ _ X s => iremM X C.1 rfl (hb C.2.2.2.1 hd) rfl hv (hq ▸ s)
theorem Go.ldiv (C : Cx Z x code maxL ret E) {u v : Int64} (hd : decode code pc = .ok (.ldiv, 1)) (hq : pc + 1 = q) (hv : v ≠ 0) (hr : Go l Z R E Q M k n q Ls (.long (u / v) :: st)) : Go l Z R E Q M k n pc Ls (.long v :: .long u :: st) :=
  Go.plain hr fun _ _ _ X s => XT.ldiv X.here C.1 rfl (hb C.2.2.2.1 hd) rfl hv (hq ▸ s)
theorem Go.iinc (C : Cx Z x code maxL ret E) {j : Nat} {i : Int} {u v : Int32} (hd : decode code pc = .ok (.iinc j i, 3)) (hq : pc + 3 = q) (hl : Ls[j]? = some (.val (.int u))) (hv : u + Int32.ofInt i = v) (hl' : storeLocals Ls j (.int v) = some Ls') (hr : Go l Z R E Q M k n q Ls' st) : Go l Z R E Q M k n pc Ls st :=
  Go.plain hr fun _ _ _ X s => XS.iinc X.here C.1 rfl (hb C.2.2.2.1 hd) hl (hv ▸ hl') (hq ▸ s)
theorem Go.goto (C : Cx Z x code maxL ret E) {o : Int} (hd : decode code pc = .ok (.goto o, 3)) (ho : 0 ≤ (pc : Int) + o) (hq : ((pc : Int) + o).toNat = q) (hr : Go l Z R E Q M k n q Ls st) : Go l Z R E Q M k n pc Ls st :=
  Go.plain hr fun _ _ _ X s => XS.goto X.here C.1 rfl rfl (hb C.2.2.2.1 hd) ho hq s
theorem Go.ifYes (C : Cx Z x code maxL ret E) {cd : ClassFile.Cond} {o : Int} {u : Int32} (hd : decode code pc = .ok (.ifCond cd o, 3)) (ho : 0 ≤ (pc : Int) + o) (hq : ((pc : Int) + o).toNat = q) (hc : ifCond.holds cd u = true) (hr : Go l Z R E Q M k n q Ls st) : Go l Z R E Q M k n pc Ls (.int u :: st) :=
  Go.plain hr fun _ _ _ X s => XS.ifYes X.here C.1 rfl rfl (hb C.2.2.2.1 hd) rfl hc ho hq s
theorem Go.ifNo (C : Cx Z x code maxL ret E) {cd : ClassFile.Cond} {o : Int} {u : Int32} (hd : decode code pc = .ok (.ifCond cd o, 3)) (hq : pc + 3 = q) (hc : ifCond.holds cd u = false) (hr : Go l Z R E Q M k n q Ls st) : Go l Z R E Q M k n pc Ls (.int u :: st) :=
  Go.plain hr fun _ _ _ X s => XS.ifNo X.here C.1 rfl (hb C.2.2.2.1 hd) rfl hc (hq ▸ s)
theorem Go.icmpYes (C : Cx Z x code maxL ret E) {cd : ClassFile.Cond} {o : Int} {u v : Int32} (hd : decode code pc = .ok (.if_icmp cd o, 3)) (ho : 0 ≤ (pc : Int) + o) (hq : ((pc : Int) + o).toNat = q) (hc : if_icmp.holds cd u v = true) (hr : Go l Z R E Q M k n q Ls st) : Go l Z R E Q M k n pc Ls (.int v :: .int u :: st) :=
  Go.plain hr fun _ _ _ X s => XS.icmpYes X.here C.1 rfl rfl (hb C.2.2.2.1 hd) rfl hc ho hq s
theorem Go.icmpNo (C : Cx Z x code maxL ret E) {cd : ClassFile.Cond} {o : Int} {u v : Int32} (hd : decode code pc = .ok (.if_icmp cd o, 3)) (hq : pc + 3 = q) (hc : if_icmp.holds cd u v = false) (hr : Go l Z R E Q M k n q Ls st) : Go l Z R E Q M k n pc Ls (.int v :: .int u :: st) :=
  Go.plain hr fun _ _ _ X s => XS.icmpNo X.here C.1 rfl (hb C.2.2.2.1 hd) rfl hc (hq ▸ s)
theorem Go.acmpYes (C : Cx Z x code maxL ret E) {cd : ClassFile.ACond} {o : Int} {u v : Value} (hd : decode code pc = .ok (.if_acmp cd o, 3)) (ho : 0 ≤ (pc : Int) + o) (hq : ((pc : Int) + o).toNat = q) (hu : u.isRef = true) (hv : v.isRef = true) (hc : XT.acmp cd u v = true) (hr : Go l Z R E Q M k n q Ls st) : Go l Z R E Q M k n pc Ls (v :: u :: st) :=
  Go.plain hr fun _ _ _ X s => XT.acmpYes X.here C.1 rfl rfl (hb C.2.2.2.1 hd) rfl hu hv hc ho hq s
theorem Go.acmpNo (C : Cx Z x code maxL ret E) {cd : ClassFile.ACond} {o : Int} {u v : Value} (hd : decode code pc = .ok (.if_acmp cd o, 3)) (hq : pc + 3 = q) (hu : u.isRef = true) (hv : v.isRef = true) (hc : XT.acmp cd u v = false) (hr : Go l Z R E Q M k n q Ls st) : Go l Z R E Q M k n pc Ls (v :: u :: st) :=
  Go.plain hr fun _ _ _ X s => XT.acmpNo X.here C.1 rfl (hb C.2.2.2.1 hd) rfl hu hv hc (hq ▸ s)
theorem Go.nullYes (C : Cx Z x code maxL ret E) {o : Int} {v : Value} (hd : decode code pc = .ok (.ifnull o, 3)) (ho : 0 ≤ (pc : Int) + o) (hq : ((pc : Int) + o).toNat = q) (hv : v = .null) (hr : Go l Z R E Q M k n q Ls st) : Go l Z R E Q M k n pc Ls (v :: st) :=
  Go.plain hr fun _ _ _ X s => XT.nullYes X.here C.1 rfl rfl (hb C.2.2.2.1 hd) rfl hv ho hq s
theorem Go.nullNo (C : Cx Z x code maxL ret E) {o : Int} {v : Value} (hd : decode code pc = .ok (.ifnull o, 3)) (hq : pc + 3 = q) (hu : v.isRef = true) (hv : ¬ v = .null) (hr : Go l Z R E Q M k n q Ls st) : Go l Z R E Q M k n pc Ls (v :: st) :=
  Go.plain hr fun _ _ _ X s => XT.nullNo X.here C.1 rfl (hb C.2.2.2.1 hd) rfl hu hv (hq ▸ s)
theorem Go.nonnullYes (C : Cx Z x code maxL ret E) {o : Int} {v : Value} (hd : decode code pc = .ok (.ifnonnull o, 3)) (ho : 0 ≤ (pc : Int) + o) (hq : ((pc : Int) + o).toNat = q) (hu : v.isRef = true) (hv : ¬ v = .null) (hr : Go l Z R E Q M k n q Ls st) : Go l Z R E Q M k n pc Ls (v :: st) :=
  Go.plain hr fun _ _ _ X s => XT.nonnullYes X.here C.1 rfl rfl (hb C.2.2.2.1 hd) rfl hu hv ho hq s
theorem Go.nonnullNo (C : Cx Z x code maxL ret E) {o : Int} {v : Value} (hd : decode code pc = .ok (.ifnonnull o, 3)) (hq : pc + 3 = q) (hv : v = .null) (hr : Go l Z R E Q M k n q Ls st) : Go l Z R E Q M k n pc Ls (v :: st) :=
  Go.plain hr fun _ _ _ X s => XT.nonnullNo X.here C.1 rfl (hb C.2.2.2.1 hd) rfl hv (hq ▸ s)
def icP : ClassFile.Cond → Int32 → Prop
  | .eq, u => u = 0 | .ne, u => ¬ u = 0 | .lt, u => u < 0 | .ge, u => ¬ u < 0 | .gt, u => 0 < u | .le, u => ¬ 0 < u
def icN : ClassFile.Cond → Int32 → Prop
  | .eq, u => ¬ u = 0 | .ne, u => u = 0 | .lt, u => ¬ u < 0 | .ge, u => u < 0 | .gt, u => ¬ 0 < u | .le, u => 0 < u
def iiP : ClassFile.Cond → Int32 → Int32 → Prop
  | .eq, u, v => u = v | .ne, u, v => ¬ u = v | .lt, u, v => u < v | .ge, u, v => ¬ u < v | .gt, u, v => v < u | .le, u, v => ¬ v < u
def iiN : ClassFile.Cond → Int32 → Int32 → Prop
  | .eq, u, v => ¬ u = v | .ne, u, v => u = v | .lt, u, v => ¬ u < v | .ge, u, v => u < v | .gt, u, v => ¬ v < u | .le, u, v => v < u
def llP : ClassFile.Cond → Int64 → Int64 → Prop
  | .eq, u, v => u = v | .ne, u, v => ¬ u = v | .lt, u, v => u < v | .ge, u, v => ¬ u < v | .gt, u, v => v < u | .le, u, v => ¬ v < u
def llN : ClassFile.Cond → Int64 → Int64 → Prop
  | .eq, u, v => ¬ u = v | .ne, u, v => u = v | .lt, u, v => ¬ u < v | .ge, u, v => u < v | .gt, u, v => ¬ v < u | .le, u, v => v < u
theorem ic_or (cd : ClassFile.Cond) (u : Int32) : (ifCond.holds cd u = true ∧ icP cd u) ∨ (ifCond.holds cd u = false ∧ icN cd u) := by
  cases cd
  · by_cases h : u = 0
    · exact Or.inl ⟨XT.i0_eq_t h, h⟩
    · exact Or.inr ⟨XT.i0_eq_f h, h⟩
  · by_cases h : u = 0
    · exact Or.inr ⟨XT.i0_ne_f h, h⟩
    · exact Or.inl ⟨XT.i0_ne_t h, h⟩
  · by_cases h : u < 0
    · exact Or.inl ⟨XT.i0_lt_t h, h⟩
    · exact Or.inr ⟨XT.i0_lt_f h, h⟩
  · by_cases h : u < 0
    · exact Or.inr ⟨XT.i0_ge_f h, h⟩
    · exact Or.inl ⟨XT.i0_ge_t h, h⟩
  · by_cases h : 0 < u
    · exact Or.inl ⟨XT.i0_gt_t h, h⟩
    · exact Or.inr ⟨XT.i0_gt_f h, h⟩
  · by_cases h : 0 < u
    · exact Or.inr ⟨XT.i0_le_f h, h⟩
    · exact Or.inl ⟨XT.i0_le_t h, h⟩
theorem ii_or (cd : ClassFile.Cond) (u v : Int32) : (if_icmp.holds cd u v = true ∧ iiP cd u v) ∨ (if_icmp.holds cd u v = false ∧ iiN cd u v) := by
  cases cd
  · by_cases h : u = v
    · exact Or.inl ⟨XT.ii_eq_t h, h⟩
    · exact Or.inr ⟨XT.ii_eq_f h, h⟩
  · by_cases h : u = v
    · exact Or.inr ⟨XT.ii_ne_f h, h⟩
    · exact Or.inl ⟨XT.ii_ne_t h, h⟩
  · by_cases h : u < v
    · exact Or.inl ⟨XT.ii_lt_t h, h⟩
    · exact Or.inr ⟨XT.ii_lt_f h, h⟩
  · by_cases h : u < v
    · exact Or.inr ⟨XT.ii_ge_f h, h⟩
    · exact Or.inl ⟨XT.ii_ge_t h, h⟩
  · by_cases h : v < u
    · exact Or.inl ⟨XT.ii_gt_t h, h⟩
    · exact Or.inr ⟨XT.ii_gt_f h, h⟩
  · by_cases h : v < u
    · exact Or.inr ⟨XT.ii_le_f h, h⟩
    · exact Or.inl ⟨XT.ii_le_t h, h⟩
theorem ll_or (cd : ClassFile.Cond) (u v : Int64) : (ifCond.holds cd (XT.cmpL u v) = true ∧ llP cd u v) ∨ (ifCond.holds cd (XT.cmpL u v) = false ∧ llN cd u v) := by
  cases cd
  · by_cases h : u = v
    · exact Or.inl ⟨XT.ll_eq_t h, h⟩
    · exact Or.inr ⟨XT.ll_eq_f h, h⟩
  · by_cases h : u = v
    · exact Or.inr ⟨XT.ll_ne_f h, h⟩
    · exact Or.inl ⟨XT.ll_ne_t h, h⟩
  · by_cases h : u < v
    · exact Or.inl ⟨XT.ll_lt_t h, h⟩
    · exact Or.inr ⟨XT.ll_lt_f h, h⟩
  · by_cases h : u < v
    · exact Or.inr ⟨XT.ll_ge_f h, h⟩
    · exact Or.inl ⟨XT.ll_ge_t h, h⟩
  · by_cases h : v < u
    · exact Or.inl ⟨XT.ll_gt_t h, h⟩
    · exact Or.inr ⟨XT.ll_gt_f h, h⟩
  · by_cases h : v < u
    · exact Or.inr ⟨XT.ll_le_f h, h⟩
    · exact Or.inl ⟨XT.ll_le_t h, h⟩
theorem Go.ifc (C : Cx Z x code maxL ret E) {cd : ClassFile.Cond} {o : Int} {u : Int32} {q' : Nat} (hd : decode code pc = .ok (.ifCond cd o, 3)) (ho : 0 ≤ (pc : Int) + o) (hq : ((pc : Int) + o).toNat = q) (hq' : pc + 3 = q')
    (h1 : icP cd u → Go l Z R E Q M k n q Ls st) (h2 : icN cd u → Go l Z R E Q M k n q' Ls st) : Go l Z R E Q M k n pc Ls (.int u :: st) := by
  rcases ic_or cd u with ⟨a, b⟩ | ⟨a, b⟩
  · exact Go.ifYes C hd ho hq a (h1 b)
  · exact Go.ifNo C hd hq' a (h2 b)
theorem Go.icmp (C : Cx Z x code maxL ret E) {cd : ClassFile.Cond} {o : Int} {u v : Int32} {q' : Nat} (hd : decode code pc = .ok (.if_icmp cd o, 3)) (ho : 0 ≤ (pc : Int) + o) (hq : ((pc : Int) + o).toNat = q) (hq' : pc + 3 = q')
    (h1 : iiP cd u v → Go l Z R E Q M k n q Ls st) (h2 : iiN cd u v → Go l Z R E Q M k n q' Ls st) : Go l Z R E Q M k n pc Ls (.int v :: .int u :: st) := by
  rcases ii_or cd u v with ⟨a, b⟩ | ⟨a, b⟩
  · exact Go.icmpYes C hd ho hq a (h1 b)
  · exact Go.icmpNo C hd hq' a (h2 b)
theorem Go.lcmp (C : Cx Z x code maxL ret E) {u v : Int64} (hd : decode code pc = .ok (.lcmp, 1)) (hq : pc + 1 = q) (hr : Go l Z R E Q M k n q Ls (.int (XT.cmpL u v) :: st)) : Go l Z R E Q M k n pc Ls (.long v :: .long u :: st) :=
  Go.plain hr fun _ _ _ X s => XT.lcmp X.here C.1 rfl (hb C.2.2.2.1 hd) rfl (hq ▸ s)
theorem Go.lcmpif (C : Cx Z x code maxL ret E) {cd : ClassFile.Cond} {o : Int} {u v : Int64} {p' q' : Nat} (hd : decode code pc = .ok (.lcmp, 1)) (hp : pc + 1 = p') (hd' : decode code p' = .ok (.ifCond cd o, 3)) (ho : 0 ≤ (p' : Int) + o) (hq : ((p' : Int) + o).toNat = q) (hq' : p' + 3 = q')
    (h1 : llP cd u v → Go l Z R E Q M k n q Ls st) (h2 : llN cd u v → Go l Z R E Q M k n q' Ls st) : Go l Z R E Q M k n pc Ls (.long v :: .long u :: st) := by
  refine Go.lcmp C hd hp ?_
  rcases ll_or cd u v with ⟨a, b⟩ | ⟨a, b⟩
  · exact Go.ifYes C hd' ho hq a (h1 b)
  · exact Go.ifNo C hd' hq' a (h2 b)
def acP : ClassFile.ACond → Value → Value → Prop
  | .eq, u, v => u = v | .ne, u, v => ¬ u = v
def acN : ClassFile.ACond → Value → Value → Prop
  | .eq, u, v => ¬ u = v | .ne, u, v => u = v
theorem ac_or (cd : ClassFile.ACond) (u v : Value) : (XT.acmp cd u v = true ∧ acP cd u v) ∨ (XT.acmp cd u v = false ∧ acN cd u v) := by
  cases cd
  · by_cases h : u = v
    · exact Or.inl ⟨XT.aa_eq_t h, h⟩
    · exact Or.inr ⟨XT.aa_eq_f h, h⟩
  · by_cases h : u = v
    · exact Or.inr ⟨XT.aa_ne_f h, h⟩
    · exact Or.inl ⟨XT.aa_ne_t h, h⟩
theorem Go.acmp (C : Cx Z x code maxL ret E) {cd : ClassFile.ACond} {o : Int} {u v : Value} {q' : Nat} (hd : decode code pc = .ok (.if_acmp cd o, 3)) (ho : 0 ≤ (pc : Int) + o) (hq : ((pc : Int) + o).toNat = q) (hq' : pc + 3 = q') (hu : u.isRef = true) (hv : v.isRef = true)
    (h1 : acP cd u v → Go l Z R E Q M k n q Ls st) (h2 : acN cd u v → Go l Z R E Q M k n q' Ls st) : Go l Z R E Q M k n pc Ls (v :: u :: st) := by
  rcases ac_or cd u v with ⟨a, b⟩ | ⟨a, b⟩
  · exact Go.acmpYes C hd ho hq hu hv a (h1 b)
  · exact Go.acmpNo C hd hq' hu hv a (h2 b)
theorem Go.tswIn (C : Cx Z x code maxL ret E) {dflt low high o : Int} {offs : Array Int} {len : Nat} {u : Int32} (hd : decode code pc = .ok (.tableswitch dflt low high offs, len)) (hin : ¬ (u.toInt < low ∨ u.toInt > high)) (hoff : offs[(u.toInt - low).toNat]? = some o) (ho : 0 ≤ (pc : Int) + o) (hq : ((pc : Int) + o).toNat = q) (hr : Go l Z R E Q M k n q Ls st) : Go l Z R E Q M k n pc Ls (.int u :: st) :=
  Go.plain hr fun _ _ _ X s => XS.tswIn X.here C.1 rfl rfl (hb C.2.2.2.1 hd) rfl hin hoff ho hq s
theorem Go.tswOut (C : Cx Z x code maxL ret E) {dflt low high : Int} {offs : Array Int} {len : Nat} {u : Int32} (hd : decode code pc = .ok (.tableswitch dflt low high offs, len)) (hout : u.toInt < low ∨ u.toInt > high) (ho : 0 ≤ (pc : Int) + dflt) (hq : ((pc : Int) + dflt).toNat = q) (hr : Go l Z R E Q M k n q Ls st) : Go l Z R E Q M k n pc Ls (.int u :: st) :=
  Go.plain hr fun _ _ _ X s => XS.tswOut X.here C.1 rfl rfl (hb C.2.2.2.1 hd) rfl hout ho hq s
/-! the heap -/
theorem Go.getS (C : Cx Z x code maxL ret E) {idx : Nat} {R0 O nm d host : String} {v : Value} (w : (Cond.fieldLink x.cls idx R0 nm d).before a0 Z = true ∨ (Cond.fieldLinkNest x.cls idx R0 nm d host).before a0 Z = true) (via : Via Z R0 O nm d) (S : Sta Z Z.heap O nm d v) (hd : decode code pc = .ok (.getstatic idx, 3)) (hq : pc + 3 = q) (hr : Go l Z R E Q M k n q Ls (v :: st)) : Go l Z R E Q M k n pc Ls st := by
  intro T locs X F r
  obtain ⟨T', X', e', s'⟩ := RoadKit.getS2 X C.1 C.2.1 C.2.2.1 w via rfl (S.ext r.1) (g := mkF E.2.2.2.1 pc Ls st) rfl (hb C.2.2.2.1 hd)
  obtain ⟨s₂, v, L, h1, h2⟩ := hr T' locs X' F (by rw [e']; exact r)
  exact ⟨s₂, v, L, s' _ (hq ▸ h1), h2⟩
theorem Go.getF (C : Cx Z x code maxL ret E) {idx : Nat} {R0 O nm d host : String} {a : Addr} {v : Value} (w : (Cond.fieldLink x.cls idx R0 nm d).before a0 Z = true ∨ (Cond.fieldLinkNest x.cls idx R0 nm d host).before a0 Z = true) (via : Via Z R0 O nm d) (H : ∀ h, Rep Z h M → Fld Z h a O nm d v) (hd : decode code pc = .ok (.getfield idx, 3)) (hq : pc + 3 = q) (hr : Go l Z R E Q M k n q Ls (v :: st)) : Go l Z R E Q M k n pc Ls (.ref a :: st) := by
  intro T locs X F r
  obtain ⟨T', X', e', s'⟩ := RoadKit.getF X C.1 C.2.1 C.2.2.1 w via rfl (H _ r) (g := mkF E.2.2.2.1 pc Ls (.ref a :: st)) rfl rfl (hb C.2.2.2.1 hd)
  obtain ⟨s₂, v, L, h1, h2⟩ := hr T' locs X' F (by rw [e']; exact r)
  exact ⟨s₂, v, L, s' _ (hq ▸ h1), h2⟩
theorem Go.putF (C : Cx Z x code maxL ret E) {idx kk i j : Nat} {R0 O nm d host K : String} {a : Addr} {v old : Value} {fs : Fs} {ty : FieldType} {M' : List Ent} (w : (Cond.fieldLink x.cls idx R0 nm d).before a0 Z = true ∨ (Cond.fieldLinkNest x.cls idx R0 nm d host).before a0 Z = true) (via : Via Z R0 O nm d)
    (hi : M[i]? = some (a, .inl (K, fs))) (hj : fs[j]? = some ((O, nm, d), old)) (L : (Cond.lays K O nm d).before a0 Z = true ∨ ((Cond.laysFinal K O nm d).before a0 Z = true ∧ x.cls = O ∧ x.name = "<init>")) (wi : (Cond.instantiable K kk).before a0 Z = true)
    (hty : parseFieldDescriptor d = some ty) (hn : narrow ty v = v) (hf : fits ty v = true) (hd : decode code pc = .ok (.putfield idx, 3)) (hq : pc + 3 = q) (hM : M.set i (a, .inl (K, fs.set j ((O, nm, d), v))) = M') (hr : Go l Z R E Q M' k n q Ls st) : Go l Z R E Q M k n pc Ls (v :: .ref a :: st) := by
  intro T locs X F r
  have Fl := r.fld i j hi hj
  obtain ⟨T', h', X', e', W, s'⟩ := RoadKit.putF X C.1 C.2.1 C.2.2.1 w via rfl Fl (r.exa i hi) (L.imp id fun q => ⟨q.1, q.2.1, C.2.2.2.2.2.2.2.trans q.2.2⟩) wi hty hn hf (g := mkF E.2.2.2.1 pc Ls (v :: .ref a :: st)) rfl rfl (hb C.2.2.2.1 hd)
  obtain ⟨s₂, v, L, h1, h2⟩ := hr T' _ X' (Fr.snoc X' F (r.fresh hi)) (by rw [e', ← hM]; exact r.wrote hi W ((r.2.1 i _ hi).2.put hj W))
  exact ⟨s₂, v, L, s' _ (hq ▸ h1), h2⟩
def LaidAll (Z : State) (a0 : Array Value) (K : String) : Fs → Prop
  | [] => True
  | f :: r => (Laid Z a0 K f.1.1 f.1.2.1 f.1.2.2 ∧ ∃ ty, parseFieldDescriptor f.1.2.2 = some ty ∧ f.2 = defaultValue ty) ∧ LaidAll Z a0 K r
theorem LaidAll.at {K : String} : ∀ {fs : Fs}, LaidAll Z a0 K fs → ∀ f ∈ fs, Laid Z a0 K f.1.1 f.1.2.1 f.1.2.2 ∧ ∃ ty, parseFieldDescriptor f.1.2.2 = some ty ∧ f.2 = defaultValue ty
  | _ :: _, H, f, hf => by
    rcases List.mem_cons.mp hf with rfl | q
    · exact H.1
    · exact H.2.at f q
theorem LaidAll.nodup {K : String} : ∀ {fs : Fs}, LaidAll Z a0 K fs → (fs.map fun f => f.1.2.1).Nodup → (fs.map fun f => slK Z f.1).Nodup
  | [], _, _ => List.nodup_nil
  | f :: r, H, hn => by
    rw [List.map_cons, List.nodup_cons] at hn ⊢
    refine ⟨fun m => ?_, H.2.nodup hn.2⟩
    obtain ⟨g, hg, e⟩ := List.mem_map.mp m
    obtain ⟨Lg, tg, pg, -⟩ := H.2.at g hg
    obtain ⟨Lf, tf, pf, -⟩ := H.1
    refine slot_ne Lg Lf (fun q => hn.1 ?_) pg pf e
    exact List.mem_map.mpr ⟨g, hg, q⟩
theorem Go.new (C : Cx Z x code maxL ret E) {idx n1 k' n' : Nat} {K : String} (w1 : (Cond.classLink x.cls idx K).before a0 Z = true) (w2 : (Cond.instantiable K n1).before a0 Z = true) (w3 : (Cond.initialized K).before a0 Z = true) (fs : Fs) (Lf : LaidAll Z a0 K fs) (hnd : (fs.map fun f => f.1.2.1).Nodup)
    (hd : decode code pc = .ok (.new idx, 3)) (hq : pc + 3 = q) (hc : k + 1 ≤ R.cells) (hs : n + n1 ≤ R.slots) (hk : k + 1 = k') (hn : n + n1 = n') (hr : ∀ a, Go l Z R E Q ((a, .inl (K, fs)) :: M) k' n' q Ls (.ref a :: st)) : Go l Z R E Q M k n pc Ls st := by
  intro T locs X F r
  obtain ⟨T', h', X', e', Ex, A, D, -, s'⟩ := newO X C.1 C.2.1 C.2.2.1 w1 w2 w3 rfl (g := mkF E.2.2.2.1 pc Ls st) rfl (hb C.2.2.2.1 hd) hc hs
  subst hk hn
  obtain ⟨s₂, v, L, h1, h2⟩ := hr _ T' _ X' F (by
    rw [e']
    refine r.new Ex rfl ⟨A, fun i f hf => ?_, Lf.nodup hnd⟩
    obtain ⟨La, ty, hp, hv⟩ := Lf.at f (List.mem_of_getElem? hf)
    rw [hv]
    exact D La hp)
  exact ⟨s₂, v, L, s' _ (hq ▸ h1), h2⟩
theorem Go.initO (C : Cx Z x code maxL ret E) {idx : Nat} {a : Addr} (w1 : (Cond.methodLink x.cls idx Lib.objectInit).before a0 Z = true) (w2 : (Cond.instanceMethod Lib.objectInit).before a0 Z = true) (w3 : (Cond.code Lib.objectInit ⟨#[0xb1]⟩ 1 none).before a0 Z = true) (hd : decode code pc = .ok (.invokespecial idx, 3)) (hq : pc + 3 = q) (hsz : Ls.size = maxL) (hf : 1 ≤ R.frames) {W : Nat} (hW : (st.map fun v => v.category).sum = W) (hl : W + 12 ≤ R.locals)
    (hr : Go l Z R E Q M k n q Ls st) : Go l Z R E Q M k n pc Ls (.ref a :: st) := by
  subst hW
  intro T locs X F r
  obtain ⟨T', X', e', s'⟩ := RoadKit.initO X C.1 C.2.1 C.2.2.1 w1 w2 w3 rfl (g := mkF E.2.2.2.1 pc Ls (.ref a :: st)) rfl (hsz.trans C.2.2.2.2.1.symm) rfl (hb C.2.2.2.1 hd) hf (W := (st.map fun v => v.category).sum) (by show 2 * 0 + _ ≤ _; omega) hl
  obtain ⟨s₂, v, L, h1, h2⟩ := hr T' locs X' F (by rw [e']; exact r)
  exact ⟨s₂, v, L, s' _ (hq ▸ h1), h2⟩
/-- an array that is owned, or that stood at the start -/
def ArrIs (Z : State) (h : Heap) (a : Addr) (ty : FieldType) (vs : List Value) : Prop := ∃ c : Cell, Arr Z h a c ty ∧ c.slots.toList = vs
theorem Rep.arr {h : Heap} {a : Addr} {ty : FieldType} {vs : List Value} {b : Bool} (r : Rep Z h M) (i : Nat) (hi : M[i]? = some (a, .inr (ty, vs, b))) : ArrIs Z h a ty vs := by
  obtain ⟨c, A, e, -⟩ := (r.2.1 i _ hi).2
  exact ⟨c, A, e⟩
theorem ArrIs.ext {h h' : Heap} {a : Addr} {ty : FieldType} {vs : List Value} (A : ArrIs Z h a ty vs) (E : Ext h h') : ArrIs Z h' a ty vs := by
  obtain ⟨c, A, e⟩ := A
  exact ⟨c, A.ext E, e⟩
theorem in_of {c : Cell} {vs : List Value} {j : Int32} {v : Value} (e : c.slots.toList = vs) (h0 : ¬ j < 0) (hv : vs[j.toNatClampNeg]? = some v) : ¬ (j < 0 ∨ c.slots.size ≤ j.toNatClampNeg) ∧ c.slots[j.toNatClampNeg]? = some v := by
  subst e
  rw [Array.getElem?_toList] at hv
  have := (Array.getElem?_eq_some_iff.mp hv).1
  exact ⟨fun q => q.elim h0 fun q => by omega, hv⟩
theorem Go.arraylength (C : Cx Z x code maxL ret E) {a : Addr} {ty : FieldType} {vs : List Value} {z : Int32} (H : ∀ h, Rep Z h M → ArrIs Z h a ty vs) (hz : vs.length.toInt32 = z) (hd : decode code pc = .ok (.arraylength, 1)) (hq : pc + 1 = q) (hr : Go l Z R E Q M k n q Ls (.int z :: st)) : Go l Z R E Q M k n pc Ls (.ref a :: st) := by
  intro T locs X F r
  obtain ⟨c, A, e⟩ := H _ r
  obtain ⟨s₂, v, L, h1, h2⟩ := hr T locs X F r
  refine ⟨s₂, v, L, Stand.arraylength X C.1 A.1 (State.isArrayOf_alike C.2.1.alike A.2.1) (g := mkF E.2.2.2.1 pc Ls (.ref a :: st)) rfl rfl (hb C.2.2.2.1 hd) _ ?_, h2⟩
  have : c.slots.size.toInt32 = z := by rw [← hz, ← e, Array.length_toList]
  rw [this]
  exact hq ▸ h1
theorem Go.iaload (C : Cx Z x code maxL ret E) {a : Addr} {vs : List Value} {j : Int32} {v : Value} (H : ∀ h, Rep Z h M → ArrIs Z h a .int vs) (h0 : ¬ j < 0) (hv : vs[j.toNatClampNeg]? = some v) (hd : decode code pc = .ok (.iaload, 1)) (hq : pc + 1 = q) (hr : Go l Z R E Q M k n q Ls (v :: st)) : Go l Z R E Q M k n pc Ls (.int j :: .ref a :: st) := by
  intro T locs X F r
  obtain ⟨c, A, e⟩ := H _ r
  obtain ⟨g1, g2⟩ := in_of e h0 hv
  obtain ⟨s₂, v, L, h1, h2⟩ := hr T locs X F r
  exact ⟨s₂, v, L, Stand.iaload X C.1 A.1 (State.isArrayOf_alike C.2.1.alike A.2.1) A.2.2 g1 g2 (g := mkF E.2.2.2.1 pc Ls (.int j :: .ref a :: st)) rfl rfl (hb C.2.2.2.1 hd) _ (hq ▸ h1), h2⟩
theorem Go.laload (C : Cx Z x code maxL ret E) {a : Addr} {vs : List Value} {j : Int32} {v : Value} (H : ∀ h, Rep Z h M → ArrIs Z h a .long vs) (h0 : ¬ j < 0) (hv : vs[j.toNatClampNeg]? = some v) (hd : decode code pc = .ok (.laload, 1)) (hq : pc + 1 = q) (hr : Go l Z R E Q M k n q Ls (v :: st)) : Go l Z R E Q M k n pc Ls (.int j :: .ref a :: st) := by
  intro T locs X F r
  obtain ⟨c, A, e⟩ := H _ r
  obtain ⟨g1, g2⟩ := in_of e h0 hv
  obtain ⟨s₂, v, L, h1, h2⟩ := hr T locs X F r
  exact ⟨s₂, v, L, Stand.laload X C.1 A.1 (State.isArrayOf_alike C.2.1.alike A.2.1) A.2.2 g1 g2 (g := mkF E.2.2.2.1 pc Ls (.int j :: .ref a :: st)) rfl rfl (hb C.2.2.2.1 hd) _ (hq ▸ h1), h2⟩
theorem Go.caload (C : Cx Z x code maxL ret E) {a : Addr} {vs : List Value} {j : Int32} {v : Value} (H : ∀ h, Rep Z h M → ArrIs Z h a .char vs) (h0 : ¬ j < 0) (hv : vs[j.toNatClampNeg]? = some v) (hd : decode code pc = .ok (.caload, 1)) (hq : pc + 1 = q) (hr : Go l Z R E Q M k n q Ls (v :: st)) : Go l Z R E Q M k n pc Ls (.int j :: .ref a :: st) := by
  intro T locs X F r
  obtain ⟨c, A, e⟩ := H _ r
  obtain ⟨g1, g2⟩ := in_of e h0 hv
  obtain ⟨s₂, v, L, h1, h2⟩ := hr T locs X F r
  exact ⟨s₂, v, L, Stand.caload X C.1 A.1 (State.isArrayOf_alike C.2.1.alike A.2.1) A.2.2 g1 g2 (g := mkF E.2.2.2.1 pc Ls (.int j :: .ref a :: st)) rfl rfl (hb C.2.2.2.1 hd) _ (hq ▸ h1), h2⟩
theorem Go.saload (C : Cx Z x code maxL ret E) {a : Addr} {vs : List Value} {j : Int32} {v : Value} (H : ∀ h, Rep Z h M → ArrIs Z h a .short vs) (h0 : ¬ j < 0) (hv : vs[j.toNatClampNeg]? = some v) (hd : decode code pc = .ok (.saload, 1)) (hq : pc + 1 = q) (hr : Go l Z R E Q M k n q Ls (v :: st)) : Go l Z R E Q M k n pc Ls (.int j :: .ref a :: st) := by
  intro T locs X F r
  obtain ⟨c, A, e⟩ := H _ r
  obtain ⟨g1, g2⟩ := in_of e h0 hv
  obtain ⟨s₂, v, L, h1, h2⟩ := hr T locs X F r
  exact ⟨s₂, v, L, Stand.saload X C.1 A.1 (State.isArrayOf_alike C.2.1.alike A.2.1) A.2.2 g1 g2 (g := mkF E.2.2.2.1 pc Ls (.int j :: .ref a :: st)) rfl rfl (hb C.2.2.2.1 hd) _ (hq ▸ h1), h2⟩
theorem Go.baload (C : Cx Z x code maxL ret E) {a : Addr} {vs : List Value} {j : Int32} {v : Value} (H : ∀ h, Rep Z h M → ArrIs Z h a .byte vs) (h0 : ¬ j < 0) (hv : vs[j.toNatClampNeg]? = some v) (hd : decode code pc = .ok (.baload, 1)) (hq : pc + 1 = q) (hr : Go l Z R E Q M k n q Ls (v :: st)) : Go l Z R E Q M k n pc Ls (.int j :: .ref a :: st) := by
  intro T locs X F r
  obtain ⟨c, A, e⟩ := H _ r
  obtain ⟨g1, g2⟩ := in_of e h0 hv
  obtain ⟨s₂, v, L, h1, h2⟩ := hr T locs X F r
  exact ⟨s₂, v, L, Stand.baloadBytes X C.1 A.1 (State.isArrayOf_alike C.2.1.alike A.2.1) A.2.2 g1 g2 (g := mkF E.2.2.2.1 pc Ls (.int j :: .ref a :: st)) rfl rfl (hb C.2.2.2.1 hd) _ (hq ▸ h1), h2⟩
theorem Go.zaload (C : Cx Z x code maxL ret E) {a : Addr} {vs : List Value} {j : Int32} {v : Value} (H : ∀ h, Rep Z h M → ArrIs Z h a .boolean vs) (h0 : ¬ j < 0) (hv : vs[j.toNatClampNeg]? = some v) (hd : decode code pc = .ok (.baload, 1)) (hq : pc + 1 = q) (hr : Go l Z R E Q M k n q Ls (v :: st)) : Go l Z R E Q M k n pc Ls (.int j :: .ref a :: st) := by
  intro T locs X F r
  obtain ⟨c, A, e⟩ := H _ r
  obtain ⟨g1, g2⟩ := in_of e h0 hv
  obtain ⟨s₂, v, L, h1, h2⟩ := hr T locs X F r
  exact ⟨s₂, v, L, Stand.baloadBooleans X C.1 A.1 (State.isArrayOf_alike C.2.1.alike A.2.1) A.2.2 g1 g2 (g := mkF E.2.2.2.1 pc Ls (.int j :: .ref a :: st)) rfl rfl (hb C.2.2.2.1 hd) _ (hq ▸ h1), h2⟩
theorem Go.aaload (C : Cx Z x code maxL ret E) {a : Addr} {ty : FieldType} {vs : List Value} {j : Int32} {v : Value} (H : ∀ h, Rep Z h M → ArrIs Z h a ty vs) (hty : ty.isReference = true) (h0 : ¬ j < 0) (hv : vs[j.toNatClampNeg]? = some v) (hd : decode code pc = .ok (.aaload, 1)) (hq : pc + 1 = q) (hr : Go l Z R E Q M k n q Ls (v :: st)) : Go l Z R E Q M k n pc Ls (.int j :: .ref a :: st) := by
  intro T locs X F r
  obtain ⟨c, A, e⟩ := H _ r
  obtain ⟨g1, g2⟩ := in_of e h0 hv
  obtain ⟨s₂, v, L, h1, h2⟩ := hr T locs X F r
  exact ⟨s₂, v, L, Stand.aaload X C.1 A.1 (State.isArrayOf_alike C.2.1.alike A.2.1) hty A.2.2 g1 g2 (g := mkF E.2.2.2.1 pc Ls (.int j :: .ref a :: st)) rfl rfl (hb C.2.2.2.1 hd) _ (hq ▸ h1), h2⟩
theorem Go.iastore (C : Cx Z x code maxL ret E) {a : Addr} {vs : List Value} {i : Nat} {j : Int32} {w : Int32} {w' : Value} {M' : List Ent} (hi : M[i]? = some (a, .inr (.int, vs, true))) (h0 : ¬ j < 0) (hv : j.toNatClampNeg < vs.length) (hw : .int w = w') (hd : decode code pc = .ok (.iastore, 1)) (hq : pc + 1 = q) (hM : M.set i (a, .inr (.int, vs.set j.toNatClampNeg w', true)) = M') (hr : Go l Z R E Q M' k n q Ls st) : Go l Z R E Q M k n pc Ls (.int w :: .int j :: .ref a :: st) := by
  intro T locs X F r
  subst hw
  obtain ⟨c, A, e, o⟩ := (r.2.1 i _ hi).2
  have g1 : ¬ (j < 0 ∨ c.slots.size ≤ j.toNatClampNeg) := fun q => q.elim h0 fun q => by rw [← e, Array.length_toList] at hv; omega
  obtain ⟨T', h', X', e', W, s'⟩ := stI X C.1 C.2.1 rfl A g1 (g := mkF E.2.2.2.1 pc Ls (.int w :: .int j :: .ref a :: st)) rfl rfl (hb C.2.2.2.1 hd)
  obtain ⟨s₂, v, L, h1, h2⟩ := hr T' _ X' (Fr.snoc X' F (r.fresh hi)) (by rw [e', ← hM]; exact r.wrote hi W ((r.2.1 i _ hi).2.store W))
  exact ⟨s₂, v, L, s' _ (hq ▸ h1), h2⟩
theorem Go.lastore (C : Cx Z x code maxL ret E) {a : Addr} {vs : List Value} {i : Nat} {j : Int32} {w : Int64} {w' : Value} {M' : List Ent} (hi : M[i]? = some (a, .inr (.long, vs, true))) (h0 : ¬ j < 0) (hv : j.toNatClampNeg < vs.length) (hw : .long w = w') (hd : decode code pc = .ok (.lastore, 1)) (hq : pc + 1 = q) (hM : M.set i (a, .inr (.long, vs.set j.toNatClampNeg w', true)) = M') (hr : Go l Z R E Q M' k n q Ls st) : Go l Z R E Q M k n pc Ls (.long w :: .int j :: .ref a :: st) := by
  intro T locs X F r
  subst hw
  obtain ⟨c, A, e, o⟩ := (r.2.1 i _ hi).2
  have g1 : ¬ (j < 0 ∨ c.slots.size ≤ j.toNatClampNeg) := fun q => q.elim h0 fun q => by rw [← e, Array.length_toList] at hv; omega
  obtain ⟨T', h', X', e', W, s'⟩ := stJ X C.1 C.2.1 rfl A g1 (g := mkF E.2.2.2.1 pc Ls (.long w :: .int j :: .ref a :: st)) rfl rfl (hb C.2.2.2.1 hd)
  obtain ⟨s₂, v, L, h1, h2⟩ := hr T' _ X' (Fr.snoc X' F (r.fresh hi)) (by rw [e', ← hM]; exact r.wrote hi W ((r.2.1 i _ hi).2.store W))
  exact ⟨s₂, v, L, s' _ (hq ▸ h1), h2⟩
theorem Go.castore (C : Cx Z x code maxL ret E) {a : Addr} {vs : List Value} {i : Nat} {j : Int32} {w : Int32} {w' : Value} {M' : List Ent} (hi : M[i]? = some (a, .inr (.char, vs, true))) (h0 : ¬ j < 0) (hv : j.toNatClampNeg < vs.length) (hw : .int (nar .char w) = w') (hd : decode code pc = .ok (.castore, 1)) (hq : pc + 1 = q) (hM : M.set i (a, .inr (.char, vs.set j.toNatClampNeg w', true)) = M') (hr : Go l Z R E Q M' k n q Ls st) : Go l Z R E Q M k n pc Ls (.int w :: .int j :: .ref a :: st) := by
  intro T locs X F r
  subst hw
  obtain ⟨c, A, e, o⟩ := (r.2.1 i _ hi).2
  have g1 : ¬ (j < 0 ∨ c.slots.size ≤ j.toNatClampNeg) := fun q => q.elim h0 fun q => by rw [← e, Array.length_toList] at hv; omega
  obtain ⟨T', h', X', e', W, s'⟩ := stC X C.1 C.2.1 rfl A g1 (g := mkF E.2.2.2.1 pc Ls (.int w :: .int j :: .ref a :: st)) rfl rfl (hb C.2.2.2.1 hd)
  obtain ⟨s₂, v, L, h1, h2⟩ := hr T' _ X' (Fr.snoc X' F (r.fresh hi)) (by rw [e', ← hM]; exact r.wrote hi W ((r.2.1 i _ hi).2.store W))
  exact ⟨s₂, v, L, s' _ (hq ▸ h1), h2⟩
theorem Go.bastore (C : Cx Z x code maxL ret E) {a : Addr} {vs : List Value} {i : Nat} {j : Int32} {w : Int32} {w' : Value} {M' : List Ent} (hi : M[i]? = some (a, .inr (.byte, vs, true))) (h0 : ¬ j < 0) (hv : j.toNatClampNeg < vs.length) (hw : .int (nar .byte w) = w') (hd : decode code pc = .ok (.bastore, 1)) (hq : pc + 1 = q) (hM : M.set i (a, .inr (.byte, vs.set j.toNatClampNeg w', true)) = M') (hr : Go l Z R E Q M' k n q Ls st) : Go l Z R E Q M k n pc Ls (.int w :: .int j :: .ref a :: st) := by
  intro T locs X F r
  subst hw
  obtain ⟨c, A, e, o⟩ := (r.2.1 i _ hi).2
  have g1 : ¬ (j < 0 ∨ c.slots.size ≤ j.toNatClampNeg) := fun q => q.elim h0 fun q => by rw [← e, Array.length_toList] at hv; omega
  obtain ⟨T', h', X', e', W, s'⟩ := stB X C.1 C.2.1 rfl A g1 (g := mkF E.2.2.2.1 pc Ls (.int w :: .int j :: .ref a :: st)) rfl rfl (hb C.2.2.2.1 hd)
  obtain ⟨s₂, v, L, h1, h2⟩ := hr T' _ X' (Fr.snoc X' F (r.fresh hi)) (by rw [e', ← hM]; exact r.wrote hi W ((r.2.1 i _ hi).2.store W))
  exact ⟨s₂, v, L, s' _ (hq ▸ h1), h2⟩
theorem Go.zastore (C : Cx Z x code maxL ret E) {a : Addr} {vs : List Value} {i : Nat} {j : Int32} {w : Int32} {w' : Value} {M' : List Ent} (hi : M[i]? = some (a, .inr (.boolean, vs, true))) (h0 : ¬ j < 0) (hv : j.toNatClampNeg < vs.length) (hw : .int (nar .boolean w) = w') (hd : decode code pc = .ok (.bastore, 1)) (hq : pc + 1 = q) (hM : M.set i (a, .inr (.boolean, vs.set j.toNatClampNeg w', true)) = M') (hr : Go l Z R E Q M' k n q Ls st) : Go l Z R E Q M k n pc Ls (.int w :: .int j :: .ref a :: st) := by
  intro T locs X F r
  subst hw
  obtain ⟨c, A, e, o⟩ := (r.2.1 i _ hi).2
  have g1 : ¬ (j < 0 ∨ c.slots.size ≤ j.toNatClampNeg) := fun q => q.elim h0 fun q => by rw [← e, Array.length_toList] at hv; omega
  obtain ⟨T', h', X', e', W, s'⟩ := stZ X C.1 C.2.1 rfl A g1 (g := mkF E.2.2.2.1 pc Ls (.int w :: .int j :: .ref a :: st)) rfl rfl (hb C.2.2.2.1 hd)
  obtain ⟨s₂, v, L, h1, h2⟩ := hr T' _ X' (Fr.snoc X' F (r.fresh hi)) (by rw [e', ← hM]; exact r.wrote hi W ((r.2.1 i _ hi).2.store W))
  exact ⟨s₂, v, L, s' _ (hq ▸ h1), h2⟩
/-- v may lie in an array of K -/
def Fits (Z : State) (h : Heap) (K : String) (v : Value) : Prop := v = .null ∨ ∃ y, v = .ref y ∧ Ins Z h y K true
theorem Go.aastore (C : Cx Z x code maxL ret E) {a : Addr} {K : String} {vs : List Value} {i : Nat} {j : Int32} {v : Value} {M' : List Ent} (hi : M[i]? = some (a, .inr (.object K, vs, true))) (h0 : ¬ j < 0) (hv : j.toNatClampNeg < vs.length) (S : ∀ h, Rep Z h M → Fits Z h K v) (hd : decode code pc = .ok (.aastore, 1)) (hq : pc + 1 = q) (hM : M.set i (a, .inr (.object K, vs.set j.toNatClampNeg v, true)) = M') (hr : Go l Z R E Q M' k n q Ls st) : Go l Z R E Q M k n pc Ls (v :: .int j :: .ref a :: st) := by
  intro T locs X F r
  obtain ⟨c, A, e, o⟩ := (r.2.1 i _ hi).2
  have g1 : ¬ (j < 0 ∨ c.slots.size ≤ j.toNatClampNeg) := fun q => q.elim h0 fun q => by rw [← e, Array.length_toList] at hv; omega
  have g2 : Sto Z T.heap a v := (S _ r).imp id fun ⟨y, e', I⟩ => by
    subst e'
    exact (Sto.of A (o rfl K rfl) I).elim (fun q => by cases q) id
  obtain ⟨T', h', X', e', W, s'⟩ := stR X C.1 C.2.1 rfl A g1 rfl g2 (g := mkF E.2.2.2.1 pc Ls (v :: .int j :: .ref a :: st)) rfl rfl (hb C.2.2.2.1 hd)
  obtain ⟨s₂, v, L, h1, h2⟩ := hr T' _ X' (Fr.snoc X' F (r.fresh hi)) (by rw [e', ← hM]; exact r.wrote hi W ((r.2.1 i _ hi).2.store W))
  exact ⟨s₂, v, L, s' _ (hq ▸ h1), h2⟩
theorem Go.newarray (C : Cx Z x code maxL ret E) {aty : ArrayType} {z : Int32} {cap k' n' : Nat} {ty : FieldType} {vs : List Value} (w : (Cond.arrayClass ty).before a0 Z = true) (hty : newarray.typeOf aty = ty) (hpr : ∀ C, ty ≠ .object C) (h0 : ¬ z < 0) (hcap : z.toNatClampNeg ≤ cap) (hb8 : cap * 8 ≤ 536870912) (hvs : List.replicate z.toNatClampNeg (defaultValue ty) = vs) (hd : decode code pc = .ok (.newarray aty, 2)) (hq : pc + 2 = q)
    (hc : k + 1 ≤ R.cells) (hs : n + cap ≤ R.slots) (hk : k + 1 = k') (hn : n + cap = n') (hr : ∀ a, Go l Z R E Q ((a, .inr (ty, vs, true)) :: M) k' n' q Ls (.ref a :: st)) : Go l Z R E Q M k n pc Ls (.int z :: st) := by
  intro T locs X F r
  subst hty
  obtain ⟨T', h', cA, X', e', Ex, A, s'⟩ := newP X C.1 C.2.1 w rfl (g := mkF E.2.2.2.1 pc Ls (.int z :: st)) rfl (hb C.2.2.2.1 hd) rfl h0 hcap hb8 hc hs
  subst hk hn
  obtain ⟨s₂, v, L, h1, h2⟩ := hr _ T' _ X' F (by
    rw [e']
    exact r.new Ex rfl ⟨_, A, by rw [← hvs]; simp [newA], fun _ C e => absurd e (hpr C)⟩)
  exact ⟨s₂, v, L, s' _ (hq ▸ h1), h2⟩
theorem Go.anewarray (C : Cx Z x code maxL ret E) {idx : Nat} {K : String} {z : Int32} {cap k' n' : Nat} {vs : List Value} (w1 : (Cond.classLink x.cls idx K).before a0 Z = true) (w2 : (Cond.arrayOver (.object K)).before a0 Z = true) (h0 : ¬ z < 0) (hcap : z.toNatClampNeg ≤ cap) (hb8 : cap * 8 ≤ 536870912) (hvs : List.replicate z.toNatClampNeg (.null : Value) = vs) (hd : decode code pc = .ok (.anewarray idx, 3)) (hq : pc + 3 = q)
    (hc : k + 1 ≤ R.cells) (hs : n + cap ≤ R.slots) (hk : k + 1 = k') (hn : n + cap = n') (hr : ∀ a, Go l Z R E Q ((a, .inr (.object K, vs, true)) :: M) k' n' q Ls (.ref a :: st)) : Go l Z R E Q M k n pc Ls (.int z :: st) := by
  intro T locs X F r
  obtain ⟨T', h', cA, X', e', Ex, A, O, s'⟩ := newR X C.1 C.2.1 C.2.2.1 w1 w2 rfl (g := mkF E.2.2.2.1 pc Ls (.int z :: st)) rfl (hb C.2.2.2.1 hd) rfl h0 hcap hb8 hc hs
  subst hk hn
  obtain ⟨s₂, v, L, h1, h2⟩ := hr _ T' _ X' F (by
    rw [e']
    exact r.new Ex rfl ⟨_, A, by rw [← hvs]; simp [newA, defaultValue], fun _ C e => by cases e; exact O⟩)
  exact ⟨s₂, v, L, s' _ (hq ▸ h1), h2⟩
theorem Go.castY (C : Cx Z x code maxL ret E) {idx : Nat} {K : String} {a : Addr} (w : (Cond.classLink x.cls idx K).before a0 Z = true) (H : ∀ h, Rep Z h M → Ins Z h a K true) (hd : decode code pc = .ok (.checkcast idx, 3)) (hq : pc + 3 = q) (hr : Go l Z R E Q M k n q Ls (.ref a :: st)) : Go l Z R E Q M k n pc Ls (.ref a :: st) := by
  intro T locs X F r
  obtain ⟨T', X', e', s'⟩ := RoadKit.castY X C.1 C.2.1 C.2.2.1 w rfl (H _ r) (g := mkF E.2.2.2.1 pc Ls (.ref a :: st)) rfl rfl (hb C.2.2.2.1 hd)
  obtain ⟨s₂, v, L, h1, h2⟩ := hr T' locs X' F (by rw [e']; exact r)
  exact ⟨s₂, v, L, s' _ (hq ▸ h1), h2⟩
theorem Go.instY (C : Cx Z x code maxL ret E) {idx : Nat} {K : String} {a : Addr} (w : (Cond.classLink x.cls idx K).before a0 Z = true) (H : ∀ h, Rep Z h M → Ins Z h a K true) (hd : decode code pc = .ok (.instanceof idx, 3)) (hq : pc + 3 = q) (hr : Go l Z R E Q M k n q Ls (.int 1 :: st)) : Go l Z R E Q M k n pc Ls (.ref a :: st) := by
  intro T locs X F r
  obtain ⟨T', X', e', s'⟩ := RoadKit.instY X C.1 C.2.1 C.2.2.1 w rfl (H _ r) (g := mkF E.2.2.2.1 pc Ls (.ref a :: st)) rfl rfl (hb C.2.2.2.1 hd)
  obtain ⟨s₂, v, L, h1, h2⟩ := hr T' locs X' F (by rw [e']; exact r)
  exact ⟨s₂, v, L, s' _ (hq ▸ h1), h2⟩
theorem Go.instNo (C : Cx Z x code maxL ret E) {idx : Nat} {K C' : String} {a : Addr} (w : (Cond.classLink x.cls idx K).before a0 Z = true) (H : ∀ h, Rep Z h M → Exa Z h a C') (N : ∃ c t, Z.vm.findClass C' = some c ∧ Z.vm.findClass K = some t ∧ Z.vm.assignable c t = false) (hd : decode code pc = .ok (.instanceof idx, 3)) (hq : pc + 3 = q) (hr : Go l Z R E Q M k n q Ls (.int 0 :: st)) : Go l Z R E Q M k n pc Ls (.ref a :: st) := by
  intro T locs X F r
  obtain ⟨T', X', e', s'⟩ := RoadKit.instNo X C.1 C.2.1 C.2.2.1 w rfl (H _ r) N (g := mkF E.2.2.2.1 pc Ls (.ref a :: st)) rfl rfl (hb C.2.2.2.1 hd)
  obtain ⟨s₂, v, L, h1, h2⟩ := hr T' locs X' F (by rw [e']; exact r)
  exact ⟨s₂, v, L, s' _ (hq ▸ h1), h2⟩
theorem Go.instNull (C : Cx Z x code maxL ret E) {idx : Nat} (hd : decode code pc = .ok (.instanceof idx, 3)) (hq : pc + 3 = q) (hr : Go l Z R E Q M k n q Ls (.int 0 :: st)) : Go l Z R E Q M k n pc Ls (.null :: st) :=
  Go.plain hr fun _ _ t X s => Jvm.Stand.instanceofNull X C.1 (g := mkF E.2.2.2.1 pc Ls (.null :: st)) rfl rfl (hb C.2.2.2.1 hd) t (hq ▸ s)
theorem Go.castNull (C : Cx Z x code maxL ret E) {idx : Nat} (hd : decode code pc = .ok (.checkcast idx, 3)) (hq : pc + 3 = q) (hr : Go l Z R E Q M k n q Ls (.null :: st)) : Go l Z R E Q M k n pc Ls (.null :: st) :=
  Go.plain hr fun _ _ t X s => Jvm.Stand.checkcastNull X C.1 (g := mkF E.2.2.2.1 pc Ls (.null :: st)) rfl rfl (hb C.2.2.2.1 hd) t (hq ▸ s)
theorem nsRoot {O K : String} {kk : Nat} (w : (Cond.noSuperclass O).before a0 Z = true) (wk : (Cond.instantiable K kk).before a0 Z = true) (hn : O ≠ K) : NS Z O K := by
  obtain ⟨c, k, h1, h2, h3, -, -⟩ := Cond.noSuperclass_spec w
  obtain ⟨t, _, g1, -⟩ := Cond.instantiable_spec wk
  have ne := ids_ne h1 g1 hn
  refine ⟨c, t, h1, g1, fun fuel => ?_⟩
  cases fuel with
  | zero => rfl
  | succ f => simp [Vm.isSubclassAux, ne, h2, h3]
theorem nsNo {C' S K : String} {kk : Nat} (w : (Cond.superclass C' S).before a0 Z = true) (wk : (Cond.instantiable K kk).before a0 Z = true) (n : NS Z C' K) (hn : C' ≠ K) : ∃ c t, Z.vm.findClass C' = some c ∧ Z.vm.findClass K = some t ∧ Z.vm.assignable c t = false := by
  obtain ⟨c, t, h0, g0, n3⟩ := n
  obtain ⟨p, k, kp, h1, h2, h3, h4, h5, -, h7⟩ := Cond.superclass_spec h0 w
  obtain ⟨t', k', g1, g2, g5, g7, -⟩ := Cond.instantiable_spec wk
  cases g0.symm.trans g1
  have ne := ids_ne h0 g0 hn
  have g8 : k'.isInterface = false := by cases h : k'.isInterface <;> simp [h] at g7 ⊢
  refine ⟨c, t, h0, g0, ?_⟩
  show Z.vm.assignableAux (255 + 1) c t = false
  simp [Vm.assignableAux, ne, h2, g2, h5, g5, g8, Vm.isSubclass, n3]
theorem Go.cloneCast (C : Cx Z x code maxL ret E) {idx idx2 k' n' cap p' : Nat} {ad : String} {ty : FieldType} {a : Addr} {vs : List Value} (w1 : (Cond.methodLink x.cls idx ⟨ad, "clone", "()Ljava/lang/Object;"⟩).before a0 Z = true) (w2 : (Cond.sameMethod ad "java/lang/Object" "clone" "()Ljava/lang/Object;").before a0 Z = true) (w3 : (Cond.native ⟨"java/lang/Object", "clone", "()Ljava/lang/Object;"⟩).before a0 Z = true)
    (w4 : (Cond.instanceMethod ⟨"java/lang/Object", "clone", "()Ljava/lang/Object;"⟩).before a0 Z = true) (w5 : (Cond.selects ad ⟨ad, "clone", "()Ljava/lang/Object;"⟩ ⟨"java/lang/Object", "clone", "()Ljava/lang/Object;"⟩).before a0 Z = true) (w6 : (Cond.castable ad "java/lang/Cloneable").before a0 Z = true) (w7 : (Cond.classLink x.cls idx2 ad).before a0 Z = true)
    (A : ∀ h, Rep Z h M → ArrIs Z h a ty vs) (Ex : ∀ h, Rep Z h M → Exa Z h a ad) (hfit : ∀ v ∈ vs, fits ty v = true) (hd : decode code pc = .ok (.invokevirtual idx, 3)) (hp : pc + 3 = p') (hd' : decode code p' = .ok (.checkcast idx2, 3)) (hq : p' + 3 = q) (hsz : Ls.size = maxL) (hf : 1 ≤ R.frames) {W : Nat} (hW : (st.map fun v => v.category).sum = W) (hl : W + 14 ≤ R.locals) (hcap : vs.length ≤ cap) (hc : k + 1 ≤ R.cells) (hs : n + cap ≤ R.slots) (hk : k + 1 = k') (hn : n + cap = n')
    (hr : ∀ b, Go l Z R E Q ((b, .inr (ty, vs, false)) :: M) k' n' q Ls (.ref b :: st)) : Go l Z R E Q M k n pc Ls (.ref a :: st) := by
  subst hW
  intro T locs X F r
  obtain ⟨cl, Aa, e⟩ := A _ r
  obtain ⟨T', h', X', e', Ext', A', E', s'⟩ := cloneA X C.1 C.2.1 C.2.2.1 w1 w2 w3 w4 w5 w6 rfl Aa (Ex _ r) (fitC_of Aa fun i hi v hv => hfit v (by rw [← e]; exact Array.mem_toList_iff.mpr (Array.mem_of_getElem? hv))) (g := mkF E.2.2.2.1 pc Ls (.ref a :: st)) rfl (hsz.trans C.2.2.2.2.1.symm) rfl (hb C.2.2.2.1 hd) hf (W := (st.map fun v => v.category).sum) (by show 2 * 0 + _ ≤ _; omega) hl (cap := cap) (by rw [← e, Array.length_toList] at hcap; exact hcap) hc hs
  subst hk hn hp
  obtain ⟨T2, X2, e2, s2⟩ := RoadKit.castY X' C.1 C.2.1 C.2.2.1 w7 e' (Ins.self E') (g := mkF E.2.2.2.1 (pc + 3) Ls (.ref T.heap.size :: st)) rfl rfl (hb C.2.2.2.1 hd')
  obtain ⟨s₂, v, L, h1, h2⟩ := hr _ T2 _ X2 F (by
    rw [e2]
    exact r.new Ext' rfl ⟨_, A', e, fun q => by cases q⟩)
  exact ⟨s₂, v, L, s' _ (s2 _ (hq ▸ h1)), h2⟩
/-! calls -/
theorem nf_sel {K : String} {y z : MethodName} (w : (Cond.selects K y y).before a0 Z = true) : ∀ s : State, Z.Warmed39 s.vm → NotFace s y := fun s hZ => notFace_of_selects (args := #[]) (mvT hZ w)
theorem nf_same {K : String} {y y' : MethodName} (hc : y.cls = y'.cls) (w : (Cond.selects K y' y').before a0 Z = true) : ∀ s : State, Z.Warmed39 s.vm → NotFace s y := fun s hZ r0 h0 => by
  obtain ⟨c2, r2, m2, q1, q2, q3, q4, kP, hkP, hkPi⟩ := Cond.selects_spec (mvT (args := #[]) hZ w)
  have e1 := findClass_of_methodNamed h0
  have e2 := findClass_of_methodNamed q3
  rw [hc, e2] at e1
  have e3 := Option.some.inj e1
  exact ⟨kP, e3 ▸ hkP, hkPi⟩
theorem nf_sup {y : MethodName} {S : String} (w : (Cond.superclass y.cls S).before a0 Z = true) : ∀ s : State, Z.Warmed39 s.vm → NotFace s y := fun s hZ => nf_super (args := #[]) (mvT hZ w)
theorem nf_topS {y : MethodName} (w : (Cond.noSuperclass y.cls).before a0 Z = true) : ∀ s : State, Z.Warmed39 s.vm → NotFace s y := fun s hZ => nf_top (args := #[]) (mvT hZ w)
theorem sel_priv {y : MethodName} {n1 : Nat} (w1 : (Cond.instantiable y.cls n1).before a0 Z = true) (w2 : (Cond.instanceMethod y).before a0 Z = true) (w3 : (Cond.privateMethod y).before a0 Z = true) (hy : y.cls ≠ "java/lang/invoke/MethodHandle" ∧ y.cls ≠ "java/lang/invoke/VarHandle") : (Cond.selects y.cls y y).before a0 Z = true := by
  obtain ⟨c, k, h1, h2, -, h3, -⟩ := Cond.instantiable_spec w1
  exact selects_self_of_private h1 h2 (by simp at h3; exact h3.1) (Cond.privateMethod_at w3) w2 hy
section Calls
variable {y : MethodName} {bytes : ByteArray} {mL : Nat} {rt : Option FieldType} {rm : Room} {as rest : List Value} {Qc : PQ} {idx k' n' : Nat}
theorem len_ok {d : String} (h : (parseMethodDescriptor d).map (fun s => s.parameters.length) = some as.length) : ∀ sig, parseMethodDescriptor d = some sig → as.length = sig.parameters.length := fun sig e => by
  rw [e] at h
  exact (Option.some.inj h).symm
theorem Go.callS (C : Cx Z x code maxL ret E) (w1 : (Cond.methodLink x.cls idx y).before a0 Z = true) (w2 : (Cond.static y).before a0 Z = true) (w3 : (Cond.initialized y.cls).before a0 Z = true) (w4 : (Cond.code y bytes mL rt).before a0 Z = true) (hM : Met l Z y bytes mL rt rm as.toArray M Qc) (hst : st = as.reverse ++ rest)
    (hd : decode code pc = .ok (.invokestatic idx, 3)) (hq : pc + 3 = q) (hy : y.cls ≠ "java/lang/invoke/MethodHandle" ∧ y.cls ≠ "java/lang/invoke/VarHandle") (hsz : Ls.size = maxL) {na W : Nat} (hlen : (parseMethodDescriptor y.desc).map (fun s => s.parameters.length) = some na) (hna : as.length = na) (hf : rm.frames + 1 ≤ R.frames) (hW : (rest.map fun v => v.category).sum = W) (hl : W + (mL + 11) + rm.locals ≤ R.locals) (hc : k + rm.cells ≤ R.cells) (hs : n + rm.slots ≤ R.slots) (hk : k + rm.cells = k') (hn : n + rm.slots = n')
    (hr : ∀ v M', Qc v M' → Go l Z R E Q M' k' n' q Ls (v.toList ++ rest)) : Go l Z R E Q M k n pc Ls st := by
  subst hna hW
  intro T locs X F r
  obtain ⟨v, _, ⟨T', L', c', s'⟩, -, X', ⟨Lc, hQ, l', y', z'⟩, hst'⟩ := Jvm.LawKit.callS X C.1 C.2.2.1 (mvT C.2.1 w1) (mvT C.2.1 w2) (mvT C.2.1 w3) (mvT C.2.1 w4) hy (backOf (W := (rest.map fun v => v.category).sum) (h := T.heap) (Q := fun v h L => Fr Z.heap.size L ∧ ∃ M', Qc v M' ∧ Rep Z h M') (hM [] _ r) C.2.1 w4 w3 hf hl) (g := mkF E.2.2.2.1 pc Ls st) rfl (hsz.trans C.2.2.2.2.1.symm) (argsL := as) (rest := rest) (len_ok hlen) hst (by show 2 * 0 + _ ≤ _; omega) (hb C.2.2.2.1 hd) (fun _ _ => ⟨rfl, rfl, hc, hs⟩)
  dsimp only [Pt.U, Pt.locs, Pt.cells, Pt.slots] at X' l' y' z' hst' hQ
  obtain ⟨FL, M', hQ', r'⟩ := hQ
  subst l' y' z' hk hn
  obtain ⟨s₂, v, L, h1, h2⟩ := hr v M' hQ' T' _ X' (F.app FL) r'
  exact ⟨s₂, v, L, hst' _ (hq ▸ h1), h2⟩
theorem Go.callI (C : Cx Z x code maxL ret E) {a : Addr} (w1 : (Cond.methodLink x.cls idx y).before a0 Z = true) (w2 : (Cond.instanceMethod y).before a0 Z = true) (w3 : (Cond.initialized y.cls).before a0 Z = true) (w4 : (Cond.code y bytes mL none).before a0 Z = true) (hM : Met l Z y bytes mL none rm (.ref a :: as).toArray M Qc) (hst : st = as.reverse ++ .ref a :: rest) (hy1 : y.name = "<init>")
    (hd : decode code pc = .ok (.invokespecial idx, 3)) (hq : pc + 3 = q) (hy : y.cls ≠ "java/lang/invoke/MethodHandle" ∧ y.cls ≠ "java/lang/invoke/VarHandle") (hsz : Ls.size = maxL) {na W : Nat} (hlen : (parseMethodDescriptor y.desc).map (fun s => s.parameters.length) = some na) (hna : as.length = na) (hf : rm.frames + 1 ≤ R.frames) (hW : (rest.map fun v => v.category).sum = W) (hl : W + (mL + 11) + rm.locals ≤ R.locals) (hc : k + rm.cells ≤ R.cells) (hs : n + rm.slots ≤ R.slots) (hk : k + rm.cells = k') (hn : n + rm.slots = n')
    (hr : ∀ v M', Qc v M' → Go l Z R E Q M' k' n' q Ls (v.toList ++ rest)) : Go l Z R E Q M k n pc Ls st := by
  subst hna hW
  intro T locs X F r
  obtain ⟨v, _, ⟨T', L', c', s'⟩, -, X', ⟨Lc, hQ, l', y', z'⟩, hst'⟩ := Stand.specialBack X C.1 hy1 C.2.2.1 (mvT C.2.1 w1) (mvT C.2.1 w2) (mvT C.2.1 w4) hy (backOf (W := (rest.map fun v => v.category).sum) (h := T.heap) (Q := fun v h L => Fr Z.heap.size L ∧ ∃ M', Qc v M' ∧ Rep Z h M') (hM [] _ r) C.2.1 w4 w3 hf hl) (g := mkF E.2.2.2.1 pc Ls st) rfl (hsz.trans C.2.2.2.2.1.symm) (Steps.refl _) (a := a) (argsL := as) (rest := rest) (len_ok hlen) hst (by show 2 * 0 + _ ≤ _; omega) (hb C.2.2.2.1 hd) (fun _ _ => ⟨rfl, rfl, hc, hs⟩)
  dsimp only [Pt.U, Pt.locs, Pt.cells, Pt.slots] at X' l' y' z' hst' hQ
  obtain ⟨FL, M', hQ', r'⟩ := hQ
  subst l' y' z' hk hn
  obtain ⟨s₂, v, L, h1, h2⟩ := hr v M' hQ' T' _ X' (F.app FL) r'
  exact ⟨s₂, v, L, hst'.trans (hq ▸ h1), h2⟩
theorem Go.callV (C : Cx Z x code maxL ret E) {a : Addr} {K : String} {z : MethodName} (w1 : (Cond.methodLink x.cls idx y).before a0 Z = true) (w2 : (Cond.declares y).before a0 Z = true) (nf : ∀ s : State, Z.Warmed39 s.vm → NotFace s y) (w3 : (Cond.selects K y z).before a0 Z = true) (w4 : (Cond.instanceMethod z).before a0 Z = true) (w5 : (Cond.code z bytes mL rt).before a0 Z = true) (w6 : (Cond.initialized z.cls).before a0 Z = true) (H : ∀ h, Rep Z h M → Exa Z h a K) (hM : Met l Z z bytes mL rt rm (.ref a :: as).toArray M Qc) (hst : st = as.reverse ++ .ref a :: rest)
    (hd : decode code pc = .ok (.invokevirtual idx, 3)) (hq : pc + 3 = q) (hy : y.cls ≠ "java/lang/invoke/MethodHandle" ∧ y.cls ≠ "java/lang/invoke/VarHandle") (hsz : Ls.size = maxL) {na W : Nat} (hlen : (parseMethodDescriptor y.desc).map (fun s => s.parameters.length) = some na) (hna : as.length = na) (hf : rm.frames + 1 ≤ R.frames) (hW : (rest.map fun v => v.category).sum = W) (hl : W + (mL + 11) + rm.locals ≤ R.locals) (hc : k + rm.cells ≤ R.cells) (hs : n + rm.slots ≤ R.slots) (hk : k + rm.cells = k') (hn : n + rm.slots = n')
    (hr : ∀ v M', Qc v M' → Go l Z R E Q M' k' n' q Ls (v.toList ++ rest)) : Go l Z R E Q M k n pc Ls st := by
  subst hna hW
  intro T locs X F r
  have nf' : NotFace E.2.2.1 y := nf _ C.2.1
  obtain ⟨_, _, q1, q2, q3⟩ := isOf C.2.1 (rfl : T.heap = T.heap) (H _ r)
  obtain ⟨v, _, ⟨T', L', c', s'⟩, -, X', ⟨Lc, hQ, l', y', z'⟩, hst'⟩ := Stand.virtualBack X C.1 C.2.2.1 (mvT C.2.1 w1) (mvT C.2.1 w2) nf' (mvT C.2.1 w3) (mvT C.2.1 w4) hy (backOf (W := (rest.map fun v => v.category).sum) (h := T.heap) (Q := fun v h L => Fr Z.heap.size L ∧ ∃ M', Qc v M' ∧ Rep Z h M') (hM [] _ r) C.2.1 w5 w6 hf hl) q1 q3 (g := mkF E.2.2.2.1 pc Ls st) rfl (hsz.trans C.2.2.2.2.1.symm) (Steps.refl _) (argsL := as) (rest := rest) (len_ok hlen) hst (by show 2 * 0 + _ ≤ _; omega) (hb C.2.2.2.1 hd) (fun _ _ => ⟨rfl, rfl, hc, hs⟩)
  dsimp only [Pt.U, Pt.locs, Pt.cells, Pt.slots] at X' l' y' z' hst' hQ
  obtain ⟨FL, M', hQ', r'⟩ := hQ
  subst l' y' z' hk hn
  obtain ⟨s₂, v, L, h1, h2⟩ := hr v M' hQ' T' _ X' (F.app FL) r'
  exact ⟨s₂, v, L, hst'.trans (hq ▸ h1), h2⟩
theorem Go.callU (C : Cx Z x code maxL ret E) {a : Addr} {K owner : String} {z : MethodName} (w1 : (Cond.methodLink x.cls idx y).before a0 Z = true) (w2 : (Cond.sameMethod y.cls owner y.name y.desc).before a0 Z = true) (w2' : (Cond.declares ⟨owner, y.name, y.desc⟩).before a0 Z = true) (w3 : (Cond.selects K y z).before a0 Z = true) (w4 : (Cond.instanceMethod z).before a0 Z = true) (w5 : (Cond.code z bytes mL rt).before a0 Z = true) (w6 : (Cond.initialized z.cls).before a0 Z = true) (H : ∀ h, Rep Z h M → Exa Z h a K) (hM : Met l Z z bytes mL rt rm (.ref a :: as).toArray M Qc) (hst : st = as.reverse ++ .ref a :: rest)
    (hd : decode code pc = .ok (.invokevirtual idx, 3)) (hq : pc + 3 = q) (hy : owner ≠ "java/lang/invoke/MethodHandle" ∧ owner ≠ "java/lang/invoke/VarHandle") (hsz : Ls.size = maxL) {na W : Nat} (hlen : (parseMethodDescriptor y.desc).map (fun s => s.parameters.length) = some na) (hna : as.length = na) (hf : rm.frames + 1 ≤ R.frames) (hW : (rest.map fun v => v.category).sum = W) (hl : W + (mL + 11) + rm.locals ≤ R.locals) (hc : k + rm.cells ≤ R.cells) (hs : n + rm.slots ≤ R.slots) (hk : k + rm.cells = k') (hn : n + rm.slots = n')
    (hr : ∀ v M', Qc v M' → Go l Z R E Q M' k' n' q Ls (v.toList ++ rest)) : Go l Z R E Q M k n pc Ls st := by
  subst hna hW
  intro T locs X F r
  obtain ⟨_, _, q1, q2, q3⟩ := isOf C.2.1 (rfl : T.heap = T.heap) (H _ r)
  obtain ⟨v, _, ⟨T', L', c', s'⟩, -, X', ⟨Lc, hQ, l', y', z'⟩, hst'⟩ := Stand.virtualBackUp X C.1 C.2.2.1 (mvT C.2.1 w1) (mvT C.2.1 w2) (mvT C.2.1 w2') hy (mvT C.2.1 w3) (mvT C.2.1 w4) (backOf (W := (rest.map fun v => v.category).sum) (h := T.heap) (Q := fun v h L => Fr Z.heap.size L ∧ ∃ M', Qc v M' ∧ Rep Z h M') (hM [] _ r) C.2.1 w5 w6 hf hl) q1 q3 (g := mkF E.2.2.2.1 pc Ls st) rfl (hsz.trans C.2.2.2.2.1.symm) (Steps.refl _) (argsL := as) (rest := rest) (len_ok hlen) hst (by show 2 * 0 + _ ≤ _; omega) (hb C.2.2.2.1 hd) (fun _ _ => ⟨rfl, rfl, hc, hs⟩)
  dsimp only [Pt.U, Pt.locs, Pt.cells, Pt.slots] at X' l' y' z' hst' hQ
  obtain ⟨FL, M', hQ', r'⟩ := hQ
  subst l' y' z' hk hn
  obtain ⟨s₂, v, L, h1, h2⟩ := hr v M' hQ' T' _ X' (F.app FL) r'
  exact ⟨s₂, v, L, hst'.trans (hq ▸ h1), h2⟩
theorem Go.callP (C : Cx Z x code maxL ret E) {a : Addr} {K : String} (w1 : (Cond.methodLink x.cls idx y).before a0 Z = true) (w2 : (Cond.instanceMethod y).before a0 Z = true) (w3 : (Cond.selects y.cls y y).before a0 Z = true) (w4 : (Cond.privateMethod y).before a0 Z = true) (w5 : (Cond.code y bytes mL rt).before a0 Z = true) (w6 : (Cond.initialized y.cls).before a0 Z = true) (H : ∀ h, Rep Z h M → Exa Z h a K) (hM : Met l Z y bytes mL rt rm (.ref a :: as).toArray M Qc) (hst : st = as.reverse ++ .ref a :: rest)
    (hd : decode code pc = .ok (.invokevirtual idx, 3)) (hq : pc + 3 = q) (hy : y.cls ≠ "java/lang/invoke/MethodHandle" ∧ y.cls ≠ "java/lang/invoke/VarHandle") (hsz : Ls.size = maxL) {na W : Nat} (hlen : (parseMethodDescriptor y.desc).map (fun s => s.parameters.length) = some na) (hna : as.length = na) (hf : rm.frames + 1 ≤ R.frames) (hW : (rest.map fun v => v.category).sum = W) (hl : W + (mL + 11) + rm.locals ≤ R.locals) (hc : k + rm.cells ≤ R.cells) (hs : n + rm.slots ≤ R.slots) (hk : k + rm.cells = k') (hn : n + rm.slots = n')
    (hr : ∀ v M', Qc v M' → Go l Z R E Q M' k' n' q Ls (v.toList ++ rest)) : Go l Z R E Q M k n pc Ls st := by
  subst hna hW
  intro T locs X F r
  obtain ⟨cq, q1, q2⟩ := (H _ r).cell
  obtain ⟨v, _, ⟨T', L', c', s'⟩, -, X', ⟨Lc, hQ, l', y', z'⟩, hst'⟩ := Stand.privateBack X C.1 C.2.2.1 (mvT C.2.1 w1) (mvT C.2.1 w2) (mvT C.2.1 w3) (Cond.privateMethod_at (mvP C.2.1 w4 (args := #[]))) (mvT C.2.1 w5) hy (backOf (W := (rest.map fun v => v.category).sum) (h := T.heap) (Q := fun v h L => Fr Z.heap.size L ∧ ∃ M', Qc v M' ∧ Rep Z h M') (hM [] _ r) C.2.1 w5 w6 hf hl) (g := mkF E.2.2.2.1 pc Ls st) rfl (hsz.trans C.2.2.2.2.1.symm) (Steps.refl _) q1 q2 (argsL := as) (rest := rest) (len_ok hlen) hst (by show 2 * 0 + _ ≤ _; omega) (hb C.2.2.2.1 hd) (fun _ _ => ⟨rfl, rfl, hc, hs⟩)
  dsimp only [Pt.U, Pt.locs, Pt.cells, Pt.slots] at X' l' y' z' hst' hQ
  obtain ⟨FL, M', hQ', r'⟩ := hQ
  subst l' y' z' hk hn
  obtain ⟨s₂, v, L, h1, h2⟩ := hr v M' hQ' T' _ X' (F.app FL) r'
  exact ⟨s₂, v, L, hst'.trans (hq ▸ h1), h2⟩
end Calls
/-! returns -/
theorem Go.ret0 (C : Cx Z x code maxL ret E) (hret : ret = none) (hd : decode code pc = .ok (.return_, 1)) (hc : k ≤ R.cells) (hs : n ≤ R.slots) (hQ : Q none M) : Go l Z R E Q M k n pc Ls [] := by
  intro T locs X F r
  obtain ⟨fs, hr, hrun, hended, hW, hsame⟩ := Stand.leave X (v := none) (fun _ => rfl) C.2.2.2.2.2.2.1
  exact ⟨_, none, locs, Stand.returnOut X C.1 (C.2.2.2.2.2.1.trans hret) (hb C.2.2.2.1 hd) hr, hrun, hended, F, ⟨M, hQ, r⟩, ⟨_, rfl⟩, hW, hsame.mono hc hs⟩
theorem Go.retW (C : Cx Z x code maxL ret E) {t : FieldType} {i : Instr} {w : Value} (hret : ret = some t) (hn : narrow t w = w)
    (hi : (i = .ireturn ∧ (t = .int ∨ t = .boolean ∨ t = .byte ∨ t = .char ∨ t = .short) ∧ ∃ z, w = .int z) ∨ (i = .lreturn ∧ t = .long ∧ ∃ z, w = .long z) ∨ (i = .dreturn ∧ t = .double ∧ ∃ z, w = .double z) ∨ (i = .freturn ∧ t = .float ∧ ∃ z, w = .float z) ∨ (i = .areturn ∧ t.isReference = true ∧ w.isRef = true))
    (hd : decode code pc = .ok (i, 1)) (hc : k ≤ R.cells) (hs : n ≤ R.slots) (hQ : Q (some w) M) : Go l Z R E Q M k n pc Ls (w :: st) := by
  intro T locs X F r
  obtain ⟨fs, hr, hrun, hended, hW, hsame⟩ := Stand.leave X (v := some w) (fun h => by rw [C.2.2.2.2.2.1, hret] at h; cases h) C.2.2.2.2.2.2.1
  exact ⟨_, some w, locs, retOut X C.1 (C.2.2.2.2.2.1.trans hret) hn hi (hb C.2.2.2.1 hd) hr, hrun, hended, F, ⟨M, hQ, r⟩, ⟨_, rfl⟩, hW, hsame.mono hc hs⟩
theorem Go.retI (C : Cx Z x code maxL ret E) {z : Int32} (hret : ret = some .int) (hd : decode code pc = .ok (.ireturn, 1)) (hc : k ≤ R.cells) (hs : n ≤ R.slots) (hQ : Q (some (.int z)) M) : Go l Z R E Q M k n pc Ls (.int z :: st) :=
  Go.retW C hret rfl (Or.inl ⟨rfl, Or.inl rfl, _, rfl⟩) hd hc hs hQ
theorem Go.retL (C : Cx Z x code maxL ret E) {z : Int64} (hret : ret = some .long) (hd : decode code pc = .ok (.lreturn, 1)) (hc : k ≤ R.cells) (hs : n ≤ R.slots) (hQ : Q (some (.long z)) M) : Go l Z R E Q M k n pc Ls (.long z :: st) :=
  Go.retW C hret rfl (Or.inr (Or.inl ⟨rfl, rfl, _, rfl⟩)) hd hc hs hQ
theorem Go.retZ (C : Cx Z x code maxL ret E) {z : Int32} (hret : ret = some .boolean) (hz : z &&& 1 = z) (hd : decode code pc = .ok (.ireturn, 1)) (hc : k ≤ R.cells) (hs : n ≤ R.slots) (hQ : Q (some (.int z)) M) : Go l Z R E Q M k n pc Ls (.int z :: st) :=
  Go.retW C hret (congrArg Value.int hz) (Or.inl ⟨rfl, Or.inr (Or.inl rfl), _, rfl⟩) hd hc hs hQ
theorem Go.retA (C : Cx Z x code maxL ret E) {t : FieldType} {w : Value} (hret : ret = some t) (ht : t.isReference = true) (hw : w.isRef = true) (hd : decode code pc = .ok (.areturn, 1)) (hc : k ≤ R.cells) (hs : n ≤ R.slots) (hQ : Q (some w) M) : Go l Z R E Q M k n pc Ls (w :: st) :=
  Go.retW C hret (by cases t <;> first | (cases ht; done) | rfl) (Or.inr (Or.inr (Or.inr (Or.inr ⟨rfl, ht, hw⟩)))) hd hc hs hQ
end Walk
/-! entries that have been resolved already, and a private constructor of a nest mate -/
section Ready
variable {p : Program} {l : Launch} {e : Env} {R : Room} {s : State} {m : MethodId} {args : Array Value} {below : List Frame} {meth : Method} {c : Code} {T : State} {locs : List Loc} {cells slots : Nat}
theorem getReady (X : Stand p l e R s m args below meth c T locs cells slots) (hexec : p.tables.exec = Jvm.exec) {index cf : Nat} {f : Field} (hready : T.vm.fieldReady m.cls index cf f) (hst : f.isStatic = false) {a : Addr} {cell : Cell} {v : Value} (hcell : T.heap[a]? = some cell) (hknown : cell.vm ≠ .unknown) (hslot : cell.slots[f.slot]? = some v)
    {g : JFrame} (hg : g.method = m) {rest : List Value} (hstack : g.stack = .ref a :: rest) (hdg : decode c.code g.pc = .ok (.getfield index, 3)) : ∀ target, Steps p.tables e below (T.setTop { g with pc := g.pc + 3, stack := v :: rest }) target → Steps p.tables e below (T.setTop g) target := by
  intro target hrest
  subst hg
  jvm_step X.here [hexec, hdg, getfield.wp_ready (e := e) (s := T) (f := g) X.here.top hready hst hstack hcell hknown hslot]
  exact hrest
theorem virtReady (X : Stand p l e R s m args below meth c T locs cells slots) (hexec : p.tables.exec = Jvm.exec) {index : Nat} {r0 : MethodId} {r : Method} {kr : Class} (hres : namesResolved T.vm m.cls index r0.cls) (hready : T.vm.methodReady m.cls index r0) (hkr : T.vm.classes[r0.cls]? = some kr) (hni : kr.isInterface = false) (hnp : signaturePolymorphic kr r = false) (hrm : T.vm.method? r0 = some r) (hstatic : r.isStatic = false)
    {a : Addr} {cell : Cell} (hcell : T.heap[a]? = some cell) (hobj : ∀ c, cell.vm ≠ .statics c) (hsel : selectMethod e.platform T.vm cell.cls r0 = .method r0) (habs : r.isAbstract = false) {g : JFrame} (hg : g.method = m) {argsL rest : List Value} (hlen : argsL.length = r.sig.parameters.length) (hstack : g.stack = argsL.reverse ++ .ref a :: rest) (hdg : decode c.code g.pc = .ok (.invokevirtual index, 3)) :
    ∀ target, (∀ acts, Steps p.tables e below (doInvoke e (T.setTop { g with stack := rest }) acts r0 (.ref a :: argsL).toArray).1 target) → Steps p.tables e below (T.setTop g) target := by
  intro target hrest
  subst hg
  jvm_step X.here [hexec, hdg, invokevirtual.wp_named (e := e) (s := T) (f := g) (r := r0) (m := r0) (c' := r0.cls) (k := kr) (k' := kr) (mk := kr) (rmeth := r) (meth := r) (a := a) (args := argsL) (rest := rest) (cell := cell) X.here.top hres hkr hni hready hkr hrm hnp hstatic hlen hstack hcell hobj hsel hrm habs hkr hni]
  exact hrest
theorem initReady (X : Stand p l e R s m args below meth c T locs cells slots) (hexec : p.tables.exec = Jvm.exec) {index : Nat} {r0 : MethodId} {r : Method} {kr : Class} (hres : namesResolved T.vm m.cls index r0.cls) (hready : T.vm.methodReady m.cls index r0) (hkr : T.vm.classes[r0.cls]? = some kr) (hrm : T.vm.method? r0 = some r) (hname : r.name = "<init>") (hstatic : r.isStatic = false) (habs : r.isAbstract = false) (hfound : lookupSpecial T.vm r0.cls "<init>" r.desc = .method r0)
    {a : Addr} {g : JFrame} (hg : g.method = m) {argsL rest : List Value} (hlen : argsL.length = r.sig.parameters.length) (hstack : g.stack = argsL.reverse ++ .ref a :: rest) (hdg : decode c.code g.pc = .ok (.invokespecial index, 3)) :
    ∀ target, (∀ acts, Steps p.tables e below (doInvoke e (T.setTop { g with stack := rest }) acts r0 (.ref a :: argsL).toArray).1 target) → Steps p.tables e below (T.setTop g) target := by
  intro target hrest
  subst hg
  jvm_step X.here [hexec, hdg, invokespecial.wp_init (e := e) (s := T) (k := kr) (meth := r) (m := r0) (a := a) (args := argsL) (rest := rest) (f := g) X.here.top hres hready hkr hrm hname hstatic habs hfound hlen hstack]
  exact hrest
/-- what a resolved entry says where the walk stands -/
theorem ref_now (X : Stand p l e R s m args below meth c T locs cells slots) {Z : State} {a0 : Array Value} (hZ : Z.Warmed39 s.vm) {own : String} {index : Nat} {y : MethodName} (hown : s.vm.findClass own = some m.cls) (w : (Cond.methodRef own index y).before a0 Z = true) (hy : y.cls ≠ "java/lang/invoke/MethodHandle" ∧ y.cls ≠ "java/lang/invoke/VarHandle") {mk : MethodId} (hn : s.methodNamed? y = some mk) :
    T.vm.methodReady m.cls index mk ∧ namesResolved T.vm m.cls index mk.cls := by
  have hW : Z.Warmed39 T.vm := wtrans hZ X.warmed
  have hnT : T.methodNamed? y = some mk := X.named hn
  have hnZ : Z.methodNamed? y = some mk := by
    have q : (Z.setVm s.vm).methodNamed? y = some mk := hn
    rw [State.methodNamed?_setVm hZ.alike] at q
    exact q
  have w1 : (Cond.methodRef own index y).before a0 (Z.setVm T.vm) = true := Cond.methodRef_warmed39 hW hnZ hy w
  have w2 : (Cond.methodRef own index y).before a0 T = true := w1
  have hownT : T.vm.findClass own = some m.cls := by rw [X.warmed.alike.findClass]; exact hown
  obtain ⟨m', c', h1, h2, h3, h4⟩ := Cond.methodRef_named e hownT w2
  cases (State.methodFound?_of_named hnT hy).symm.trans h1
  cases (findClass_of_methodNamed hnT).symm.trans h3
  exact ⟨h2, h4⟩
end Ready
section Walk2
variable {l : Launch} {Z : State} {R : Room} {E : E0} {Q : PQ} {M : List Ent} {k n pc q : Nat} {Ls Ls' : Array Slot} {st : List Value} {x : MethodName} {code : ByteArray} {maxL : Nat} {ret : Option FieldType} {a0 : Array Value}
variable {y : MethodName} {bytes : ByteArray} {mL : Nat} {rt : Option FieldType} {rm : Room} {as rest : List Value} {Qc : PQ} {idx k' n' : Nat}
theorem Go.getR (C : Cx Z x code maxL ret E) {idx : Nat} {O nm d : String} {a : Addr} {v : Value} (w : (Cond.fieldRef x.cls idx O nm d).before a0 Z = true) (H : ∀ h, Rep Z h M → Fld Z h a O nm d v) (hd : decode code pc = .ok (.getfield idx, 3)) (hq : pc + 3 = q) (hr : Go l Z R E Q M k n q Ls (v :: st)) : Go l Z R E Q M k n pc Ls (.ref a :: st) := by
  intro T locs X F r
  have hW : Z.Warmed39 T.vm := wtrans C.2.1 X.warmed
  have w1 : (Cond.fieldRef x.cls idx O nm d).before a0 (Z.setVm T.vm) = true := Cond.fieldRef_warmed39 hW w
  have hown : (Z.setVm T.vm).vm.findClass x.cls = some E.2.2.2.1.cls := by
    show T.vm.findClass x.cls = _
    rw [X.warmed.alike.findClass]
    exact C.2.2.1
  obtain ⟨cf, kk, i, f, h1, h2⟩ := Cond.fieldRef_spec hown w1
  obtain ⟨cell, cf', k', i', f', g1, g2, g3, g4, -, -, g7⟩ := H _ r
  obtain ⟨k2, hi, -⟩ := State.fieldFound?_setVm (s := Z) hW.alike g2
  cases hi.symm.trans h1
  obtain ⟨s₂, v, L, p1, p2⟩ := hr T locs X F r
  exact ⟨s₂, v, L, getReady X C.1 (show T.vm.fieldReady E.2.2.2.1.cls idx _ _ from h2) g3 g1 g4 g7 (g := mkF E.2.2.2.1 pc Ls (.ref a :: st)) rfl rfl (hb C.2.2.2.1 hd) _ (hq ▸ p1), p2⟩
theorem Go.callPR (C : Cx Z x code maxL ret E) {a : Addr} {K : String} (w1 : (Cond.methodRef x.cls idx y).before a0 Z = true) (w2 : (Cond.instanceMethod y).before a0 Z = true) (w3 : (Cond.selects y.cls y y).before a0 Z = true) (w4 : (Cond.privateMethod y).before a0 Z = true) (w5 : (Cond.code y bytes mL rt).before a0 Z = true) (w6 : (Cond.initialized y.cls).before a0 Z = true) (H : ∀ h, Rep Z h M → Exa Z h a K) (hM : Met l Z y bytes mL rt rm (.ref a :: as).toArray M Qc) (hst : st = as.reverse ++ .ref a :: rest)
    (hd : decode code pc = .ok (.invokevirtual idx, 3)) (hq : pc + 3 = q) (hy : y.cls ≠ "java/lang/invoke/MethodHandle" ∧ y.cls ≠ "java/lang/invoke/VarHandle") (hsz : Ls.size = maxL) {na W : Nat} (hlen : (parseMethodDescriptor y.desc).map (fun s => s.parameters.length) = some na) (hna : as.length = na) (hf : rm.frames + 1 ≤ R.frames) (hW : (rest.map fun v => v.category).sum = W) (hl : W + (mL + 11) + rm.locals ≤ R.locals) (hc : k + rm.cells ≤ R.cells) (hs : n + rm.slots ≤ R.slots) (hk : k + rm.cells = k') (hn : n + rm.slots = n')
    (hr : ∀ v M', Qc v M' → Go l Z R E Q M' k' n' q Ls (v.toList ++ rest)) : Go l Z R E Q M k n pc Ls st := by
  subst hna hW
  intro T locs X F r
  obtain ⟨cell, q1, q2⟩ := (H _ r).cell
  obtain ⟨mk, methM, hnamed, hmethM, hstM, habM⟩ := Cond.instanceMethod_spec (mvT (args := E.2.2.2.2.1) C.2.1 w2)
  obtain ⟨methM', cM, hmethM', -, -, -, -, -, -, hsigM⟩ := Cond.code_spec hnamed (mvT (args := E.2.2.2.2.1) C.2.1 w5)
  cases hmethM.symm.trans hmethM'
  obtain ⟨c2, r2, m2, -, -, q3, -, kP, hkP, hkPi⟩ := Cond.selects_spec (mvT (args := E.2.2.2.2.1) C.2.1 w3)
  cases hnamed.symm.trans q3
  have hpriv := Cond.privateMethod_at (mvP C.2.1 w4 (args := #[]))
  obtain ⟨r1, r2⟩ := ref_now X C.2.1 C.2.2.1 w1 hy hnamed
  have al := X.warmed.alike
  obtain ⟨kr, hkr, her⟩ := al.2.2 _ _ hkP
  have hrmT : T.vm.method? mk = some methM := by rw [al.method?]; exact hmethM
  obtain ⟨kx, hkx, hnx⟩ := className_of_methodNamed hnamed
  cases hkP.symm.trans hkx
  have hselP : selectMethod E.2.1.platform T.vm cell.cls mk = .method mk := by
    rw [al.selectMethod]
    exact selectMethod_private hmethM (hpriv mk methM hnamed hmethM)
  have hstep := virtReady X C.1 r2 r1 hkr (by rw [her]; exact hkPi) (by
    have h1 : kr.name = y.cls := by rw [her]; exact hnx
    simp [signaturePolymorphic, h1, hy.1, hy.2]) hrmT hstM q1 q2 hselP habM (g := mkF E.2.2.2.1 pc Ls st) rfl (argsL := as) (rest := rest) (len_ok hlen _ hsigM) hst (hb C.2.2.2.1 hd)
  have hK := backOf (R := R) (p := E.1) (e := E.2.1) (below := E.2.2.2.2.2.1) (s := E.2.2.1) (args := E.2.2.2.2.1) (len := 3) (W := (rest.map fun v => v.category).sum) (h := T.heap) (Q := fun v h L => Fr Z.heap.size L ∧ ∃ M', Qc v M' ∧ Rep Z h M') (hM [] _ r) C.2.1 w5 w6 hf hl
  obtain ⟨v, ⟨T', L', c', s'⟩, X', ⟨Lc, hQ, l', y', z'⟩, hsteps⟩ := hK E.2.2.2.1 E.2.2.2.2.2.2.1 E.2.2.2.2.2.2.2 ⟨T, locs, k, n⟩ (mkF E.2.2.2.1 pc Ls rest) (.invokevirtual idx) mk (.ref a :: as).toArray X rfl (hsz.trans C.2.2.2.2.1.symm) (hb C.2.2.2.1 hd) (by show 2 * 0 + (rest.map fun v => v.category).sum ≤ _; omega) (X.named hnamed) ⟨rfl, rfl, hc, hs⟩
  dsimp only [Pt.U, Pt.locs, Pt.cells, Pt.slots] at X' l' y' z' hsteps hQ
  obtain ⟨FL, M', hQ', r'⟩ := hQ
  subst l' y' z' hk hn
  obtain ⟨s₂, v, L, h1, h2⟩ := hr v M' hQ' T' _ X' (F.app FL) r'
  exact ⟨s₂, v, L, hstep _ fun acts => by rw [doInvoke_state]; exact hsteps.trans (hq ▸ h1), h2⟩
theorem Go.callIR (C : Cx Z x code maxL ret E) {a : Addr} (w1 : (Cond.methodRef x.cls idx y).before a0 Z = true) (w2 : (Cond.instanceMethod y).before a0 Z = true) (w3 : (Cond.initialized y.cls).before a0 Z = true) (w4 : (Cond.code y bytes mL none).before a0 Z = true) (hM : Met l Z y bytes mL none rm (.ref a :: as).toArray M Qc) (hst : st = as.reverse ++ .ref a :: rest) (hy1 : y.name = "<init>")
    (hd : decode code pc = .ok (.invokespecial idx, 3)) (hq : pc + 3 = q) (hy : y.cls ≠ "java/lang/invoke/MethodHandle" ∧ y.cls ≠ "java/lang/invoke/VarHandle") (hsz : Ls.size = maxL) {na W : Nat} (hlen : (parseMethodDescriptor y.desc).map (fun s => s.parameters.length) = some na) (hna : as.length = na) (hf : rm.frames + 1 ≤ R.frames) (hW : (rest.map fun v => v.category).sum = W) (hl : W + (mL + 11) + rm.locals ≤ R.locals) (hc : k + rm.cells ≤ R.cells) (hs : n + rm.slots ≤ R.slots) (hk : k + rm.cells = k') (hn : n + rm.slots = n')
    (hr : ∀ v M', Qc v M' → Go l Z R E Q M' k' n' q Ls (v.toList ++ rest)) : Go l Z R E Q M k n pc Ls st := by
  subst hna hW
  intro T locs X F r
  obtain ⟨mk, methM, hnamed, hmethM, hstM, habM⟩ := Cond.instanceMethod_spec (mvT (args := E.2.2.2.2.1) C.2.1 w2)
  obtain ⟨methM', cM, hmethM', -, -, -, -, -, -, hsigM⟩ := Cond.code_spec hnamed (mvT (args := E.2.2.2.2.1) C.2.1 w4)
  cases hmethM.symm.trans hmethM'
  obtain ⟨kP, hkP, hnx⟩ := className_of_methodNamed hnamed
  obtain ⟨hnameM, hdescM⟩ := name_of_methodNamed hnamed hmethM
  obtain ⟨r1, r2⟩ := ref_now X C.2.1 C.2.2.1 w1 hy hnamed
  have al := X.warmed.alike
  obtain ⟨kr, hkr, her⟩ := al.2.2 _ _ hkP
  have hrmT : T.vm.method? mk = some methM := by rw [al.method?]; exact hmethM
  have hfound : lookupSpecial T.vm mk.cls "<init>" methM.desc = .method mk := by
    rw [al.lookupSpecial, hdescM, ← hy1]
    exact lookupSpecial_of_named hnamed hmethM hstM
  have hstep := initReady X C.1 r2 r1 hkr hrmT (by rw [hnameM]; exact hy1) hstM habM hfound (a := a) (g := mkF E.2.2.2.1 pc Ls st) rfl (argsL := as) (rest := rest) (len_ok hlen _ hsigM) hst (hb C.2.2.2.1 hd)
  have hK := backOf (R := R) (p := E.1) (e := E.2.1) (below := E.2.2.2.2.2.1) (s := E.2.2.1) (args := E.2.2.2.2.1) (len := 3) (W := (rest.map fun v => v.category).sum) (h := T.heap) (Q := fun v h L => Fr Z.heap.size L ∧ ∃ M', Qc v M' ∧ Rep Z h M') (hM [] _ r) C.2.1 w4 w3 hf hl
  obtain ⟨v, ⟨T', L', c', s'⟩, X', ⟨Lc, hQ, l', y', z'⟩, hsteps⟩ := hK E.2.2.2.1 E.2.2.2.2.2.2.1 E.2.2.2.2.2.2.2 ⟨T, locs, k, n⟩ (mkF E.2.2.2.1 pc Ls rest) (.invokespecial idx) mk (.ref a :: as).toArray X rfl (hsz.trans C.2.2.2.2.1.symm) (hb C.2.2.2.1 hd) (by show 2 * 0 + (rest.map fun v => v.category).sum ≤ _; omega) (X.named hnamed) ⟨rfl, rfl, hc, hs⟩
  dsimp only [Pt.U, Pt.locs, Pt.cells, Pt.slots] at X' l' y' z' hsteps hQ
  obtain ⟨FL, M', hQ', r'⟩ := hQ
  subst l' y' z' hk hn
  obtain ⟨s₂, v, L, h1, h2⟩ := hr v M' hQ' T' _ X' (F.app FL) r'
  exact ⟨s₂, v, L, hstep _ fun acts => by rw [doInvoke_state]; exact hsteps.trans (hq ▸ h1), h2⟩
theorem Go.callIN (C : Cx Z x code maxL ret E) {a : Addr} {host : String} (w1 : (Cond.methodLinkNest x.cls idx y host).before a0 Z = true) (w2 : (Cond.instanceMethod y).before a0 Z = true) (w3 : (Cond.initialized y.cls).before a0 Z = true) (w4 : (Cond.code y bytes mL none).before a0 Z = true) (hM : Met l Z y bytes mL none rm (.ref a :: as).toArray M Qc) (hst : st = as.reverse ++ .ref a :: rest) (hy1 : y.name = "<init>")
    (hd : decode code pc = .ok (.invokespecial idx, 3)) (hq : pc + 3 = q) (hy : y.cls ≠ "java/lang/invoke/MethodHandle" ∧ y.cls ≠ "java/lang/invoke/VarHandle") (hsz : Ls.size = maxL) {na W : Nat} (hlen : (parseMethodDescriptor y.desc).map (fun s => s.parameters.length) = some na) (hna : as.length = na) (hf : rm.frames + 1 ≤ R.frames) (hW : (rest.map fun v => v.category).sum = W) (hl : W + (mL + 11) + rm.locals ≤ R.locals) (hc : k + rm.cells ≤ R.cells) (hs : n + rm.slots ≤ R.slots) (hk : k + rm.cells = k') (hn : n + rm.slots = n')
    (hr : ∀ v M', Qc v M' → Go l Z R E Q M' k' n' q Ls (v.toList ++ rest)) : Go l Z R E Q M k n pc Ls st := by
  subst hna hW
  intro T locs X F r
  have w1' : (Cond.methodLinkNest x.cls idx y host).before a0 (Z.setVm E.2.2.1.vm) = true := Cond.methodLinkNest_wide C.2.1 w1
  obtain ⟨v, _, ⟨T', L', c', s'⟩, -, X', ⟨Lc, hQ, l', y', z'⟩, hst'⟩ := Stand.specialBackNest X C.1 hy1 C.2.2.1 (show (Cond.methodLinkNest x.cls idx y host).before E.2.2.2.2.1 E.2.2.1 = true from w1') (mvT C.2.1 w2) (mvT C.2.1 w4) hy (backOf (W := (rest.map fun v => v.category).sum) (h := T.heap) (Q := fun v h L => Fr Z.heap.size L ∧ ∃ M', Qc v M' ∧ Rep Z h M') (hM [] _ r) C.2.1 w4 w3 hf hl) (g := mkF E.2.2.2.1 pc Ls st) rfl (hsz.trans C.2.2.2.2.1.symm) (Steps.refl _) (a := a) (argsL := as) (rest := rest) (len_ok hlen) hst (by show 2 * 0 + _ ≤ _; omega) (hb C.2.2.2.1 hd) (fun _ _ => ⟨rfl, rfl, hc, hs⟩)
  dsimp only [Pt.U, Pt.locs, Pt.cells, Pt.slots] at X' l' y' z' hst' hQ
  obtain ⟨FL, M', hQ', r'⟩ := hQ
  subst l' y' z' hk hn
  obtain ⟨s₂, v, L, h1, h2⟩ := hr v M' hQ' T' _ X' (F.app FL) r'
  exact ⟨s₂, v, L, hst'.trans (hq ▸ h1), h2⟩
end Walk2
theorem nar_ref {t : FieldType} {v : Value} (h : v.isRef = true) : narrow t v = v := by rcases ref_cases h with rfl | ⟨a, rfl⟩ <;> cases t <;> rfl
theorem fit_obj {K : String} {v : Value} (h : v.isRef = true) : fits (.object K) v = true := by rcases ref_cases h with rfl | ⟨a, rfl⟩ <;> rfl
theorem fld_of_eq {Z : State} {args : Array Value} {t : Term} {a : Addr} {C nm d : String} {k : Int32} (ev : t.eval args Z none [] Z = some (.ref a)) (h : (Cond.eq (.field t C nm d) (.int k)).value args Z none Z [] = some true) : Fld Z Z.heap a C nm d (.int k) := by
  obtain ⟨x, y, h1, h2, h3, h4⟩ := cmp_v (Or.inl h)
  have h2' : (Term.int k).eval args Z none [] Z = some (.int k) := rfl
  have hy : y = .int k := Option.some.inj (h2.symm.trans h2')
  subst hy
  obtain ⟨z, rfl⟩ := h4
  have : z = k := by
    have h5 : (Cond.eq (.field t C nm d) (.int k)).value args Z none Z [] = some (decide (z = k)) := by simp [Cond.value, h1, h2]
    rw [h5] at h
    exact of_decide_eq_true (Option.some.inj h)
  subst this
  rw [fld_at ev] at h1
  exact Fld.start h1
theorem mask_nn (x : Int32) : ¬ (x &&& 2147483647) < 0 := fun h => absurd ((XT.and_neg32 _ _).mp h).2 (by decide)
theorem rem_mask (x d : Int32) (hd : 0 < d.toInt) : 0 ≤ ((x &&& 2147483647) % d).toInt ∧ ((x &&& 2147483647) % d).toInt < d.toInt := by
  have h := mask_nn x
  rw [XT.negI32] at h
  rw [Int32.toInt_mod, Int.tmod_eq_emod_of_nonneg (by omega)]
  exact ⟨Int.emod_nonneg _ (by omega), Int.emod_lt_of_pos _ hd⟩
theorem bool_ok {b : Int32} (h : b = 0 ∨ b = 1) : narrow .boolean (.int b) = .int b ∧ fits .boolean (.int b) = true := by rcases h with rfl | rfl <;> exact ⟨rfl, rfl⟩
theorem ite01 {P : Prop} [Decidable P] : (if P then (1 : Int32) else 0) = 0 ∨ (if P then (1 : Int32) else 0) = 1 := by split <;> simp
theorem ite10 {P : Prop} [Decidable P] : (if P then (0 : Int32) else 1) = 0 ∨ (if P then (0 : Int32) else 1) = 1 := by split <;> simp
theorem and1 {b : Int32} (h : b = 0 ∨ b = 1) : b &&& 1 = b := by rcases h with rfl | rfl <;> rfl
theorem fld_ev {Z : State} {args : Array Value} {t : Term} {a : Addr} {C nm d : String} {v : Value} (ev : t.eval args Z none [] Z = some (.ref a)) (h : (Term.field t C nm d).eval args Z none [] Z = some v) : Fld Z Z.heap a C nm d v := Fld.start ((fld_at ev).symm.trans h)
theorem eq_int {Z : State} {args : Array Value} {idx : List Nat} {t u : Term} {k : Int32} (hu : u.eval args Z none idx Z = some (.int k)) (h : (Cond.eq t u).value args Z none Z idx = some true) : t.eval args Z none idx Z = some (.int k) := by
  obtain ⟨x, y, h1, h2, h3, h4⟩ := cmp_v (Or.inl h)
  have hy : y = .int k := Option.some.inj (h2.symm.trans hu)
  subst hy
  obtain ⟨z, rfl⟩ := h4
  have : z = k := by
    have h5 : (Cond.eq t u).value args Z none Z idx = some (decide (z = k)) := by simp [Cond.value, h1, h2]
    rw [h5] at h
    exact of_decide_eq_true (Option.some.inj h)
  rw [h1, this]
theorem int_of_eq {Z : State} {args : Array Value} {idx : List Nat} {t : Term} {k : Int32} (h : (Cond.eq t (.int k)).value args Z none Z idx = some true) : t.eval args Z none idx Z = some (.int k) := by
  obtain ⟨x, y, h1, h2, h3, h4⟩ := cmp_v (Or.inl h)
  have h2' : (Term.int k).eval args Z none idx Z = some (.int k) := rfl
  have hy : y = .int k := Option.some.inj (h2.symm.trans h2')
  subst hy
  obtain ⟨z, rfl⟩ := h4
  have : z = k := by
    have h5 : (Cond.eq t (.int k)).value args Z none Z idx = some (decide (z = k)) := by simp [Cond.value, h1, h2]
    rw [h5] at h
    exact of_decide_eq_true (Option.some.inj h)
  rw [h1, this]
theorem len_of_eq {Z : State} {args : Array Value} {t : Term} {a : Addr} {c : Cell} {ty : FieldType} {k : Int32} (ev : t.eval args Z none [] Z = some (.ref a)) (A : Arr Z Z.heap a c ty) (h : (Cond.eq (.length t) (.int k)).value args Z none Z [] = some true) : c.slots.toList.length.toInt32 = k ∧ c.slots.toList.length < 2 ^ 31 := by
  have h1 := int_of_eq h
  have e5 := A.fin (Vm.Alike.refl _)
  rw [Array.length_toList]
  by_cases hl : c.slots.size < 2 ^ 31
  · rw [len_f ev e5 hl] at h1
    exact ⟨Value.int.inj (Option.some.inj h1), hl⟩
  · exfalso
    simp [Term.eval, ev, e5, hl] at h1
theorem elem_of_eq {Z : State} {args : Array Value} {t : Term} {a : Addr} {c : Cell} {ty : FieldType} {i k : Int32} (ev : t.eval args Z none [] Z = some (.ref a)) (A : Arr Z Z.heap a c ty) (h : (Cond.eq (.elem t (.int i)) (.int k)).value args Z none Z [] = some true) : c.slots.toList[i.toNatClampNeg]? = some (.int k) := by
  have h1 := int_of_eq h
  have h2 := elem_in (j := i) h1 ev rfl A.1
  rw [Array.getElem?_toList]
  exact h2.2
theorem ge0 {x : Int32} (h : 0 ≤ x.toInt) : ¬ x < 0 := fun q => by rw [XT.negI32] at q; omega
theorem rep0 (s : State) : Rep s s.heap [] := ⟨⟨Nat.le_refl _, fun _ _ q => q⟩, fun i x h => by simp at h, List.nodup_nil⟩
end Jvm.Own
namespace Jvm.Pilot.@@N@@
open Jvm Jvm.ClassFile Sem Op Lib Jvm.Free Jvm.Stand Jvm.LawKit Jvm.RoadKit Bundle Jvm.Own Jvm.Pilot.@@N@@.Jvm.D
abbrev yN0 : MethodName := ⟨"com/example/ordered_dispatch/ordereddispatch/SequenceQueue$Part", "<init>", "()V"⟩
abbrev yN1 : MethodName := ⟨"com/example/ordered_dispatch/ordereddispatch/SequenceQueue$Run", "<init>", "()V"⟩
abbrev yN2 : MethodName := ⟨"com/example/ordered_dispatch/ordereddispatch/SequenceQueue$Heap", "<init>", "()V"⟩
abbrev yN3 : MethodName := ⟨"com/example/ordered_dispatch/ordereddispatch/SequenceQueue", "<init>", "()V"⟩
abbrev yN4 : MethodName := ⟨"com/example/ordered_dispatch/ordereddispatch/SequenceQueue", "isEmpty", "()Z"⟩
abbrev yN5 : MethodName := ⟨"com/example/ordered_dispatch/ordereddispatch/SequenceQueue$Run", "poll", "()Ljava/lang/Object;"⟩
abbrev yN6 : MethodName := ⟨"com/example/ordered_dispatch/ordereddispatch/SequenceQueue", "poll", "()Ljava/lang/Object;"⟩
abbrev yN7 : MethodName := ⟨"java/lang/Math", "max", "(II)I"⟩
abbrev yN8 : MethodName := ⟨"java/lang/Integer", "valueOf", "(I)Ljava/lang/Integer;"⟩
abbrev yN9 : MethodName := ⟨"com/example/ordered_dispatch/ordereddispatch/SequenceQueue", "add", "(JLjava/lang/Object;)V"⟩
abbrev yN10 : MethodName := ⟨"com/example/ordered_dispatch/ordereddispatch/SequenceQueue$Part", "makeRoom", "()V"⟩
abbrev yN11 : MethodName := ⟨"com/example/ordered_dispatch/ordereddispatch/SequenceQueue$Run", "makeRoom", "()V"⟩
abbrev yN12 : MethodName := ⟨"com/example/ordered_dispatch/ordereddispatch/SequenceQueue$Run", "slot", "(I)I"⟩
abbrev yN13 : MethodName := ⟨"com/example/ordered_dispatch/ordereddispatch/SequenceQueue$Run", "add", "(JLjava/lang/Object;)V"⟩
abbrev yN14 : MethodName := ⟨"com/example/ordered_dispatch/ordereddispatch/SequenceQueue", "place", "(JLjava/lang/Object;)V"⟩
abbrev yN15 : MethodName := ⟨"com/example/ordered_dispatch/ordereddispatch/SequenceQueue$Run", "lastKey", "()J"⟩
abbrev yN16 : MethodName := ⟨"com/example/ordered_dispatch/ordereddispatch/SequenceQueue$Heap", "makeRoom", "()V"⟩
abbrev yN17 : MethodName := ⟨"com/example/ordered_dispatch/ordereddispatch/SequenceQueue$Heap", "add", "(JLjava/lang/Object;)V"⟩
abbrev yN18 : MethodName := ⟨"com/example/ordered_dispatch/ordereddispatch/SequenceQueue$Part", "giveBackRoom", "()V"⟩
abbrev yN19 : MethodName := ⟨"com/example/ordered_dispatch/ordereddispatch/SequenceQueue$Heap", "giveBackRoom", "()V"⟩
abbrev yN20 : MethodName := ⟨"com/example/ordered_dispatch/ordereddispatch/SequenceQueue$Heap", "poll", "()Ljava/lang/Object;"⟩
abbrev yN21 : MethodName := ⟨"com/example/ordered_dispatch/ordereddispatch/SequenceQueue$Run", "giveBackRoom", "()V"⟩
theorem cache_elem {Z : State} {args : Array Value} {C nm d K : String} {cb : Addr} {c : Cell} {ty : FieldType} {D : Jvm.Cond} (ev : (Term.static C nm d).eval args Z none [] Z = some (.ref cb)) (A : Arr Z Z.heap cb c ty) (hs : c.slots.toList.length < 2 ^ 31)
    (h : (Jvm.Cond.all (.static C nm d) (.and (.exactly (.elem (.static C nm d) (.index 0)) K) D)).value args Z none Z [] = some true) :
    ∀ j : Nat, j < c.slots.toList.length → ∃ b, c.slots.toList[j]? = some (.ref b) ∧ Exa Z Z.heap b K ∧ (Term.elem (.static C nm d) (.index 0)).eval args Z none [j] Z = some (.ref b) ∧ D.value args Z none Z [j] = some true := by
  intro j hj
  rw [Array.length_toList] at hj hs
  have h1 := Cond.all_elim ev (A.fin (Vm.Alike.refl _)) h j hj
  obtain ⟨h2, h3⟩ := and_e h1
  obtain ⟨b, e1⟩ := exa_v h2
  refine ⟨b, ?_, exa_at e1 h2, e1, h3⟩
  have ev' : (Term.static C nm d).eval args Z none [j] Z = some (.ref cb) := ev
  have ej : (Term.index 0).eval args Z none [j] Z = some (.int j.toInt32) := rfl
  have h4 := (elem_in e1 ev' ej A.1).2
  rw [Array.getElem?_toList]
  have e5 : j.toInt32.toNatClampNeg = j := by
    have := Int32.toInt_ofNat_of_lt (n := j) (by omega)
    show j.toInt32.toInt.toNat = j
    have e : j.toInt32 = Int32.ofNat j := rfl
    rw [e, this]; rfl
  rw [e5] at h4
  exact h4
theorem len256 {n : Nat} (h : n.toInt32 = 256) (hl : n < 2 ^ 31) : n = 256 := by
  have := Int32.toInt_ofNat_of_lt (n := n) (by omega)
  have e : n.toInt32 = Int32.ofNat n := rfl
  rw [← e, h] at this
  have e2 : (256 : Int32).toInt = 256 := by decide
  omega
theorem cache_val {Z : State} {args : Array Value} {t : Term} {C nm d : String} {b : Addr} {j : Nat} (e1 : t.eval args Z none [j] Z = some (.ref b)) (h : (Jvm.Cond.eq (.field t C nm d) (.sub (.index 0) (.int 128))).value args Z none Z [j] = some true) : Fld Z Z.heap b C nm d (.int (j.toInt32 - 128)) := by
  have h1 := eq_int (k := j.toInt32 - 128) (by simp [Term.eval]) h
  exact Fld.start ((fld_at e1).symm.trans h1)
abbrev oQ (v0 v1 v2 v3 v4 : Value) : Own.Rec := .inl ("com/example/ordered_dispatch/ordereddispatch/SequenceQueue", [(("com/example/ordered_dispatch/ordereddispatch/SequenceQueue", "run", "Lcom/example/ordered_dispatch/ordereddispatch/SequenceQueue$Run;"), v0), (("com/example/ordered_dispatch/ordereddispatch/SequenceQueue", "heap", "Lcom/example/ordered_dispatch/ordereddispatch/SequenceQueue$Heap;"), v1), (("com/example/ordered_dispatch/ordereddispatch/SequenceQueue", "holding", "Z"), v2), (("com/example/ordered_dispatch/ordereddispatch/SequenceQueue", "heldKey", "J"), v3), (("com/example/ordered_dispatch/ordereddispatch/SequenceQueue", "heldElement", "Ljava/lang/Object;"), v4)])
abbrev oRun (v0 v1 v2 v3 : Value) : Own.Rec := .inl ("com/example/ordered_dispatch/ordereddispatch/SequenceQueue$Run", [(("com/example/ordered_dispatch/ordereddispatch/SequenceQueue$Part", "keys", "[J"), v0), (("com/example/ordered_dispatch/ordereddispatch/SequenceQueue$Part", "elements", "[Ljava/lang/Object;"), v1), (("com/example/ordered_dispatch/ordereddispatch/SequenceQueue$Part", "size", "I"), v2), (("com/example/ordered_dispatch/ordereddispatch/SequenceQueue$Run", "head", "I"), v3)])
abbrev oHeap (v0 v1 v2 : Value) : Own.Rec := .inl ("com/example/ordered_dispatch/ordereddispatch/SequenceQueue$Heap", [(("com/example/ordered_dispatch/ordereddispatch/SequenceQueue$Part", "keys", "[J"), v0), (("com/example/ordered_dispatch/ordereddispatch/SequenceQueue$Part", "elements", "[Ljava/lang/Object;"), v1), (("com/example/ordered_dispatch/ordereddispatch/SequenceQueue$Part", "size", "I"), v2)])
abbrev oK64 (v0 v1 v2 v3 v4 v5 : Value) : List Value := [v0, v1, v2, v3, v4, v5, .long (0 : Int64), .long (0 : Int64), .long (0 : Int64), .long (0 : Int64), .long (0 : Int64), .long (0 : Int64), .long (0 : Int64), .long (0 : Int64), .long (0 : Int64), .long (0 : Int64), .long (0 : Int64), .long (0 : Int64), .long (0 : Int64), .long (0 : Int64), .long (0 : Int64), .long (0 : Int64), .long (0 : Int64), .long (0 : Int64), .long (0 : Int64), .long (0 : Int64), .long (0 : Int64), .long (0 : Int64), .long (0 : Int64), .long (0 : Int64), .long (0 : Int64), .long (0 : Int64), .long (0 : Int64), .long (0 : Int64), .long (0 : Int64), .long (0 : Int64), .long (0 : Int64), .long (0 : Int64), .long (0 : Int64), .long (0 : Int64), .long (0 : Int64), .long (0 : Int64), .long (0 : Int64), .long (0 : Int64), .long (0 : Int64), .long (0 : Int64), .long (0 : Int64), .long (0 : Int64), .long (0 : Int64), .long (0 : Int64), .long (0 : Int64), .long (0 : Int64), .long (0 : Int64), .long (0 : Int64), .long (0 : Int64), .long (0 : Int64), .long (0 : Int64), .long (0 : Int64), .long (0 : Int64), .long (0 : Int64), .long (0 : Int64), .long (0 : Int64), .long (0 : Int64), .long (0 : Int64)]
abbrev oE64 (v0 v1 v2 v3 v4 v5 : Value) : List Value := [v0, v1, v2, v3, v4, v5, .null, .null, .null, .null, .null, .null, .null, .null, .null, .null, .null, .null, .null, .null, .null, .null, .null, .null, .null, .null, .null, .null, .null, .null, .null, .null, .null, .null, .null, .null, .null, .null, .null, .null, .null, .null, .null, .null, .null, .null, .null, .null, .null, .null, .null, .null, .null, .null, .null, .null, .null, .null, .null, .null, .null, .null, .null, .null]
theorem dc_prog_20_method_1_0 : decode prog_20_method_1_code 0 = .ok (.aload_n 0, 1) := by decide +kernel
theorem dc_prog_20_method_1_1 : decode prog_20_method_1_code 1 = .ok (.invokespecial 3, 3) := by decide +kernel
theorem dc_prog_20_method_1_4 : decode prog_20_method_1_code 4 = .ok (.aload_n 0, 1) := by decide +kernel
theorem dc_prog_20_method_1_5 : decode prog_20_method_1_code 5 = .ok (.new 9, 3) := by decide +kernel
theorem dc_prog_20_method_1_8 : decode prog_20_method_1_code 8 = .ok (.dup, 1) := by decide +kernel
theorem dc_prog_20_method_1_9 : decode prog_20_method_1_code 9 = .ok (.invokespecial 11, 3) := by decide +kernel
theorem dc_prog_23_method_1_0 : decode prog_23_method_1_code 0 = .ok (.aload_n 0, 1) := by decide +kernel
theorem dc_prog_23_method_1_1 : decode prog_23_method_1_code 1 = .ok (.invokespecial 1, 3) := by decide +kernel
theorem dc_prog_22_method_1_0 : decode prog_22_method_1_code 0 = .ok (.aload_n 0, 1) := by decide +kernel
theorem dc_prog_22_method_1_1 : decode prog_22_method_1_code 1 = .ok (.invokespecial 3, 3) := by decide +kernel
theorem dc_prog_22_method_1_4 : decode prog_22_method_1_code 4 = .ok (.aload_n 0, 1) := by decide +kernel
theorem dc_prog_22_method_1_5 : decode prog_22_method_1_code 5 = .ok (.bipush 64, 2) := by decide +kernel
theorem dc_prog_22_method_1_7 : decode prog_22_method_1_code 7 = .ok (.newarray .long, 2) := by decide +kernel
theorem dc_prog_22_method_1_9 : decode prog_22_method_1_code 9 = .ok (.putfield 9, 3) := by decide +kernel
theorem dc_prog_22_method_1_12 : decode prog_22_method_1_code 12 = .ok (.aload_n 0, 1) := by decide +kernel
theorem dc_prog_22_method_1_13 : decode prog_22_method_1_code 13 = .ok (.bipush 64, 2) := by decide +kernel
theorem dc_prog_22_method_1_15 : decode prog_22_method_1_code 15 = .ok (.anewarray 4, 3) := by decide +kernel
theorem dc_prog_22_method_1_18 : decode prog_22_method_1_code 18 = .ok (.putfield 15, 3) := by decide +kernel
theorem dc_prog_22_method_1_21 : decode prog_22_method_1_code 21 = .ok (.return_, 1) := by decide +kernel
theorem pn_0 : plainFor yN0 = true := by first | (apply plainFor_of_name; simp [plainName, overriddenIn]; done) | decide +kernel
set_option maxRecDepth 65536 in
set_option maxHeartbeats 40000000 in
theorem u_SequenceQueue_Part_init_2 (l : Launch) (Z : State) (a0 : Array Value) (hw : ∀ d ∈ tables_1, d.before a0 Z = true) (F : List Ent) (pA0 : Addr)  :
    Met l Z yN0 prog_22_method_1_code 1 none { frames := 1, cells := 2, slots := 128, locals := 12 } #[(.ref pA0)] ((pA0, oRun .null .null (.int (0 : Int32)) (.int (0 : Int32))) :: F) (fun r M' => (∃ sA0 sA1 : Addr, r = none ∧ M' = ((sA0, .inr (.object "java/lang/Object", (oE64 .null .null .null .null .null .null), true)) :: (sA1, .inr (.long, (oK64 (.long (0 : Int64)) (.long (0 : Int64)) (.long (0 : Int64)) (.long (0 : Int64)) (.long (0 : Int64)) (.long (0 : Int64))), true)) :: (pA0, oRun (.ref sA1) (.ref sA0) (.int (0 : Int32)) (.int (0 : Int32))) :: F))) := by
  refine Met.of_go pn_0 (Ls := #[.val (.ref pA0)]) (fun m => by first | rfl | (simp [entryFrame, mkF, argsToLocals, Value.category, maxLocals]; done)) ?_
  intro E C
  refine Go.aloadN C dc_prog_22_method_1_0 (q := 1) rfl rfl rfl ?_
  refine Go.initO C (wd hw 20 rfl) (wd hw 7 rfl) (wd hw 8 rfl) dc_prog_22_method_1_1 (q := 4) rfl rfl (by decide) (W := 0) rfl (by decide) ?_
  refine Go.aloadN C dc_prog_22_method_1_4 (q := 5) rfl rfl rfl ?_
  refine Go.bipush C dc_prog_22_method_1_5 (q := 7) rfl (v := (64 : Int32)) (by decide) ?_
  refine Go.newarray C (ty := .long) (wd hw 21 rfl) rfl (by simp) (by decide) (cap := 64) (by decide) (by decide) (vs := (oK64 (.long (0 : Int64)) (.long (0 : Int64)) (.long (0 : Int64)) (.long (0 : Int64)) (.long (0 : Int64)) (.long (0 : Int64)))) rfl dc_prog_22_method_1_7 (q := 9) rfl (by decide) (by decide) (k' := 1) (n' := 64) rfl rfl (fun o3 => ?_)
  refine Go.putF C (host := "") (i := 1) (j := 0) (Or.inl (wd hw 22 rfl)) Via.refl rfl rfl (Or.inl (wd hw 23 rfl)) (wd hw 10 rfl) (ty := (.array .long)) (by decide) rfl rfl dc_prog_22_method_1_9 (q := 12) rfl (M' := ((o3, .inr (.long, (oK64 (.long (0 : Int64)) (.long (0 : Int64)) (.long (0 : Int64)) (.long (0 : Int64)) (.long (0 : Int64)) (.long (0 : Int64))), true)) :: (pA0, oRun (.ref o3) .null (.int (0 : Int32)) (.int (0 : Int32))) :: F)) rfl ?_
  refine Go.aloadN C dc_prog_22_method_1_12 (q := 13) rfl rfl rfl ?_
  refine Go.bipush C dc_prog_22_method_1_13 (q := 15) rfl (v := (64 : Int32)) (by decide) ?_
  refine Go.anewarray C (wd hw 24 rfl) (wd hw 25 rfl) (by decide) (cap := 64) (by decide) (by decide) (vs := (oE64 .null .null .null .null .null .null)) rfl dc_prog_22_method_1_15 (q := 18) rfl (by decide) (by decide) (k' := 2) (n' := 128) rfl rfl (fun o4 => ?_)
  refine Go.putF C (host := "") (i := 2) (j := 1) (Or.inl (wd hw 26 rfl)) Via.refl rfl rfl (Or.inl (wd hw 27 rfl)) (wd hw 10 rfl) (ty := (.array (.object "java/lang/Object"))) (by decide) rfl rfl dc_prog_22_method_1_18 (q := 21) rfl (M' := ((o4, .inr (.object "java/lang/Object", (oE64 .null .null .null .null .null .null), true)) :: (o3, .inr (.long, (oK64 (.long (0 : Int64)) (.long (0 : Int64)) (.long (0 : Int64)) (.long (0 : Int64)) (.long (0 : Int64)) (.long (0 : Int64))), true)) :: (pA0, oRun (.ref o3) (.ref o4) (.int (0 : Int32)) (.int (0 : Int32))) :: F)) rfl ?_
  refine Go.ret0 C rfl dc_prog_22_method_1_21 (by decide) (by decide) ?_
  exact ⟨_, _, rfl, rfl⟩
theorem dc_prog_23_method_1_4 : decode prog_23_method_1_code 4 = .ok (.return_, 1) := by decide +kernel
theorem pn_1 : plainFor yN1 = true := by first | (apply plainFor_of_name; simp [plainName, overriddenIn]; done) | decide +kernel
set_option maxRecDepth 65536 in
set_option maxHeartbeats 40000000 in
theorem u_SequenceQueue_Run_init_1 (l : Launch) (Z : State) (a0 : Array Value) (hw : ∀ d ∈ tables_1, d.before a0 Z = true) (F : List Ent) (pA0 : Addr)  :
    Met l Z yN1 prog_23_method_1_code 1 none { frames := 2, cells := 2, slots := 128, locals := 24 } #[(.ref pA0)] ((pA0, oRun .null .null (.int (0 : Int32)) (.int (0 : Int32))) :: F) (fun r M' => (∃ sA0 sA1 : Addr, r = none ∧ M' = ((sA0, .inr (.object "java/lang/Object", (oE64 .null .null .null .null .null .null), true)) :: (sA1, .inr (.long, (oK64 (.long (0 : Int64)) (.long (0 : Int64)) (.long (0 : Int64)) (.long (0 : Int64)) (.long (0 : Int64)) (.long (0 : Int64))), true)) :: (pA0, oRun (.ref sA1) (.ref sA0) (.int (0 : Int32)) (.int (0 : Int32))) :: F))) := by
  refine Met.of_go pn_1 (Ls := #[.val (.ref pA0)]) (fun m => by first | rfl | (simp [entryFrame, mkF, argsToLocals, Value.category, maxLocals]; done)) ?_
  intro E C
  refine Go.aloadN C dc_prog_23_method_1_0 (q := 1) rfl rfl rfl ?_
  refine Go.callIN C (y := yN0) (a := pA0) (as := []) (rest := []) (wd hw 15 rfl) (wd hw 16 rfl) (wd hw 18 rfl) (wd hw 19 rfl) (u_SequenceQueue_Part_init_2 l Z a0 hw _ pA0) rfl rfl dc_prog_23_method_1_1 (q := 4) rfl (by decide) rfl (na := 0) (by decide +kernel) rfl (by decide) (W := 0) rfl (by decide) (by decide) (by decide) (k' := 2) (n' := 128) rfl rfl ?_
  rintro _ _ ⟨o3, o4, rfl, rfl⟩
  show Go _ _ _ _ _ _ _ _ _ _ []
  refine Go.ret0 C rfl dc_prog_23_method_1_4 (by decide) (by decide) ?_
  exact ⟨_, _, rfl, rfl⟩
theorem dc_prog_20_method_1_12 : decode prog_20_method_1_code 12 = .ok (.putfield 12, 3) := by decide +kernel
theorem dc_prog_20_method_1_15 : decode prog_20_method_1_code 15 = .ok (.aload_n 0, 1) := by decide +kernel
theorem dc_prog_20_method_1_16 : decode prog_20_method_1_code 16 = .ok (.new 18, 3) := by decide +kernel
theorem dc_prog_20_method_1_19 : decode prog_20_method_1_code 19 = .ok (.dup, 1) := by decide +kernel
theorem dc_prog_20_method_1_20 : decode prog_20_method_1_code 20 = .ok (.invokespecial 20, 3) := by decide +kernel
theorem dc_prog_21_method_1_0 : decode prog_21_method_1_code 0 = .ok (.aload_n 0, 1) := by decide +kernel
theorem dc_prog_21_method_1_1 : decode prog_21_method_1_code 1 = .ok (.invokespecial 1, 3) := by decide +kernel
set_option maxRecDepth 65536 in
set_option maxHeartbeats 40000000 in
theorem u_SequenceQueue_Part_init_6 (l : Launch) (Z : State) (a0 : Array Value) (hw : ∀ d ∈ tables_1, d.before a0 Z = true) (F : List Ent) (pA0 : Addr)  :
    Met l Z yN0 prog_22_method_1_code 1 none { frames := 1, cells := 2, slots := 128, locals := 12 } #[(.ref pA0)] ((pA0, oHeap .null .null (.int (0 : Int32))) :: F) (fun r M' => (∃ sA0 sA1 : Addr, r = none ∧ M' = ((sA0, .inr (.object "java/lang/Object", (oE64 .null .null .null .null .null .null), true)) :: (sA1, .inr (.long, (oK64 (.long (0 : Int64)) (.long (0 : Int64)) (.long (0 : Int64)) (.long (0 : Int64)) (.long (0 : Int64)) (.long (0 : Int64))), true)) :: (pA0, oHeap (.ref sA1) (.ref sA0) (.int (0 : Int32))) :: F))) := by
  refine Met.of_go pn_0 (Ls := #[.val (.ref pA0)]) (fun m => by first | rfl | (simp [entryFrame, mkF, argsToLocals, Value.category, maxLocals]; done)) ?_
  intro E C
  refine Go.aloadN C dc_prog_22_method_1_0 (q := 1) rfl rfl rfl ?_
  refine Go.initO C (wd hw 20 rfl) (wd hw 7 rfl) (wd hw 8 rfl) dc_prog_22_method_1_1 (q := 4) rfl rfl (by decide) (W := 0) rfl (by decide) ?_
  refine Go.aloadN C dc_prog_22_method_1_4 (q := 5) rfl rfl rfl ?_
  refine Go.bipush C dc_prog_22_method_1_5 (q := 7) rfl (v := (64 : Int32)) (by decide) ?_
  refine Go.newarray C (ty := .long) (wd hw 21 rfl) rfl (by simp) (by decide) (cap := 64) (by decide) (by decide) (vs := (oK64 (.long (0 : Int64)) (.long (0 : Int64)) (.long (0 : Int64)) (.long (0 : Int64)) (.long (0 : Int64)) (.long (0 : Int64)))) rfl dc_prog_22_method_1_7 (q := 9) rfl (by decide) (by decide) (k' := 1) (n' := 64) rfl rfl (fun o6 => ?_)
  refine Go.putF C (host := "") (i := 1) (j := 0) (Or.inl (wd hw 22 rfl)) Via.refl rfl rfl (Or.inl (wd hw 37 rfl)) (wd hw 31 rfl) (ty := (.array .long)) (by decide) rfl rfl dc_prog_22_method_1_9 (q := 12) rfl (M' := ((o6, .inr (.long, (oK64 (.long (0 : Int64)) (.long (0 : Int64)) (.long (0 : Int64)) (.long (0 : Int64)) (.long (0 : Int64)) (.long (0 : Int64))), true)) :: (pA0, oHeap (.ref o6) .null (.int (0 : Int32))) :: F)) rfl ?_
  refine Go.aloadN C dc_prog_22_method_1_12 (q := 13) rfl rfl rfl ?_
  refine Go.bipush C dc_prog_22_method_1_13 (q := 15) rfl (v := (64 : Int32)) (by decide) ?_
  refine Go.anewarray C (wd hw 24 rfl) (wd hw 25 rfl) (by decide) (cap := 64) (by decide) (by decide) (vs := (oE64 .null .null .null .null .null .null)) rfl dc_prog_22_method_1_15 (q := 18) rfl (by decide) (by decide) (k' := 2) (n' := 128) rfl rfl (fun o7 => ?_)
  refine Go.putF C (host := "") (i := 2) (j := 1) (Or.inl (wd hw 26 rfl)) Via.refl rfl rfl (Or.inl (wd hw 38 rfl)) (wd hw 31 rfl) (ty := (.array (.object "java/lang/Object"))) (by decide) rfl rfl dc_prog_22_method_1_18 (q := 21) rfl (M' := ((o7, .inr (.object "java/lang/Object", (oE64 .null .null .null .null .null .null), true)) :: (o6, .inr (.long, (oK64 (.long (0 : Int64)) (.long (0 : Int64)) (.long (0 : Int64)) (.long (0 : Int64)) (.long (0 : Int64)) (.long (0 : Int64))), true)) :: (pA0, oHeap (.ref o6) (.ref o7) (.int (0 : Int32))) :: F)) rfl ?_
  refine Go.ret0 C rfl dc_prog_22_method_1_21 (by decide) (by decide) ?_
  exact ⟨_, _, rfl, rfl⟩
theorem dc_prog_21_method_1_4 : decode prog_21_method_1_code 4 = .ok (.return_, 1) := by decide +kernel
theorem pn_2 : plainFor yN2 = true := by first | (apply plainFor_of_name; simp [plainName, overriddenIn]; done) | decide +kernel
set_option maxRecDepth 65536 in
set_option maxHeartbeats 40000000 in
theorem u_SequenceQueue_Heap_init_5 (l : Launch) (Z : State) (a0 : Array Value) (hw : ∀ d ∈ tables_1, d.before a0 Z = true) (F : List Ent) (pA0 : Addr)  :
    Met l Z yN2 prog_21_method_1_code 1 none { frames := 2, cells := 2, slots := 128, locals := 24 } #[(.ref pA0)] ((pA0, oHeap .null .null (.int (0 : Int32))) :: F) (fun r M' => (∃ sA0 sA1 : Addr, r = none ∧ M' = ((sA0, .inr (.object "java/lang/Object", (oE64 .null .null .null .null .null .null), true)) :: (sA1, .inr (.long, (oK64 (.long (0 : Int64)) (.long (0 : Int64)) (.long (0 : Int64)) (.long (0 : Int64)) (.long (0 : Int64)) (.long (0 : Int64))), true)) :: (pA0, oHeap (.ref sA1) (.ref sA0) (.int (0 : Int32))) :: F))) := by
  refine Met.of_go pn_2 (Ls := #[.val (.ref pA0)]) (fun m => by first | rfl | (simp [entryFrame, mkF, argsToLocals, Value.category, maxLocals]; done)) ?_
  intro E C
  refine Go.aloadN C dc_prog_21_method_1_0 (q := 1) rfl rfl rfl ?_
  refine Go.callIN C (y := yN0) (a := pA0) (as := []) (rest := []) (wd hw 36 rfl) (wd hw 16 rfl) (wd hw 18 rfl) (wd hw 19 rfl) (u_SequenceQueue_Part_init_6 l Z a0 hw _ pA0) rfl rfl dc_prog_21_method_1_1 (q := 4) rfl (by decide) rfl (na := 0) (by decide +kernel) rfl (by decide) (W := 0) rfl (by decide) (by decide) (by decide) (k' := 2) (n' := 128) rfl rfl ?_
  rintro _ _ ⟨o6, o7, rfl, rfl⟩
  show Go _ _ _ _ _ _ _ _ _ _ []
  refine Go.ret0 C rfl dc_prog_21_method_1_4 (by decide) (by decide) ?_
  exact ⟨_, _, rfl, rfl⟩
theorem dc_prog_20_method_1_23 : decode prog_20_method_1_code 23 = .ok (.putfield 21, 3) := by decide +kernel
theorem dc_prog_20_method_1_26 : decode prog_20_method_1_code 26 = .ok (.return_, 1) := by decide +kernel
theorem pn_3 : plainFor yN3 = true := by first | (apply plainFor_of_name; simp [plainName, overriddenIn]; done) | decide +kernel
set_option maxRecDepth 65536 in
set_option maxHeartbeats 40000000 in
theorem u_SequenceQueue_init_0 (l : Launch) (Z : State) (a0 : Array Value) (hw : ∀ d ∈ tables_1, d.before a0 Z = true) (F : List Ent) (pA0 : Addr) (kA0 : Int64)  :
    Met l Z yN3 prog_20_method_1_code 1 none { frames := 3, cells := 6, slots := 263, locals := 38 } #[(.ref pA0)] ((pA0, oQ .null .null (.int (0 : Int32)) (.long kA0) .null) :: F) (fun r M' => (∃ sA0 sA1 sA2 sA3 sA4 sA5 : Addr, r = none ∧ M' = ((sA0, .inr (.object "java/lang/Object", (oE64 .null .null .null .null .null .null), true)) :: (sA1, .inr (.long, (oK64 (.long (0 : Int64)) (.long (0 : Int64)) (.long (0 : Int64)) (.long (0 : Int64)) (.long (0 : Int64)) (.long (0 : Int64))), true)) :: (sA2, oHeap (.ref sA1) (.ref sA0) (.int (0 : Int32))) :: (sA3, .inr (.object "java/lang/Object", (oE64 .null .null .null .null .null .null), true)) :: (sA4, .inr (.long, (oK64 (.long (0 : Int64)) (.long (0 : Int64)) (.long (0 : Int64)) (.long (0 : Int64)) (.long (0 : Int64)) (.long (0 : Int64))), true)) :: (sA5, oRun (.ref sA4) (.ref sA3) (.int (0 : Int32)) (.int (0 : Int32))) :: (pA0, oQ (.ref sA5) (.ref sA2) (.int (0 : Int32)) (.long kA0) .null) :: F))) := by
  refine Met.of_go pn_3 (Ls := #[.val (.ref pA0)]) (fun m => by first | rfl | (simp [entryFrame, mkF, argsToLocals, Value.category, maxLocals]; done)) ?_
  intro E C
  refine Go.aloadN C dc_prog_20_method_1_0 (q := 1) rfl rfl rfl ?_
  refine Go.initO C (wd hw 6 rfl) (wd hw 7 rfl) (wd hw 8 rfl) dc_prog_20_method_1_1 (q := 4) rfl rfl (by decide) (W := 0) rfl (by decide) ?_
  refine Go.aloadN C dc_prog_20_method_1_4 (q := 5) rfl rfl rfl ?_
  refine Go.new C (wd hw 9 rfl) (wd hw 10 rfl) (wd hw 11 rfl) [(("com/example/ordered_dispatch/ordereddispatch/SequenceQueue$Part", "keys", "[J"), .null), (("com/example/ordered_dispatch/ordereddispatch/SequenceQueue$Part", "elements", "[Ljava/lang/Object;"), .null), (("com/example/ordered_dispatch/ordereddispatch/SequenceQueue$Part", "size", "I"), (.int (0 : Int32))), (("com/example/ordered_dispatch/ordereddispatch/SequenceQueue$Run", "head", "I"), (.int (0 : Int32)))] ⟨⟨Or.inl (wd hw 23 rfl), (.array .long), by decide, rfl⟩, ⟨Or.inl (wd hw 27 rfl), (.array (.object "java/lang/Object")), by decide, rfl⟩, ⟨Or.inl (wd hw 50 rfl), .int, by decide, rfl⟩, ⟨Or.inl (wd hw 66 rfl), .int, by decide, rfl⟩, trivial⟩ (by decide) dc_prog_20_method_1_5 (q := 8) rfl (by decide) (by decide) (k' := 1) (n' := 4) rfl rfl (fun o2 => ?_)
  refine Go.dup C dc_prog_20_method_1_8 (q := 9) rfl rfl ?_
  refine Go.callIR C (y := yN1) (a := o2) (as := []) (rest := [(.ref o2), (.ref pA0)]) (wd hw 12 rfl) (wd hw 13 rfl) (wd hw 11 rfl) (wd hw 14 rfl) (u_SequenceQueue_Run_init_1 l Z a0 hw _ o2) rfl rfl dc_prog_20_method_1_9 (q := 12) rfl (by decide) rfl (na := 0) (by decide +kernel) rfl (by decide) (W := 2) rfl (by decide) (by decide) (by decide) (k' := 3) (n' := 132) rfl rfl ?_
  rintro _ _ ⟨o3, o4, rfl, rfl⟩
  show Go _ _ _ _ _ _ _ _ _ _ [(.ref o2), (.ref pA0)]
  refine Go.putF C (host := "") (i := 3) (j := 0) (Or.inl (wd hw 28 rfl)) Via.refl rfl rfl (Or.inr ⟨(wd hw 29 rfl), rfl, rfl⟩) (wd hw 1 rfl) (ty := (.object "com/example/ordered_dispatch/ordereddispatch/SequenceQueue$Run")) (by decide) rfl rfl dc_prog_20_method_1_12 (q := 15) rfl (M' := ((o3, .inr (.object "java/lang/Object", (oE64 .null .null .null .null .null .null), true)) :: (o4, .inr (.long, (oK64 (.long (0 : Int64)) (.long (0 : Int64)) (.long (0 : Int64)) (.long (0 : Int64)) (.long (0 : Int64)) (.long (0 : Int64))), true)) :: (o2, oRun (.ref o4) (.ref o3) (.int (0 : Int32)) (.int (0 : Int32))) :: (pA0, oQ (.ref o2) .null (.int (0 : Int32)) (.long kA0) .null) :: F)) rfl ?_
  refine Go.aloadN C dc_prog_20_method_1_15 (q := 16) rfl rfl rfl ?_
  refine Go.new C (wd hw 30 rfl) (wd hw 31 rfl) (wd hw 32 rfl) [(("com/example/ordered_dispatch/ordereddispatch/SequenceQueue$Part", "keys", "[J"), .null), (("com/example/ordered_dispatch/ordereddispatch/SequenceQueue$Part", "elements", "[Ljava/lang/Object;"), .null), (("com/example/ordered_dispatch/ordereddispatch/SequenceQueue$Part", "size", "I"), (.int (0 : Int32)))] ⟨⟨Or.inl (wd hw 37 rfl), (.array .long), by decide, rfl⟩, ⟨Or.inl (wd hw 38 rfl), (.array (.object "java/lang/Object")), by decide, rfl⟩, ⟨Or.inl (wd hw 53 rfl), .int, by decide, rfl⟩, trivial⟩ (by decide) dc_prog_20_method_1_16 (q := 19) rfl (by decide) (by decide) (k' := 4) (n' := 135) rfl rfl (fun o5 => ?_)
  refine Go.dup C dc_prog_20_method_1_19 (q := 20) rfl rfl ?_
  refine Go.callIR C (y := yN2) (a := o5) (as := []) (rest := [(.ref o5), (.ref pA0)]) (wd hw 33 rfl) (wd hw 34 rfl) (wd hw 32 rfl) (wd hw 35 rfl) (u_SequenceQueue_Heap_init_5 l Z a0 hw _ o5) rfl rfl dc_prog_20_method_1_20 (q := 23) rfl (by decide) rfl (na := 0) (by decide +kernel) rfl (by decide) (W := 2) rfl (by decide) (by decide) (by decide) (k' := 6) (n' := 263) rfl rfl ?_
  rintro _ _ ⟨o6, o7, rfl, rfl⟩
  show Go _ _ _ _ _ _ _ _ _ _ [(.ref o5), (.ref pA0)]
  refine Go.putF C (host := "") (i := 6) (j := 1) (Or.inl (wd hw 39 rfl)) Via.refl rfl rfl (Or.inr ⟨(wd hw 40 rfl), rfl, rfl⟩) (wd hw 1 rfl) (ty := (.object "com/example/ordered_dispatch/ordereddispatch/SequenceQueue$Heap")) (by decide) rfl rfl dc_prog_20_method_1_23 (q := 26) rfl (M' := ((o6, .inr (.object "java/lang/Object", (oE64 .null .null .null .null .null .null), true)) :: (o7, .inr (.long, (oK64 (.long (0 : Int64)) (.long (0 : Int64)) (.long (0 : Int64)) (.long (0 : Int64)) (.long (0 : Int64)) (.long (0 : Int64))), true)) :: (o5, oHeap (.ref o7) (.ref o6) (.int (0 : Int32))) :: (o3, .inr (.object "java/lang/Object", (oE64 .null .null .null .null .null .null), true)) :: (o4, .inr (.long, (oK64 (.long (0 : Int64)) (.long (0 : Int64)) (.long (0 : Int64)) (.long (0 : Int64)) (.long (0 : Int64)) (.long (0 : Int64))), true)) :: (o2, oRun (.ref o4) (.ref o3) (.int (0 : Int32)) (.int (0 : Int32))) :: (pA0, oQ (.ref o2) (.ref o5) (.int (0 : Int32)) (.long kA0) .null) :: F)) rfl ?_
  refine Go.ret0 C rfl dc_prog_20_method_1_26 (by decide) (by decide) ?_
  exact ⟨_, _, _, _, _, _, rfl, rfl⟩
theorem dc_prog_20_method_4_0 : decode prog_20_method_4_code 0 = .ok (.aload_n 0, 1) := by decide +kernel
theorem dc_prog_20_method_4_1 : decode prog_20_method_4_code 1 = .ok (.getfield 25, 3) := by decide +kernel
theorem dc_prog_20_method_4_4 : decode prog_20_method_4_code 4 = .ok (.ifCond .ne 27, 3) := by decide +kernel
theorem dc_prog_20_method_4_7 : decode prog_20_method_4_code 7 = .ok (.aload_n 0, 1) := by decide +kernel
theorem dc_prog_20_method_4_8 : decode prog_20_method_4_code 8 = .ok (.getfield 12, 3) := by decide +kernel
theorem dc_prog_20_method_4_11 : decode prog_20_method_4_code 11 = .ok (.getfield 41, 3) := by decide +kernel
theorem dc_prog_20_method_4_14 : decode prog_20_method_4_code 14 = .ok (.ifCond .ne 17, 3) := by decide +kernel
theorem dc_prog_20_method_4_17 : decode prog_20_method_4_code 17 = .ok (.aload_n 0, 1) := by decide +kernel
theorem dc_prog_20_method_4_18 : decode prog_20_method_4_code 18 = .ok (.getfield 21, 3) := by decide +kernel
theorem dc_prog_20_method_4_21 : decode prog_20_method_4_code 21 = .ok (.getfield 52, 3) := by decide +kernel
theorem dc_prog_20_method_4_24 : decode prog_20_method_4_code 24 = .ok (.ifCond .ne 7, 3) := by decide +kernel
theorem dc_prog_20_method_4_27 : decode prog_20_method_4_code 27 = .ok (.iconst 1, 1) := by decide +kernel
theorem dc_prog_20_method_4_28 : decode prog_20_method_4_code 28 = .ok (.goto 4, 3) := by decide +kernel
theorem dc_prog_20_method_4_32 : decode prog_20_method_4_code 32 = .ok (.ireturn, 1) := by decide +kernel
theorem pn_4 : plainFor yN4 = true := by first | (apply plainFor_of_name; simp [plainName, overriddenIn]; done) | decide +kernel
set_option maxRecDepth 65536 in
set_option maxHeartbeats 40000000 in
theorem u_SequenceQueue_isEmpty_10 (l : Launch) (Z : State) (a0 : Array Value) (hw : ∀ d ∈ tables_1, d.before a0 Z = true) (F : List Ent) (pA0 pA1 pA2 pA3 pA4 pA5 pA6 : Addr) (kA0 kA1 kA2 kA3 kA4 kA5 kA6 kA7 kA8 kA9 kA10 kA11 kA12 : Int64)  :
    Met l Z yN4 prog_20_method_4_code 1 (some .boolean) { frames := 0, cells := 0, slots := 0, locals := 0 } #[(.ref pA0)] ((pA0, oQ (.ref pA1) (.ref pA4) (.int (0 : Int32)) (.long kA0) .null) :: (pA1, oRun (.ref pA2) (.ref pA3) (.int (0 : Int32)) (.int (0 : Int32))) :: (pA2, .inr (.long, (oK64 (.long kA1) (.long kA2) (.long kA3) (.long kA4) (.long kA5) (.long kA6)), true)) :: (pA3, .inr (.object "java/lang/Object", (oE64 .null .null .null .null .null .null), true)) :: (pA4, oHeap (.ref pA5) (.ref pA6) (.int (0 : Int32))) :: (pA5, .inr (.long, (oK64 (.long kA7) (.long kA8) (.long kA9) (.long kA10) (.long kA11) (.long kA12)), true)) :: (pA6, .inr (.object "java/lang/Object", (oE64 .null .null .null .null .null .null), true)) :: F) (fun r M' => (r = (some (.int (1 : Int32))) ∧ M' = ((pA0, oQ (.ref pA1) (.ref pA4) (.int (0 : Int32)) (.long kA0) .null) :: (pA1, oRun (.ref pA2) (.ref pA3) (.int (0 : Int32)) (.int (0 : Int32))) :: (pA2, .inr (.long, (oK64 (.long kA1) (.long kA2) (.long kA3) (.long kA4) (.long kA5) (.long kA6)), true)) :: (pA3, .inr (.object "java/lang/Object", (oE64 .null .null .null .null .null .null), true)) :: (pA4, oHeap (.ref pA5) (.ref pA6) (.int (0 : Int32))) :: (pA5, .inr (.long, (oK64 (.long kA7) (.long kA8) (.long kA9) (.long kA10) (.long kA11) (.long kA12)), true)) :: (pA6, .inr (.object "java/lang/Object", (oE64 .null .null .null .null .null .null), true)) :: F))) := by
  refine Met.of_go pn_4 (Ls := #[.val (.ref pA0)]) (fun m => by first | rfl | (simp [entryFrame, mkF, argsToLocals, Value.category, maxLocals]; done)) ?_
  intro E C
  refine Go.aloadN C dc_prog_20_method_4_0 (q := 1) rfl rfl rfl ?_
  refine Go.getF C (host := "") (Or.inl (wd hw 46 rfl)) Via.refl (fun _ r => r.fld 0 2 rfl rfl) dc_prog_20_method_4_1 (q := 4) rfl ?_
  refine Go.ifNo C dc_prog_20_method_4_4 (q := 7) rfl (XT.i0_ne_f (by decide)) ?_
  refine Go.aloadN C dc_prog_20_method_4_7 (q := 8) rfl rfl rfl ?_
  refine Go.getF C (host := "") (Or.inl (wd hw 28 rfl)) Via.refl (fun _ r => r.fld 0 0 rfl rfl) dc_prog_20_method_4_8 (q := 11) rfl ?_
  refine Go.getF C (host := "") (Or.inl (wd hw 48 rfl)) (Via.of (wd hw 49 rfl)) (fun _ r => r.fld 1 2 rfl rfl) dc_prog_20_method_4_11 (q := 14) rfl ?_
  refine Go.ifNo C dc_prog_20_method_4_14 (q := 17) rfl (XT.i0_ne_f (by decide)) ?_
  refine Go.aloadN C dc_prog_20_method_4_17 (q := 18) rfl rfl rfl ?_
  refine Go.getF C (host := "") (Or.inl (wd hw 39 rfl)) Via.refl (fun _ r => r.fld 0 1 rfl rfl) dc_prog_20_method_4_18 (q := 21) rfl ?_
  refine Go.getF C (host := "") (Or.inl (wd hw 51 rfl)) (Via.of (wd hw 52 rfl)) (fun _ r => r.fld 4 2 rfl rfl) dc_prog_20_method_4_21 (q := 24) rfl ?_
  refine Go.ifNo C dc_prog_20_method_4_24 (q := 27) rfl (XT.i0_ne_f (by decide)) ?_
  refine Go.iconst C dc_prog_20_method_4_27 (q := 28) rfl (v := (1 : Int32)) rfl ?_
  refine Go.goto C dc_prog_20_method_4_28 (by decide) (q := 32) rfl ?_
  refine Go.retZ C rfl (by decide) dc_prog_20_method_4_32 (by decide) (by decide) ?_
  exact ⟨rfl, rfl⟩
theorem dc_prog_20_method_3_0 : decode prog_20_method_3_code 0 = .ok (.aload_n 0, 1) := by decide +kernel
theorem dc_prog_20_method_3_1 : decode prog_20_method_3_code 1 = .ok (.getfield 25, 3) := by decide +kernel
theorem dc_prog_20_method_3_4 : decode prog_20_method_3_code 4 = .ok (.ifCond .eq 71, 3) := by decide +kernel
theorem dc_prog_20_method_3_75 : decode prog_20_method_3_code 75 = .ok (.aload_n 0, 1) := by decide +kernel
theorem dc_prog_20_method_3_76 : decode prog_20_method_3_code 76 = .ok (.getfield 25, 3) := by decide +kernel
theorem dc_prog_20_method_3_79 : decode prog_20_method_3_code 79 = .ok (.ifCond .eq 15, 3) := by decide +kernel
theorem dc_prog_20_method_3_94 : decode prog_20_method_3_code 94 = .ok (.aload_n 0, 1) := by decide +kernel
theorem dc_prog_20_method_3_95 : decode prog_20_method_3_code 95 = .ok (.getfield 21, 3) := by decide +kernel
theorem dc_prog_20_method_3_98 : decode prog_20_method_3_code 98 = .ok (.getfield 52, 3) := by decide +kernel
theorem dc_prog_20_method_3_101 : decode prog_20_method_3_code 101 = .ok (.ifCond .eq 41, 3) := by decide +kernel
theorem dc_prog_20_method_3_142 : decode prog_20_method_3_code 142 = .ok (.aload_n 0, 1) := by decide +kernel
theorem dc_prog_20_method_3_143 : decode prog_20_method_3_code 143 = .ok (.getfield 12, 3) := by decide +kernel
theorem dc_prog_20_method_3_146 : decode prog_20_method_3_code 146 = .ok (.invokevirtual 54, 3) := by decide +kernel
theorem dc_prog_23_method_4_0 : decode prog_23_method_4_code 0 = .ok (.aload_n 0, 1) := by decide +kernel
theorem dc_prog_23_method_4_1 : decode prog_23_method_4_code 1 = .ok (.getfield 24, 3) := by decide +kernel
theorem dc_prog_23_method_4_4 : decode prog_23_method_4_code 4 = .ok (.aload_n 0, 1) := by decide +kernel
theorem dc_prog_23_method_4_5 : decode prog_23_method_4_code 5 = .ok (.getfield 28, 3) := by decide +kernel
theorem dc_prog_23_method_4_8 : decode prog_23_method_4_code 8 = .ok (.aaload, 1) := by decide +kernel
theorem dc_prog_23_method_4_9 : decode prog_23_method_4_code 9 = .ok (.astore_n 1, 1) := by decide +kernel
theorem dc_prog_23_method_4_10 : decode prog_23_method_4_code 10 = .ok (.aload_n 0, 1) := by decide +kernel
theorem dc_prog_23_method_4_11 : decode prog_23_method_4_code 11 = .ok (.getfield 13, 3) := by decide +kernel
theorem dc_prog_23_method_4_14 : decode prog_23_method_4_code 14 = .ok (.ifCond .le 36, 3) := by decide +kernel
theorem dc_prog_23_method_4_50 : decode prog_23_method_4_code 50 = .ok (.aload_n 1, 1) := by decide +kernel
theorem dc_prog_23_method_4_51 : decode prog_23_method_4_code 51 = .ok (.areturn, 1) := by decide +kernel
theorem pn_5 : plainFor yN5 = true := by first | (apply plainFor_of_name; simp [plainName, overriddenIn]; done) | decide +kernel
set_option maxRecDepth 65536 in
set_option maxHeartbeats 40000000 in
theorem u_SequenceQueue_Run_poll_13 (l : Launch) (Z : State) (a0 : Array Value) (hw : ∀ d ∈ tables_1, d.before a0 Z = true) (F : List Ent) (pA0 pA1 pA2 : Addr) (kA0 kA1 kA2 kA3 kA4 kA5 : Int64)  :
    Met l Z yN5 prog_23_method_4_code 2 (some (.object "java/lang/Object")) { frames := 0, cells := 0, slots := 0, locals := 0 } #[(.ref pA0)] ((pA0, oRun (.ref pA1) (.ref pA2) (.int (0 : Int32)) (.int (0 : Int32))) :: (pA1, .inr (.long, (oK64 (.long kA0) (.long kA1) (.long kA2) (.long kA3) (.long kA4) (.long kA5)), true)) :: (pA2, .inr (.object "java/lang/Object", (oE64 .null .null .null .null .null .null), true)) :: F) (fun r M' => (r = (some .null) ∧ M' = ((pA0, oRun (.ref pA1) (.ref pA2) (.int (0 : Int32)) (.int (0 : Int32))) :: (pA1, .inr (.long, (oK64 (.long kA0) (.long kA1) (.long kA2) (.long kA3) (.long kA4) (.long kA5)), true)) :: (pA2, .inr (.object "java/lang/Object", (oE64 .null .null .null .null .null .null), true)) :: F))) := by
  refine Met.of_go pn_5 (Ls := #[.val (.ref pA0), .unset]) (fun m => by first | rfl | (simp [entryFrame, mkF, argsToLocals, Value.category, maxLocals]; done)) ?_
  intro E C
  refine Go.aloadN C dc_prog_23_method_4_0 (q := 1) rfl rfl rfl ?_
  refine Go.getF C (host := "") (Or.inl (wd hw 63 rfl)) (Via.of (wd hw 64 rfl)) (fun _ r => r.fld 0 1 rfl rfl) dc_prog_23_method_4_1 (q := 4) rfl ?_
  refine Go.aloadN C dc_prog_23_method_4_4 (q := 5) rfl rfl rfl ?_
  refine Go.getF C (host := "") (Or.inl (wd hw 65 rfl)) Via.refl (fun _ r => r.fld 0 3 rfl rfl) dc_prog_23_method_4_5 (q := 8) rfl ?_
  refine Go.aaload C (fun _ r => r.arr 2 rfl) rfl (by decide) (v := .null) rfl dc_prog_23_method_4_8 (q := 9) rfl ?_
  refine Go.astoreN C dc_prog_23_method_4_9 (q := 10) rfl rfl (Ls' := #[.val (.ref pA0), .val .null]) rfl ?_
  refine Go.aloadN C dc_prog_23_method_4_10 (q := 11) rfl rfl rfl ?_
  refine Go.getF C (host := "") (Or.inl (wd hw 67 rfl)) (Via.of (wd hw 49 rfl)) (fun _ r => r.fld 0 2 rfl rfl) dc_prog_23_method_4_11 (q := 14) rfl ?_
  refine Go.ifYes C dc_prog_23_method_4_14 (by decide) (q := 50) rfl (XT.i0_le_t (by decide)) ?_
  refine Go.aloadN C dc_prog_23_method_4_50 (q := 51) rfl rfl rfl ?_
  refine Go.retA C rfl rfl rfl dc_prog_23_method_4_51 (by decide) (by decide) ?_
  exact ⟨rfl, rfl⟩
theorem dc_prog_20_method_3_149 : decode prog_20_method_3_code 149 = .ok (.astore_n 1, 1) := by decide +kernel
theorem dc_prog_20_method_3_150 : decode prog_20_method_3_code 150 = .ok (.goto 11, 3) := by decide +kernel
theorem dc_prog_20_method_3_161 : decode prog_20_method_3_code 161 = .ok (.aload_n 0, 1) := by decide +kernel
theorem dc_prog_20_method_3_162 : decode prog_20_method_3_code 162 = .ok (.iconst 0, 1) := by decide +kernel
theorem dc_prog_20_method_3_163 : decode prog_20_method_3_code 163 = .ok (.putfield 25, 3) := by decide +kernel
theorem dc_prog_20_method_3_166 : decode prog_20_method_3_code 166 = .ok (.aload_n 0, 1) := by decide +kernel
theorem dc_prog_20_method_3_167 : decode prog_20_method_3_code 167 = .ok (.aconst_null, 1) := by decide +kernel
theorem dc_prog_20_method_3_168 : decode prog_20_method_3_code 168 = .ok (.putfield 33, 3) := by decide +kernel
theorem dc_prog_20_method_3_171 : decode prog_20_method_3_code 171 = .ok (.aload_n 1, 1) := by decide +kernel
theorem dc_prog_20_method_3_172 : decode prog_20_method_3_code 172 = .ok (.astore_n 2, 1) := by decide +kernel
theorem dc_prog_20_method_3_173 : decode prog_20_method_3_code 173 = .ok (.aload_n 2, 1) := by decide +kernel
theorem dc_prog_20_method_3_174 : decode prog_20_method_3_code 174 = .ok (.areturn, 1) := by decide +kernel
theorem pn_6 : plainFor yN6 = true := by first | (apply plainFor_of_name; simp [plainName, overriddenIn]; done) | decide +kernel
set_option maxRecDepth 65536 in
set_option maxHeartbeats 40000000 in
theorem u_SequenceQueue_poll_12 (l : Launch) (Z : State) (a0 : Array Value) (hw : ∀ d ∈ tables_1, d.before a0 Z = true) (F : List Ent) (pA0 pA1 pA2 pA3 pA4 pA5 pA6 : Addr) (kA0 kA1 kA2 kA3 kA4 kA5 kA6 kA7 kA8 kA9 kA10 kA11 kA12 : Int64)  :
    Met l Z yN6 prog_20_method_3_code 3 (some (.object "java/lang/Object")) { frames := 1, cells := 0, slots := 0, locals := 13 } #[(.ref pA0)] ((pA0, oQ (.ref pA1) (.ref pA4) (.int (0 : Int32)) (.long kA0) .null) :: (pA1, oRun (.ref pA2) (.ref pA3) (.int (0 : Int32)) (.int (0 : Int32))) :: (pA2, .inr (.long, (oK64 (.long kA1) (.long kA2) (.long kA3) (.long kA4) (.long kA5) (.long kA6)), true)) :: (pA3, .inr (.object "java/lang/Object", (oE64 .null .null .null .null .null .null), true)) :: (pA4, oHeap (.ref pA5) (.ref pA6) (.int (0 : Int32))) :: (pA5, .inr (.long, (oK64 (.long kA7) (.long kA8) (.long kA9) (.long kA10) (.long kA11) (.long kA12)), true)) :: (pA6, .inr (.object "java/lang/Object", (oE64 .null .null .null .null .null .null), true)) :: F) (fun r M' => (r = (some .null) ∧ M' = ((pA1, oRun (.ref pA2) (.ref pA3) (.int (0 : Int32)) (.int (0 : Int32))) :: (pA2, .inr (.long, (oK64 (.long kA1) (.long kA2) (.long kA3) (.long kA4) (.long kA5) (.long kA6)), true)) :: (pA3, .inr (.object "java/lang/Object", (oE64 .null .null .null .null .null .null), true)) :: (pA0, oQ (.ref pA1) (.ref pA4) (.int (0 : Int32)) (.long kA0) .null) :: (pA4, oHeap (.ref pA5) (.ref pA6) (.int (0 : Int32))) :: (pA5, .inr (.long, (oK64 (.long kA7) (.long kA8) (.long kA9) (.long kA10) (.long kA11) (.long kA12)), true)) :: (pA6, .inr (.object "java/lang/Object", (oE64 .null .null .null .null .null .null), true)) :: F))) := by
  refine Met.of_go pn_6 (Ls := #[.val (.ref pA0), .unset, .unset]) (fun m => by first | rfl | (simp [entryFrame, mkF, argsToLocals, Value.category, maxLocals]; done)) ?_
  intro E C
  refine Go.aloadN C dc_prog_20_method_3_0 (q := 1) rfl rfl rfl ?_
  refine Go.getF C (host := "") (Or.inl (wd hw 46 rfl)) Via.refl (fun _ r => r.fld 0 2 rfl rfl) dc_prog_20_method_3_1 (q := 4) rfl ?_
  refine Go.ifYes C dc_prog_20_method_3_4 (by decide) (q := 75) rfl (XT.i0_eq_t (by decide)) ?_
  refine Go.aloadN C dc_prog_20_method_3_75 (q := 76) rfl rfl rfl ?_
  refine Go.getF C (host := "") (Or.inl (wd hw 46 rfl)) Via.refl (fun _ r => r.fld 0 2 rfl rfl) dc_prog_20_method_3_76 (q := 79) rfl ?_
  refine Go.ifYes C dc_prog_20_method_3_79 (by decide) (q := 94) rfl (XT.i0_eq_t (by decide)) ?_
  refine Go.aloadN C dc_prog_20_method_3_94 (q := 95) rfl rfl rfl ?_
  refine Go.getF C (host := "") (Or.inl (wd hw 39 rfl)) Via.refl (fun _ r => r.fld 0 1 rfl rfl) dc_prog_20_method_3_95 (q := 98) rfl ?_
  refine Go.getF C (host := "") (Or.inl (wd hw 51 rfl)) (Via.of (wd hw 52 rfl)) (fun _ r => r.fld 4 2 rfl rfl) dc_prog_20_method_3_98 (q := 101) rfl ?_
  refine Go.ifYes C dc_prog_20_method_3_101 (by decide) (q := 142) rfl (XT.i0_eq_t (by decide)) ?_
  refine Go.aloadN C dc_prog_20_method_3_142 (q := 143) rfl rfl rfl ?_
  refine Go.getF C (host := "") (Or.inl (wd hw 28 rfl)) Via.refl (fun _ r => r.fld 0 0 rfl rfl) dc_prog_20_method_3_143 (q := 146) rfl ?_
  refine Go.pick (M' := ((pA1, oRun (.ref pA2) (.ref pA3) (.int (0 : Int32)) (.int (0 : Int32))) :: (pA2, .inr (.long, (oK64 (.long kA1) (.long kA2) (.long kA3) (.long kA4) (.long kA5) (.long kA6)), true)) :: (pA3, .inr (.object "java/lang/Object", (oE64 .null .null .null .null .null .null), true)) :: (pA0, oQ (.ref pA1) (.ref pA4) (.int (0 : Int32)) (.long kA0) .null) :: (pA4, oHeap (.ref pA5) (.ref pA6) (.int (0 : Int32))) :: (pA5, .inr (.long, (oK64 (.long kA7) (.long kA8) (.long kA9) (.long kA10) (.long kA11) (.long kA12)), true)) :: (pA6, .inr (.object "java/lang/Object", (oE64 .null .null .null .null .null .null), true)) :: F)) 7 [1, 2, 3, 0, 4, 5, 6] (by decide) (by decide) rfl ?_
  refine Go.callPR C (y := yN5) (a := pA1) (as := []) (rest := []) (wd hw 59 rfl) (wd hw 60 rfl) (sel_priv (y := yN5) (wd hw 10 rfl) (wd hw 60 rfl) (wd hw 61 rfl) (by decide)) (wd hw 61 rfl) (wd hw 62 rfl) (wd hw 11 rfl) (fun _ r => r.exa 0 rfl) (u_SequenceQueue_Run_poll_13 l Z a0 hw _ pA1 pA2 pA3 kA1 kA2 kA3 kA4 kA5 kA6) rfl dc_prog_20_method_3_146 (q := 149) rfl (by decide) rfl (na := 0) (by decide +kernel) rfl (by decide) (W := 0) rfl (by decide) (by decide) (by decide) (k' := 0) (n' := 0) rfl rfl ?_
  rintro _ _ ⟨rfl, rfl⟩
  show Go _ _ _ _ _ _ _ _ _ _ [.null]
  refine Go.astoreN C dc_prog_20_method_3_149 (q := 150) rfl rfl (Ls' := #[.val (.ref pA0), .val .null, .unset]) rfl ?_
  refine Go.goto C dc_prog_20_method_3_150 (by decide) (q := 161) rfl ?_
  refine Go.aloadN C dc_prog_20_method_3_161 (q := 162) rfl rfl rfl ?_
  refine Go.iconst C dc_prog_20_method_3_162 (q := 163) rfl (v := (0 : Int32)) rfl ?_
  refine Go.putF C (host := "") (i := 3) (j := 2) (Or.inl (wd hw 46 rfl)) Via.refl rfl rfl (Or.inl (wd hw 47 rfl)) (wd hw 1 rfl) (ty := .boolean) (by decide) rfl rfl dc_prog_20_method_3_163 (q := 166) rfl (M' := ((pA1, oRun (.ref pA2) (.ref pA3) (.int (0 : Int32)) (.int (0 : Int32))) :: (pA2, .inr (.long, (oK64 (.long kA1) (.long kA2) (.long kA3) (.long kA4) (.long kA5) (.long kA6)), true)) :: (pA3, .inr (.object "java/lang/Object", (oE64 .null .null .null .null .null .null), true)) :: (pA0, oQ (.ref pA1) (.ref pA4) (.int (0 : Int32)) (.long kA0) .null) :: (pA4, oHeap (.ref pA5) (.ref pA6) (.int (0 : Int32))) :: (pA5, .inr (.long, (oK64 (.long kA7) (.long kA8) (.long kA9) (.long kA10) (.long kA11) (.long kA12)), true)) :: (pA6, .inr (.object "java/lang/Object", (oE64 .null .null .null .null .null .null), true)) :: F)) rfl ?_
  refine Go.aloadN C dc_prog_20_method_3_166 (q := 167) rfl rfl rfl ?_
  refine Go.aconstNull C dc_prog_20_method_3_167 (q := 168) rfl ?_
  refine Go.putF C (host := "") (i := 3) (j := 4) (Or.inl (wd hw 68 rfl)) Via.refl rfl rfl (Or.inl (wd hw 69 rfl)) (wd hw 1 rfl) (ty := (.object "java/lang/Object")) (by decide) rfl rfl dc_prog_20_method_3_168 (q := 171) rfl (M' := ((pA1, oRun (.ref pA2) (.ref pA3) (.int (0 : Int32)) (.int (0 : Int32))) :: (pA2, .inr (.long, (oK64 (.long kA1) (.long kA2) (.long kA3) (.long kA4) (.long kA5) (.long kA6)), true)) :: (pA3, .inr (.object "java/lang/Object", (oE64 .null .null .null .null .null .null), true)) :: (pA0, oQ (.ref pA1) (.ref pA4) (.int (0 : Int32)) (.long kA0) .null) :: (pA4, oHeap (.ref pA5) (.ref pA6) (.int (0 : Int32))) :: (pA5, .inr (.long, (oK64 (.long kA7) (.long kA8) (.long kA9) (.long kA10) (.long kA11) (.long kA12)), true)) :: (pA6, .inr (.object "java/lang/Object", (oE64 .null .null .null .null .null .null), true)) :: F)) rfl ?_
  refine Go.aloadN C dc_prog_20_method_3_171 (q := 172) rfl rfl rfl ?_
  refine Go.astoreN C dc_prog_20_method_3_172 (q := 173) rfl rfl (Ls' := #[.val (.ref pA0), .val .null, .val .null]) rfl ?_
  refine Go.aloadN C dc_prog_20_method_3_173 (q := 174) rfl rfl rfl ?_
  refine Go.retA C rfl rfl rfl dc_prog_20_method_3_174 (by decide) (by decide) ?_
  exact ⟨rfl, rfl⟩
theorem dc_jdk_29_method_65_0 : decode jdk_29_method_65_code 0 = .ok (.iload_n 0, 1) := by decide +kernel
theorem dc_jdk_29_method_65_1 : decode jdk_29_method_65_code 1 = .ok (.iload_n 1, 1) := by decide +kernel
theorem dc_jdk_29_method_65_2 : decode jdk_29_method_65_code 2 = .ok (.if_icmp .lt 7, 3) := by decide +kernel
theorem dc_jdk_29_method_65_5 : decode jdk_29_method_65_code 5 = .ok (.iload_n 0, 1) := by decide +kernel
theorem dc_jdk_29_method_65_6 : decode jdk_29_method_65_code 6 = .ok (.goto 4, 3) := by decide +kernel
theorem dc_jdk_29_method_65_10 : decode jdk_29_method_65_code 10 = .ok (.ireturn, 1) := by decide +kernel
theorem pn_7 : plainFor yN7 = true := by first | (apply plainFor_of_name; simp [plainName, overriddenIn]; done) | decide +kernel
set_option maxRecDepth 65536 in
set_option maxHeartbeats 40000000 in
theorem u_Math_max_16 (l : Launch) (Z : State) (a0 : Array Value) (hw : ∀ d ∈ tables_1, d.before a0 Z = true) (F : List Ent)  :
    Met l Z yN7 jdk_29_method_65_code 2 (some .int) { frames := 0, cells := 0, slots := 0, locals := 0 } #[(.int (0 : Int32)), (.int (-1 : Int32))] (F) (fun r M' => (r = (some (.int (0 : Int32))) ∧ M' = (F))) := by
  refine Met.of_go pn_7 (Ls := #[.val (.int (0 : Int32)), .val (.int (-1 : Int32))]) (fun m => by first | rfl | (simp [entryFrame, mkF, argsToLocals, Value.category, maxLocals]; done)) ?_
  intro E C
  refine Go.iloadN C dc_jdk_29_method_65_0 (q := 1) rfl rfl ?_
  refine Go.iloadN C dc_jdk_29_method_65_1 (q := 2) rfl rfl ?_
  refine Go.icmpNo C dc_jdk_29_method_65_2 (q := 5) rfl (XT.ii_lt_f (by decide)) ?_
  refine Go.iloadN C dc_jdk_29_method_65_5 (q := 6) rfl rfl ?_
  refine Go.goto C dc_jdk_29_method_65_6 (by decide) (q := 10) rfl ?_
  refine Go.retI C rfl dc_jdk_29_method_65_10 (by decide) (by decide) ?_
  exact ⟨rfl, rfl⟩
theorem dc_jdk_33_method_22_0 : decode jdk_33_method_22_code 0 = .ok (.iload_n 0, 1) := by decide +kernel
theorem dc_jdk_33_method_22_1 : decode jdk_33_method_22_code 1 = .ok (.bipush (-128), 2) := by decide +kernel
theorem dc_jdk_33_method_22_3 : decode jdk_33_method_22_code 3 = .ok (.if_icmp .lt 20, 3) := by decide +kernel
theorem dc_jdk_33_method_22_6 : decode jdk_33_method_22_code 6 = .ok (.iload_n 0, 1) := by decide +kernel
theorem dc_jdk_33_method_22_7 : decode jdk_33_method_22_code 7 = .ok (.getstatic 191, 3) := by decide +kernel
theorem dc_jdk_33_method_22_10 : decode jdk_33_method_22_code 10 = .ok (.if_icmp .gt 13, 3) := by decide +kernel
theorem dc_jdk_33_method_22_13 : decode jdk_33_method_22_code 13 = .ok (.getstatic 195, 3) := by decide +kernel
theorem dc_jdk_33_method_22_16 : decode jdk_33_method_22_code 16 = .ok (.iload_n 0, 1) := by decide +kernel
theorem dc_jdk_33_method_22_17 : decode jdk_33_method_22_code 17 = .ok (.sipush 128, 3) := by decide +kernel
theorem dc_jdk_33_method_22_20 : decode jdk_33_method_22_code 20 = .ok (.iadd, 1) := by decide +kernel
theorem dc_jdk_33_method_22_21 : decode jdk_33_method_22_code 21 = .ok (.aaload, 1) := by decide +kernel
theorem dc_jdk_33_method_22_22 : decode jdk_33_method_22_code 22 = .ok (.areturn, 1) := by decide +kernel
theorem pn_8 : plainFor yN8 = true := by first | (apply plainFor_of_name; simp [plainName, overriddenIn]; done) | decide +kernel
set_option maxRecDepth 65536 in
set_option maxHeartbeats 40000000 in
theorem m_valueOf3 (l : Launch) (Z : State) (a0 : Array Value) (hw : ∀ d ∈ tables_1, d.before a0 Z = true) (F : List Ent) (cb : Addr) (cs : List Value) (S_high : Sta Z Z.heap "java/lang/Integer$IntegerCache" "high" "I" (.int (127 : Int32))) (S_cache : Sta Z Z.heap "java/lang/Integer$IntegerCache" "cache" "[Ljava/lang/Integer;" (.ref cb)) (A_cache : ArrIs Z Z.heap cb (.object "java/lang/Integer") cs) (H_cache : ∀ j : Nat, j < 256 → ∃ b, cs[j]? = some (.ref b) ∧ Exa Z Z.heap b "java/lang/Integer" ∧ Fld Z Z.heap b "java/lang/Integer" "value" "I" (.int (j.toInt32 - 128))) :
    Met l Z yN8 jdk_33_method_22_code 1 (some (.object "java/lang/Integer")) { frames := 0, cells := 0, slots := 0, locals := 0 } #[(.int (3 : Int32))] (F) (fun r M' => ∃ b, r = some (.ref b) ∧ M' = F ∧ Exa Z Z.heap b "java/lang/Integer" ∧ Fld Z Z.heap b "java/lang/Integer" "value" "I" (.int (3 : Int32))) := by
  refine Met.of_go pn_8 (Ls := #[.val (.int (3 : Int32))]) (fun m => by first | rfl | (simp [entryFrame, mkF, argsToLocals, Value.category, maxLocals]; done)) ?_
  intro E C
  refine Go.iloadN C dc_jdk_33_method_22_0 (q := 1) rfl rfl ?_
  refine Go.bipush C dc_jdk_33_method_22_1 (q := 3) rfl (v := (-128 : Int32)) (by decide) ?_
  refine Go.icmpNo C dc_jdk_33_method_22_3 (q := 6) rfl (XT.ii_lt_f (by decide)) ?_
  refine Go.iloadN C dc_jdk_33_method_22_6 (q := 7) rfl rfl ?_
  refine Go.getS C (host := "") (Or.inl (wd hw 78 rfl)) Via.refl S_high dc_jdk_33_method_22_7 (q := 10) rfl ?_
  refine Go.icmpNo C dc_jdk_33_method_22_10 (q := 13) rfl (XT.ii_gt_f (by decide)) ?_
  refine Go.getS C (host := "") (Or.inl (wd hw 80 rfl)) Via.refl S_cache dc_jdk_33_method_22_13 (q := 16) rfl ?_
  refine Go.iloadN C dc_jdk_33_method_22_16 (q := 17) rfl rfl ?_
  refine Go.sipush C dc_jdk_33_method_22_17 (q := 20) rfl (v := (128 : Int32)) (by decide) ?_
  refine Go.iadd C dc_jdk_33_method_22_20 (q := 21) rfl ?_
  refine Go.castI (w := (131 : Int32)) (by decide) ?_
  obtain ⟨b, hb1, hb2, hb3⟩ := H_cache 131 (by decide)
  have e : (131 : Nat).toInt32 - 128 = (3 : Int32) := by decide
  rw [e] at hb3
  refine Go.aaload C (fun _ r => (A_cache).ext r.1) rfl (by decide) (v := (.ref b)) hb1 dc_jdk_33_method_22_21 (q := 22) rfl ?_
  refine Go.retA C rfl rfl rfl dc_jdk_33_method_22_22 (by decide) (by decide) ?_
  exact ⟨b, rfl, rfl, hb2, hb3⟩
theorem dc_prog_20_method_2_0 : decode prog_20_method_2_code 0 = .ok (.aload_n 0, 1) := by decide +kernel
theorem dc_prog_20_method_2_1 : decode prog_20_method_2_code 1 = .ok (.getfield 25, 3) := by decide +kernel
theorem dc_prog_20_method_2_4 : decode prog_20_method_2_code 4 = .ok (.ifCond .eq 15, 3) := by decide +kernel
theorem dc_prog_20_method_2_19 : decode prog_20_method_2_code 19 = .ok (.aload_n 0, 1) := by decide +kernel
theorem dc_prog_20_method_2_20 : decode prog_20_method_2_code 20 = .ok (.iconst 1, 1) := by decide +kernel
theorem dc_prog_20_method_2_21 : decode prog_20_method_2_code 21 = .ok (.putfield 25, 3) := by decide +kernel
theorem dc_prog_20_method_2_24 : decode prog_20_method_2_code 24 = .ok (.aload_n 0, 1) := by decide +kernel
theorem dc_prog_20_method_2_25 : decode prog_20_method_2_code 25 = .ok (.lload_n 1, 1) := by decide +kernel
theorem dc_prog_20_method_2_26 : decode prog_20_method_2_code 26 = .ok (.putfield 29, 3) := by decide +kernel
theorem dc_prog_20_method_2_29 : decode prog_20_method_2_code 29 = .ok (.aload_n 0, 1) := by decide +kernel
theorem dc_prog_20_method_2_30 : decode prog_20_method_2_code 30 = .ok (.aload_n 3, 1) := by decide +kernel
theorem dc_prog_20_method_2_31 : decode prog_20_method_2_code 31 = .ok (.putfield 33, 3) := by decide +kernel
theorem dc_prog_20_method_2_34 : decode prog_20_method_2_code 34 = .ok (.return_, 1) := by decide +kernel
theorem pn_9 : plainFor yN9 = true := by first | (apply plainFor_of_name; simp [plainName, overriddenIn]; done) | decide +kernel
set_option maxRecDepth 65536 in
set_option maxHeartbeats 40000000 in
theorem u_SequenceQueue_add_18 (l : Launch) (Z : State) (a0 : Array Value) (hw : ∀ d ∈ tables_1, d.before a0 Z = true) (F : List Ent) (pA0 pA1 pA2 pA3 pA4 pA5 pA6 eA0 : Addr) (kA0 kA1 kA2 kA3 kA4 kA5 kA6 kA7 kA8 kA9 kA10 kA11 kA12 kA13 : Int64) (hE_eA0 : Exa Z Z.heap eA0 "java/lang/Integer") :
    Met l Z yN9 prog_20_method_2_code 4 none { frames := 0, cells := 0, slots := 0, locals := 0 } #[(.ref pA0), (.long kA0), (.ref eA0)] ((pA0, oQ (.ref pA1) (.ref pA4) (.int (0 : Int32)) (.long kA1) .null) :: (pA1, oRun (.ref pA2) (.ref pA3) (.int (0 : Int32)) (.int (0 : Int32))) :: (pA2, .inr (.long, (oK64 (.long kA2) (.long kA3) (.long kA4) (.long kA5) (.long kA6) (.long kA7)), true)) :: (pA3, .inr (.object "java/lang/Object", (oE64 .null .null .null .null .null .null), true)) :: (pA4, oHeap (.ref pA5) (.ref pA6) (.int (0 : Int32))) :: (pA5, .inr (.long, (oK64 (.long kA8) (.long kA9) (.long kA10) (.long kA11) (.long kA12) (.long kA13)), true)) :: (pA6, .inr (.object "java/lang/Object", (oE64 .null .null .null .null .null .null), true)) :: F) (fun r M' => (r = none ∧ M' = ((pA0, oQ (.ref pA1) (.ref pA4) (.int (1 : Int32)) (.long kA0) (.ref eA0)) :: (pA1, oRun (.ref pA2) (.ref pA3) (.int (0 : Int32)) (.int (0 : Int32))) :: (pA2, .inr (.long, (oK64 (.long kA2) (.long kA3) (.long kA4) (.long kA5) (.long kA6) (.long kA7)), true)) :: (pA3, .inr (.object "java/lang/Object", (oE64 .null .null .null .null .null .null), true)) :: (pA4, oHeap (.ref pA5) (.ref pA6) (.int (0 : Int32))) :: (pA5, .inr (.long, (oK64 (.long kA8) (.long kA9) (.long kA10) (.long kA11) (.long kA12) (.long kA13)), true)) :: (pA6, .inr (.object "java/lang/Object", (oE64 .null .null .null .null .null .null), true)) :: F))) := by
  refine Met.of_go pn_9 (Ls := #[.val (.ref pA0), .val (.long kA0), .second, .val (.ref eA0)]) (fun m => by first | rfl | (simp [entryFrame, mkF, argsToLocals, Value.category, maxLocals]; done)) ?_
  intro E C
  refine Go.aloadN C dc_prog_20_method_2_0 (q := 1) rfl rfl rfl ?_
  refine Go.getF C (host := "") (Or.inl (wd hw 46 rfl)) Via.refl (fun _ r => r.fld 0 2 rfl rfl) dc_prog_20_method_2_1 (q := 4) rfl ?_
  refine Go.ifYes C dc_prog_20_method_2_4 (by decide) (q := 19) rfl (XT.i0_eq_t (by decide)) ?_
  refine Go.aloadN C dc_prog_20_method_2_19 (q := 20) rfl rfl rfl ?_
  refine Go.iconst C dc_prog_20_method_2_20 (q := 21) rfl (v := (1 : Int32)) rfl ?_
  refine Go.putF C (host := "") (i := 0) (j := 2) (Or.inl (wd hw 46 rfl)) Via.refl rfl rfl (Or.inl (wd hw 47 rfl)) (wd hw 1 rfl) (ty := .boolean) (by decide) rfl rfl dc_prog_20_method_2_21 (q := 24) rfl (M' := ((pA0, oQ (.ref pA1) (.ref pA4) (.int (1 : Int32)) (.long kA1) .null) :: (pA1, oRun (.ref pA2) (.ref pA3) (.int (0 : Int32)) (.int (0 : Int32))) :: (pA2, .inr (.long, (oK64 (.long kA2) (.long kA3) (.long kA4) (.long kA5) (.long kA6) (.long kA7)), true)) :: (pA3, .inr (.object "java/lang/Object", (oE64 .null .null .null .null .null .null), true)) :: (pA4, oHeap (.ref pA5) (.ref pA6) (.int (0 : Int32))) :: (pA5, .inr (.long, (oK64 (.long kA8) (.long kA9) (.long kA10) (.long kA11) (.long kA12) (.long kA13)), true)) :: (pA6, .inr (.object "java/lang/Object", (oE64 .null .null .null .null .null .null), true)) :: F)) rfl ?_
  refine Go.aloadN C dc_prog_20_method_2_24 (q := 25) rfl rfl rfl ?_
  refine Go.lloadN C dc_prog_20_method_2_25 (q := 26) rfl rfl ?_
  refine Go.putF C (host := "") (i := 0) (j := 3) (Or.inl (wd hw 86 rfl)) Via.refl rfl rfl (Or.inl (wd hw 87 rfl)) (wd hw 1 rfl) (ty := .long) (by decide) rfl rfl dc_prog_20_method_2_26 (q := 29) rfl (M' := ((pA0, oQ (.ref pA1) (.ref pA4) (.int (1 : Int32)) (.long kA0) .null) :: (pA1, oRun (.ref pA2) (.ref pA3) (.int (0 : Int32)) (.int (0 : Int32))) :: (pA2, .inr (.long, (oK64 (.long kA2) (.long kA3) (.long kA4) (.long kA5) (.long kA6) (.long kA7)), true)) :: (pA3, .inr (.object "java/lang/Object", (oE64 .null .null .null .null .null .null), true)) :: (pA4, oHeap (.ref pA5) (.ref pA6) (.int (0 : Int32))) :: (pA5, .inr (.long, (oK64 (.long kA8) (.long kA9) (.long kA10) (.long kA11) (.long kA12) (.long kA13)), true)) :: (pA6, .inr (.object "java/lang/Object", (oE64 .null .null .null .null .null .null), true)) :: F)) rfl ?_
  refine Go.aloadN C dc_prog_20_method_2_29 (q := 30) rfl rfl rfl ?_
  refine Go.aloadN C dc_prog_20_method_2_30 (q := 31) rfl rfl rfl ?_
  refine Go.putF C (host := "") (i := 0) (j := 4) (Or.inl (wd hw 68 rfl)) Via.refl rfl rfl (Or.inl (wd hw 69 rfl)) (wd hw 1 rfl) (ty := (.object "java/lang/Object")) (by decide) rfl rfl dc_prog_20_method_2_31 (q := 34) rfl (M' := ((pA0, oQ (.ref pA1) (.ref pA4) (.int (1 : Int32)) (.long kA0) (.ref eA0)) :: (pA1, oRun (.ref pA2) (.ref pA3) (.int (0 : Int32)) (.int (0 : Int32))) :: (pA2, .inr (.long, (oK64 (.long kA2) (.long kA3) (.long kA4) (.long kA5) (.long kA6) (.long kA7)), true)) :: (pA3, .inr (.object "java/lang/Object", (oE64 .null .null .null .null .null .null), true)) :: (pA4, oHeap (.ref pA5) (.ref pA6) (.int (0 : Int32))) :: (pA5, .inr (.long, (oK64 (.long kA8) (.long kA9) (.long kA10) (.long kA11) (.long kA12) (.long kA13)), true)) :: (pA6, .inr (.object "java/lang/Object", (oE64 .null .null .null .null .null .null), true)) :: F)) rfl ?_
  refine Go.ret0 C rfl dc_prog_20_method_2_34 (by decide) (by decide) ?_
  exact ⟨rfl, rfl⟩
theorem dc_prog_20_method_4_31 : decode prog_20_method_4_code 31 = .ok (.iconst 0, 1) := by decide +kernel
set_option maxRecDepth 65536 in
set_option maxHeartbeats 40000000 in
theorem u_SequenceQueue_isEmpty_20 (l : Launch) (Z : State) (a0 : Array Value) (hw : ∀ d ∈ tables_1, d.before a0 Z = true) (F : List Ent) (pA0 pA1 pA2 pA3 pA4 pA5 pA6 eA0 : Addr) (kA0 kA1 kA2 kA3 kA4 kA5 kA6 kA7 kA8 kA9 kA10 kA11 kA12 : Int64) (hE_eA0 : Exa Z Z.heap eA0 "java/lang/Integer") :
    Met l Z yN4 prog_20_method_4_code 1 (some .boolean) { frames := 0, cells := 0, slots := 0, locals := 0 } #[(.ref pA0)] ((pA0, oQ (.ref pA1) (.ref pA4) (.int (1 : Int32)) (.long kA0) (.ref eA0)) :: (pA1, oRun (.ref pA2) (.ref pA3) (.int (0 : Int32)) (.int (0 : Int32))) :: (pA2, .inr (.long, (oK64 (.long kA1) (.long kA2) (.long kA3) (.long kA4) (.long kA5) (.long kA6)), true)) :: (pA3, .inr (.object "java/lang/Object", (oE64 .null .null .null .null .null .null), true)) :: (pA4, oHeap (.ref pA5) (.ref pA6) (.int (0 : Int32))) :: (pA5, .inr (.long, (oK64 (.long kA7) (.long kA8) (.long kA9) (.long kA10) (.long kA11) (.long kA12)), true)) :: (pA6, .inr (.object "java/lang/Object", (oE64 .null .null .null .null .null .null), true)) :: F) (fun r M' => (r = (some (.int (0 : Int32))) ∧ M' = ((pA0, oQ (.ref pA1) (.ref pA4) (.int (1 : Int32)) (.long kA0) (.ref eA0)) :: (pA1, oRun (.ref pA2) (.ref pA3) (.int (0 : Int32)) (.int (0 : Int32))) :: (pA2, .inr (.long, (oK64 (.long kA1) (.long kA2) (.long kA3) (.long kA4) (.long kA5) (.long kA6)), true)) :: (pA3, .inr (.object "java/lang/Object", (oE64 .null .null .null .null .null .null), true)) :: (pA4, oHeap (.ref pA5) (.ref pA6) (.int (0 : Int32))) :: (pA5, .inr (.long, (oK64 (.long kA7) (.long kA8) (.long kA9) (.long kA10) (.long kA11) (.long kA12)), true)) :: (pA6, .inr (.object "java/lang/Object", (oE64 .null .null .null .null .null .null), true)) :: F))) := by
  refine Met.of_go pn_4 (Ls := #[.val (.ref pA0)]) (fun m => by first | rfl | (simp [entryFrame, mkF, argsToLocals, Value.category, maxLocals]; done)) ?_
  intro E C
  refine Go.aloadN C dc_prog_20_method_4_0 (q := 1) rfl rfl rfl ?_
  refine Go.getF C (host := "") (Or.inl (wd hw 46 rfl)) Via.refl (fun _ r => r.fld 0 2 rfl rfl) dc_prog_20_method_4_1 (q := 4) rfl ?_
  refine Go.ifYes C dc_prog_20_method_4_4 (by decide) (q := 31) rfl (XT.i0_ne_t (by decide)) ?_
  refine Go.iconst C dc_prog_20_method_4_31 (q := 32) rfl (v := (0 : Int32)) rfl ?_
  refine Go.retZ C rfl (by decide) dc_prog_20_method_4_32 (by decide) (by decide) ?_
  exact ⟨rfl, rfl⟩
set_option maxRecDepth 65536 in
set_option maxHeartbeats 40000000 in
theorem m_valueOf2 (l : Launch) (Z : State) (a0 : Array Value) (hw : ∀ d ∈ tables_1, d.before a0 Z = true) (F : List Ent) (cb : Addr) (cs : List Value) (S_high : Sta Z Z.heap "java/lang/Integer$IntegerCache" "high" "I" (.int (127 : Int32))) (S_cache : Sta Z Z.heap "java/lang/Integer$IntegerCache" "cache" "[Ljava/lang/Integer;" (.ref cb)) (A_cache : ArrIs Z Z.heap cb (.object "java/lang/Integer") cs) (H_cache : ∀ j : Nat, j < 256 → ∃ b, cs[j]? = some (.ref b) ∧ Exa Z Z.heap b "java/lang/Integer" ∧ Fld Z Z.heap b "java/lang/Integer" "value" "I" (.int (j.toInt32 - 128))) :
    Met l Z yN8 jdk_33_method_22_code 1 (some (.object "java/lang/Integer")) { frames := 0, cells := 0, slots := 0, locals := 0 } #[(.int (2 : Int32))] (F) (fun r M' => ∃ b, r = some (.ref b) ∧ M' = F ∧ Exa Z Z.heap b "java/lang/Integer" ∧ Fld Z Z.heap b "java/lang/Integer" "value" "I" (.int (2 : Int32))) := by
  refine Met.of_go pn_8 (Ls := #[.val (.int (2 : Int32))]) (fun m => by first | rfl | (simp [entryFrame, mkF, argsToLocals, Value.category, maxLocals]; done)) ?_
  intro E C
  refine Go.iloadN C dc_jdk_33_method_22_0 (q := 1) rfl rfl ?_
  refine Go.bipush C dc_jdk_33_method_22_1 (q := 3) rfl (v := (-128 : Int32)) (by decide) ?_
  refine Go.icmpNo C dc_jdk_33_method_22_3 (q := 6) rfl (XT.ii_lt_f (by decide)) ?_
  refine Go.iloadN C dc_jdk_33_method_22_6 (q := 7) rfl rfl ?_
  refine Go.getS C (host := "") (Or.inl (wd hw 78 rfl)) Via.refl S_high dc_jdk_33_method_22_7 (q := 10) rfl ?_
  refine Go.icmpNo C dc_jdk_33_method_22_10 (q := 13) rfl (XT.ii_gt_f (by decide)) ?_
  refine Go.getS C (host := "") (Or.inl (wd hw 80 rfl)) Via.refl S_cache dc_jdk_33_method_22_13 (q := 16) rfl ?_
  refine Go.iloadN C dc_jdk_33_method_22_16 (q := 17) rfl rfl ?_
  refine Go.sipush C dc_jdk_33_method_22_17 (q := 20) rfl (v := (128 : Int32)) (by decide) ?_
  refine Go.iadd C dc_jdk_33_method_22_20 (q := 21) rfl ?_
  refine Go.castI (w := (130 : Int32)) (by decide) ?_
  obtain ⟨b, hb1, hb2, hb3⟩ := H_cache 130 (by decide)
  have e : (130 : Nat).toInt32 - 128 = (2 : Int32) := by decide
  rw [e] at hb3
  refine Go.aaload C (fun _ r => (A_cache).ext r.1) rfl (by decide) (v := (.ref b)) hb1 dc_jdk_33_method_22_21 (q := 22) rfl ?_
  refine Go.retA C rfl rfl rfl dc_jdk_33_method_22_22 (by decide) (by decide) ?_
  exact ⟨b, rfl, rfl, hb2, hb3⟩
theorem dc_prog_20_method_3_7 : decode prog_20_method_3_code 7 = .ok (.aload_n 0, 1) := by decide +kernel
theorem dc_prog_20_method_3_8 : decode prog_20_method_3_code 8 = .ok (.getfield 12, 3) := by decide +kernel
theorem dc_prog_20_method_3_11 : decode prog_20_method_3_code 11 = .ok (.getfield 41, 3) := by decide +kernel
theorem dc_prog_20_method_3_14 : decode prog_20_method_3_code 14 = .ok (.ifCond .eq 26, 3) := by decide +kernel
theorem dc_prog_20_method_3_40 : decode prog_20_method_3_code 40 = .ok (.aload_n 0, 1) := by decide +kernel
theorem dc_prog_20_method_3_41 : decode prog_20_method_3_code 41 = .ok (.getfield 21, 3) := by decide +kernel
theorem dc_prog_20_method_3_44 : decode prog_20_method_3_code 44 = .ok (.getfield 52, 3) := by decide +kernel
theorem dc_prog_20_method_3_47 : decode prog_20_method_3_code 47 = .ok (.ifCond .eq 20, 3) := by decide +kernel
theorem dc_prog_20_method_3_67 : decode prog_20_method_3_code 67 = .ok (.aload_n 0, 1) := by decide +kernel
theorem dc_prog_20_method_3_68 : decode prog_20_method_3_code 68 = .ok (.getfield 33, 3) := by decide +kernel
theorem dc_prog_20_method_3_71 : decode prog_20_method_3_code 71 = .ok (.astore_n 1, 1) := by decide +kernel
theorem dc_prog_20_method_3_72 : decode prog_20_method_3_code 72 = .ok (.goto 89, 3) := by decide +kernel
set_option maxRecDepth 65536 in
set_option maxHeartbeats 40000000 in
theorem u_SequenceQueue_poll_22 (l : Launch) (Z : State) (a0 : Array Value) (hw : ∀ d ∈ tables_1, d.before a0 Z = true) (F : List Ent) (pA0 pA1 pA2 pA3 pA4 pA5 pA6 eA0 : Addr) (kA0 kA1 kA2 kA3 kA4 kA5 kA6 kA7 kA8 kA9 kA10 kA11 kA12 : Int64) (hE_eA0 : Exa Z Z.heap eA0 "java/lang/Integer") :
    Met l Z yN6 prog_20_method_3_code 3 (some (.object "java/lang/Object")) { frames := 0, cells := 0, slots := 0, locals := 0 } #[(.ref pA0)] ((pA0, oQ (.ref pA1) (.ref pA4) (.int (1 : Int32)) (.long kA0) (.ref eA0)) :: (pA1, oRun (.ref pA2) (.ref pA3) (.int (0 : Int32)) (.int (0 : Int32))) :: (pA2, .inr (.long, (oK64 (.long kA1) (.long kA2) (.long kA3) (.long kA4) (.long kA5) (.long kA6)), true)) :: (pA3, .inr (.object "java/lang/Object", (oE64 .null .null .null .null .null .null), true)) :: (pA4, oHeap (.ref pA5) (.ref pA6) (.int (0 : Int32))) :: (pA5, .inr (.long, (oK64 (.long kA7) (.long kA8) (.long kA9) (.long kA10) (.long kA11) (.long kA12)), true)) :: (pA6, .inr (.object "java/lang/Object", (oE64 .null .null .null .null .null .null), true)) :: F) (fun r M' => (r = (some (.ref eA0)) ∧ M' = ((pA0, oQ (.ref pA1) (.ref pA4) (.int (0 : Int32)) (.long kA0) .null) :: (pA1, oRun (.ref pA2) (.ref pA3) (.int (0 : Int32)) (.int (0 : Int32))) :: (pA2, .inr (.long, (oK64 (.long kA1) (.long kA2) (.long kA3) (.long kA4) (.long kA5) (.long kA6)), true)) :: (pA3, .inr (.object "java/lang/Object", (oE64 .null .null .null .null .null .null), true)) :: (pA4, oHeap (.ref pA5) (.ref pA6) (.int (0 : Int32))) :: (pA5, .inr (.long, (oK64 (.long kA7) (.long kA8) (.long kA9) (.long kA10) (.long kA11) (.long kA12)), true)) :: (pA6, .inr (.object "java/lang/Object", (oE64 .null .null .null .null .null .null), true)) :: F))) := by
  refine Met.of_go pn_6 (Ls := #[.val (.ref pA0), .unset, .unset]) (fun m => by first | rfl | (simp [entryFrame, mkF, argsToLocals, Value.category, maxLocals]; done)) ?_
  intro E C
  refine Go.aloadN C dc_prog_20_method_3_0 (q := 1) rfl rfl rfl ?_
  refine Go.getF C (host := "") (Or.inl (wd hw 46 rfl)) Via.refl (fun _ r => r.fld 0 2 rfl rfl) dc_prog_20_method_3_1 (q := 4) rfl ?_
  refine Go.ifNo C dc_prog_20_method_3_4 (q := 7) rfl (XT.i0_eq_f (by decide)) ?_
  refine Go.aloadN C dc_prog_20_method_3_7 (q := 8) rfl rfl rfl ?_
  refine Go.getF C (host := "") (Or.inl (wd hw 28 rfl)) Via.refl (fun _ r => r.fld 0 0 rfl rfl) dc_prog_20_method_3_8 (q := 11) rfl ?_
  refine Go.getF C (host := "") (Or.inl (wd hw 48 rfl)) (Via.of (wd hw 49 rfl)) (fun _ r => r.fld 1 2 rfl rfl) dc_prog_20_method_3_11 (q := 14) rfl ?_
  refine Go.ifYes C dc_prog_20_method_3_14 (by decide) (q := 40) rfl (XT.i0_eq_t (by decide)) ?_
  refine Go.aloadN C dc_prog_20_method_3_40 (q := 41) rfl rfl rfl ?_
  refine Go.getF C (host := "") (Or.inl (wd hw 39 rfl)) Via.refl (fun _ r => r.fld 0 1 rfl rfl) dc_prog_20_method_3_41 (q := 44) rfl ?_
  refine Go.getF C (host := "") (Or.inl (wd hw 51 rfl)) (Via.of (wd hw 52 rfl)) (fun _ r => r.fld 4 2 rfl rfl) dc_prog_20_method_3_44 (q := 47) rfl ?_
  refine Go.ifYes C dc_prog_20_method_3_47 (by decide) (q := 67) rfl (XT.i0_eq_t (by decide)) ?_
  refine Go.aloadN C dc_prog_20_method_3_67 (q := 68) rfl rfl rfl ?_
  refine Go.getF C (host := "") (Or.inl (wd hw 68 rfl)) Via.refl (fun _ r => r.fld 0 4 rfl rfl) dc_prog_20_method_3_68 (q := 71) rfl ?_
  refine Go.astoreN C dc_prog_20_method_3_71 (q := 72) rfl rfl (Ls' := #[.val (.ref pA0), .val (.ref eA0), .unset]) rfl ?_
  refine Go.goto C dc_prog_20_method_3_72 (by decide) (q := 161) rfl ?_
  refine Go.aloadN C dc_prog_20_method_3_161 (q := 162) rfl rfl rfl ?_
  refine Go.iconst C dc_prog_20_method_3_162 (q := 163) rfl (v := (0 : Int32)) rfl ?_
  refine Go.putF C (host := "") (i := 0) (j := 2) (Or.inl (wd hw 46 rfl)) Via.refl rfl rfl (Or.inl (wd hw 47 rfl)) (wd hw 1 rfl) (ty := .boolean) (by decide) rfl rfl dc_prog_20_method_3_163 (q := 166) rfl (M' := ((pA0, oQ (.ref pA1) (.ref pA4) (.int (0 : Int32)) (.long kA0) (.ref eA0)) :: (pA1, oRun (.ref pA2) (.ref pA3) (.int (0 : Int32)) (.int (0 : Int32))) :: (pA2, .inr (.long, (oK64 (.long kA1) (.long kA2) (.long kA3) (.long kA4) (.long kA5) (.long kA6)), true)) :: (pA3, .inr (.object "java/lang/Object", (oE64 .null .null .null .null .null .null), true)) :: (pA4, oHeap (.ref pA5) (.ref pA6) (.int (0 : Int32))) :: (pA5, .inr (.long, (oK64 (.long kA7) (.long kA8) (.long kA9) (.long kA10) (.long kA11) (.long kA12)), true)) :: (pA6, .inr (.object "java/lang/Object", (oE64 .null .null .null .null .null .null), true)) :: F)) rfl ?_
  refine Go.aloadN C dc_prog_20_method_3_166 (q := 167) rfl rfl rfl ?_
  refine Go.aconstNull C dc_prog_20_method_3_167 (q := 168) rfl ?_
  refine Go.putF C (host := "") (i := 0) (j := 4) (Or.inl (wd hw 68 rfl)) Via.refl rfl rfl (Or.inl (wd hw 69 rfl)) (wd hw 1 rfl) (ty := (.object "java/lang/Object")) (by decide) rfl rfl dc_prog_20_method_3_168 (q := 171) rfl (M' := ((pA0, oQ (.ref pA1) (.ref pA4) (.int (0 : Int32)) (.long kA0) .null) :: (pA1, oRun (.ref pA2) (.ref pA3) (.int (0 : Int32)) (.int (0 : Int32))) :: (pA2, .inr (.long, (oK64 (.long kA1) (.long kA2) (.long kA3) (.long kA4) (.long kA5) (.long kA6)), true)) :: (pA3, .inr (.object "java/lang/Object", (oE64 .null .null .null .null .null .null), true)) :: (pA4, oHeap (.ref pA5) (.ref pA6) (.int (0 : Int32))) :: (pA5, .inr (.long, (oK64 (.long kA7) (.long kA8) (.long kA9) (.long kA10) (.long kA11) (.long kA12)), true)) :: (pA6, .inr (.object "java/lang/Object", (oE64 .null .null .null .null .null .null), true)) :: F)) rfl ?_
  refine Go.aloadN C dc_prog_20_method_3_171 (q := 172) rfl rfl rfl ?_
  refine Go.astoreN C dc_prog_20_method_3_172 (q := 173) rfl rfl (Ls' := #[.val (.ref pA0), .val (.ref eA0), .val (.ref eA0)]) rfl ?_
  refine Go.aloadN C dc_prog_20_method_3_173 (q := 174) rfl rfl rfl ?_
  refine Go.retA C rfl rfl rfl dc_prog_20_method_3_174 (by decide) (by decide) ?_
  exact ⟨rfl, rfl⟩
set_option maxRecDepth 65536 in
set_option maxHeartbeats 40000000 in
theorem u_Math_max_24 (l : Launch) (Z : State) (a0 : Array Value) (hw : ∀ d ∈ tables_1, d.before a0 Z = true) (F : List Ent)  :
    Met l Z yN7 jdk_29_method_65_code 2 (some .int) { frames := 0, cells := 0, slots := 0, locals := 0 } #[(.int (0 : Int32)), (.int (0 : Int32))] (F) (fun r M' => (r = (some (.int (0 : Int32))) ∧ M' = (F))) := by
  refine Met.of_go pn_7 (Ls := #[.val (.int (0 : Int32)), .val (.int (0 : Int32))]) (fun m => by first | rfl | (simp [entryFrame, mkF, argsToLocals, Value.category, maxLocals]; done)) ?_
  intro E C
  refine Go.iloadN C dc_jdk_29_method_65_0 (q := 1) rfl rfl ?_
  refine Go.iloadN C dc_jdk_29_method_65_1 (q := 2) rfl rfl ?_
  refine Go.icmpNo C dc_jdk_29_method_65_2 (q := 5) rfl (XT.ii_lt_f (by decide)) ?_
  refine Go.iloadN C dc_jdk_29_method_65_5 (q := 6) rfl rfl ?_
  refine Go.goto C dc_jdk_29_method_65_6 (by decide) (q := 10) rfl ?_
  refine Go.retI C rfl dc_jdk_29_method_65_10 (by decide) (by decide) ?_
  exact ⟨rfl, rfl⟩
theorem dc_prog_20_method_2_7 : decode prog_20_method_2_code 7 = .ok (.aload_n 0, 1) := by decide +kernel
theorem dc_prog_20_method_2_8 : decode prog_20_method_2_code 8 = .ok (.aload_n 0, 1) := by decide +kernel
theorem dc_prog_20_method_2_9 : decode prog_20_method_2_code 9 = .ok (.getfield 29, 3) := by decide +kernel
theorem dc_prog_20_method_2_12 : decode prog_20_method_2_code 12 = .ok (.aload_n 0, 1) := by decide +kernel
theorem dc_prog_20_method_2_13 : decode prog_20_method_2_code 13 = .ok (.getfield 33, 3) := by decide +kernel
theorem dc_prog_20_method_2_16 : decode prog_20_method_2_code 16 = .ok (.invokevirtual 37, 3) := by decide +kernel
theorem dc_prog_20_method_9_0 : decode prog_20_method_9_code 0 = .ok (.aload_n 0, 1) := by decide +kernel
theorem dc_prog_20_method_9_1 : decode prog_20_method_9_code 1 = .ok (.getfield 12, 3) := by decide +kernel
theorem dc_prog_20_method_9_4 : decode prog_20_method_9_code 4 = .ok (.getfield 41, 3) := by decide +kernel
theorem dc_prog_20_method_9_7 : decode prog_20_method_9_code 7 = .ok (.ifCond .eq 15, 3) := by decide +kernel
theorem dc_prog_20_method_9_22 : decode prog_20_method_9_code 22 = .ok (.aload_n 0, 1) := by decide +kernel
theorem dc_prog_20_method_9_23 : decode prog_20_method_9_code 23 = .ok (.getfield 12, 3) := by decide +kernel
theorem dc_prog_20_method_9_26 : decode prog_20_method_9_code 26 = .ok (.lload_n 1, 1) := by decide +kernel
theorem dc_prog_20_method_9_27 : decode prog_20_method_9_code 27 = .ok (.aload_n 3, 1) := by decide +kernel
theorem dc_prog_20_method_9_28 : decode prog_20_method_9_code 28 = .ok (.invokevirtual 101, 3) := by decide +kernel
theorem dc_prog_23_method_3_0 : decode prog_23_method_3_code 0 = .ok (.aload_n 0, 1) := by decide +kernel
theorem dc_prog_23_method_3_1 : decode prog_23_method_3_code 1 = .ok (.invokevirtual 21, 3) := by decide +kernel
theorem dc_prog_22_method_2_0 : decode prog_22_method_2_code 0 = .ok (.aload_n 0, 1) := by decide +kernel
theorem dc_prog_22_method_2_1 : decode prog_22_method_2_code 1 = .ok (.getfield 19, 3) := by decide +kernel
theorem dc_prog_22_method_2_4 : decode prog_22_method_2_code 4 = .ok (.aload_n 0, 1) := by decide +kernel
theorem dc_prog_22_method_2_5 : decode prog_22_method_2_code 5 = .ok (.getfield 9, 3) := by decide +kernel
theorem dc_prog_22_method_2_8 : decode prog_22_method_2_code 8 = .ok (.arraylength, 1) := by decide +kernel
theorem dc_prog_22_method_2_9 : decode prog_22_method_2_code 9 = .ok (.if_icmp .ne 49, 3) := by decide +kernel
theorem dc_prog_22_method_2_58 : decode prog_22_method_2_code 58 = .ok (.return_, 1) := by decide +kernel
theorem pn_10 : plainFor yN10 = true := by first | (apply plainFor_of_name; simp [plainName, overriddenIn]; done) | decide +kernel
set_option maxRecDepth 65536 in
set_option maxHeartbeats 40000000 in
theorem u_SequenceQueue_Part_makeRoom_29 (l : Launch) (Z : State) (a0 : Array Value) (hw : ∀ d ∈ tables_1, d.before a0 Z = true) (F : List Ent) (pA0 pA1 pA2 : Addr) (kA0 kA1 kA2 kA3 kA4 kA5 : Int64)  :
    Met l Z yN10 prog_22_method_2_code 1 none { frames := 0, cells := 0, slots := 0, locals := 0 } #[(.ref pA0)] ((pA0, oRun (.ref pA1) (.ref pA2) (.int (0 : Int32)) (.int (0 : Int32))) :: (pA1, .inr (.long, (oK64 (.long kA0) (.long kA1) (.long kA2) (.long kA3) (.long kA4) (.long kA5)), true)) :: (pA2, .inr (.object "java/lang/Object", (oE64 .null .null .null .null .null .null), true)) :: F) (fun r M' => (r = none ∧ M' = ((pA0, oRun (.ref pA1) (.ref pA2) (.int (0 : Int32)) (.int (0 : Int32))) :: (pA1, .inr (.long, (oK64 (.long kA0) (.long kA1) (.long kA2) (.long kA3) (.long kA4) (.long kA5)), true)) :: (pA2, .inr (.object "java/lang/Object", (oE64 .null .null .null .null .null .null), true)) :: F))) := by
  refine Met.of_go pn_10 (Ls := #[.val (.ref pA0)]) (fun m => by first | rfl | (simp [entryFrame, mkF, argsToLocals, Value.category, maxLocals]; done)) ?_
  intro E C
  refine Go.aloadN C dc_prog_22_method_2_0 (q := 1) rfl rfl rfl ?_
  refine Go.getF C (host := "") (Or.inl (wd hw 102 rfl)) Via.refl (fun _ r => r.fld 0 2 rfl rfl) dc_prog_22_method_2_1 (q := 4) rfl ?_
  refine Go.aloadN C dc_prog_22_method_2_4 (q := 5) rfl rfl rfl ?_
  refine Go.getF C (host := "") (Or.inl (wd hw 22 rfl)) Via.refl (fun _ r => r.fld 0 0 rfl rfl) dc_prog_22_method_2_5 (q := 8) rfl ?_
  refine Go.arraylength C (fun _ r => r.arr 1 rfl) (z := (64 : Int32)) rfl dc_prog_22_method_2_8 (q := 9) rfl ?_
  refine Go.icmpYes C dc_prog_22_method_2_9 (by decide) (q := 58) rfl (XT.ii_ne_t (by decide)) ?_
  refine Go.ret0 C rfl dc_prog_22_method_2_58 (by decide) (by decide) ?_
  exact ⟨rfl, rfl⟩
theorem dc_prog_23_method_3_4 : decode prog_23_method_3_code 4 = .ok (.aload_n 0, 1) := by decide +kernel
theorem dc_prog_23_method_3_5 : decode prog_23_method_3_code 5 = .ok (.aload_n 0, 1) := by decide +kernel
theorem dc_prog_23_method_3_6 : decode prog_23_method_3_code 6 = .ok (.getfield 13, 3) := by decide +kernel
theorem dc_prog_23_method_3_9 : decode prog_23_method_3_code 9 = .ok (.invokevirtual 17, 3) := by decide +kernel
theorem dc_prog_23_method_6_0 : decode prog_23_method_6_code 0 = .ok (.aload_n 0, 1) := by decide +kernel
theorem dc_prog_23_method_6_1 : decode prog_23_method_6_code 1 = .ok (.getfield 28, 3) := by decide +kernel
theorem dc_prog_23_method_6_4 : decode prog_23_method_6_code 4 = .ok (.iload_n 1, 1) := by decide +kernel
theorem dc_prog_23_method_6_5 : decode prog_23_method_6_code 5 = .ok (.iadd, 1) := by decide +kernel
theorem dc_prog_23_method_6_6 : decode prog_23_method_6_code 6 = .ok (.istore_n 2, 1) := by decide +kernel
theorem dc_prog_23_method_6_7 : decode prog_23_method_6_code 7 = .ok (.iload_n 2, 1) := by decide +kernel
theorem dc_prog_23_method_6_8 : decode prog_23_method_6_code 8 = .ok (.aload_n 0, 1) := by decide +kernel
theorem dc_prog_23_method_6_9 : decode prog_23_method_6_code 9 = .ok (.getfield 7, 3) := by decide +kernel
theorem dc_prog_23_method_6_12 : decode prog_23_method_6_code 12 = .ok (.arraylength, 1) := by decide +kernel
theorem dc_prog_23_method_6_13 : decode prog_23_method_6_code 13 = .ok (.if_icmp .lt 11, 3) := by decide +kernel
theorem dc_prog_23_method_6_24 : decode prog_23_method_6_code 24 = .ok (.iload_n 2, 1) := by decide +kernel
theorem dc_prog_23_method_6_25 : decode prog_23_method_6_code 25 = .ok (.ireturn, 1) := by decide +kernel
theorem pn_11 : plainFor yN12 = true := by first | (apply plainFor_of_name; simp [plainName, overriddenIn]; done) | decide +kernel
set_option maxRecDepth 65536 in
set_option maxHeartbeats 40000000 in
theorem u_SequenceQueue_Run_slot_31 (l : Launch) (Z : State) (a0 : Array Value) (hw : ∀ d ∈ tables_1, d.before a0 Z = true) (F : List Ent) (pA0 pA1 pA2 : Addr) (kA0 kA1 kA2 kA3 kA4 kA5 : Int64)  :
    Met l Z yN12 prog_23_method_6_code 3 (some .int) { frames := 0, cells := 0, slots := 0, locals := 0 } #[(.ref pA0), (.int (0 : Int32))] ((pA0, oRun (.ref pA1) (.ref pA2) (.int (0 : Int32)) (.int (0 : Int32))) :: (pA1, .inr (.long, (oK64 (.long kA0) (.long kA1) (.long kA2) (.long kA3) (.long kA4) (.long kA5)), true)) :: (pA2, .inr (.object "java/lang/Object", (oE64 .null .null .null .null .null .null), true)) :: F) (fun r M' => (r = (some (.int (0 : Int32))) ∧ M' = ((pA0, oRun (.ref pA1) (.ref pA2) (.int (0 : Int32)) (.int (0 : Int32))) :: (pA1, .inr (.long, (oK64 (.long kA0) (.long kA1) (.long kA2) (.long kA3) (.long kA4) (.long kA5)), true)) :: (pA2, .inr (.object "java/lang/Object", (oE64 .null .null .null .null .null .null), true)) :: F))) := by
  refine Met.of_go pn_11 (Ls := #[.val (.ref pA0), .val (.int (0 : Int32)), .unset]) (fun m => by first | rfl | (simp [entryFrame, mkF, argsToLocals, Value.category, maxLocals]; done)) ?_
  intro E C
  refine Go.aloadN C dc_prog_23_method_6_0 (q := 1) rfl rfl rfl ?_
  refine Go.getF C (host := "") (Or.inl (wd hw 65 rfl)) Via.refl (fun _ r => r.fld 0 3 rfl rfl) dc_prog_23_method_6_1 (q := 4) rfl ?_
  refine Go.iloadN C dc_prog_23_method_6_4 (q := 5) rfl rfl ?_
  refine Go.iadd C dc_prog_23_method_6_5 (q := 6) rfl ?_
  refine Go.castI (w := (0 : Int32)) (by decide) ?_
  refine Go.istoreN C dc_prog_23_method_6_6 (q := 7) rfl (Ls' := #[.val (.ref pA0), .val (.int (0 : Int32)), .val (.int (0 : Int32))]) rfl ?_
  refine Go.iloadN C dc_prog_23_method_6_7 (q := 8) rfl rfl ?_
  refine Go.aloadN C dc_prog_23_method_6_8 (q := 9) rfl rfl rfl ?_
  refine Go.getF C (host := "") (Or.inl (wd hw 107 rfl)) (Via.of (wd hw 108 rfl)) (fun _ r => r.fld 0 0 rfl rfl) dc_prog_23_method_6_9 (q := 12) rfl ?_
  refine Go.arraylength C (fun _ r => r.arr 1 rfl) (z := (64 : Int32)) rfl dc_prog_23_method_6_12 (q := 13) rfl ?_
  refine Go.icmpYes C dc_prog_23_method_6_13 (by decide) (q := 24) rfl (XT.ii_lt_t (by decide)) ?_
  refine Go.iloadN C dc_prog_23_method_6_24 (q := 25) rfl rfl ?_
  refine Go.retI C rfl dc_prog_23_method_6_25 (by decide) (by decide) ?_
  exact ⟨rfl, rfl⟩
theorem dc_prog_23_method_3_12 : decode prog_23_method_3_code 12 = .ok (.istore 4, 2) := by decide +kernel
theorem dc_prog_23_method_3_14 : decode prog_23_method_3_code 14 = .ok (.aload_n 0, 1) := by decide +kernel
theorem dc_prog_23_method_3_15 : decode prog_23_method_3_code 15 = .ok (.getfield 7, 3) := by decide +kernel
theorem dc_prog_23_method_3_18 : decode prog_23_method_3_code 18 = .ok (.iload 4, 2) := by decide +kernel
theorem dc_prog_23_method_3_20 : decode prog_23_method_3_code 20 = .ok (.lload_n 1, 1) := by decide +kernel
theorem dc_prog_23_method_3_21 : decode prog_23_method_3_code 21 = .ok (.lastore, 1) := by decide +kernel
theorem dc_prog_23_method_3_22 : decode prog_23_method_3_code 22 = .ok (.aload_n 0, 1) := by decide +kernel
theorem dc_prog_23_method_3_23 : decode prog_23_method_3_code 23 = .ok (.getfield 24, 3) := by decide +kernel
theorem dc_prog_23_method_3_26 : decode prog_23_method_3_code 26 = .ok (.iload 4, 2) := by decide +kernel
theorem dc_prog_23_method_3_28 : decode prog_23_method_3_code 28 = .ok (.aload_n 3, 1) := by decide +kernel
theorem dc_prog_23_method_3_29 : decode prog_23_method_3_code 29 = .ok (.aastore, 1) := by decide +kernel
theorem dc_prog_23_method_3_30 : decode prog_23_method_3_code 30 = .ok (.aload_n 0, 1) := by decide +kernel
theorem dc_prog_23_method_3_31 : decode prog_23_method_3_code 31 = .ok (.dup, 1) := by decide +kernel
theorem dc_prog_23_method_3_32 : decode prog_23_method_3_code 32 = .ok (.getfield 13, 3) := by decide +kernel
theorem dc_prog_23_method_3_35 : decode prog_23_method_3_code 35 = .ok (.iconst 1, 1) := by decide +kernel
theorem dc_prog_23_method_3_36 : decode prog_23_method_3_code 36 = .ok (.iadd, 1) := by decide +kernel
theorem dc_prog_23_method_3_37 : decode prog_23_method_3_code 37 = .ok (.putfield 13, 3) := by decide +kernel
theorem dc_prog_23_method_3_40 : decode prog_23_method_3_code 40 = .ok (.return_, 1) := by decide +kernel
theorem pn_12 : plainFor yN13 = true := by first | (apply plainFor_of_name; simp [plainName, overriddenIn]; done) | decide +kernel
set_option maxRecDepth 65536 in
set_option maxHeartbeats 40000000 in
theorem u_SequenceQueue_Run_add_28 (l : Launch) (Z : State) (a0 : Array Value) (hw : ∀ d ∈ tables_1, d.before a0 Z = true) (F : List Ent) (pA0 pA1 pA2 eA0 : Addr) (kA0 kA1 kA2 kA3 kA4 kA5 kA6 : Int64) (hE_eA0 : Exa Z Z.heap eA0 "java/lang/Integer") :
    Met l Z yN13 prog_23_method_3_code 5 none { frames := 1, cells := 0, slots := 0, locals := 14 } #[(.ref pA0), (.long kA0), (.ref eA0)] ((pA0, oRun (.ref pA1) (.ref pA2) (.int (0 : Int32)) (.int (0 : Int32))) :: (pA1, .inr (.long, (oK64 (.long kA1) (.long kA2) (.long kA3) (.long kA4) (.long kA5) (.long kA6)), true)) :: (pA2, .inr (.object "java/lang/Object", (oE64 .null .null .null .null .null .null), true)) :: F) (fun r M' => (r = none ∧ M' = ((pA0, oRun (.ref pA1) (.ref pA2) (.int (1 : Int32)) (.int (0 : Int32))) :: (pA1, .inr (.long, (oK64 (.long kA0) (.long kA2) (.long kA3) (.long kA4) (.long kA5) (.long kA6)), true)) :: (pA2, .inr (.object "java/lang/Object", (oE64 (.ref eA0) .null .null .null .null .null), true)) :: F))) := by
  refine Met.of_go pn_12 (Ls := #[.val (.ref pA0), .val (.long kA0), .second, .val (.ref eA0), .unset]) (fun m => by first | rfl | (simp [entryFrame, mkF, argsToLocals, Value.category, maxLocals]; done)) ?_
  intro E C
  refine Go.aloadN C dc_prog_23_method_3_0 (q := 1) rfl rfl rfl ?_
  refine Go.callU C (y := yN11) (z := yN10) (owner := "com/example/ordered_dispatch/ordereddispatch/SequenceQueue$Part") (a := pA0) (as := []) (rest := []) (wd hw 96 rfl) (wd hw 97 rfl) (wd hw 98 rfl) (wd hw 100 rfl) (wd hw 99 rfl) (wd hw 101 rfl) (wd hw 18 rfl) (fun _ r => r.exa 0 rfl) (u_SequenceQueue_Part_makeRoom_29 l Z a0 hw _ pA0 pA1 pA2 kA1 kA2 kA3 kA4 kA5 kA6) rfl dc_prog_23_method_3_1 (q := 4) rfl (by decide) rfl (na := 0) (by decide +kernel) rfl (by decide) (W := 0) rfl (by decide) (by decide) (by decide) (k' := 0) (n' := 0) rfl rfl ?_
  rintro _ _ ⟨rfl, rfl⟩
  show Go _ _ _ _ _ _ _ _ _ _ []
  refine Go.aloadN C dc_prog_23_method_3_4 (q := 5) rfl rfl rfl ?_
  refine Go.aloadN C dc_prog_23_method_3_5 (q := 6) rfl rfl rfl ?_
  refine Go.getF C (host := "") (Or.inl (wd hw 67 rfl)) (Via.of (wd hw 49 rfl)) (fun _ r => r.fld 0 2 rfl rfl) dc_prog_23_method_3_6 (q := 9) rfl ?_
  refine Go.callP C (y := yN12) (a := pA0) (as := [(.int (0 : Int32))]) (rest := []) (wd hw 103 rfl) (wd hw 104 rfl) (sel_priv (y := yN12) (wd hw 10 rfl) (wd hw 104 rfl) (wd hw 105 rfl) (by decide)) (wd hw 105 rfl) (wd hw 106 rfl) (wd hw 11 rfl) (fun _ r => r.exa 0 rfl) (u_SequenceQueue_Run_slot_31 l Z a0 hw _ pA0 pA1 pA2 kA1 kA2 kA3 kA4 kA5 kA6) rfl dc_prog_23_method_3_9 (q := 12) rfl (by decide) rfl (na := 1) (by decide +kernel) rfl (by decide) (W := 0) rfl (by decide) (by decide) (by decide) (k' := 0) (n' := 0) rfl rfl ?_
  rintro _ _ ⟨rfl, rfl⟩
  show Go _ _ _ _ _ _ _ _ _ _ [(.int (0 : Int32))]
  refine Go.istore C dc_prog_23_method_3_12 (q := 14) rfl (Ls' := #[.val (.ref pA0), .val (.long kA0), .second, .val (.ref eA0), .val (.int (0 : Int32))]) rfl ?_
  refine Go.aloadN C dc_prog_23_method_3_14 (q := 15) rfl rfl rfl ?_
  refine Go.getF C (host := "") (Or.inl (wd hw 107 rfl)) (Via.of (wd hw 108 rfl)) (fun _ r => r.fld 0 0 rfl rfl) dc_prog_23_method_3_15 (q := 18) rfl ?_
  refine Go.iload C dc_prog_23_method_3_18 (q := 20) rfl rfl ?_
  refine Go.lloadN C dc_prog_23_method_3_20 (q := 21) rfl rfl ?_
  refine Go.lastore C (i := 1) rfl (by decide) (show (0 : Int32).toNatClampNeg < 64 from by decide) (w' := (.long kA0)) rfl dc_prog_23_method_3_21 (q := 22) rfl (M' := ((pA0, oRun (.ref pA1) (.ref pA2) (.int (0 : Int32)) (.int (0 : Int32))) :: (pA1, .inr (.long, (oK64 (.long kA0) (.long kA2) (.long kA3) (.long kA4) (.long kA5) (.long kA6)), true)) :: (pA2, .inr (.object "java/lang/Object", (oE64 .null .null .null .null .null .null), true)) :: F)) rfl ?_
  refine Go.aloadN C dc_prog_23_method_3_22 (q := 23) rfl rfl rfl ?_
  refine Go.getF C (host := "") (Or.inl (wd hw 63 rfl)) (Via.of (wd hw 64 rfl)) (fun _ r => r.fld 0 1 rfl rfl) dc_prog_23_method_3_23 (q := 26) rfl ?_
  refine Go.iload C dc_prog_23_method_3_26 (q := 28) rfl rfl ?_
  refine Go.aloadN C dc_prog_23_method_3_28 (q := 29) rfl rfl rfl ?_
  refine Go.aastore C (i := 2) rfl (by decide) (show (0 : Int32).toNatClampNeg < 64 from by decide) (fun _ r => Or.inr ⟨_, rfl, Ins.of_exa ((hE_eA0).ext r.1) (wd hw 109 rfl)⟩) dc_prog_23_method_3_29 (q := 30) rfl (M' := ((pA0, oRun (.ref pA1) (.ref pA2) (.int (0 : Int32)) (.int (0 : Int32))) :: (pA1, .inr (.long, (oK64 (.long kA0) (.long kA2) (.long kA3) (.long kA4) (.long kA5) (.long kA6)), true)) :: (pA2, .inr (.object "java/lang/Object", (oE64 (.ref eA0) .null .null .null .null .null), true)) :: F)) rfl ?_
  refine Go.aloadN C dc_prog_23_method_3_30 (q := 31) rfl rfl rfl ?_
  refine Go.dup C dc_prog_23_method_3_31 (q := 32) rfl rfl ?_
  refine Go.getF C (host := "") (Or.inl (wd hw 67 rfl)) (Via.of (wd hw 49 rfl)) (fun _ r => r.fld 0 2 rfl rfl) dc_prog_23_method_3_32 (q := 35) rfl ?_
  refine Go.iconst C dc_prog_23_method_3_35 (q := 36) rfl (v := (1 : Int32)) rfl ?_
  refine Go.iadd C dc_prog_23_method_3_36 (q := 37) rfl ?_
  refine Go.castI (w := (1 : Int32)) (by decide) ?_
  refine Go.putF C (host := "") (i := 0) (j := 2) (Or.inl (wd hw 67 rfl)) (Via.of (wd hw 49 rfl)) rfl rfl (Or.inl (wd hw 50 rfl)) (wd hw 10 rfl) (ty := .int) (by decide) rfl rfl dc_prog_23_method_3_37 (q := 40) rfl (M' := ((pA0, oRun (.ref pA1) (.ref pA2) (.int (1 : Int32)) (.int (0 : Int32))) :: (pA1, .inr (.long, (oK64 (.long kA0) (.long kA2) (.long kA3) (.long kA4) (.long kA5) (.long kA6)), true)) :: (pA2, .inr (.object "java/lang/Object", (oE64 (.ref eA0) .null .null .null .null .null), true)) :: F)) rfl ?_
  refine Go.ret0 C rfl dc_prog_23_method_3_40 (by decide) (by decide) ?_
  exact ⟨rfl, rfl⟩
theorem dc_prog_20_method_9_31 : decode prog_20_method_9_code 31 = .ok (.goto 12, 3) := by decide +kernel
theorem dc_prog_20_method_9_43 : decode prog_20_method_9_code 43 = .ok (.return_, 1) := by decide +kernel
theorem pn_13 : plainFor yN14 = true := by first | (apply plainFor_of_name; simp [plainName, overriddenIn]; done) | decide +kernel
set_option maxRecDepth 65536 in
set_option maxHeartbeats 40000000 in
theorem u_SequenceQueue_place_27 (l : Launch) (Z : State) (a0 : Array Value) (hw : ∀ d ∈ tables_1, d.before a0 Z = true) (F : List Ent) (pA0 pA1 pA2 pA3 pA4 pA5 pA6 eA0 eA1 : Addr) (kA0 kA1 kA2 kA3 kA4 kA5 kA6 kA7 kA8 kA9 kA10 kA11 kA12 kA13 : Int64) (hE_eA0 : Exa Z Z.heap eA0 "java/lang/Integer") (hE_eA1 : Exa Z Z.heap eA1 "java/lang/Integer") :
    Met l Z yN14 prog_20_method_9_code 4 none { frames := 2, cells := 0, slots := 0, locals := 30 } #[(.ref pA0), (.long kA0), (.ref eA0)] ((pA0, oQ (.ref pA1) (.ref pA4) (.int (1 : Int32)) (.long kA1) (.ref eA1)) :: (pA1, oRun (.ref pA2) (.ref pA3) (.int (0 : Int32)) (.int (0 : Int32))) :: (pA2, .inr (.long, (oK64 (.long kA2) (.long kA3) (.long kA4) (.long kA5) (.long kA6) (.long kA7)), true)) :: (pA3, .inr (.object "java/lang/Object", (oE64 .null .null .null .null .null .null), true)) :: (pA4, oHeap (.ref pA5) (.ref pA6) (.int (0 : Int32))) :: (pA5, .inr (.long, (oK64 (.long kA8) (.long kA9) (.long kA10) (.long kA11) (.long kA12) (.long kA13)), true)) :: (pA6, .inr (.object "java/lang/Object", (oE64 .null .null .null .null .null .null), true)) :: F) (fun r M' => (r = none ∧ M' = ((pA1, oRun (.ref pA2) (.ref pA3) (.int (1 : Int32)) (.int (0 : Int32))) :: (pA2, .inr (.long, (oK64 (.long kA0) (.long kA3) (.long kA4) (.long kA5) (.long kA6) (.long kA7)), true)) :: (pA3, .inr (.object "java/lang/Object", (oE64 (.ref eA0) .null .null .null .null .null), true)) :: (pA0, oQ (.ref pA1) (.ref pA4) (.int (1 : Int32)) (.long kA1) (.ref eA1)) :: (pA4, oHeap (.ref pA5) (.ref pA6) (.int (0 : Int32))) :: (pA5, .inr (.long, (oK64 (.long kA8) (.long kA9) (.long kA10) (.long kA11) (.long kA12) (.long kA13)), true)) :: (pA6, .inr (.object "java/lang/Object", (oE64 .null .null .null .null .null .null), true)) :: F))) := by
  refine Met.of_go pn_13 (Ls := #[.val (.ref pA0), .val (.long kA0), .second, .val (.ref eA0)]) (fun m => by first | rfl | (simp [entryFrame, mkF, argsToLocals, Value.category, maxLocals]; done)) ?_
  intro E C
  refine Go.aloadN C dc_prog_20_method_9_0 (q := 1) rfl rfl rfl ?_
  refine Go.getF C (host := "") (Or.inl (wd hw 28 rfl)) Via.refl (fun _ r => r.fld 0 0 rfl rfl) dc_prog_20_method_9_1 (q := 4) rfl ?_
  refine Go.getF C (host := "") (Or.inl (wd hw 48 rfl)) (Via.of (wd hw 49 rfl)) (fun _ r => r.fld 1 2 rfl rfl) dc_prog_20_method_9_4 (q := 7) rfl ?_
  refine Go.ifYes C dc_prog_20_method_9_7 (by decide) (q := 22) rfl (XT.i0_eq_t (by decide)) ?_
  refine Go.aloadN C dc_prog_20_method_9_22 (q := 23) rfl rfl rfl ?_
  refine Go.getF C (host := "") (Or.inl (wd hw 28 rfl)) Via.refl (fun _ r => r.fld 0 0 rfl rfl) dc_prog_20_method_9_23 (q := 26) rfl ?_
  refine Go.lloadN C dc_prog_20_method_9_26 (q := 27) rfl rfl ?_
  refine Go.aloadN C dc_prog_20_method_9_27 (q := 28) rfl rfl rfl ?_
  refine Go.pick (M' := ((pA1, oRun (.ref pA2) (.ref pA3) (.int (0 : Int32)) (.int (0 : Int32))) :: (pA2, .inr (.long, (oK64 (.long kA2) (.long kA3) (.long kA4) (.long kA5) (.long kA6) (.long kA7)), true)) :: (pA3, .inr (.object "java/lang/Object", (oE64 .null .null .null .null .null .null), true)) :: (pA0, oQ (.ref pA1) (.ref pA4) (.int (1 : Int32)) (.long kA1) (.ref eA1)) :: (pA4, oHeap (.ref pA5) (.ref pA6) (.int (0 : Int32))) :: (pA5, .inr (.long, (oK64 (.long kA8) (.long kA9) (.long kA10) (.long kA11) (.long kA12) (.long kA13)), true)) :: (pA6, .inr (.object "java/lang/Object", (oE64 .null .null .null .null .null .null), true)) :: F)) 7 [1, 2, 3, 0, 4, 5, 6] (by decide) (by decide) rfl ?_
  refine Go.callPR C (y := yN13) (a := pA1) (as := [(.long kA0), (.ref eA0)]) (rest := []) (wd hw 92 rfl) (wd hw 93 rfl) (sel_priv (y := yN13) (wd hw 10 rfl) (wd hw 93 rfl) (wd hw 94 rfl) (by decide)) (wd hw 94 rfl) (wd hw 95 rfl) (wd hw 11 rfl) (fun _ r => r.exa 0 rfl) (u_SequenceQueue_Run_add_28 l Z a0 hw _ pA1 pA2 pA3 eA0 kA0 kA2 kA3 kA4 kA5 kA6 kA7 hE_eA0) rfl dc_prog_20_method_9_28 (q := 31) rfl (by decide) rfl (na := 2) (by decide +kernel) rfl (by decide) (W := 0) rfl (by decide) (by decide) (by decide) (k' := 0) (n' := 0) rfl rfl ?_
  rintro _ _ ⟨rfl, rfl⟩
  show Go _ _ _ _ _ _ _ _ _ _ []
  refine Go.goto C dc_prog_20_method_9_31 (by decide) (q := 43) rfl ?_
  refine Go.ret0 C rfl dc_prog_20_method_9_43 (by decide) (by decide) ?_
  exact ⟨rfl, rfl⟩
set_option maxRecDepth 65536 in
set_option maxHeartbeats 40000000 in
theorem u_SequenceQueue_add_26 (l : Launch) (Z : State) (a0 : Array Value) (hw : ∀ d ∈ tables_1, d.before a0 Z = true) (F : List Ent) (pA0 pA1 pA2 pA3 pA4 pA5 pA6 eA0 eA1 : Addr) (kA0 kA1 kA2 kA3 kA4 kA5 kA6 kA7 kA8 kA9 kA10 kA11 kA12 kA13 : Int64) (hE_eA0 : Exa Z Z.heap eA0 "java/lang/Integer") (hE_eA1 : Exa Z Z.heap eA1 "java/lang/Integer") :
    Met l Z yN9 prog_20_method_2_code 4 none { frames := 3, cells := 0, slots := 0, locals := 45 } #[(.ref pA0), (.long kA0), (.ref eA0)] ((pA0, oQ (.ref pA1) (.ref pA4) (.int (1 : Int32)) (.long kA1) (.ref eA1)) :: (pA1, oRun (.ref pA2) (.ref pA3) (.int (0 : Int32)) (.int (0 : Int32))) :: (pA2, .inr (.long, (oK64 (.long kA2) (.long kA3) (.long kA4) (.long kA5) (.long kA6) (.long kA7)), true)) :: (pA3, .inr (.object "java/lang/Object", (oE64 .null .null .null .null .null .null), true)) :: (pA4, oHeap (.ref pA5) (.ref pA6) (.int (0 : Int32))) :: (pA5, .inr (.long, (oK64 (.long kA8) (.long kA9) (.long kA10) (.long kA11) (.long kA12) (.long kA13)), true)) :: (pA6, .inr (.object "java/lang/Object", (oE64 .null .null .null .null .null .null), true)) :: F) (fun r M' => (r = none ∧ M' = ((pA1, oRun (.ref pA2) (.ref pA3) (.int (1 : Int32)) (.int (0 : Int32))) :: (pA2, .inr (.long, (oK64 (.long kA1) (.long kA3) (.long kA4) (.long kA5) (.long kA6) (.long kA7)), true)) :: (pA3, .inr (.object "java/lang/Object", (oE64 (.ref eA1) .null .null .null .null .null), true)) :: (pA0, oQ (.ref pA1) (.ref pA4) (.int (1 : Int32)) (.long kA0) (.ref eA0)) :: (pA4, oHeap (.ref pA5) (.ref pA6) (.int (0 : Int32))) :: (pA5, .inr (.long, (oK64 (.long kA8) (.long kA9) (.long kA10) (.long kA11) (.long kA12) (.long kA13)), true)) :: (pA6, .inr (.object "java/lang/Object", (oE64 .null .null .null .null .null .null), true)) :: F))) := by
  refine Met.of_go pn_9 (Ls := #[.val (.ref pA0), .val (.long kA0), .second, .val (.ref eA0)]) (fun m => by first | rfl | (simp [entryFrame, mkF, argsToLocals, Value.category, maxLocals]; done)) ?_
  intro E C
  refine Go.aloadN C dc_prog_20_method_2_0 (q := 1) rfl rfl rfl ?_
  refine Go.getF C (host := "") (Or.inl (wd hw 46 rfl)) Via.refl (fun _ r => r.fld 0 2 rfl rfl) dc_prog_20_method_2_1 (q := 4) rfl ?_
  refine Go.ifNo C dc_prog_20_method_2_4 (q := 7) rfl (XT.i0_eq_f (by decide)) ?_
  refine Go.aloadN C dc_prog_20_method_2_7 (q := 8) rfl rfl rfl ?_
  refine Go.aloadN C dc_prog_20_method_2_8 (q := 9) rfl rfl rfl ?_
  refine Go.getF C (host := "") (Or.inl (wd hw 86 rfl)) Via.refl (fun _ r => r.fld 0 3 rfl rfl) dc_prog_20_method_2_9 (q := 12) rfl ?_
  refine Go.aloadN C dc_prog_20_method_2_12 (q := 13) rfl rfl rfl ?_
  refine Go.getF C (host := "") (Or.inl (wd hw 68 rfl)) Via.refl (fun _ r => r.fld 0 4 rfl rfl) dc_prog_20_method_2_13 (q := 16) rfl ?_
  refine Go.callP C (y := yN14) (a := pA0) (as := [(.long kA1), (.ref eA1)]) (rest := []) (wd hw 88 rfl) (wd hw 89 rfl) (sel_priv (y := yN14) (wd hw 1 rfl) (wd hw 89 rfl) (wd hw 90 rfl) (by decide)) (wd hw 90 rfl) (wd hw 91 rfl) (wd hw 2 rfl) (fun _ r => r.exa 0 rfl) (u_SequenceQueue_place_27 l Z a0 hw _ pA0 pA1 pA2 pA3 pA4 pA5 pA6 eA1 eA1 kA1 kA1 kA2 kA3 kA4 kA5 kA6 kA7 kA8 kA9 kA10 kA11 kA12 kA13 hE_eA1 hE_eA1) rfl dc_prog_20_method_2_16 (q := 19) rfl (by decide) rfl (na := 2) (by decide +kernel) rfl (by decide) (W := 0) rfl (by decide) (by decide) (by decide) (k' := 0) (n' := 0) rfl rfl ?_
  rintro _ _ ⟨rfl, rfl⟩
  show Go _ _ _ _ _ _ _ _ _ _ []
  refine Go.aloadN C dc_prog_20_method_2_19 (q := 20) rfl rfl rfl ?_
  refine Go.iconst C dc_prog_20_method_2_20 (q := 21) rfl (v := (1 : Int32)) rfl ?_
  refine Go.putF C (host := "") (i := 3) (j := 2) (Or.inl (wd hw 46 rfl)) Via.refl rfl rfl (Or.inl (wd hw 47 rfl)) (wd hw 1 rfl) (ty := .boolean) (by decide) rfl rfl dc_prog_20_method_2_21 (q := 24) rfl (M' := ((pA1, oRun (.ref pA2) (.ref pA3) (.int (1 : Int32)) (.int (0 : Int32))) :: (pA2, .inr (.long, (oK64 (.long kA1) (.long kA3) (.long kA4) (.long kA5) (.long kA6) (.long kA7)), true)) :: (pA3, .inr (.object "java/lang/Object", (oE64 (.ref eA1) .null .null .null .null .null), true)) :: (pA0, oQ (.ref pA1) (.ref pA4) (.int (1 : Int32)) (.long kA1) (.ref eA1)) :: (pA4, oHeap (.ref pA5) (.ref pA6) (.int (0 : Int32))) :: (pA5, .inr (.long, (oK64 (.long kA8) (.long kA9) (.long kA10) (.long kA11) (.long kA12) (.long kA13)), true)) :: (pA6, .inr (.object "java/lang/Object", (oE64 .null .null .null .null .null .null), true)) :: F)) rfl ?_
  refine Go.aloadN C dc_prog_20_method_2_24 (q := 25) rfl rfl rfl ?_
  refine Go.lloadN C dc_prog_20_method_2_25 (q := 26) rfl rfl ?_
  refine Go.putF C (host := "") (i := 3) (j := 3) (Or.inl (wd hw 86 rfl)) Via.refl rfl rfl (Or.inl (wd hw 87 rfl)) (wd hw 1 rfl) (ty := .long) (by decide) rfl rfl dc_prog_20_method_2_26 (q := 29) rfl (M' := ((pA1, oRun (.ref pA2) (.ref pA3) (.int (1 : Int32)) (.int (0 : Int32))) :: (pA2, .inr (.long, (oK64 (.long kA1) (.long kA3) (.long kA4) (.long kA5) (.long kA6) (.long kA7)), true)) :: (pA3, .inr (.object "java/lang/Object", (oE64 (.ref eA1) .null .null .null .null .null), true)) :: (pA0, oQ (.ref pA1) (.ref pA4) (.int (1 : Int32)) (.long kA0) (.ref eA1)) :: (pA4, oHeap (.ref pA5) (.ref pA6) (.int (0 : Int32))) :: (pA5, .inr (.long, (oK64 (.long kA8) (.long kA9) (.long kA10) (.long kA11) (.long kA12) (.long kA13)), true)) :: (pA6, .inr (.object "java/lang/Object", (oE64 .null .null .null .null .null .null), true)) :: F)) rfl ?_
  refine Go.aloadN C dc_prog_20_method_2_29 (q := 30) rfl rfl rfl ?_
  refine Go.aloadN C dc_prog_20_method_2_30 (q := 31) rfl rfl rfl ?_
  refine Go.putF C (host := "") (i := 3) (j := 4) (Or.inl (wd hw 68 rfl)) Via.refl rfl rfl (Or.inl (wd hw 69 rfl)) (wd hw 1 rfl) (ty := (.object "java/lang/Object")) (by decide) rfl rfl dc_prog_20_method_2_31 (q := 34) rfl (M' := ((pA1, oRun (.ref pA2) (.ref pA3) (.int (1 : Int32)) (.int (0 : Int32))) :: (pA2, .inr (.long, (oK64 (.long kA1) (.long kA3) (.long kA4) (.long kA5) (.long kA6) (.long kA7)), true)) :: (pA3, .inr (.object "java/lang/Object", (oE64 (.ref eA1) .null .null .null .null .null), true)) :: (pA0, oQ (.ref pA1) (.ref pA4) (.int (1 : Int32)) (.long kA0) (.ref eA0)) :: (pA4, oHeap (.ref pA5) (.ref pA6) (.int (0 : Int32))) :: (pA5, .inr (.long, (oK64 (.long kA8) (.long kA9) (.long kA10) (.long kA11) (.long kA12) (.long kA13)), true)) :: (pA6, .inr (.object "java/lang/Object", (oE64 .null .null .null .null .null .null), true)) :: F)) rfl ?_
  refine Go.ret0 C rfl dc_prog_20_method_2_34 (by decide) (by decide) ?_
  exact ⟨rfl, rfl⟩
set_option maxRecDepth 65536 in
set_option maxHeartbeats 40000000 in
theorem u_SequenceQueue_isEmpty_36 (l : Launch) (Z : State) (a0 : Array Value) (hw : ∀ d ∈ tables_1, d.before a0 Z = true) (F : List Ent) (pA0 pA1 pA2 pA3 pA4 pA5 pA6 eA0 eA1 : Addr) (kA0 kA1 kA2 kA3 kA4 kA5 kA6 kA7 kA8 kA9 kA10 kA11 kA12 : Int64) (hE_eA0 : Exa Z Z.heap eA0 "java/lang/Integer") (hE_eA1 : Exa Z Z.heap eA1 "java/lang/Integer") :
    Met l Z yN4 prog_20_method_4_code 1 (some .boolean) { frames := 0, cells := 0, slots := 0, locals := 0 } #[(.ref pA0)] ((pA0, oQ (.ref pA1) (.ref pA4) (.int (1 : Int32)) (.long kA0) (.ref eA0)) :: (pA1, oRun (.ref pA2) (.ref pA3) (.int (1 : Int32)) (.int (0 : Int32))) :: (pA2, .inr (.long, (oK64 (.long kA1) (.long kA2) (.long kA3) (.long kA4) (.long kA5) (.long kA6)), true)) :: (pA3, .inr (.object "java/lang/Object", (oE64 (.ref eA1) .null .null .null .null .null), true)) :: (pA4, oHeap (.ref pA5) (.ref pA6) (.int (0 : Int32))) :: (pA5, .inr (.long, (oK64 (.long kA7) (.long kA8) (.long kA9) (.long kA10) (.long kA11) (.long kA12)), true)) :: (pA6, .inr (.object "java/lang/Object", (oE64 .null .null .null .null .null .null), true)) :: F) (fun r M' => (r = (some (.int (0 : Int32))) ∧ M' = ((pA0, oQ (.ref pA1) (.ref pA4) (.int (1 : Int32)) (.long kA0) (.ref eA0)) :: (pA1, oRun (.ref pA2) (.ref pA3) (.int (1 : Int32)) (.int (0 : Int32))) :: (pA2, .inr (.long, (oK64 (.long kA1) (.long kA2) (.long kA3) (.long kA4) (.long kA5) (.long kA6)), true)) :: (pA3, .inr (.object "java/lang/Object", (oE64 (.ref eA1) .null .null .null .null .null), true)) :: (pA4, oHeap (.ref pA5) (.ref pA6) (.int (0 : Int32))) :: (pA5, .inr (.long, (oK64 (.long kA7) (.long kA8) (.long kA9) (.long kA10) (.long kA11) (.long kA12)), true)) :: (pA6, .inr (.object "java/lang/Object", (oE64 .null .null .null .null .null .null), true)) :: F))) := by
  refine Met.of_go pn_4 (Ls := #[.val (.ref pA0)]) (fun m => by first | rfl | (simp [entryFrame, mkF, argsToLocals, Value.category, maxLocals]; done)) ?_
  intro E C
  refine Go.aloadN C dc_prog_20_method_4_0 (q := 1) rfl rfl rfl ?_
  refine Go.getF C (host := "") (Or.inl (wd hw 46 rfl)) Via.refl (fun _ r => r.fld 0 2 rfl rfl) dc_prog_20_method_4_1 (q := 4) rfl ?_
  refine Go.ifYes C dc_prog_20_method_4_4 (by decide) (q := 31) rfl (XT.i0_ne_t (by decide)) ?_
  refine Go.iconst C dc_prog_20_method_4_31 (q := 32) rfl (v := (0 : Int32)) rfl ?_
  refine Go.retZ C rfl (by decide) dc_prog_20_method_4_32 (by decide) (by decide) ?_
  exact ⟨rfl, rfl⟩
set_option maxRecDepth 65536 in
set_option maxHeartbeats 40000000 in
theorem m_valueOf1 (l : Launch) (Z : State) (a0 : Array Value) (hw : ∀ d ∈ tables_1, d.before a0 Z = true) (F : List Ent) (cb : Addr) (cs : List Value) (S_high : Sta Z Z.heap "java/lang/Integer$IntegerCache" "high" "I" (.int (127 : Int32))) (S_cache : Sta Z Z.heap "java/lang/Integer$IntegerCache" "cache" "[Ljava/lang/Integer;" (.ref cb)) (A_cache : ArrIs Z Z.heap cb (.object "java/lang/Integer") cs) (H_cache : ∀ j : Nat, j < 256 → ∃ b, cs[j]? = some (.ref b) ∧ Exa Z Z.heap b "java/lang/Integer" ∧ Fld Z Z.heap b "java/lang/Integer" "value" "I" (.int (j.toInt32 - 128))) :
    Met l Z yN8 jdk_33_method_22_code 1 (some (.object "java/lang/Integer")) { frames := 0, cells := 0, slots := 0, locals := 0 } #[(.int (1 : Int32))] (F) (fun r M' => ∃ b, r = some (.ref b) ∧ M' = F ∧ Exa Z Z.heap b "java/lang/Integer" ∧ Fld Z Z.heap b "java/lang/Integer" "value" "I" (.int (1 : Int32))) := by
  refine Met.of_go pn_8 (Ls := #[.val (.int (1 : Int32))]) (fun m => by first | rfl | (simp [entryFrame, mkF, argsToLocals, Value.category, maxLocals]; done)) ?_
  intro E C
  refine Go.iloadN C dc_jdk_33_method_22_0 (q := 1) rfl rfl ?_
  refine Go.bipush C dc_jdk_33_method_22_1 (q := 3) rfl (v := (-128 : Int32)) (by decide) ?_
  refine Go.icmpNo C dc_jdk_33_method_22_3 (q := 6) rfl (XT.ii_lt_f (by decide)) ?_
  refine Go.iloadN C dc_jdk_33_method_22_6 (q := 7) rfl rfl ?_
  refine Go.getS C (host := "") (Or.inl (wd hw 78 rfl)) Via.refl S_high dc_jdk_33_method_22_7 (q := 10) rfl ?_
  refine Go.icmpNo C dc_jdk_33_method_22_10 (q := 13) rfl (XT.ii_gt_f (by decide)) ?_
  refine Go.getS C (host := "") (Or.inl (wd hw 80 rfl)) Via.refl S_cache dc_jdk_33_method_22_13 (q := 16) rfl ?_
  refine Go.iloadN C dc_jdk_33_method_22_16 (q := 17) rfl rfl ?_
  refine Go.sipush C dc_jdk_33_method_22_17 (q := 20) rfl (v := (128 : Int32)) (by decide) ?_
  refine Go.iadd C dc_jdk_33_method_22_20 (q := 21) rfl ?_
  refine Go.castI (w := (129 : Int32)) (by decide) ?_
  obtain ⟨b, hb1, hb2, hb3⟩ := H_cache 129 (by decide)
  have e : (129 : Nat).toInt32 - 128 = (1 : Int32) := by decide
  rw [e] at hb3
  refine Go.aaload C (fun _ r => (A_cache).ext r.1) rfl (by decide) (v := (.ref b)) hb1 dc_jdk_33_method_22_21 (q := 22) rfl ?_
  refine Go.retA C rfl rfl rfl dc_jdk_33_method_22_22 (by decide) (by decide) ?_
  exact ⟨b, rfl, rfl, hb2, hb3⟩
theorem dc_prog_20_method_3_17 : decode prog_20_method_3_code 17 = .ok (.aload_n 0, 1) := by decide +kernel
theorem dc_prog_20_method_3_18 : decode prog_20_method_3_code 18 = .ok (.getfield 29, 3) := by decide +kernel
theorem dc_prog_20_method_3_21 : decode prog_20_method_3_code 21 = .ok (.aload_n 0, 1) := by decide +kernel
theorem dc_prog_20_method_3_22 : decode prog_20_method_3_code 22 = .ok (.getfield 12, 3) := by decide +kernel
theorem dc_prog_20_method_3_25 : decode prog_20_method_3_code 25 = .ok (.getfield 45, 3) := by decide +kernel
theorem dc_prog_20_method_3_28 : decode prog_20_method_3_code 28 = .ok (.aload_n 0, 1) := by decide +kernel
theorem dc_prog_20_method_3_29 : decode prog_20_method_3_code 29 = .ok (.getfield 12, 3) := by decide +kernel
theorem dc_prog_20_method_3_32 : decode prog_20_method_3_code 32 = .ok (.getfield 49, 3) := by decide +kernel
theorem dc_prog_20_method_3_35 : decode prog_20_method_3_code 35 = .ok (.laload, 1) := by decide +kernel
theorem dc_prog_20_method_3_36 : decode prog_20_method_3_code 36 = .ok (.lcmp, 1) := by decide +kernel
theorem dc_prog_20_method_3_37 : decode prog_20_method_3_code 37 = .ok (.ifCond .gt 38, 3) := by decide +kernel
theorem dc_prog_20_method_3_82 : decode prog_20_method_3_code 82 = .ok (.aload_n 0, 1) := by decide +kernel
theorem dc_prog_20_method_3_83 : decode prog_20_method_3_code 83 = .ok (.aload_n 0, 1) := by decide +kernel
theorem dc_prog_20_method_3_84 : decode prog_20_method_3_code 84 = .ok (.getfield 29, 3) := by decide +kernel
theorem dc_prog_20_method_3_87 : decode prog_20_method_3_code 87 = .ok (.aload_n 0, 1) := by decide +kernel
theorem dc_prog_20_method_3_88 : decode prog_20_method_3_code 88 = .ok (.getfield 33, 3) := by decide +kernel
theorem dc_prog_20_method_3_91 : decode prog_20_method_3_code 91 = .ok (.invokevirtual 37, 3) := by decide +kernel
theorem dc_prog_20_method_9_10 : decode prog_20_method_9_code 10 = .ok (.lload_n 1, 1) := by decide +kernel
theorem dc_prog_20_method_9_11 : decode prog_20_method_9_code 11 = .ok (.aload_n 0, 1) := by decide +kernel
theorem dc_prog_20_method_9_12 : decode prog_20_method_9_code 12 = .ok (.getfield 12, 3) := by decide +kernel
theorem dc_prog_20_method_9_15 : decode prog_20_method_9_code 15 = .ok (.invokevirtual 97, 3) := by decide +kernel
theorem dc_prog_23_method_2_0 : decode prog_23_method_2_code 0 = .ok (.aload_n 0, 1) := by decide +kernel
theorem dc_prog_23_method_2_1 : decode prog_23_method_2_code 1 = .ok (.getfield 7, 3) := by decide +kernel
theorem dc_prog_23_method_2_4 : decode prog_23_method_2_code 4 = .ok (.aload_n 0, 1) := by decide +kernel
theorem dc_prog_23_method_2_5 : decode prog_23_method_2_code 5 = .ok (.aload_n 0, 1) := by decide +kernel
theorem dc_prog_23_method_2_6 : decode prog_23_method_2_code 6 = .ok (.getfield 13, 3) := by decide +kernel
theorem dc_prog_23_method_2_9 : decode prog_23_method_2_code 9 = .ok (.iconst 1, 1) := by decide +kernel
theorem dc_prog_23_method_2_10 : decode prog_23_method_2_code 10 = .ok (.isub, 1) := by decide +kernel
theorem dc_prog_23_method_2_11 : decode prog_23_method_2_code 11 = .ok (.invokevirtual 17, 3) := by decide +kernel
set_option maxRecDepth 65536 in
set_option maxHeartbeats 40000000 in
theorem u_SequenceQueue_Run_slot_41 (l : Launch) (Z : State) (a0 : Array Value) (hw : ∀ d ∈ tables_1, d.before a0 Z = true) (F : List Ent) (pA0 pA1 pA2 eA0 : Addr) (kA0 kA1 kA2 kA3 kA4 kA5 : Int64) (hE_eA0 : Exa Z Z.heap eA0 "java/lang/Integer") :
    Met l Z yN12 prog_23_method_6_code 3 (some .int) { frames := 0, cells := 0, slots := 0, locals := 0 } #[(.ref pA0), (.int (0 : Int32))] ((pA0, oRun (.ref pA1) (.ref pA2) (.int (1 : Int32)) (.int (0 : Int32))) :: (pA1, .inr (.long, (oK64 (.long kA0) (.long kA1) (.long kA2) (.long kA3) (.long kA4) (.long kA5)), true)) :: (pA2, .inr (.object "java/lang/Object", (oE64 (.ref eA0) .null .null .null .null .null), true)) :: F) (fun r M' => (r = (some (.int (0 : Int32))) ∧ M' = ((pA0, oRun (.ref pA1) (.ref pA2) (.int (1 : Int32)) (.int (0 : Int32))) :: (pA1, .inr (.long, (oK64 (.long kA0) (.long kA1) (.long kA2) (.long kA3) (.long kA4) (.long kA5)), true)) :: (pA2, .inr (.object "java/lang/Object", (oE64 (.ref eA0) .null .null .null .null .null), true)) :: F))) := by
  refine Met.of_go pn_11 (Ls := #[.val (.ref pA0), .val (.int (0 : Int32)), .unset]) (fun m => by first | rfl | (simp [entryFrame, mkF, argsToLocals, Value.category, maxLocals]; done)) ?_
  intro E C
  refine Go.aloadN C dc_prog_23_method_6_0 (q := 1) rfl rfl rfl ?_
  refine Go.getF C (host := "") (Or.inl (wd hw 65 rfl)) Via.refl (fun _ r => r.fld 0 3 rfl rfl) dc_prog_23_method_6_1 (q := 4) rfl ?_
  refine Go.iloadN C dc_prog_23_method_6_4 (q := 5) rfl rfl ?_
  refine Go.iadd C dc_prog_23_method_6_5 (q := 6) rfl ?_
  refine Go.castI (w := (0 : Int32)) (by decide) ?_
  refine Go.istoreN C dc_prog_23_method_6_6 (q := 7) rfl (Ls' := #[.val (.ref pA0), .val (.int (0 : Int32)), .val (.int (0 : Int32))]) rfl ?_
  refine Go.iloadN C dc_prog_23_method_6_7 (q := 8) rfl rfl ?_
  refine Go.aloadN C dc_prog_23_method_6_8 (q := 9) rfl rfl rfl ?_
  refine Go.getF C (host := "") (Or.inl (wd hw 107 rfl)) (Via.of (wd hw 108 rfl)) (fun _ r => r.fld 0 0 rfl rfl) dc_prog_23_method_6_9 (q := 12) rfl ?_
  refine Go.arraylength C (fun _ r => r.arr 1 rfl) (z := (64 : Int32)) rfl dc_prog_23_method_6_12 (q := 13) rfl ?_
  refine Go.icmpYes C dc_prog_23_method_6_13 (by decide) (q := 24) rfl (XT.ii_lt_t (by decide)) ?_
  refine Go.iloadN C dc_prog_23_method_6_24 (q := 25) rfl rfl ?_
  refine Go.retI C rfl dc_prog_23_method_6_25 (by decide) (by decide) ?_
  exact ⟨rfl, rfl⟩
theorem dc_prog_23_method_2_14 : decode prog_23_method_2_code 14 = .ok (.laload, 1) := by decide +kernel
theorem dc_prog_23_method_2_15 : decode prog_23_method_2_code 15 = .ok (.lreturn, 1) := by decide +kernel
theorem pn_14 : plainFor yN15 = true := by first | (apply plainFor_of_name; simp [plainName, overriddenIn]; done) | decide +kernel
set_option maxRecDepth 65536 in
set_option maxHeartbeats 40000000 in
theorem u_SequenceQueue_Run_lastKey_40 (l : Launch) (Z : State) (a0 : Array Value) (hw : ∀ d ∈ tables_1, d.before a0 Z = true) (F : List Ent) (pA0 pA1 pA2 eA0 : Addr) (kA0 kA1 kA2 kA3 kA4 kA5 : Int64) (hE_eA0 : Exa Z Z.heap eA0 "java/lang/Integer") :
    Met l Z yN15 prog_23_method_2_code 1 (some .long) { frames := 1, cells := 0, slots := 0, locals := 15 } #[(.ref pA0)] ((pA0, oRun (.ref pA1) (.ref pA2) (.int (1 : Int32)) (.int (0 : Int32))) :: (pA1, .inr (.long, (oK64 (.long kA0) (.long kA1) (.long kA2) (.long kA3) (.long kA4) (.long kA5)), true)) :: (pA2, .inr (.object "java/lang/Object", (oE64 (.ref eA0) .null .null .null .null .null), true)) :: F) (fun r M' => (r = (some (.long kA0)) ∧ M' = ((pA0, oRun (.ref pA1) (.ref pA2) (.int (1 : Int32)) (.int (0 : Int32))) :: (pA1, .inr (.long, (oK64 (.long kA0) (.long kA1) (.long kA2) (.long kA3) (.long kA4) (.long kA5)), true)) :: (pA2, .inr (.object "java/lang/Object", (oE64 (.ref eA0) .null .null .null .null .null), true)) :: F))) := by
  refine Met.of_go pn_14 (Ls := #[.val (.ref pA0)]) (fun m => by first | rfl | (simp [entryFrame, mkF, argsToLocals, Value.category, maxLocals]; done)) ?_
  intro E C
  refine Go.aloadN C dc_prog_23_method_2_0 (q := 1) rfl rfl rfl ?_
  refine Go.getF C (host := "") (Or.inl (wd hw 107 rfl)) (Via.of (wd hw 108 rfl)) (fun _ r => r.fld 0 0 rfl rfl) dc_prog_23_method_2_1 (q := 4) rfl ?_
  refine Go.aloadN C dc_prog_23_method_2_4 (q := 5) rfl rfl rfl ?_
  refine Go.aloadN C dc_prog_23_method_2_5 (q := 6) rfl rfl rfl ?_
  refine Go.getF C (host := "") (Or.inl (wd hw 67 rfl)) (Via.of (wd hw 49 rfl)) (fun _ r => r.fld 0 2 rfl rfl) dc_prog_23_method_2_6 (q := 9) rfl ?_
  refine Go.iconst C dc_prog_23_method_2_9 (q := 10) rfl (v := (1 : Int32)) rfl ?_
  refine Go.isub C dc_prog_23_method_2_10 (q := 11) rfl ?_
  refine Go.castI (w := (0 : Int32)) (by decide) ?_
  refine Go.callP C (y := yN12) (a := pA0) (as := [(.int (0 : Int32))]) (rest := [(.ref pA1)]) (wd hw 103 rfl) (wd hw 104 rfl) (sel_priv (y := yN12) (wd hw 10 rfl) (wd hw 104 rfl) (wd hw 105 rfl) (by decide)) (wd hw 105 rfl) (wd hw 106 rfl) (wd hw 11 rfl) (fun _ r => r.exa 0 rfl) (u_SequenceQueue_Run_slot_41 l Z a0 hw _ pA0 pA1 pA2 eA0 kA0 kA1 kA2 kA3 kA4 kA5 hE_eA0) rfl dc_prog_23_method_2_11 (q := 14) rfl (by decide) rfl (na := 1) (by decide +kernel) rfl (by decide) (W := 1) rfl (by decide) (by decide) (by decide) (k' := 0) (n' := 0) rfl rfl ?_
  rintro _ _ ⟨rfl, rfl⟩
  show Go _ _ _ _ _ _ _ _ _ _ [(.int (0 : Int32)), (.ref pA1)]
  refine Go.laload C (fun _ r => r.arr 1 rfl) (by decide) (v := (.long kA0)) rfl dc_prog_23_method_2_14 (q := 15) rfl ?_
  refine Go.retL C rfl dc_prog_23_method_2_15 (by decide) (by decide) ?_
  exact ⟨rfl, rfl⟩
theorem dc_prog_20_method_9_18 : decode prog_20_method_9_code 18 = .ok (.lcmp, 1) := by decide +kernel
theorem dc_prog_20_method_9_19 : decode prog_20_method_9_code 19 = .ok (.ifCond .lt 15, 3) := by decide +kernel
theorem dc_prog_20_method_9_34 : decode prog_20_method_9_code 34 = .ok (.aload_n 0, 1) := by decide +kernel
theorem dc_prog_20_method_9_35 : decode prog_20_method_9_code 35 = .ok (.getfield 21, 3) := by decide +kernel
theorem dc_prog_20_method_9_38 : decode prog_20_method_9_code 38 = .ok (.lload_n 1, 1) := by decide +kernel
theorem dc_prog_20_method_9_39 : decode prog_20_method_9_code 39 = .ok (.aload_n 3, 1) := by decide +kernel
theorem dc_prog_20_method_9_40 : decode prog_20_method_9_code 40 = .ok (.invokevirtual 103, 3) := by decide +kernel
theorem dc_prog_21_method_2_0 : decode prog_21_method_2_code 0 = .ok (.aload_n 0, 1) := by decide +kernel
theorem dc_prog_21_method_2_1 : decode prog_21_method_2_code 1 = .ok (.invokevirtual 7, 3) := by decide +kernel
set_option maxRecDepth 65536 in
set_option maxHeartbeats 40000000 in
theorem u_SequenceQueue_Part_makeRoom_45 (l : Launch) (Z : State) (a0 : Array Value) (hw : ∀ d ∈ tables_1, d.before a0 Z = true) (F : List Ent) (pA0 pA1 pA2 : Addr) (kA0 kA1 kA2 kA3 kA4 kA5 : Int64)  :
    Met l Z yN10 prog_22_method_2_code 1 none { frames := 0, cells := 0, slots := 0, locals := 0 } #[(.ref pA0)] ((pA0, oHeap (.ref pA1) (.ref pA2) (.int (0 : Int32))) :: (pA1, .inr (.long, (oK64 (.long kA0) (.long kA1) (.long kA2) (.long kA3) (.long kA4) (.long kA5)), true)) :: (pA2, .inr (.object "java/lang/Object", (oE64 .null .null .null .null .null .null), true)) :: F) (fun r M' => (r = none ∧ M' = ((pA0, oHeap (.ref pA1) (.ref pA2) (.int (0 : Int32))) :: (pA1, .inr (.long, (oK64 (.long kA0) (.long kA1) (.long kA2) (.long kA3) (.long kA4) (.long kA5)), true)) :: (pA2, .inr (.object "java/lang/Object", (oE64 .null .null .null .null .null .null), true)) :: F))) := by
  refine Met.of_go pn_10 (Ls := #[.val (.ref pA0)]) (fun m => by first | rfl | (simp [entryFrame, mkF, argsToLocals, Value.category, maxLocals]; done)) ?_
  intro E C
  refine Go.aloadN C dc_prog_22_method_2_0 (q := 1) rfl rfl rfl ?_
  refine Go.getF C (host := "") (Or.inl (wd hw 102 rfl)) Via.refl (fun _ r => r.fld 0 2 rfl rfl) dc_prog_22_method_2_1 (q := 4) rfl ?_
  refine Go.aloadN C dc_prog_22_method_2_4 (q := 5) rfl rfl rfl ?_
  refine Go.getF C (host := "") (Or.inl (wd hw 22 rfl)) Via.refl (fun _ r => r.fld 0 0 rfl rfl) dc_prog_22_method_2_5 (q := 8) rfl ?_
  refine Go.arraylength C (fun _ r => r.arr 1 rfl) (z := (64 : Int32)) rfl dc_prog_22_method_2_8 (q := 9) rfl ?_
  refine Go.icmpYes C dc_prog_22_method_2_9 (by decide) (q := 58) rfl (XT.ii_ne_t (by decide)) ?_
  refine Go.ret0 C rfl dc_prog_22_method_2_58 (by decide) (by decide) ?_
  exact ⟨rfl, rfl⟩
theorem dc_prog_21_method_2_4 : decode prog_21_method_2_code 4 = .ok (.aload_n 0, 1) := by decide +kernel
theorem dc_prog_21_method_2_5 : decode prog_21_method_2_code 5 = .ok (.getfield 12, 3) := by decide +kernel
theorem dc_prog_21_method_2_8 : decode prog_21_method_2_code 8 = .ok (.istore 4, 2) := by decide +kernel
theorem dc_prog_21_method_2_10 : decode prog_21_method_2_code 10 = .ok (.aload_n 0, 1) := by decide +kernel
theorem dc_prog_21_method_2_11 : decode prog_21_method_2_code 11 = .ok (.dup, 1) := by decide +kernel
theorem dc_prog_21_method_2_12 : decode prog_21_method_2_code 12 = .ok (.getfield 12, 3) := by decide +kernel
theorem dc_prog_21_method_2_15 : decode prog_21_method_2_code 15 = .ok (.iconst 1, 1) := by decide +kernel
theorem dc_prog_21_method_2_16 : decode prog_21_method_2_code 16 = .ok (.iadd, 1) := by decide +kernel
theorem dc_prog_21_method_2_17 : decode prog_21_method_2_code 17 = .ok (.putfield 12, 3) := by decide +kernel
theorem dc_prog_21_method_2_20 : decode prog_21_method_2_code 20 = .ok (.iload 4, 2) := by decide +kernel
theorem dc_prog_21_method_2_22 : decode prog_21_method_2_code 22 = .ok (.ifCond .le 61, 3) := by decide +kernel
theorem dc_prog_21_method_2_83 : decode prog_21_method_2_code 83 = .ok (.aload_n 0, 1) := by decide +kernel
theorem dc_prog_21_method_2_84 : decode prog_21_method_2_code 84 = .ok (.getfield 16, 3) := by decide +kernel
theorem dc_prog_21_method_2_87 : decode prog_21_method_2_code 87 = .ok (.iload 4, 2) := by decide +kernel
theorem dc_prog_21_method_2_89 : decode prog_21_method_2_code 89 = .ok (.lload_n 1, 1) := by decide +kernel
theorem dc_prog_21_method_2_90 : decode prog_21_method_2_code 90 = .ok (.lastore, 1) := by decide +kernel
theorem dc_prog_21_method_2_91 : decode prog_21_method_2_code 91 = .ok (.aload_n 0, 1) := by decide +kernel
theorem dc_prog_21_method_2_92 : decode prog_21_method_2_code 92 = .ok (.getfield 20, 3) := by decide +kernel
theorem dc_prog_21_method_2_95 : decode prog_21_method_2_code 95 = .ok (.iload 4, 2) := by decide +kernel
theorem dc_prog_21_method_2_97 : decode prog_21_method_2_code 97 = .ok (.aload_n 3, 1) := by decide +kernel
theorem dc_prog_21_method_2_98 : decode prog_21_method_2_code 98 = .ok (.aastore, 1) := by decide +kernel
theorem dc_prog_21_method_2_99 : decode prog_21_method_2_code 99 = .ok (.return_, 1) := by decide +kernel
theorem pn_15 : plainFor yN17 = true := by first | (apply plainFor_of_name; simp [plainName, overriddenIn]; done) | decide +kernel
set_option maxRecDepth 65536 in
set_option maxHeartbeats 40000000 in
theorem u_SequenceQueue_Heap_add_44 (l : Launch) (Z : State) (a0 : Array Value) (hw : ∀ d ∈ tables_1, d.before a0 Z = true) (F : List Ent) (pA0 pA1 pA2 eA0 : Addr) (kA0 kA1 kA2 kA3 kA4 kA5 kA6 : Int64) (hE_eA0 : Exa Z Z.heap eA0 "java/lang/Integer") :
    Met l Z yN17 prog_21_method_2_code 6 none { frames := 1, cells := 0, slots := 0, locals := 12 } #[(.ref pA0), (.long kA0), (.ref eA0)] ((pA0, oHeap (.ref pA1) (.ref pA2) (.int (0 : Int32))) :: (pA1, .inr (.long, (oK64 (.long kA1) (.long kA2) (.long kA3) (.long kA4) (.long kA5) (.long kA6)), true)) :: (pA2, .inr (.object "java/lang/Object", (oE64 .null .null .null .null .null .null), true)) :: F) (fun r M' => (r = none ∧ M' = ((pA0, oHeap (.ref pA1) (.ref pA2) (.int (1 : Int32))) :: (pA1, .inr (.long, (oK64 (.long kA0) (.long kA2) (.long kA3) (.long kA4) (.long kA5) (.long kA6)), true)) :: (pA2, .inr (.object "java/lang/Object", (oE64 (.ref eA0) .null .null .null .null .null), true)) :: F))) := by
  refine Met.of_go pn_15 (Ls := #[.val (.ref pA0), .val (.long kA0), .second, .val (.ref eA0), .unset, .unset]) (fun m => by first | rfl | (simp [entryFrame, mkF, argsToLocals, Value.category, maxLocals]; done)) ?_
  intro E C
  refine Go.aloadN C dc_prog_21_method_2_0 (q := 1) rfl rfl rfl ?_
  refine Go.callU C (y := yN16) (z := yN10) (owner := "com/example/ordered_dispatch/ordereddispatch/SequenceQueue$Part") (a := pA0) (as := []) (rest := []) (wd hw 126 rfl) (wd hw 127 rfl) (wd hw 98 rfl) (wd hw 128 rfl) (wd hw 99 rfl) (wd hw 101 rfl) (wd hw 18 rfl) (fun _ r => r.exa 0 rfl) (u_SequenceQueue_Part_makeRoom_45 l Z a0 hw _ pA0 pA1 pA2 kA1 kA2 kA3 kA4 kA5 kA6) rfl dc_prog_21_method_2_1 (q := 4) rfl (by decide) rfl (na := 0) (by decide +kernel) rfl (by decide) (W := 0) rfl (by decide) (by decide) (by decide) (k' := 0) (n' := 0) rfl rfl ?_
  rintro _ _ ⟨rfl, rfl⟩
  show Go _ _ _ _ _ _ _ _ _ _ []
  refine Go.aloadN C dc_prog_21_method_2_4 (q := 5) rfl rfl rfl ?_
  refine Go.getF C (host := "") (Or.inl (wd hw 129 rfl)) (Via.of (wd hw 52 rfl)) (fun _ r => r.fld 0 2 rfl rfl) dc_prog_21_method_2_5 (q := 8) rfl ?_
  refine Go.istore C dc_prog_21_method_2_8 (q := 10) rfl (Ls' := #[.val (.ref pA0), .val (.long kA0), .second, .val (.ref eA0), .val (.int (0 : Int32)), .unset]) rfl ?_
  refine Go.aloadN C dc_prog_21_method_2_10 (q := 11) rfl rfl rfl ?_
  refine Go.dup C dc_prog_21_method_2_11 (q := 12) rfl rfl ?_
  refine Go.getF C (host := "") (Or.inl (wd hw 129 rfl)) (Via.of (wd hw 52 rfl)) (fun _ r => r.fld 0 2 rfl rfl) dc_prog_21_method_2_12 (q := 15) rfl ?_
  refine Go.iconst C dc_prog_21_method_2_15 (q := 16) rfl (v := (1 : Int32)) rfl ?_
  refine Go.iadd C dc_prog_21_method_2_16 (q := 17) rfl ?_
  refine Go.castI (w := (1 : Int32)) (by decide) ?_
  refine Go.putF C (host := "") (i := 0) (j := 2) (Or.inl (wd hw 129 rfl)) (Via.of (wd hw 52 rfl)) rfl rfl (Or.inl (wd hw 53 rfl)) (wd hw 31 rfl) (ty := .int) (by decide) rfl rfl dc_prog_21_method_2_17 (q := 20) rfl (M' := ((pA0, oHeap (.ref pA1) (.ref pA2) (.int (1 : Int32))) :: (pA1, .inr (.long, (oK64 (.long kA1) (.long kA2) (.long kA3) (.long kA4) (.long kA5) (.long kA6)), true)) :: (pA2, .inr (.object "java/lang/Object", (oE64 .null .null .null .null .null .null), true)) :: F)) rfl ?_
  refine Go.iload C dc_prog_21_method_2_20 (q := 22) rfl rfl ?_
  refine Go.ifYes C dc_prog_21_method_2_22 (by decide) (q := 83) rfl (XT.i0_le_t (by decide)) ?_
  refine Go.aloadN C dc_prog_21_method_2_83 (q := 84) rfl rfl rfl ?_
  refine Go.getF C (host := "") (Or.inl (wd hw 130 rfl)) (Via.of (wd hw 131 rfl)) (fun _ r => r.fld 0 0 rfl rfl) dc_prog_21_method_2_84 (q := 87) rfl ?_
  refine Go.iload C dc_prog_21_method_2_87 (q := 89) rfl rfl ?_
  refine Go.lloadN C dc_prog_21_method_2_89 (q := 90) rfl rfl ?_
  refine Go.lastore C (i := 1) rfl (by decide) (show (0 : Int32).toNatClampNeg < 64 from by decide) (w' := (.long kA0)) rfl dc_prog_21_method_2_90 (q := 91) rfl (M' := ((pA0, oHeap (.ref pA1) (.ref pA2) (.int (1 : Int32))) :: (pA1, .inr (.long, (oK64 (.long kA0) (.long kA2) (.long kA3) (.long kA4) (.long kA5) (.long kA6)), true)) :: (pA2, .inr (.object "java/lang/Object", (oE64 .null .null .null .null .null .null), true)) :: F)) rfl ?_
  refine Go.aloadN C dc_prog_21_method_2_91 (q := 92) rfl rfl rfl ?_
  refine Go.getF C (host := "") (Or.inl (wd hw 132 rfl)) (Via.of (wd hw 133 rfl)) (fun _ r => r.fld 0 1 rfl rfl) dc_prog_21_method_2_92 (q := 95) rfl ?_
  refine Go.iload C dc_prog_21_method_2_95 (q := 97) rfl rfl ?_
  refine Go.aloadN C dc_prog_21_method_2_97 (q := 98) rfl rfl rfl ?_
  refine Go.aastore C (i := 2) rfl (by decide) (show (0 : Int32).toNatClampNeg < 64 from by decide) (fun _ r => Or.inr ⟨_, rfl, Ins.of_exa ((hE_eA0).ext r.1) (wd hw 109 rfl)⟩) dc_prog_21_method_2_98 (q := 99) rfl (M' := ((pA0, oHeap (.ref pA1) (.ref pA2) (.int (1 : Int32))) :: (pA1, .inr (.long, (oK64 (.long kA0) (.long kA2) (.long kA3) (.long kA4) (.long kA5) (.long kA6)), true)) :: (pA2, .inr (.object "java/lang/Object", (oE64 (.ref eA0) .null .null .null .null .null), true)) :: F)) rfl ?_
  refine Go.ret0 C rfl dc_prog_21_method_2_99 (by decide) (by decide) ?_
  exact ⟨rfl, rfl⟩
set_option maxRecDepth 65536 in
set_option maxHeartbeats 40000000 in
theorem u_SequenceQueue_Part_makeRoom_49 (l : Launch) (Z : State) (a0 : Array Value) (hw : ∀ d ∈ tables_1, d.before a0 Z = true) (F : List Ent) (pA0 pA1 pA2 eA0 : Addr) (kA0 kA1 kA2 kA3 kA4 kA5 : Int64) (hE_eA0 : Exa Z Z.heap eA0 "java/lang/Integer") :
    Met l Z yN10 prog_22_method_2_code 1 none { frames := 0, cells := 0, slots := 0, locals := 0 } #[(.ref pA0)] ((pA0, oRun (.ref pA1) (.ref pA2) (.int (1 : Int32)) (.int (0 : Int32))) :: (pA1, .inr (.long, (oK64 (.long kA0) (.long kA1) (.long kA2) (.long kA3) (.long kA4) (.long kA5)), true)) :: (pA2, .inr (.object "java/lang/Object", (oE64 (.ref eA0) .null .null .null .null .null), true)) :: F) (fun r M' => (r = none ∧ M' = ((pA0, oRun (.ref pA1) (.ref pA2) (.int (1 : Int32)) (.int (0 : Int32))) :: (pA1, .inr (.long, (oK64 (.long kA0) (.long kA1) (.long kA2) (.long kA3) (.long kA4) (.long kA5)), true)) :: (pA2, .inr (.object "java/lang/Object", (oE64 (.ref eA0) .null .null .null .null .null), true)) :: F))) := by
  refine Met.of_go pn_10 (Ls := #[.val (.ref pA0)]) (fun m => by first | rfl | (simp [entryFrame, mkF, argsToLocals, Value.category, maxLocals]; done)) ?_
  intro E C
  refine Go.aloadN C dc_prog_22_method_2_0 (q := 1) rfl rfl rfl ?_
  refine Go.getF C (host := "") (Or.inl (wd hw 102 rfl)) Via.refl (fun _ r => r.fld 0 2 rfl rfl) dc_prog_22_method_2_1 (q := 4) rfl ?_
  refine Go.aloadN C dc_prog_22_method_2_4 (q := 5) rfl rfl rfl ?_
  refine Go.getF C (host := "") (Or.inl (wd hw 22 rfl)) Via.refl (fun _ r => r.fld 0 0 rfl rfl) dc_prog_22_method_2_5 (q := 8) rfl ?_
  refine Go.arraylength C (fun _ r => r.arr 1 rfl) (z := (64 : Int32)) rfl dc_prog_22_method_2_8 (q := 9) rfl ?_
  refine Go.icmpYes C dc_prog_22_method_2_9 (by decide) (q := 58) rfl (XT.ii_ne_t (by decide)) ?_
  refine Go.ret0 C rfl dc_prog_22_method_2_58 (by decide) (by decide) ?_
  exact ⟨rfl, rfl⟩
set_option maxRecDepth 65536 in
set_option maxHeartbeats 40000000 in
theorem u_SequenceQueue_Run_slot_51 (l : Launch) (Z : State) (a0 : Array Value) (hw : ∀ d ∈ tables_1, d.before a0 Z = true) (F : List Ent) (pA0 pA1 pA2 eA0 : Addr) (kA0 kA1 kA2 kA3 kA4 kA5 : Int64) (hE_eA0 : Exa Z Z.heap eA0 "java/lang/Integer") :
    Met l Z yN12 prog_23_method_6_code 3 (some .int) { frames := 0, cells := 0, slots := 0, locals := 0 } #[(.ref pA0), (.int (1 : Int32))] ((pA0, oRun (.ref pA1) (.ref pA2) (.int (1 : Int32)) (.int (0 : Int32))) :: (pA1, .inr (.long, (oK64 (.long kA0) (.long kA1) (.long kA2) (.long kA3) (.long kA4) (.long kA5)), true)) :: (pA2, .inr (.object "java/lang/Object", (oE64 (.ref eA0) .null .null .null .null .null), true)) :: F) (fun r M' => (r = (some (.int (1 : Int32))) ∧ M' = ((pA0, oRun (.ref pA1) (.ref pA2) (.int (1 : Int32)) (.int (0 : Int32))) :: (pA1, .inr (.long, (oK64 (.long kA0) (.long kA1) (.long kA2) (.long kA3) (.long kA4) (.long kA5)), true)) :: (pA2, .inr (.object "java/lang/Object", (oE64 (.ref eA0) .null .null .null .null .null), true)) :: F))) := by
  refine Met.of_go pn_11 (Ls := #[.val (.ref pA0), .val (.int (1 : Int32)), .unset]) (fun m => by first | rfl | (simp [entryFrame, mkF, argsToLocals, Value.category, maxLocals]; done)) ?_
  intro E C
  refine Go.aloadN C dc_prog_23_method_6_0 (q := 1) rfl rfl rfl ?_
  refine Go.getF C (host := "") (Or.inl (wd hw 65 rfl)) Via.refl (fun _ r => r.fld 0 3 rfl rfl) dc_prog_23_method_6_1 (q := 4) rfl ?_
  refine Go.iloadN C dc_prog_23_method_6_4 (q := 5) rfl rfl ?_
  refine Go.iadd C dc_prog_23_method_6_5 (q := 6) rfl ?_
  refine Go.castI (w := (1 : Int32)) (by decide) ?_
  refine Go.istoreN C dc_prog_23_method_6_6 (q := 7) rfl (Ls' := #[.val (.ref pA0), .val (.int (1 : Int32)), .val (.int (1 : Int32))]) rfl ?_
  refine Go.iloadN C dc_prog_23_method_6_7 (q := 8) rfl rfl ?_
  refine Go.aloadN C dc_prog_23_method_6_8 (q := 9) rfl rfl rfl ?_
  refine Go.getF C (host := "") (Or.inl (wd hw 107 rfl)) (Via.of (wd hw 108 rfl)) (fun _ r => r.fld 0 0 rfl rfl) dc_prog_23_method_6_9 (q := 12) rfl ?_
  refine Go.arraylength C (fun _ r => r.arr 1 rfl) (z := (64 : Int32)) rfl dc_prog_23_method_6_12 (q := 13) rfl ?_
  refine Go.icmpYes C dc_prog_23_method_6_13 (by decide) (q := 24) rfl (XT.ii_lt_t (by decide)) ?_
  refine Go.iloadN C dc_prog_23_method_6_24 (q := 25) rfl rfl ?_
  refine Go.retI C rfl dc_prog_23_method_6_25 (by decide) (by decide) ?_
  exact ⟨rfl, rfl⟩
set_option maxRecDepth 65536 in
set_option maxHeartbeats 40000000 in
theorem u_SequenceQueue_Run_add_48 (l : Launch) (Z : State) (a0 : Array Value) (hw : ∀ d ∈ tables_1, d.before a0 Z = true) (F : List Ent) (pA0 pA1 pA2 eA0 eA1 : Addr) (kA0 kA1 kA2 kA3 kA4 kA5 kA6 : Int64) (hE_eA0 : Exa Z Z.heap eA0 "java/lang/Integer") (hE_eA1 : Exa Z Z.heap eA1 "java/lang/Integer") :
    Met l Z yN13 prog_23_method_3_code 5 none { frames := 1, cells := 0, slots := 0, locals := 14 } #[(.ref pA0), (.long kA0), (.ref eA0)] ((pA0, oRun (.ref pA1) (.ref pA2) (.int (1 : Int32)) (.int (0 : Int32))) :: (pA1, .inr (.long, (oK64 (.long kA1) (.long kA2) (.long kA3) (.long kA4) (.long kA5) (.long kA6)), true)) :: (pA2, .inr (.object "java/lang/Object", (oE64 (.ref eA1) .null .null .null .null .null), true)) :: F) (fun r M' => (r = none ∧ M' = ((pA0, oRun (.ref pA1) (.ref pA2) (.int (2 : Int32)) (.int (0 : Int32))) :: (pA1, .inr (.long, (oK64 (.long kA1) (.long kA0) (.long kA3) (.long kA4) (.long kA5) (.long kA6)), true)) :: (pA2, .inr (.object "java/lang/Object", (oE64 (.ref eA1) (.ref eA0) .null .null .null .null), true)) :: F))) := by
  refine Met.of_go pn_12 (Ls := #[.val (.ref pA0), .val (.long kA0), .second, .val (.ref eA0), .unset]) (fun m => by first | rfl | (simp [entryFrame, mkF, argsToLocals, Value.category, maxLocals]; done)) ?_
  intro E C
  refine Go.aloadN C dc_prog_23_method_3_0 (q := 1) rfl rfl rfl ?_
  refine Go.callU C (y := yN11) (z := yN10) (owner := "com/example/ordered_dispatch/ordereddispatch/SequenceQueue$Part") (a := pA0) (as := []) (rest := []) (wd hw 96 rfl) (wd hw 97 rfl) (wd hw 98 rfl) (wd hw 100 rfl) (wd hw 99 rfl) (wd hw 101 rfl) (wd hw 18 rfl) (fun _ r => r.exa 0 rfl) (u_SequenceQueue_Part_makeRoom_49 l Z a0 hw _ pA0 pA1 pA2 eA1 kA1 kA2 kA3 kA4 kA5 kA6 hE_eA1) rfl dc_prog_23_method_3_1 (q := 4) rfl (by decide) rfl (na := 0) (by decide +kernel) rfl (by decide) (W := 0) rfl (by decide) (by decide) (by decide) (k' := 0) (n' := 0) rfl rfl ?_
  rintro _ _ ⟨rfl, rfl⟩
  show Go _ _ _ _ _ _ _ _ _ _ []
  refine Go.aloadN C dc_prog_23_method_3_4 (q := 5) rfl rfl rfl ?_
  refine Go.aloadN C dc_prog_23_method_3_5 (q := 6) rfl rfl rfl ?_
  refine Go.getF C (host := "") (Or.inl (wd hw 67 rfl)) (Via.of (wd hw 49 rfl)) (fun _ r => r.fld 0 2 rfl rfl) dc_prog_23_method_3_6 (q := 9) rfl ?_
  refine Go.callP C (y := yN12) (a := pA0) (as := [(.int (1 : Int32))]) (rest := []) (wd hw 103 rfl) (wd hw 104 rfl) (sel_priv (y := yN12) (wd hw 10 rfl) (wd hw 104 rfl) (wd hw 105 rfl) (by decide)) (wd hw 105 rfl) (wd hw 106 rfl) (wd hw 11 rfl) (fun _ r => r.exa 0 rfl) (u_SequenceQueue_Run_slot_51 l Z a0 hw _ pA0 pA1 pA2 eA1 kA1 kA2 kA3 kA4 kA5 kA6 hE_eA1) rfl dc_prog_23_method_3_9 (q := 12) rfl (by decide) rfl (na := 1) (by decide +kernel) rfl (by decide) (W := 0) rfl (by decide) (by decide) (by decide) (k' := 0) (n' := 0) rfl rfl ?_
  rintro _ _ ⟨rfl, rfl⟩
  show Go _ _ _ _ _ _ _ _ _ _ [(.int (1 : Int32))]
  refine Go.istore C dc_prog_23_method_3_12 (q := 14) rfl (Ls' := #[.val (.ref pA0), .val (.long kA0), .second, .val (.ref eA0), .val (.int (1 : Int32))]) rfl ?_
  refine Go.aloadN C dc_prog_23_method_3_14 (q := 15) rfl rfl rfl ?_
  refine Go.getF C (host := "") (Or.inl (wd hw 107 rfl)) (Via.of (wd hw 108 rfl)) (fun _ r => r.fld 0 0 rfl rfl) dc_prog_23_method_3_15 (q := 18) rfl ?_
  refine Go.iload C dc_prog_23_method_3_18 (q := 20) rfl rfl ?_
  refine Go.lloadN C dc_prog_23_method_3_20 (q := 21) rfl rfl ?_
  refine Go.lastore C (i := 1) rfl (by decide) (show (1 : Int32).toNatClampNeg < 64 from by decide) (w' := (.long kA0)) rfl dc_prog_23_method_3_21 (q := 22) rfl (M' := ((pA0, oRun (.ref pA1) (.ref pA2) (.int (1 : Int32)) (.int (0 : Int32))) :: (pA1, .inr (.long, (oK64 (.long kA1) (.long kA0) (.long kA3) (.long kA4) (.long kA5) (.long kA6)), true)) :: (pA2, .inr (.object "java/lang/Object", (oE64 (.ref eA1) .null .null .null .null .null), true)) :: F)) rfl ?_
  refine Go.aloadN C dc_prog_23_method_3_22 (q := 23) rfl rfl rfl ?_
  refine Go.getF C (host := "") (Or.inl (wd hw 63 rfl)) (Via.of (wd hw 64 rfl)) (fun _ r => r.fld 0 1 rfl rfl) dc_prog_23_method_3_23 (q := 26) rfl ?_
  refine Go.iload C dc_prog_23_method_3_26 (q := 28) rfl rfl ?_
  refine Go.aloadN C dc_prog_23_method_3_28 (q := 29) rfl rfl rfl ?_
  refine Go.aastore C (i := 2) rfl (by decide) (show (1 : Int32).toNatClampNeg < 64 from by decide) (fun _ r => Or.inr ⟨_, rfl, Ins.of_exa ((hE_eA0).ext r.1) (wd hw 109 rfl)⟩) dc_prog_23_method_3_29 (q := 30) rfl (M' := ((pA0, oRun (.ref pA1) (.ref pA2) (.int (1 : Int32)) (.int (0 : Int32))) :: (pA1, .inr (.long, (oK64 (.long kA1) (.long kA0) (.long kA3) (.long kA4) (.long kA5) (.long kA6)), true)) :: (pA2, .inr (.object "java/lang/Object", (oE64 (.ref eA1) (.ref eA0) .null .null .null .null), true)) :: F)) rfl ?_
  refine Go.aloadN C dc_prog_23_method_3_30 (q := 31) rfl rfl rfl ?_
  refine Go.dup C dc_prog_23_method_3_31 (q := 32) rfl rfl ?_
  refine Go.getF C (host := "") (Or.inl (wd hw 67 rfl)) (Via.of (wd hw 49 rfl)) (fun _ r => r.fld 0 2 rfl rfl) dc_prog_23_method_3_32 (q := 35) rfl ?_
  refine Go.iconst C dc_prog_23_method_3_35 (q := 36) rfl (v := (1 : Int32)) rfl ?_
  refine Go.iadd C dc_prog_23_method_3_36 (q := 37) rfl ?_
  refine Go.castI (w := (2 : Int32)) (by decide) ?_
  refine Go.putF C (host := "") (i := 0) (j := 2) (Or.inl (wd hw 67 rfl)) (Via.of (wd hw 49 rfl)) rfl rfl (Or.inl (wd hw 50 rfl)) (wd hw 10 rfl) (ty := .int) (by decide) rfl rfl dc_prog_23_method_3_37 (q := 40) rfl (M' := ((pA0, oRun (.ref pA1) (.ref pA2) (.int (2 : Int32)) (.int (0 : Int32))) :: (pA1, .inr (.long, (oK64 (.long kA1) (.long kA0) (.long kA3) (.long kA4) (.long kA5) (.long kA6)), true)) :: (pA2, .inr (.object "java/lang/Object", (oE64 (.ref eA1) (.ref eA0) .null .null .null .null), true)) :: F)) rfl ?_
  refine Go.ret0 C rfl dc_prog_23_method_3_40 (by decide) (by decide) ?_
  exact ⟨rfl, rfl⟩
set_option maxRecDepth 65536 in
set_option maxHeartbeats 40000000 in
theorem u_SequenceQueue_place_39 (l : Launch) (Z : State) (a0 : Array Value) (hw : ∀ d ∈ tables_1, d.before a0 Z = true) (F : List Ent) (pA0 pA1 pA2 pA3 pA4 pA5 pA6 eA0 eA1 eA2 : Addr) (kA0 kA1 kA2 kA3 kA4 kA5 kA6 kA7 kA8 kA9 kA10 kA11 kA12 kA13 : Int64) (hE_eA0 : Exa Z Z.heap eA0 "java/lang/Integer") (hE_eA1 : Exa Z Z.heap eA1 "java/lang/Integer") (hE_eA2 : Exa Z Z.heap eA2 "java/lang/Integer") :
    Met l Z yN14 prog_20_method_9_code 4 none { frames := 2, cells := 0, slots := 0, locals := 30 } #[(.ref pA0), (.long kA0), (.ref eA0)] ((pA0, oQ (.ref pA1) (.ref pA4) (.int (1 : Int32)) (.long kA1) (.ref eA1)) :: (pA1, oRun (.ref pA2) (.ref pA3) (.int (1 : Int32)) (.int (0 : Int32))) :: (pA2, .inr (.long, (oK64 (.long kA2) (.long kA3) (.long kA4) (.long kA5) (.long kA6) (.long kA7)), true)) :: (pA3, .inr (.object "java/lang/Object", (oE64 (.ref eA2) .null .null .null .null .null), true)) :: (pA4, oHeap (.ref pA5) (.ref pA6) (.int (0 : Int32))) :: (pA5, .inr (.long, (oK64 (.long kA8) (.long kA9) (.long kA10) (.long kA11) (.long kA12) (.long kA13)), true)) :: (pA6, .inr (.object "java/lang/Object", (oE64 .null .null .null .null .null .null), true)) :: F) (fun r M' => (r = none ∧ M' = ((pA4, oHeap (.ref pA5) (.ref pA6) (.int (1 : Int32))) :: (pA5, .inr (.long, (oK64 (.long kA0) (.long kA9) (.long kA10) (.long kA11) (.long kA12) (.long kA13)), true)) :: (pA6, .inr (.object "java/lang/Object", (oE64 (.ref eA0) .null .null .null .null .null), true)) :: (pA1, oRun (.ref pA2) (.ref pA3) (.int (1 : Int32)) (.int (0 : Int32))) :: (pA2, .inr (.long, (oK64 (.long kA2) (.long kA3) (.long kA4) (.long kA5) (.long kA6) (.long kA7)), true)) :: (pA3, .inr (.object "java/lang/Object", (oE64 (.ref eA2) .null .null .null .null .null), true)) :: (pA0, oQ (.ref pA1) (.ref pA4) (.int (1 : Int32)) (.long kA1) (.ref eA1)) :: F)) ∨ (r = none ∧ M' = ((pA1, oRun (.ref pA2) (.ref pA3) (.int (2 : Int32)) (.int (0 : Int32))) :: (pA2, .inr (.long, (oK64 (.long kA2) (.long kA0) (.long kA4) (.long kA5) (.long kA6) (.long kA7)), true)) :: (pA3, .inr (.object "java/lang/Object", (oE64 (.ref eA2) (.ref eA0) .null .null .null .null), true)) :: (pA0, oQ (.ref pA1) (.ref pA4) (.int (1 : Int32)) (.long kA1) (.ref eA1)) :: (pA4, oHeap (.ref pA5) (.ref pA6) (.int (0 : Int32))) :: (pA5, .inr (.long, (oK64 (.long kA8) (.long kA9) (.long kA10) (.long kA11) (.long kA12) (.long kA13)), true)) :: (pA6, .inr (.object "java/lang/Object", (oE64 .null .null .null .null .null .null), true)) :: F))) := by
  refine Met.of_go pn_13 (Ls := #[.val (.ref pA0), .val (.long kA0), .second, .val (.ref eA0)]) (fun m => by first | rfl | (simp [entryFrame, mkF, argsToLocals, Value.category, maxLocals]; done)) ?_
  intro E C
  refine Go.aloadN C dc_prog_20_method_9_0 (q := 1) rfl rfl rfl ?_
  refine Go.getF C (host := "") (Or.inl (wd hw 28 rfl)) Via.refl (fun _ r => r.fld 0 0 rfl rfl) dc_prog_20_method_9_1 (q := 4) rfl ?_
  refine Go.getF C (host := "") (Or.inl (wd hw 48 rfl)) (Via.of (wd hw 49 rfl)) (fun _ r => r.fld 1 2 rfl rfl) dc_prog_20_method_9_4 (q := 7) rfl ?_
  refine Go.ifNo C dc_prog_20_method_9_7 (q := 10) rfl (XT.i0_eq_f (by decide)) ?_
  refine Go.lloadN C dc_prog_20_method_9_10 (q := 11) rfl rfl ?_
  refine Go.aloadN C dc_prog_20_method_9_11 (q := 12) rfl rfl rfl ?_
  refine Go.getF C (host := "") (Or.inl (wd hw 28 rfl)) Via.refl (fun _ r => r.fld 0 0 rfl rfl) dc_prog_20_method_9_12 (q := 15) rfl ?_
  refine Go.pick (M' := ((pA1, oRun (.ref pA2) (.ref pA3) (.int (1 : Int32)) (.int (0 : Int32))) :: (pA2, .inr (.long, (oK64 (.long kA2) (.long kA3) (.long kA4) (.long kA5) (.long kA6) (.long kA7)), true)) :: (pA3, .inr (.object "java/lang/Object", (oE64 (.ref eA2) .null .null .null .null .null), true)) :: (pA0, oQ (.ref pA1) (.ref pA4) (.int (1 : Int32)) (.long kA1) (.ref eA1)) :: (pA4, oHeap (.ref pA5) (.ref pA6) (.int (0 : Int32))) :: (pA5, .inr (.long, (oK64 (.long kA8) (.long kA9) (.long kA10) (.long kA11) (.long kA12) (.long kA13)), true)) :: (pA6, .inr (.object "java/lang/Object", (oE64 .null .null .null .null .null .null), true)) :: F)) 7 [1, 2, 3, 0, 4, 5, 6] (by decide) (by decide) rfl ?_
  refine Go.callPR C (y := yN15) (a := pA1) (as := []) (rest := [(.long kA0)]) (wd hw 110 rfl) (wd hw 111 rfl) (sel_priv (y := yN15) (wd hw 10 rfl) (wd hw 111 rfl) (wd hw 112 rfl) (by decide)) (wd hw 112 rfl) (wd hw 113 rfl) (wd hw 11 rfl) (fun _ r => r.exa 0 rfl) (u_SequenceQueue_Run_lastKey_40 l Z a0 hw _ pA1 pA2 pA3 eA2 kA2 kA3 kA4 kA5 kA6 kA7 hE_eA2) rfl dc_prog_20_method_9_15 (q := 18) rfl (by decide) rfl (na := 0) (by decide +kernel) rfl (by decide) (W := 2) rfl (by decide) (by decide) (by decide) (k' := 0) (n' := 0) rfl rfl ?_
  rintro _ _ ⟨rfl, rfl⟩
  show Go _ _ _ _ _ _ _ _ _ _ [(.long kA2), (.long kA0)]
  refine Go.lcmpif C dc_prog_20_method_9_18 rfl dc_prog_20_method_9_19 (by decide) (q := 34) rfl (q' := 22) rfl (fun (h18_1 : kA0 < kA2) => ?_) (fun (h18_1 : ¬ kA0 < kA2) => ?_)
  · refine Go.aloadN C dc_prog_20_method_9_34 (q := 35) rfl rfl rfl ?_
    refine Go.getF C (host := "") (Or.inl (wd hw 39 rfl)) Via.refl (fun _ r => r.fld 3 1 rfl rfl) dc_prog_20_method_9_35 (q := 38) rfl ?_
    refine Go.lloadN C dc_prog_20_method_9_38 (q := 39) rfl rfl ?_
    refine Go.aloadN C dc_prog_20_method_9_39 (q := 40) rfl rfl rfl ?_
    refine Go.pick (M' := ((pA4, oHeap (.ref pA5) (.ref pA6) (.int (0 : Int32))) :: (pA5, .inr (.long, (oK64 (.long kA8) (.long kA9) (.long kA10) (.long kA11) (.long kA12) (.long kA13)), true)) :: (pA6, .inr (.object "java/lang/Object", (oE64 .null .null .null .null .null .null), true)) :: (pA1, oRun (.ref pA2) (.ref pA3) (.int (1 : Int32)) (.int (0 : Int32))) :: (pA2, .inr (.long, (oK64 (.long kA2) (.long kA3) (.long kA4) (.long kA5) (.long kA6) (.long kA7)), true)) :: (pA3, .inr (.object "java/lang/Object", (oE64 (.ref eA2) .null .null .null .null .null), true)) :: (pA0, oQ (.ref pA1) (.ref pA4) (.int (1 : Int32)) (.long kA1) (.ref eA1)) :: F)) 7 [4, 5, 6, 0, 1, 2, 3] (by decide) (by decide) rfl ?_
    refine Go.callPR C (y := yN17) (a := pA4) (as := [(.long kA0), (.ref eA0)]) (rest := []) (wd hw 122 rfl) (wd hw 123 rfl) (sel_priv (y := yN17) (wd hw 31 rfl) (wd hw 123 rfl) (wd hw 124 rfl) (by decide)) (wd hw 124 rfl) (wd hw 125 rfl) (wd hw 32 rfl) (fun _ r => r.exa 0 rfl) (u_SequenceQueue_Heap_add_44 l Z a0 hw _ pA4 pA5 pA6 eA0 kA0 kA8 kA9 kA10 kA11 kA12 kA13 hE_eA0) rfl dc_prog_20_method_9_40 (q := 43) rfl (by decide) rfl (na := 2) (by decide +kernel) rfl (by decide) (W := 0) rfl (by decide) (by decide) (by decide) (k' := 0) (n' := 0) rfl rfl ?_
    rintro _ _ ⟨rfl, rfl⟩
    show Go _ _ _ _ _ _ _ _ _ _ []
    refine Go.ret0 C rfl dc_prog_20_method_9_43 (by decide) (by decide) ?_
    exact Or.inl ⟨rfl, rfl⟩
  · refine Go.aloadN C dc_prog_20_method_9_22 (q := 23) rfl rfl rfl ?_
    refine Go.getF C (host := "") (Or.inl (wd hw 28 rfl)) Via.refl (fun _ r => r.fld 3 0 rfl rfl) dc_prog_20_method_9_23 (q := 26) rfl ?_
    refine Go.lloadN C dc_prog_20_method_9_26 (q := 27) rfl rfl ?_
    refine Go.aloadN C dc_prog_20_method_9_27 (q := 28) rfl rfl rfl ?_
    refine Go.callPR C (y := yN13) (a := pA1) (as := [(.long kA0), (.ref eA0)]) (rest := []) (wd hw 92 rfl) (wd hw 93 rfl) (sel_priv (y := yN13) (wd hw 10 rfl) (wd hw 93 rfl) (wd hw 94 rfl) (by decide)) (wd hw 94 rfl) (wd hw 95 rfl) (wd hw 11 rfl) (fun _ r => r.exa 0 rfl) (u_SequenceQueue_Run_add_48 l Z a0 hw _ pA1 pA2 pA3 eA0 eA2 kA0 kA2 kA3 kA4 kA5 kA6 kA7 hE_eA0 hE_eA2) rfl dc_prog_20_method_9_28 (q := 31) rfl (by decide) rfl (na := 2) (by decide +kernel) rfl (by decide) (W := 0) rfl (by decide) (by decide) (by decide) (k' := 0) (n' := 0) rfl rfl ?_
    rintro _ _ ⟨rfl, rfl⟩
    show Go _ _ _ _ _ _ _ _ _ _ []
    refine Go.goto C dc_prog_20_method_9_31 (by decide) (q := 43) rfl ?_
    refine Go.ret0 C rfl dc_prog_20_method_9_43 (by decide) (by decide) ?_
    exact Or.inr (⟨rfl, rfl⟩)
theorem dc_prog_20_method_3_104 : decode prog_20_method_3_code 104 = .ok (.aload_n 0, 1) := by decide +kernel
theorem dc_prog_20_method_3_105 : decode prog_20_method_3_code 105 = .ok (.getfield 12, 3) := by decide +kernel
theorem dc_prog_20_method_3_108 : decode prog_20_method_3_code 108 = .ok (.getfield 41, 3) := by decide +kernel
theorem dc_prog_20_method_3_111 : decode prog_20_method_3_code 111 = .ok (.ifCond .le 42, 3) := by decide +kernel
theorem dc_prog_20_method_3_114 : decode prog_20_method_3_code 114 = .ok (.aload_n 0, 1) := by decide +kernel
theorem dc_prog_20_method_3_115 : decode prog_20_method_3_code 115 = .ok (.getfield 12, 3) := by decide +kernel
theorem dc_prog_20_method_3_118 : decode prog_20_method_3_code 118 = .ok (.getfield 45, 3) := by decide +kernel
theorem dc_prog_20_method_3_121 : decode prog_20_method_3_code 121 = .ok (.aload_n 0, 1) := by decide +kernel
theorem dc_prog_20_method_3_122 : decode prog_20_method_3_code 122 = .ok (.getfield 12, 3) := by decide +kernel
theorem dc_prog_20_method_3_125 : decode prog_20_method_3_code 125 = .ok (.getfield 49, 3) := by decide +kernel
theorem dc_prog_20_method_3_128 : decode prog_20_method_3_code 128 = .ok (.laload, 1) := by decide +kernel
theorem dc_prog_20_method_3_129 : decode prog_20_method_3_code 129 = .ok (.aload_n 0, 1) := by decide +kernel
theorem dc_prog_20_method_3_130 : decode prog_20_method_3_code 130 = .ok (.getfield 21, 3) := by decide +kernel
theorem dc_prog_20_method_3_133 : decode prog_20_method_3_code 133 = .ok (.getfield 53, 3) := by decide +kernel
theorem dc_prog_20_method_3_136 : decode prog_20_method_3_code 136 = .ok (.iconst 0, 1) := by decide +kernel
theorem dc_prog_20_method_3_137 : decode prog_20_method_3_code 137 = .ok (.laload, 1) := by decide +kernel
theorem dc_prog_20_method_3_138 : decode prog_20_method_3_code 138 = .ok (.lcmp, 1) := by decide +kernel
theorem dc_prog_20_method_3_139 : decode prog_20_method_3_code 139 = .ok (.ifCond .gt 14, 3) := by decide +kernel
theorem dc_prog_20_method_3_153 : decode prog_20_method_3_code 153 = .ok (.aload_n 0, 1) := by decide +kernel
theorem dc_prog_20_method_3_154 : decode prog_20_method_3_code 154 = .ok (.getfield 21, 3) := by decide +kernel
theorem dc_prog_20_method_3_157 : decode prog_20_method_3_code 157 = .ok (.invokevirtual 58, 3) := by decide +kernel
theorem dc_prog_21_method_3_0 : decode prog_21_method_3_code 0 = .ok (.aload_n 0, 1) := by decide +kernel
theorem dc_prog_21_method_3_1 : decode prog_21_method_3_code 1 = .ok (.getfield 20, 3) := by decide +kernel
theorem dc_prog_21_method_3_4 : decode prog_21_method_3_code 4 = .ok (.iconst 0, 1) := by decide +kernel
theorem dc_prog_21_method_3_5 : decode prog_21_method_3_code 5 = .ok (.aaload, 1) := by decide +kernel
theorem dc_prog_21_method_3_6 : decode prog_21_method_3_code 6 = .ok (.astore_n 1, 1) := by decide +kernel
theorem dc_prog_21_method_3_7 : decode prog_21_method_3_code 7 = .ok (.aload_n 0, 1) := by decide +kernel
theorem dc_prog_21_method_3_8 : decode prog_21_method_3_code 8 = .ok (.dup, 1) := by decide +kernel
theorem dc_prog_21_method_3_9 : decode prog_21_method_3_code 9 = .ok (.getfield 12, 3) := by decide +kernel
theorem dc_prog_21_method_3_12 : decode prog_21_method_3_code 12 = .ok (.iconst 1, 1) := by decide +kernel
theorem dc_prog_21_method_3_13 : decode prog_21_method_3_code 13 = .ok (.isub, 1) := by decide +kernel
theorem dc_prog_21_method_3_14 : decode prog_21_method_3_code 14 = .ok (.putfield 12, 3) := by decide +kernel
theorem dc_prog_21_method_3_17 : decode prog_21_method_3_code 17 = .ok (.aload_n 0, 1) := by decide +kernel
theorem dc_prog_21_method_3_18 : decode prog_21_method_3_code 18 = .ok (.getfield 16, 3) := by decide +kernel
theorem dc_prog_21_method_3_21 : decode prog_21_method_3_code 21 = .ok (.aload_n 0, 1) := by decide +kernel
theorem dc_prog_21_method_3_22 : decode prog_21_method_3_code 22 = .ok (.getfield 12, 3) := by decide +kernel
theorem dc_prog_21_method_3_25 : decode prog_21_method_3_code 25 = .ok (.laload, 1) := by decide +kernel
theorem dc_prog_21_method_3_26 : decode prog_21_method_3_code 26 = .ok (.lstore_n 2, 1) := by decide +kernel
theorem dc_prog_21_method_3_27 : decode prog_21_method_3_code 27 = .ok (.aload_n 0, 1) := by decide +kernel
theorem dc_prog_21_method_3_28 : decode prog_21_method_3_code 28 = .ok (.getfield 20, 3) := by decide +kernel
theorem dc_prog_21_method_3_31 : decode prog_21_method_3_code 31 = .ok (.aload_n 0, 1) := by decide +kernel
theorem dc_prog_21_method_3_32 : decode prog_21_method_3_code 32 = .ok (.getfield 12, 3) := by decide +kernel
theorem dc_prog_21_method_3_35 : decode prog_21_method_3_code 35 = .ok (.aaload, 1) := by decide +kernel
theorem dc_prog_21_method_3_36 : decode prog_21_method_3_code 36 = .ok (.astore 4, 2) := by decide +kernel
theorem dc_prog_21_method_3_38 : decode prog_21_method_3_code 38 = .ok (.aload_n 0, 1) := by decide +kernel
theorem dc_prog_21_method_3_39 : decode prog_21_method_3_code 39 = .ok (.getfield 20, 3) := by decide +kernel
theorem dc_prog_21_method_3_42 : decode prog_21_method_3_code 42 = .ok (.aload_n 0, 1) := by decide +kernel
theorem dc_prog_21_method_3_43 : decode prog_21_method_3_code 43 = .ok (.getfield 12, 3) := by decide +kernel
theorem dc_prog_21_method_3_46 : decode prog_21_method_3_code 46 = .ok (.aconst_null, 1) := by decide +kernel
theorem dc_prog_21_method_3_47 : decode prog_21_method_3_code 47 = .ok (.aastore, 1) := by decide +kernel
theorem dc_prog_21_method_3_48 : decode prog_21_method_3_code 48 = .ok (.aload_n 0, 1) := by decide +kernel
theorem dc_prog_21_method_3_49 : decode prog_21_method_3_code 49 = .ok (.getfield 12, 3) := by decide +kernel
theorem dc_prog_21_method_3_52 : decode prog_21_method_3_code 52 = .ok (.ifCond .le 130, 3) := by decide +kernel
theorem dc_prog_21_method_3_182 : decode prog_21_method_3_code 182 = .ok (.aload_n 0, 1) := by decide +kernel
theorem dc_prog_21_method_3_183 : decode prog_21_method_3_code 183 = .ok (.invokevirtual 24, 3) := by decide +kernel
theorem dc_prog_22_method_3_0 : decode prog_22_method_3_code 0 = .ok (.aload_n 0, 1) := by decide +kernel
theorem dc_prog_22_method_3_1 : decode prog_22_method_3_code 1 = .ok (.getfield 9, 3) := by decide +kernel
theorem dc_prog_22_method_3_4 : decode prog_22_method_3_code 4 = .ok (.arraylength, 1) := by decide +kernel
theorem dc_prog_22_method_3_5 : decode prog_22_method_3_code 5 = .ok (.bipush 64, 2) := by decide +kernel
theorem dc_prog_22_method_3_7 : decode prog_22_method_3_code 7 = .ok (.if_icmp .le 33, 3) := by decide +kernel
theorem dc_prog_22_method_3_40 : decode prog_22_method_3_code 40 = .ok (.return_, 1) := by decide +kernel
theorem pn_16 : plainFor yN18 = true := by first | (apply plainFor_of_name; simp [plainName, overriddenIn]; done) | decide +kernel
set_option maxRecDepth 65536 in
set_option maxHeartbeats 40000000 in
theorem u_SequenceQueue_Part_giveBackRoom_56 (l : Launch) (Z : State) (a0 : Array Value) (hw : ∀ d ∈ tables_1, d.before a0 Z = true) (F : List Ent) (pA0 pA1 pA2 : Addr) (kA0 kA1 kA2 kA3 kA4 kA5 : Int64)  :
    Met l Z yN18 prog_22_method_3_code 1 none { frames := 0, cells := 0, slots := 0, locals := 0 } #[(.ref pA0)] ((pA0, oHeap (.ref pA1) (.ref pA2) (.int (0 : Int32))) :: (pA1, .inr (.long, (oK64 (.long kA0) (.long kA1) (.long kA2) (.long kA3) (.long kA4) (.long kA5)), true)) :: (pA2, .inr (.object "java/lang/Object", (oE64 .null .null .null .null .null .null), true)) :: F) (fun r M' => (r = none ∧ M' = ((pA0, oHeap (.ref pA1) (.ref pA2) (.int (0 : Int32))) :: (pA1, .inr (.long, (oK64 (.long kA0) (.long kA1) (.long kA2) (.long kA3) (.long kA4) (.long kA5)), true)) :: (pA2, .inr (.object "java/lang/Object", (oE64 .null .null .null .null .null .null), true)) :: F))) := by
  refine Met.of_go pn_16 (Ls := #[.val (.ref pA0)]) (fun m => by first | rfl | (simp [entryFrame, mkF, argsToLocals, Value.category, maxLocals]; done)) ?_
  intro E C
  refine Go.aloadN C dc_prog_22_method_3_0 (q := 1) rfl rfl rfl ?_
  refine Go.getF C (host := "") (Or.inl (wd hw 22 rfl)) Via.refl (fun _ r => r.fld 0 0 rfl rfl) dc_prog_22_method_3_1 (q := 4) rfl ?_
  refine Go.arraylength C (fun _ r => r.arr 1 rfl) (z := (64 : Int32)) rfl dc_prog_22_method_3_4 (q := 5) rfl ?_
  refine Go.bipush C dc_prog_22_method_3_5 (q := 7) rfl (v := (64 : Int32)) (by decide) ?_
  refine Go.icmpYes C dc_prog_22_method_3_7 (by decide) (q := 40) rfl (XT.ii_le_t (by decide)) ?_
  refine Go.ret0 C rfl dc_prog_22_method_3_40 (by decide) (by decide) ?_
  exact ⟨rfl, rfl⟩
theorem dc_prog_21_method_3_186 : decode prog_21_method_3_code 186 = .ok (.aload_n 1, 1) := by decide +kernel
theorem dc_prog_21_method_3_187 : decode prog_21_method_3_code 187 = .ok (.areturn, 1) := by decide +kernel
theorem pn_17 : plainFor yN20 = true := by first | (apply plainFor_of_name; simp [plainName, overriddenIn]; done) | decide +kernel
set_option maxRecDepth 65536 in
set_option maxHeartbeats 40000000 in
theorem u_SequenceQueue_Heap_poll_55 (l : Launch) (Z : State) (a0 : Array Value) (hw : ∀ d ∈ tables_1, d.before a0 Z = true) (F : List Ent) (pA0 pA1 pA2 eA0 : Addr) (kA0 kA1 kA2 kA3 kA4 kA5 : Int64) (hE_eA0 : Exa Z Z.heap eA0 "java/lang/Integer") :
    Met l Z yN20 prog_21_method_3_code 8 (some (.object "java/lang/Object")) { frames := 1, cells := 0, slots := 0, locals := 12 } #[(.ref pA0)] ((pA0, oHeap (.ref pA1) (.ref pA2) (.int (1 : Int32))) :: (pA1, .inr (.long, (oK64 (.long kA0) (.long kA1) (.long kA2) (.long kA3) (.long kA4) (.long kA5)), true)) :: (pA2, .inr (.object "java/lang/Object", (oE64 (.ref eA0) .null .null .null .null .null), true)) :: F) (fun r M' => (r = (some (.ref eA0)) ∧ M' = ((pA0, oHeap (.ref pA1) (.ref pA2) (.int (0 : Int32))) :: (pA1, .inr (.long, (oK64 (.long kA0) (.long kA1) (.long kA2) (.long kA3) (.long kA4) (.long kA5)), true)) :: (pA2, .inr (.object "java/lang/Object", (oE64 .null .null .null .null .null .null), true)) :: F))) := by
  refine Met.of_go pn_17 (Ls := #[.val (.ref pA0), .unset, .unset, .unset, .unset, .unset, .unset, .unset]) (fun m => by first | rfl | (simp [entryFrame, mkF, argsToLocals, Value.category, maxLocals]; done)) ?_
  intro E C
  refine Go.aloadN C dc_prog_21_method_3_0 (q := 1) rfl rfl rfl ?_
  refine Go.getF C (host := "") (Or.inl (wd hw 132 rfl)) (Via.of (wd hw 133 rfl)) (fun _ r => r.fld 0 1 rfl rfl) dc_prog_21_method_3_1 (q := 4) rfl ?_
  refine Go.iconst C dc_prog_21_method_3_4 (q := 5) rfl (v := (0 : Int32)) rfl ?_
  refine Go.aaload C (fun _ r => r.arr 2 rfl) rfl (by decide) (v := (.ref eA0)) rfl dc_prog_21_method_3_5 (q := 6) rfl ?_
  refine Go.astoreN C dc_prog_21_method_3_6 (q := 7) rfl rfl (Ls' := #[.val (.ref pA0), .val (.ref eA0), .unset, .unset, .unset, .unset, .unset, .unset]) rfl ?_
  refine Go.aloadN C dc_prog_21_method_3_7 (q := 8) rfl rfl rfl ?_
  refine Go.dup C dc_prog_21_method_3_8 (q := 9) rfl rfl ?_
  refine Go.getF C (host := "") (Or.inl (wd hw 129 rfl)) (Via.of (wd hw 52 rfl)) (fun _ r => r.fld 0 2 rfl rfl) dc_prog_21_method_3_9 (q := 12) rfl ?_
  refine Go.iconst C dc_prog_21_method_3_12 (q := 13) rfl (v := (1 : Int32)) rfl ?_
  refine Go.isub C dc_prog_21_method_3_13 (q := 14) rfl ?_
  refine Go.castI (w := (0 : Int32)) (by decide) ?_
  refine Go.putF C (host := "") (i := 0) (j := 2) (Or.inl (wd hw 129 rfl)) (Via.of (wd hw 52 rfl)) rfl rfl (Or.inl (wd hw 53 rfl)) (wd hw 31 rfl) (ty := .int) (by decide) rfl rfl dc_prog_21_method_3_14 (q := 17) rfl (M' := ((pA0, oHeap (.ref pA1) (.ref pA2) (.int (0 : Int32))) :: (pA1, .inr (.long, (oK64 (.long kA0) (.long kA1) (.long kA2) (.long kA3) (.long kA4) (.long kA5)), true)) :: (pA2, .inr (.object "java/lang/Object", (oE64 (.ref eA0) .null .null .null .null .null), true)) :: F)) rfl ?_
  refine Go.aloadN C dc_prog_21_method_3_17 (q := 18) rfl rfl rfl ?_
  refine Go.getF C (host := "") (Or.inl (wd hw 130 rfl)) (Via.of (wd hw 131 rfl)) (fun _ r => r.fld 0 0 rfl rfl) dc_prog_21_method_3_18 (q := 21) rfl ?_
  refine Go.aloadN C dc_prog_21_method_3_21 (q := 22) rfl rfl rfl ?_
  refine Go.getF C (host := "") (Or.inl (wd hw 129 rfl)) (Via.of (wd hw 52 rfl)) (fun _ r => r.fld 0 2 rfl rfl) dc_prog_21_method_3_22 (q := 25) rfl ?_
  refine Go.laload C (fun _ r => r.arr 1 rfl) (by decide) (v := (.long kA0)) rfl dc_prog_21_method_3_25 (q := 26) rfl ?_
  refine Go.lstoreN C dc_prog_21_method_3_26 (q := 27) rfl (Ls' := #[.val (.ref pA0), .val (.ref eA0), .val (.long kA0), .second, .unset, .unset, .unset, .unset]) rfl ?_
  refine Go.aloadN C dc_prog_21_method_3_27 (q := 28) rfl rfl rfl ?_
  refine Go.getF C (host := "") (Or.inl (wd hw 132 rfl)) (Via.of (wd hw 133 rfl)) (fun _ r => r.fld 0 1 rfl rfl) dc_prog_21_method_3_28 (q := 31) rfl ?_
  refine Go.aloadN C dc_prog_21_method_3_31 (q := 32) rfl rfl rfl ?_
  refine Go.getF C (host := "") (Or.inl (wd hw 129 rfl)) (Via.of (wd hw 52 rfl)) (fun _ r => r.fld 0 2 rfl rfl) dc_prog_21_method_3_32 (q := 35) rfl ?_
  refine Go.aaload C (fun _ r => r.arr 2 rfl) rfl (by decide) (v := (.ref eA0)) rfl dc_prog_21_method_3_35 (q := 36) rfl ?_
  refine Go.astore C dc_prog_21_method_3_36 (q := 38) rfl rfl (Ls' := #[.val (.ref pA0), .val (.ref eA0), .val (.long kA0), .second, .val (.ref eA0), .unset, .unset, .unset]) rfl ?_
  refine Go.aloadN C dc_prog_21_method_3_38 (q := 39) rfl rfl rfl ?_
  refine Go.getF C (host := "") (Or.inl (wd hw 132 rfl)) (Via.of (wd hw 133 rfl)) (fun _ r => r.fld 0 1 rfl rfl) dc_prog_21_method_3_39 (q := 42) rfl ?_
  refine Go.aloadN C dc_prog_21_method_3_42 (q := 43) rfl rfl rfl ?_
  refine Go.getF C (host := "") (Or.inl (wd hw 129 rfl)) (Via.of (wd hw 52 rfl)) (fun _ r => r.fld 0 2 rfl rfl) dc_prog_21_method_3_43 (q := 46) rfl ?_
  refine Go.aconstNull C dc_prog_21_method_3_46 (q := 47) rfl ?_
  refine Go.aastore C (i := 2) rfl (by decide) (show (0 : Int32).toNatClampNeg < 64 from by decide) (fun _ _ => Or.inl rfl) dc_prog_21_method_3_47 (q := 48) rfl (M' := ((pA0, oHeap (.ref pA1) (.ref pA2) (.int (0 : Int32))) :: (pA1, .inr (.long, (oK64 (.long kA0) (.long kA1) (.long kA2) (.long kA3) (.long kA4) (.long kA5)), true)) :: (pA2, .inr (.object "java/lang/Object", (oE64 .null .null .null .null .null .null), true)) :: F)) rfl ?_
  refine Go.aloadN C dc_prog_21_method_3_48 (q := 49) rfl rfl rfl ?_
  refine Go.getF C (host := "") (Or.inl (wd hw 129 rfl)) (Via.of (wd hw 52 rfl)) (fun _ r => r.fld 0 2 rfl rfl) dc_prog_21_method_3_49 (q := 52) rfl ?_
  refine Go.ifYes C dc_prog_21_method_3_52 (by decide) (q := 182) rfl (XT.i0_le_t (by decide)) ?_
  refine Go.aloadN C dc_prog_21_method_3_182 (q := 183) rfl rfl rfl ?_
  refine Go.callU C (y := yN19) (z := yN18) (owner := "com/example/ordered_dispatch/ordereddispatch/SequenceQueue$Part") (a := pA0) (as := []) (rest := []) (wd hw 139 rfl) (wd hw 140 rfl) (wd hw 118 rfl) (wd hw 141 rfl) (wd hw 119 rfl) (wd hw 121 rfl) (wd hw 18 rfl) (fun _ r => r.exa 0 rfl) (u_SequenceQueue_Part_giveBackRoom_56 l Z a0 hw _ pA0 pA1 pA2 kA0 kA1 kA2 kA3 kA4 kA5) rfl dc_prog_21_method_3_183 (q := 186) rfl (by decide) rfl (na := 0) (by decide +kernel) rfl (by decide) (W := 0) rfl (by decide) (by decide) (by decide) (k' := 0) (n' := 0) rfl rfl ?_
  rintro _ _ ⟨rfl, rfl⟩
  show Go _ _ _ _ _ _ _ _ _ _ []
  refine Go.aloadN C dc_prog_21_method_3_186 (q := 187) rfl rfl rfl ?_
  refine Go.retA C rfl rfl rfl dc_prog_21_method_3_187 (by decide) (by decide) ?_
  exact ⟨rfl, rfl⟩
theorem dc_prog_20_method_3_160 : decode prog_20_method_3_code 160 = .ok (.astore_n 1, 1) := by decide +kernel
theorem dc_prog_23_method_4_17 : decode prog_23_method_4_code 17 = .ok (.aload_n 0, 1) := by decide +kernel
theorem dc_prog_23_method_4_18 : decode prog_23_method_4_code 18 = .ok (.getfield 24, 3) := by decide +kernel
theorem dc_prog_23_method_4_21 : decode prog_23_method_4_code 21 = .ok (.aload_n 0, 1) := by decide +kernel
theorem dc_prog_23_method_4_22 : decode prog_23_method_4_code 22 = .ok (.getfield 28, 3) := by decide +kernel
theorem dc_prog_23_method_4_25 : decode prog_23_method_4_code 25 = .ok (.aconst_null, 1) := by decide +kernel
theorem dc_prog_23_method_4_26 : decode prog_23_method_4_code 26 = .ok (.aastore, 1) := by decide +kernel
theorem dc_prog_23_method_4_27 : decode prog_23_method_4_code 27 = .ok (.aload_n 0, 1) := by decide +kernel
theorem dc_prog_23_method_4_28 : decode prog_23_method_4_code 28 = .ok (.aload_n 0, 1) := by decide +kernel
theorem dc_prog_23_method_4_29 : decode prog_23_method_4_code 29 = .ok (.iconst 1, 1) := by decide +kernel
theorem dc_prog_23_method_4_30 : decode prog_23_method_4_code 30 = .ok (.invokevirtual 17, 3) := by decide +kernel
set_option maxRecDepth 65536 in
set_option maxHeartbeats 40000000 in
theorem u_SequenceQueue_Run_slot_60 (l : Launch) (Z : State) (a0 : Array Value) (hw : ∀ d ∈ tables_1, d.before a0 Z = true) (F : List Ent) (pA0 pA1 pA2 : Addr) (kA0 kA1 kA2 kA3 kA4 kA5 : Int64)  :
    Met l Z yN12 prog_23_method_6_code 3 (some .int) { frames := 0, cells := 0, slots := 0, locals := 0 } #[(.ref pA0), (.int (1 : Int32))] ((pA0, oRun (.ref pA1) (.ref pA2) (.int (1 : Int32)) (.int (0 : Int32))) :: (pA1, .inr (.long, (oK64 (.long kA0) (.long kA1) (.long kA2) (.long kA3) (.long kA4) (.long kA5)), true)) :: (pA2, .inr (.object "java/lang/Object", (oE64 .null .null .null .null .null .null), true)) :: F) (fun r M' => (r = (some (.int (1 : Int32))) ∧ M' = ((pA0, oRun (.ref pA1) (.ref pA2) (.int (1 : Int32)) (.int (0 : Int32))) :: (pA1, .inr (.long, (oK64 (.long kA0) (.long kA1) (.long kA2) (.long kA3) (.long kA4) (.long kA5)), true)) :: (pA2, .inr (.object "java/lang/Object", (oE64 .null .null .null .null .null .null), true)) :: F))) := by
  refine Met.of_go pn_11 (Ls := #[.val (.ref pA0), .val (.int (1 : Int32)), .unset]) (fun m => by first | rfl | (simp [entryFrame, mkF, argsToLocals, Value.category, maxLocals]; done)) ?_
  intro E C
  refine Go.aloadN C dc_prog_23_method_6_0 (q := 1) rfl rfl rfl ?_
  refine Go.getF C (host := "") (Or.inl (wd hw 65 rfl)) Via.refl (fun _ r => r.fld 0 3 rfl rfl) dc_prog_23_method_6_1 (q := 4) rfl ?_
  refine Go.iloadN C dc_prog_23_method_6_4 (q := 5) rfl rfl ?_
  refine Go.iadd C dc_prog_23_method_6_5 (q := 6) rfl ?_
  refine Go.castI (w := (1 : Int32)) (by decide) ?_
  refine Go.istoreN C dc_prog_23_method_6_6 (q := 7) rfl (Ls' := #[.val (.ref pA0), .val (.int (1 : Int32)), .val (.int (1 : Int32))]) rfl ?_
  refine Go.iloadN C dc_prog_23_method_6_7 (q := 8) rfl rfl ?_
  refine Go.aloadN C dc_prog_23_method_6_8 (q := 9) rfl rfl rfl ?_
  refine Go.getF C (host := "") (Or.inl (wd hw 107 rfl)) (Via.of (wd hw 108 rfl)) (fun _ r => r.fld 0 0 rfl rfl) dc_prog_23_method_6_9 (q := 12) rfl ?_
  refine Go.arraylength C (fun _ r => r.arr 1 rfl) (z := (64 : Int32)) rfl dc_prog_23_method_6_12 (q := 13) rfl ?_
  refine Go.icmpYes C dc_prog_23_method_6_13 (by decide) (q := 24) rfl (XT.ii_lt_t (by decide)) ?_
  refine Go.iloadN C dc_prog_23_method_6_24 (q := 25) rfl rfl ?_
  refine Go.retI C rfl dc_prog_23_method_6_25 (by decide) (by decide) ?_
  exact ⟨rfl, rfl⟩
theorem dc_prog_23_method_4_33 : decode prog_23_method_4_code 33 = .ok (.putfield 28, 3) := by decide +kernel
theorem dc_prog_23_method_4_36 : decode prog_23_method_4_code 36 = .ok (.aload_n 0, 1) := by decide +kernel
theorem dc_prog_23_method_4_37 : decode prog_23_method_4_code 37 = .ok (.dup, 1) := by decide +kernel
theorem dc_prog_23_method_4_38 : decode prog_23_method_4_code 38 = .ok (.getfield 13, 3) := by decide +kernel
theorem dc_prog_23_method_4_41 : decode prog_23_method_4_code 41 = .ok (.iconst 1, 1) := by decide +kernel
theorem dc_prog_23_method_4_42 : decode prog_23_method_4_code 42 = .ok (.isub, 1) := by decide +kernel
theorem dc_prog_23_method_4_43 : decode prog_23_method_4_code 43 = .ok (.putfield 13, 3) := by decide +kernel
theorem dc_prog_23_method_4_46 : decode prog_23_method_4_code 46 = .ok (.aload_n 0, 1) := by decide +kernel
theorem dc_prog_23_method_4_47 : decode prog_23_method_4_code 47 = .ok (.invokevirtual 31, 3) := by decide +kernel
set_option maxRecDepth 65536 in
set_option maxHeartbeats 40000000 in
theorem u_SequenceQueue_Part_giveBackRoom_62 (l : Launch) (Z : State) (a0 : Array Value) (hw : ∀ d ∈ tables_1, d.before a0 Z = true) (F : List Ent) (pA0 pA1 pA2 : Addr) (kA0 kA1 kA2 kA3 kA4 kA5 : Int64)  :
    Met l Z yN18 prog_22_method_3_code 1 none { frames := 0, cells := 0, slots := 0, locals := 0 } #[(.ref pA0)] ((pA0, oRun (.ref pA1) (.ref pA2) (.int (0 : Int32)) (.int (1 : Int32))) :: (pA1, .inr (.long, (oK64 (.long kA0) (.long kA1) (.long kA2) (.long kA3) (.long kA4) (.long kA5)), true)) :: (pA2, .inr (.object "java/lang/Object", (oE64 .null .null .null .null .null .null), true)) :: F) (fun r M' => (r = none ∧ M' = ((pA0, oRun (.ref pA1) (.ref pA2) (.int (0 : Int32)) (.int (1 : Int32))) :: (pA1, .inr (.long, (oK64 (.long kA0) (.long kA1) (.long kA2) (.long kA3) (.long kA4) (.long kA5)), true)) :: (pA2, .inr (.object "java/lang/Object", (oE64 .null .null .null .null .null .null), true)) :: F))) := by
  refine Met.of_go pn_16 (Ls := #[.val (.ref pA0)]) (fun m => by first | rfl | (simp [entryFrame, mkF, argsToLocals, Value.category, maxLocals]; done)) ?_
  intro E C
  refine Go.aloadN C dc_prog_22_method_3_0 (q := 1) rfl rfl rfl ?_
  refine Go.getF C (host := "") (Or.inl (wd hw 22 rfl)) Via.refl (fun _ r => r.fld 0 0 rfl rfl) dc_prog_22_method_3_1 (q := 4) rfl ?_
  refine Go.arraylength C (fun _ r => r.arr 1 rfl) (z := (64 : Int32)) rfl dc_prog_22_method_3_4 (q := 5) rfl ?_
  refine Go.bipush C dc_prog_22_method_3_5 (q := 7) rfl (v := (64 : Int32)) (by decide) ?_
  refine Go.icmpYes C dc_prog_22_method_3_7 (by decide) (q := 40) rfl (XT.ii_le_t (by decide)) ?_
  refine Go.ret0 C rfl dc_prog_22_method_3_40 (by decide) (by decide) ?_
  exact ⟨rfl, rfl⟩
set_option maxRecDepth 65536 in
set_option maxHeartbeats 40000000 in
theorem u_SequenceQueue_Run_poll_59 (l : Launch) (Z : State) (a0 : Array Value) (hw : ∀ d ∈ tables_1, d.before a0 Z = true) (F : List Ent) (pA0 pA1 pA2 eA0 : Addr) (kA0 kA1 kA2 kA3 kA4 kA5 : Int64) (hE_eA0 : Exa Z Z.heap eA0 "java/lang/Integer") :
    Met l Z yN5 prog_23_method_4_code 2 (some (.object "java/lang/Object")) { frames := 1, cells := 0, slots := 0, locals := 15 } #[(.ref pA0)] ((pA0, oRun (.ref pA1) (.ref pA2) (.int (1 : Int32)) (.int (0 : Int32))) :: (pA1, .inr (.long, (oK64 (.long kA0) (.long kA1) (.long kA2) (.long kA3) (.long kA4) (.long kA5)), true)) :: (pA2, .inr (.object "java/lang/Object", (oE64 (.ref eA0) .null .null .null .null .null), true)) :: F) (fun r M' => (r = (some (.ref eA0)) ∧ M' = ((pA0, oRun (.ref pA1) (.ref pA2) (.int (0 : Int32)) (.int (1 : Int32))) :: (pA1, .inr (.long, (oK64 (.long kA0) (.long kA1) (.long kA2) (.long kA3) (.long kA4) (.long kA5)), true)) :: (pA2, .inr (.object "java/lang/Object", (oE64 .null .null .null .null .null .null), true)) :: F))) := by
  refine Met.of_go pn_5 (Ls := #[.val (.ref pA0), .unset]) (fun m => by first | rfl | (simp [entryFrame, mkF, argsToLocals, Value.category, maxLocals]; done)) ?_
  intro E C
  refine Go.aloadN C dc_prog_23_method_4_0 (q := 1) rfl rfl rfl ?_
  refine Go.getF C (host := "") (Or.inl (wd hw 63 rfl)) (Via.of (wd hw 64 rfl)) (fun _ r => r.fld 0 1 rfl rfl) dc_prog_23_method_4_1 (q := 4) rfl ?_
  refine Go.aloadN C dc_prog_23_method_4_4 (q := 5) rfl rfl rfl ?_
  refine Go.getF C (host := "") (Or.inl (wd hw 65 rfl)) Via.refl (fun _ r => r.fld 0 3 rfl rfl) dc_prog_23_method_4_5 (q := 8) rfl ?_
  refine Go.aaload C (fun _ r => r.arr 2 rfl) rfl (by decide) (v := (.ref eA0)) rfl dc_prog_23_method_4_8 (q := 9) rfl ?_
  refine Go.astoreN C dc_prog_23_method_4_9 (q := 10) rfl rfl (Ls' := #[.val (.ref pA0), .val (.ref eA0)]) rfl ?_
  refine Go.aloadN C dc_prog_23_method_4_10 (q := 11) rfl rfl rfl ?_
  refine Go.getF C (host := "") (Or.inl (wd hw 67 rfl)) (Via.of (wd hw 49 rfl)) (fun _ r => r.fld 0 2 rfl rfl) dc_prog_23_method_4_11 (q := 14) rfl ?_
  refine Go.ifNo C dc_prog_23_method_4_14 (q := 17) rfl (XT.i0_le_f (by decide)) ?_
  refine Go.aloadN C dc_prog_23_method_4_17 (q := 18) rfl rfl rfl ?_
  refine Go.getF C (host := "") (Or.inl (wd hw 63 rfl)) (Via.of (wd hw 64 rfl)) (fun _ r => r.fld 0 1 rfl rfl) dc_prog_23_method_4_18 (q := 21) rfl ?_
  refine Go.aloadN C dc_prog_23_method_4_21 (q := 22) rfl rfl rfl ?_
  refine Go.getF C (host := "") (Or.inl (wd hw 65 rfl)) Via.refl (fun _ r => r.fld 0 3 rfl rfl) dc_prog_23_method_4_22 (q := 25) rfl ?_
  refine Go.aconstNull C dc_prog_23_method_4_25 (q := 26) rfl ?_
  refine Go.aastore C (i := 2) rfl (by decide) (show (0 : Int32).toNatClampNeg < 64 from by decide) (fun _ _ => Or.inl rfl) dc_prog_23_method_4_26 (q := 27) rfl (M' := ((pA0, oRun (.ref pA1) (.ref pA2) (.int (1 : Int32)) (.int (0 : Int32))) :: (pA1, .inr (.long, (oK64 (.long kA0) (.long kA1) (.long kA2) (.long kA3) (.long kA4) (.long kA5)), true)) :: (pA2, .inr (.object "java/lang/Object", (oE64 .null .null .null .null .null .null), true)) :: F)) rfl ?_
  refine Go.aloadN C dc_prog_23_method_4_27 (q := 28) rfl rfl rfl ?_
  refine Go.aloadN C dc_prog_23_method_4_28 (q := 29) rfl rfl rfl ?_
  refine Go.iconst C dc_prog_23_method_4_29 (q := 30) rfl (v := (1 : Int32)) rfl ?_
  refine Go.callP C (y := yN12) (a := pA0) (as := [(.int (1 : Int32))]) (rest := [(.ref pA0)]) (wd hw 103 rfl) (wd hw 104 rfl) (sel_priv (y := yN12) (wd hw 10 rfl) (wd hw 104 rfl) (wd hw 105 rfl) (by decide)) (wd hw 105 rfl) (wd hw 106 rfl) (wd hw 11 rfl) (fun _ r => r.exa 0 rfl) (u_SequenceQueue_Run_slot_60 l Z a0 hw _ pA0 pA1 pA2 kA0 kA1 kA2 kA3 kA4 kA5) rfl dc_prog_23_method_4_30 (q := 33) rfl (by decide) rfl (na := 1) (by decide +kernel) rfl (by decide) (W := 1) rfl (by decide) (by decide) (by decide) (k' := 0) (n' := 0) rfl rfl ?_
  rintro _ _ ⟨rfl, rfl⟩
  show Go _ _ _ _ _ _ _ _ _ _ [(.int (1 : Int32)), (.ref pA0)]
  refine Go.putF C (host := "") (i := 0) (j := 3) (Or.inl (wd hw 65 rfl)) Via.refl rfl rfl (Or.inl (wd hw 66 rfl)) (wd hw 10 rfl) (ty := .int) (by decide) rfl rfl dc_prog_23_method_4_33 (q := 36) rfl (M' := ((pA0, oRun (.ref pA1) (.ref pA2) (.int (1 : Int32)) (.int (1 : Int32))) :: (pA1, .inr (.long, (oK64 (.long kA0) (.long kA1) (.long kA2) (.long kA3) (.long kA4) (.long kA5)), true)) :: (pA2, .inr (.object "java/lang/Object", (oE64 .null .null .null .null .null .null), true)) :: F)) rfl ?_
  refine Go.aloadN C dc_prog_23_method_4_36 (q := 37) rfl rfl rfl ?_
  refine Go.dup C dc_prog_23_method_4_37 (q := 38) rfl rfl ?_
  refine Go.getF C (host := "") (Or.inl (wd hw 67 rfl)) (Via.of (wd hw 49 rfl)) (fun _ r => r.fld 0 2 rfl rfl) dc_prog_23_method_4_38 (q := 41) rfl ?_
  refine Go.iconst C dc_prog_23_method_4_41 (q := 42) rfl (v := (1 : Int32)) rfl ?_
  refine Go.isub C dc_prog_23_method_4_42 (q := 43) rfl ?_
  refine Go.castI (w := (0 : Int32)) (by decide) ?_
  refine Go.putF C (host := "") (i := 0) (j := 2) (Or.inl (wd hw 67 rfl)) (Via.of (wd hw 49 rfl)) rfl rfl (Or.inl (wd hw 50 rfl)) (wd hw 10 rfl) (ty := .int) (by decide) rfl rfl dc_prog_23_method_4_43 (q := 46) rfl (M' := ((pA0, oRun (.ref pA1) (.ref pA2) (.int (0 : Int32)) (.int (1 : Int32))) :: (pA1, .inr (.long, (oK64 (.long kA0) (.long kA1) (.long kA2) (.long kA3) (.long kA4) (.long kA5)), true)) :: (pA2, .inr (.object "java/lang/Object", (oE64 .null .null .null .null .null .null), true)) :: F)) rfl ?_
  refine Go.aloadN C dc_prog_23_method_4_46 (q := 47) rfl rfl rfl ?_
  refine Go.callU C (y := yN21) (z := yN18) (owner := "com/example/ordered_dispatch/ordereddispatch/SequenceQueue$Part") (a := pA0) (as := []) (rest := []) (wd hw 116 rfl) (wd hw 117 rfl) (wd hw 118 rfl) (wd hw 120 rfl) (wd hw 119 rfl) (wd hw 121 rfl) (wd hw 18 rfl) (fun _ r => r.exa 0 rfl) (u_SequenceQueue_Part_giveBackRoom_62 l Z a0 hw _ pA0 pA1 pA2 kA0 kA1 kA2 kA3 kA4 kA5) rfl dc_prog_23_method_4_47 (q := 50) rfl (by decide) rfl (na := 0) (by decide +kernel) rfl (by decide) (W := 0) rfl (by decide) (by decide) (by decide) (k' := 0) (n' := 0) rfl rfl ?_
  rintro _ _ ⟨rfl, rfl⟩
  show Go _ _ _ _ _ _ _ _ _ _ []
  refine Go.aloadN C dc_prog_23_method_4_50 (q := 51) rfl rfl rfl ?_
  refine Go.retA C rfl rfl rfl dc_prog_23_method_4_51 (by decide) (by decide) ?_
  exact ⟨rfl, rfl⟩
set_option maxRecDepth 65536 in
set_option maxHeartbeats 40000000 in
theorem u_SequenceQueue_Run_slot_66 (l : Launch) (Z : State) (a0 : Array Value) (hw : ∀ d ∈ tables_1, d.before a0 Z = true) (F : List Ent) (pA0 pA1 pA2 eA0 : Addr) (kA0 kA1 kA2 kA3 kA4 kA5 : Int64) (hE_eA0 : Exa Z Z.heap eA0 "java/lang/Integer") :
    Met l Z yN12 prog_23_method_6_code 3 (some .int) { frames := 0, cells := 0, slots := 0, locals := 0 } #[(.ref pA0), (.int (1 : Int32))] ((pA0, oRun (.ref pA1) (.ref pA2) (.int (2 : Int32)) (.int (0 : Int32))) :: (pA1, .inr (.long, (oK64 (.long kA0) (.long kA1) (.long kA2) (.long kA3) (.long kA4) (.long kA5)), true)) :: (pA2, .inr (.object "java/lang/Object", (oE64 .null (.ref eA0) .null .null .null .null), true)) :: F) (fun r M' => (r = (some (.int (1 : Int32))) ∧ M' = ((pA0, oRun (.ref pA1) (.ref pA2) (.int (2 : Int32)) (.int (0 : Int32))) :: (pA1, .inr (.long, (oK64 (.long kA0) (.long kA1) (.long kA2) (.long kA3) (.long kA4) (.long kA5)), true)) :: (pA2, .inr (.object "java/lang/Object", (oE64 .null (.ref eA0) .null .null .null .null), true)) :: F))) := by
  refine Met.of_go pn_11 (Ls := #[.val (.ref pA0), .val (.int (1 : Int32)), .unset]) (fun m => by first | rfl | (simp [entryFrame, mkF, argsToLocals, Value.category, maxLocals]; done)) ?_
  intro E C
  refine Go.aloadN C dc_prog_23_method_6_0 (q := 1) rfl rfl rfl ?_
  refine Go.getF C (host := "") (Or.inl (wd hw 65 rfl)) Via.refl (fun _ r => r.fld 0 3 rfl rfl) dc_prog_23_method_6_1 (q := 4) rfl ?_
  refine Go.iloadN C dc_prog_23_method_6_4 (q := 5) rfl rfl ?_
  refine Go.iadd C dc_prog_23_method_6_5 (q := 6) rfl ?_
  refine Go.castI (w := (1 : Int32)) (by decide) ?_
  refine Go.istoreN C dc_prog_23_method_6_6 (q := 7) rfl (Ls' := #[.val (.ref pA0), .val (.int (1 : Int32)), .val (.int (1 : Int32))]) rfl ?_
  refine Go.iloadN C dc_prog_23_method_6_7 (q := 8) rfl rfl ?_
  refine Go.aloadN C dc_prog_23_method_6_8 (q := 9) rfl rfl rfl ?_
  refine Go.getF C (host := "") (Or.inl (wd hw 107 rfl)) (Via.of (wd hw 108 rfl)) (fun _ r => r.fld 0 0 rfl rfl) dc_prog_23_method_6_9 (q := 12) rfl ?_
  refine Go.arraylength C (fun _ r => r.arr 1 rfl) (z := (64 : Int32)) rfl dc_prog_23_method_6_12 (q := 13) rfl ?_
  refine Go.icmpYes C dc_prog_23_method_6_13 (by decide) (q := 24) rfl (XT.ii_lt_t (by decide)) ?_
  refine Go.iloadN C dc_prog_23_method_6_24 (q := 25) rfl rfl ?_
  refine Go.retI C rfl dc_prog_23_method_6_25 (by decide) (by decide) ?_
  exact ⟨rfl, rfl⟩
set_option maxRecDepth 65536 in
set_option maxHeartbeats 40000000 in
theorem u_SequenceQueue_Part_giveBackRoom_68 (l : Launch) (Z : State) (a0 : Array Value) (hw : ∀ d ∈ tables_1, d.before a0 Z = true) (F : List Ent) (pA0 pA1 pA2 eA0 : Addr) (kA0 kA1 kA2 kA3 kA4 kA5 : Int64) (hE_eA0 : Exa Z Z.heap eA0 "java/lang/Integer") :
    Met l Z yN18 prog_22_method_3_code 1 none { frames := 0, cells := 0, slots := 0, locals := 0 } #[(.ref pA0)] ((pA0, oRun (.ref pA1) (.ref pA2) (.int (1 : Int32)) (.int (1 : Int32))) :: (pA1, .inr (.long, (oK64 (.long kA0) (.long kA1) (.long kA2) (.long kA3) (.long kA4) (.long kA5)), true)) :: (pA2, .inr (.object "java/lang/Object", (oE64 .null (.ref eA0) .null .null .null .null), true)) :: F) (fun r M' => (r = none ∧ M' = ((pA0, oRun (.ref pA1) (.ref pA2) (.int (1 : Int32)) (.int (1 : Int32))) :: (pA1, .inr (.long, (oK64 (.long kA0) (.long kA1) (.long kA2) (.long kA3) (.long kA4) (.long kA5)), true)) :: (pA2, .inr (.object "java/lang/Object", (oE64 .null (.ref eA0) .null .null .null .null), true)) :: F))) := by
  refine Met.of_go pn_16 (Ls := #[.val (.ref pA0)]) (fun m => by first | rfl | (simp [entryFrame, mkF, argsToLocals, Value.category, maxLocals]; done)) ?_
  intro E C
  refine Go.aloadN C dc_prog_22_method_3_0 (q := 1) rfl rfl rfl ?_
  refine Go.getF C (host := "") (Or.inl (wd hw 22 rfl)) Via.refl (fun _ r => r.fld 0 0 rfl rfl) dc_prog_22_method_3_1 (q := 4) rfl ?_
  refine Go.arraylength C (fun _ r => r.arr 1 rfl) (z := (64 : Int32)) rfl dc_prog_22_method_3_4 (q := 5) rfl ?_
  refine Go.bipush C dc_prog_22_method_3_5 (q := 7) rfl (v := (64 : Int32)) (by decide) ?_
  refine Go.icmpYes C dc_prog_22_method_3_7 (by decide) (q := 40) rfl (XT.ii_le_t (by decide)) ?_
  refine Go.ret0 C rfl dc_prog_22_method_3_40 (by decide) (by decide) ?_
  exact ⟨rfl, rfl⟩
set_option maxRecDepth 65536 in
set_option maxHeartbeats 40000000 in
theorem u_SequenceQueue_Run_poll_65 (l : Launch) (Z : State) (a0 : Array Value) (hw : ∀ d ∈ tables_1, d.before a0 Z = true) (F : List Ent) (pA0 pA1 pA2 eA0 eA1 : Addr) (kA0 kA1 kA2 kA3 kA4 kA5 : Int64) (hE_eA0 : Exa Z Z.heap eA0 "java/lang/Integer") (hE_eA1 : Exa Z Z.heap eA1 "java/lang/Integer") :
    Met l Z yN5 prog_23_method_4_code 2 (some (.object "java/lang/Object")) { frames := 1, cells := 0, slots := 0, locals := 15 } #[(.ref pA0)] ((pA0, oRun (.ref pA1) (.ref pA2) (.int (2 : Int32)) (.int (0 : Int32))) :: (pA1, .inr (.long, (oK64 (.long kA0) (.long kA1) (.long kA2) (.long kA3) (.long kA4) (.long kA5)), true)) :: (pA2, .inr (.object "java/lang/Object", (oE64 (.ref eA0) (.ref eA1) .null .null .null .null), true)) :: F) (fun r M' => (r = (some (.ref eA0)) ∧ M' = ((pA0, oRun (.ref pA1) (.ref pA2) (.int (1 : Int32)) (.int (1 : Int32))) :: (pA1, .inr (.long, (oK64 (.long kA0) (.long kA1) (.long kA2) (.long kA3) (.long kA4) (.long kA5)), true)) :: (pA2, .inr (.object "java/lang/Object", (oE64 .null (.ref eA1) .null .null .null .null), true)) :: F))) := by
  refine Met.of_go pn_5 (Ls := #[.val (.ref pA0), .unset]) (fun m => by first | rfl | (simp [entryFrame, mkF, argsToLocals, Value.category, maxLocals]; done)) ?_
  intro E C
  refine Go.aloadN C dc_prog_23_method_4_0 (q := 1) rfl rfl rfl ?_
  refine Go.getF C (host := "") (Or.inl (wd hw 63 rfl)) (Via.of (wd hw 64 rfl)) (fun _ r => r.fld 0 1 rfl rfl) dc_prog_23_method_4_1 (q := 4) rfl ?_
  refine Go.aloadN C dc_prog_23_method_4_4 (q := 5) rfl rfl rfl ?_
  refine Go.getF C (host := "") (Or.inl (wd hw 65 rfl)) Via.refl (fun _ r => r.fld 0 3 rfl rfl) dc_prog_23_method_4_5 (q := 8) rfl ?_
  refine Go.aaload C (fun _ r => r.arr 2 rfl) rfl (by decide) (v := (.ref eA0)) rfl dc_prog_23_method_4_8 (q := 9) rfl ?_
  refine Go.astoreN C dc_prog_23_method_4_9 (q := 10) rfl rfl (Ls' := #[.val (.ref pA0), .val (.ref eA0)]) rfl ?_
  refine Go.aloadN C dc_prog_23_method_4_10 (q := 11) rfl rfl rfl ?_
  refine Go.getF C (host := "") (Or.inl (wd hw 67 rfl)) (Via.of (wd hw 49 rfl)) (fun _ r => r.fld 0 2 rfl rfl) dc_prog_23_method_4_11 (q := 14) rfl ?_
  refine Go.ifNo C dc_prog_23_method_4_14 (q := 17) rfl (XT.i0_le_f (by decide)) ?_
  refine Go.aloadN C dc_prog_23_method_4_17 (q := 18) rfl rfl rfl ?_
  refine Go.getF C (host := "") (Or.inl (wd hw 63 rfl)) (Via.of (wd hw 64 rfl)) (fun _ r => r.fld 0 1 rfl rfl) dc_prog_23_method_4_18 (q := 21) rfl ?_
  refine Go.aloadN C dc_prog_23_method_4_21 (q := 22) rfl rfl rfl ?_
  refine Go.getF C (host := "") (Or.inl (wd hw 65 rfl)) Via.refl (fun _ r => r.fld 0 3 rfl rfl) dc_prog_23_method_4_22 (q := 25) rfl ?_
  refine Go.aconstNull C dc_prog_23_method_4_25 (q := 26) rfl ?_
  refine Go.aastore C (i := 2) rfl (by decide) (show (0 : Int32).toNatClampNeg < 64 from by decide) (fun _ _ => Or.inl rfl) dc_prog_23_method_4_26 (q := 27) rfl (M' := ((pA0, oRun (.ref pA1) (.ref pA2) (.int (2 : Int32)) (.int (0 : Int32))) :: (pA1, .inr (.long, (oK64 (.long kA0) (.long kA1) (.long kA2) (.long kA3) (.long kA4) (.long kA5)), true)) :: (pA2, .inr (.object "java/lang/Object", (oE64 .null (.ref eA1) .null .null .null .null), true)) :: F)) rfl ?_
  refine Go.aloadN C dc_prog_23_method_4_27 (q := 28) rfl rfl rfl ?_
  refine Go.aloadN C dc_prog_23_method_4_28 (q := 29) rfl rfl rfl ?_
  refine Go.iconst C dc_prog_23_method_4_29 (q := 30) rfl (v := (1 : Int32)) rfl ?_
  refine Go.callP C (y := yN12) (a := pA0) (as := [(.int (1 : Int32))]) (rest := [(.ref pA0)]) (wd hw 103 rfl) (wd hw 104 rfl) (sel_priv (y := yN12) (wd hw 10 rfl) (wd hw 104 rfl) (wd hw 105 rfl) (by decide)) (wd hw 105 rfl) (wd hw 106 rfl) (wd hw 11 rfl) (fun _ r => r.exa 0 rfl) (u_SequenceQueue_Run_slot_66 l Z a0 hw _ pA0 pA1 pA2 eA1 kA0 kA1 kA2 kA3 kA4 kA5 hE_eA1) rfl dc_prog_23_method_4_30 (q := 33) rfl (by decide) rfl (na := 1) (by decide +kernel) rfl (by decide) (W := 1) rfl (by decide) (by decide) (by decide) (k' := 0) (n' := 0) rfl rfl ?_
  rintro _ _ ⟨rfl, rfl⟩
  show Go _ _ _ _ _ _ _ _ _ _ [(.int (1 : Int32)), (.ref pA0)]
  refine Go.putF C (host := "") (i := 0) (j := 3) (Or.inl (wd hw 65 rfl)) Via.refl rfl rfl (Or.inl (wd hw 66 rfl)) (wd hw 10 rfl) (ty := .int) (by decide) rfl rfl dc_prog_23_method_4_33 (q := 36) rfl (M' := ((pA0, oRun (.ref pA1) (.ref pA2) (.int (2 : Int32)) (.int (1 : Int32))) :: (pA1, .inr (.long, (oK64 (.long kA0) (.long kA1) (.long kA2) (.long kA3) (.long kA4) (.long kA5)), true)) :: (pA2, .inr (.object "java/lang/Object", (oE64 .null (.ref eA1) .null .null .null .null), true)) :: F)) rfl ?_
  refine Go.aloadN C dc_prog_23_method_4_36 (q := 37) rfl rfl rfl ?_
  refine Go.dup C dc_prog_23_method_4_37 (q := 38) rfl rfl ?_
  refine Go.getF C (host := "") (Or.inl (wd hw 67 rfl)) (Via.of (wd hw 49 rfl)) (fun _ r => r.fld 0 2 rfl rfl) dc_prog_23_method_4_38 (q := 41) rfl ?_
  refine Go.iconst C dc_prog_23_method_4_41 (q := 42) rfl (v := (1 : Int32)) rfl ?_
  refine Go.isub C dc_prog_23_method_4_42 (q := 43) rfl ?_
  refine Go.castI (w := (1 : Int32)) (by decide) ?_
  refine Go.putF C (host := "") (i := 0) (j := 2) (Or.inl (wd hw 67 rfl)) (Via.of (wd hw 49 rfl)) rfl rfl (Or.inl (wd hw 50 rfl)) (wd hw 10 rfl) (ty := .int) (by decide) rfl rfl dc_prog_23_method_4_43 (q := 46) rfl (M' := ((pA0, oRun (.ref pA1) (.ref pA2) (.int (1 : Int32)) (.int (1 : Int32))) :: (pA1, .inr (.long, (oK64 (.long kA0) (.long kA1) (.long kA2) (.long kA3) (.long kA4) (.long kA5)), true)) :: (pA2, .inr (.object "java/lang/Object", (oE64 .null (.ref eA1) .null .null .null .null), true)) :: F)) rfl ?_
  refine Go.aloadN C dc_prog_23_method_4_46 (q := 47) rfl rfl rfl ?_
  refine Go.callU C (y := yN21) (z := yN18) (owner := "com/example/ordered_dispatch/ordereddispatch/SequenceQueue$Part") (a := pA0) (as := []) (rest := []) (wd hw 116 rfl) (wd hw 117 rfl) (wd hw 118 rfl) (wd hw 120 rfl) (wd hw 119 rfl) (wd hw 121 rfl) (wd hw 18 rfl) (fun _ r => r.exa 0 rfl) (u_SequenceQueue_Part_giveBackRoom_68 l Z a0 hw _ pA0 pA1 pA2 eA1 kA0 kA1 kA2 kA3 kA4 kA5 hE_eA1) rfl dc_prog_23_method_4_47 (q := 50) rfl (by decide) rfl (na := 0) (by decide +kernel) rfl (by decide) (W := 0) rfl (by decide) (by decide) (by decide) (k' := 0) (n' := 0) rfl rfl ?_
  rintro _ _ ⟨rfl, rfl⟩
  show Go _ _ _ _ _ _ _ _ _ _ []
  refine Go.aloadN C dc_prog_23_method_4_50 (q := 51) rfl rfl rfl ?_
  refine Go.retA C rfl rfl rfl dc_prog_23_method_4_51 (by decide) (by decide) ?_
  exact ⟨rfl, rfl⟩
set_option maxRecDepth 65536 in
set_option maxHeartbeats 40000000 in
theorem u_SequenceQueue_poll_38 (l : Launch) (Z : State) (a0 : Array Value) (hw : ∀ d ∈ tables_1, d.before a0 Z = true) (F : List Ent) (pA0 pA1 pA2 pA3 pA4 pA5 pA6 eA0 eA1 : Addr) (kA0 kA1 kA2 kA3 kA4 kA5 kA6 kA7 kA8 kA9 kA10 kA11 kA12 : Int64) (hE_eA0 : Exa Z Z.heap eA0 "java/lang/Integer") (hE_eA1 : Exa Z Z.heap eA1 "java/lang/Integer") :
    Met l Z yN6 prog_20_method_3_code 3 (some (.object "java/lang/Object")) { frames := 3, cells := 0, slots := 0, locals := 45 } #[(.ref pA0)] ((pA0, oQ (.ref pA1) (.ref pA4) (.int (1 : Int32)) (.long kA0) (.ref eA0)) :: (pA1, oRun (.ref pA2) (.ref pA3) (.int (1 : Int32)) (.int (0 : Int32))) :: (pA2, .inr (.long, (oK64 (.long kA1) (.long kA2) (.long kA3) (.long kA4) (.long kA5) (.long kA6)), true)) :: (pA3, .inr (.object "java/lang/Object", (oE64 (.ref eA1) .null .null .null .null .null), true)) :: (pA4, oHeap (.ref pA5) (.ref pA6) (.int (0 : Int32))) :: (pA5, .inr (.long, (oK64 (.long kA7) (.long kA8) (.long kA9) (.long kA10) (.long kA11) (.long kA12)), true)) :: (pA6, .inr (.object "java/lang/Object", (oE64 .null .null .null .null .null .null), true)) :: F) (fun r M' => (r = (some (.ref eA0)) ∧ M' = ((pA4, oHeap (.ref pA5) (.ref pA6) (.int (0 : Int32))) :: (pA5, .inr (.long, (oK64 (.long kA0) (.long kA8) (.long kA9) (.long kA10) (.long kA11) (.long kA12)), true)) :: (pA6, .inr (.object "java/lang/Object", (oE64 .null .null .null .null .null .null), true)) :: (pA1, oRun (.ref pA2) (.ref pA3) (.int (1 : Int32)) (.int (0 : Int32))) :: (pA2, .inr (.long, (oK64 (.long kA1) (.long kA2) (.long kA3) (.long kA4) (.long kA5) (.long kA6)), true)) :: (pA3, .inr (.object "java/lang/Object", (oE64 (.ref eA1) .null .null .null .null .null), true)) :: (pA0, oQ (.ref pA1) (.ref pA4) (.int (0 : Int32)) (.long kA0) .null) :: F)) ∨ (r = (some (.ref eA1)) ∧ M' = ((pA1, oRun (.ref pA2) (.ref pA3) (.int (0 : Int32)) (.int (1 : Int32))) :: (pA2, .inr (.long, (oK64 (.long kA1) (.long kA2) (.long kA3) (.long kA4) (.long kA5) (.long kA6)), true)) :: (pA3, .inr (.object "java/lang/Object", (oE64 .null .null .null .null .null .null), true)) :: (pA4, oHeap (.ref pA5) (.ref pA6) (.int (1 : Int32))) :: (pA5, .inr (.long, (oK64 (.long kA0) (.long kA8) (.long kA9) (.long kA10) (.long kA11) (.long kA12)), true)) :: (pA6, .inr (.object "java/lang/Object", (oE64 (.ref eA0) .null .null .null .null .null), true)) :: (pA0, oQ (.ref pA1) (.ref pA4) (.int (0 : Int32)) (.long kA0) .null) :: F)) ∨ (r = (some (.ref eA1)) ∧ M' = ((pA1, oRun (.ref pA2) (.ref pA3) (.int (1 : Int32)) (.int (1 : Int32))) :: (pA2, .inr (.long, (oK64 (.long kA1) (.long kA0) (.long kA3) (.long kA4) (.long kA5) (.long kA6)), true)) :: (pA3, .inr (.object "java/lang/Object", (oE64 .null (.ref eA0) .null .null .null .null), true)) :: (pA0, oQ (.ref pA1) (.ref pA4) (.int (0 : Int32)) (.long kA0) .null) :: (pA4, oHeap (.ref pA5) (.ref pA6) (.int (0 : Int32))) :: (pA5, .inr (.long, (oK64 (.long kA7) (.long kA8) (.long kA9) (.long kA10) (.long kA11) (.long kA12)), true)) :: (pA6, .inr (.object "java/lang/Object", (oE64 .null .null .null .null .null .null), true)) :: F)) ∨ (r = (some (.ref eA0)) ∧ M' = ((pA0, oQ (.ref pA1) (.ref pA4) (.int (0 : Int32)) (.long kA0) .null) :: (pA1, oRun (.ref pA2) (.ref pA3) (.int (1 : Int32)) (.int (0 : Int32))) :: (pA2, .inr (.long, (oK64 (.long kA1) (.long kA2) (.long kA3) (.long kA4) (.long kA5) (.long kA6)), true)) :: (pA3, .inr (.object "java/lang/Object", (oE64 (.ref eA1) .null .null .null .null .null), true)) :: (pA4, oHeap (.ref pA5) (.ref pA6) (.int (0 : Int32))) :: (pA5, .inr (.long, (oK64 (.long kA7) (.long kA8) (.long kA9) (.long kA10) (.long kA11) (.long kA12)), true)) :: (pA6, .inr (.object "java/lang/Object", (oE64 .null .null .null .null .null .null), true)) :: F))) := by
  refine Met.of_go pn_6 (Ls := #[.val (.ref pA0), .unset, .unset]) (fun m => by first | rfl | (simp [entryFrame, mkF, argsToLocals, Value.category, maxLocals]; done)) ?_
  intro E C
  refine Go.aloadN C dc_prog_20_method_3_0 (q := 1) rfl rfl rfl ?_
  refine Go.getF C (host := "") (Or.inl (wd hw 46 rfl)) Via.refl (fun _ r => r.fld 0 2 rfl rfl) dc_prog_20_method_3_1 (q := 4) rfl ?_
  refine Go.ifNo C dc_prog_20_method_3_4 (q := 7) rfl (XT.i0_eq_f (by decide)) ?_
  refine Go.aloadN C dc_prog_20_method_3_7 (q := 8) rfl rfl rfl ?_
  refine Go.getF C (host := "") (Or.inl (wd hw 28 rfl)) Via.refl (fun _ r => r.fld 0 0 rfl rfl) dc_prog_20_method_3_8 (q := 11) rfl ?_
  refine Go.getF C (host := "") (Or.inl (wd hw 48 rfl)) (Via.of (wd hw 49 rfl)) (fun _ r => r.fld 1 2 rfl rfl) dc_prog_20_method_3_11 (q := 14) rfl ?_
  refine Go.ifNo C dc_prog_20_method_3_14 (q := 17) rfl (XT.i0_eq_f (by decide)) ?_
  refine Go.aloadN C dc_prog_20_method_3_17 (q := 18) rfl rfl rfl ?_
  refine Go.getF C (host := "") (Or.inl (wd hw 86 rfl)) Via.refl (fun _ r => r.fld 0 3 rfl rfl) dc_prog_20_method_3_18 (q := 21) rfl ?_
  refine Go.aloadN C dc_prog_20_method_3_21 (q := 22) rfl rfl rfl ?_
  refine Go.getF C (host := "") (Or.inl (wd hw 28 rfl)) Via.refl (fun _ r => r.fld 0 0 rfl rfl) dc_prog_20_method_3_22 (q := 25) rfl ?_
  refine Go.getF C (host := "") (Or.inl (wd hw 114 rfl)) (Via.of (wd hw 108 rfl)) (fun _ r => r.fld 1 0 rfl rfl) dc_prog_20_method_3_25 (q := 28) rfl ?_
  refine Go.aloadN C dc_prog_20_method_3_28 (q := 29) rfl rfl rfl ?_
  refine Go.getF C (host := "") (Or.inl (wd hw 28 rfl)) Via.refl (fun _ r => r.fld 0 0 rfl rfl) dc_prog_20_method_3_29 (q := 32) rfl ?_
  refine Go.getR C (wd hw 115 rfl) (fun _ r => r.fld 1 3 rfl rfl) dc_prog_20_method_3_32 (q := 35) rfl ?_
  refine Go.laload C (fun _ r => r.arr 2 rfl) (by decide) (v := (.long kA1)) rfl dc_prog_20_method_3_35 (q := 36) rfl ?_
  refine Go.lcmpif C dc_prog_20_method_3_36 rfl dc_prog_20_method_3_37 (by decide) (q := 75) rfl (q' := 40) rfl (fun (h36_1 : kA1 < kA0) => ?_) (fun (h36_1 : ¬ kA1 < kA0) => ?_)
  · refine Go.aloadN C dc_prog_20_method_3_75 (q := 76) rfl rfl rfl ?_
    refine Go.getF C (host := "") (Or.inl (wd hw 46 rfl)) Via.refl (fun _ r => r.fld 0 2 rfl rfl) dc_prog_20_method_3_76 (q := 79) rfl ?_
    refine Go.ifNo C dc_prog_20_method_3_79 (q := 82) rfl (XT.i0_eq_f (by decide)) ?_
    refine Go.aloadN C dc_prog_20_method_3_82 (q := 83) rfl rfl rfl ?_
    refine Go.aloadN C dc_prog_20_method_3_83 (q := 84) rfl rfl rfl ?_
    refine Go.getF C (host := "") (Or.inl (wd hw 86 rfl)) Via.refl (fun _ r => r.fld 0 3 rfl rfl) dc_prog_20_method_3_84 (q := 87) rfl ?_
    refine Go.aloadN C dc_prog_20_method_3_87 (q := 88) rfl rfl rfl ?_
    refine Go.getF C (host := "") (Or.inl (wd hw 68 rfl)) Via.refl (fun _ r => r.fld 0 4 rfl rfl) dc_prog_20_method_3_88 (q := 91) rfl ?_
    refine Go.callP C (y := yN14) (a := pA0) (as := [(.long kA0), (.ref eA0)]) (rest := []) (wd hw 88 rfl) (wd hw 89 rfl) (sel_priv (y := yN14) (wd hw 1 rfl) (wd hw 89 rfl) (wd hw 90 rfl) (by decide)) (wd hw 90 rfl) (wd hw 91 rfl) (wd hw 2 rfl) (fun _ r => r.exa 0 rfl) (u_SequenceQueue_place_39 l Z a0 hw _ pA0 pA1 pA2 pA3 pA4 pA5 pA6 eA0 eA0 eA1 kA0 kA0 kA1 kA2 kA3 kA4 kA5 kA6 kA7 kA8 kA9 kA10 kA11 kA12 hE_eA0 hE_eA0 hE_eA1) rfl dc_prog_20_method_3_91 (q := 94) rfl (by decide) rfl (na := 2) (by decide +kernel) rfl (by decide) (W := 0) rfl (by decide) (by decide) (by decide) (k' := 0) (n' := 0) rfl rfl ?_
    rintro _ _ (⟨rfl, rfl⟩ | ⟨rfl, rfl⟩)
    · show Go _ _ _ _ _ _ _ _ _ _ []
      refine Go.aloadN C dc_prog_20_method_3_94 (q := 95) rfl rfl rfl ?_
      refine Go.getF C (host := "") (Or.inl (wd hw 39 rfl)) Via.refl (fun _ r => r.fld 6 1 rfl rfl) dc_prog_20_method_3_95 (q := 98) rfl ?_
      refine Go.getF C (host := "") (Or.inl (wd hw 51 rfl)) (Via.of (wd hw 52 rfl)) (fun _ r => r.fld 0 2 rfl rfl) dc_prog_20_method_3_98 (q := 101) rfl ?_
      refine Go.ifNo C dc_prog_20_method_3_101 (q := 104) rfl (XT.i0_eq_f (by decide)) ?_
      refine Go.aloadN C dc_prog_20_method_3_104 (q := 105) rfl rfl rfl ?_
      refine Go.getF C (host := "") (Or.inl (wd hw 28 rfl)) Via.refl (fun _ r => r.fld 6 0 rfl rfl) dc_prog_20_method_3_105 (q := 108) rfl ?_
      refine Go.getF C (host := "") (Or.inl (wd hw 48 rfl)) (Via.of (wd hw 49 rfl)) (fun _ r => r.fld 3 2 rfl rfl) dc_prog_20_method_3_108 (q := 111) rfl ?_
      refine Go.ifNo C dc_prog_20_method_3_111 (q := 114) rfl (XT.i0_le_f (by decide)) ?_
      refine Go.aloadN C dc_prog_20_method_3_114 (q := 115) rfl rfl rfl ?_
      refine Go.getF C (host := "") (Or.inl (wd hw 28 rfl)) Via.refl (fun _ r => r.fld 6 0 rfl rfl) dc_prog_20_method_3_115 (q := 118) rfl ?_
      refine Go.getF C (host := "") (Or.inl (wd hw 114 rfl)) (Via.of (wd hw 108 rfl)) (fun _ r => r.fld 3 0 rfl rfl) dc_prog_20_method_3_118 (q := 121) rfl ?_
      refine Go.aloadN C dc_prog_20_method_3_121 (q := 122) rfl rfl rfl ?_
      refine Go.getF C (host := "") (Or.inl (wd hw 28 rfl)) Via.refl (fun _ r => r.fld 6 0 rfl rfl) dc_prog_20_method_3_122 (q := 125) rfl ?_
      refine Go.getR C (wd hw 115 rfl) (fun _ r => r.fld 3 3 rfl rfl) dc_prog_20_method_3_125 (q := 128) rfl ?_
      refine Go.laload C (fun _ r => r.arr 4 rfl) (by decide) (v := (.long kA1)) rfl dc_prog_20_method_3_128 (q := 129) rfl ?_
      refine Go.aloadN C dc_prog_20_method_3_129 (q := 130) rfl rfl rfl ?_
      refine Go.getF C (host := "") (Or.inl (wd hw 39 rfl)) Via.refl (fun _ r => r.fld 6 1 rfl rfl) dc_prog_20_method_3_130 (q := 133) rfl ?_
      refine Go.getF C (host := "") (Or.inl (wd hw 134 rfl)) (Via.of (wd hw 131 rfl)) (fun _ r => r.fld 0 0 rfl rfl) dc_prog_20_method_3_133 (q := 136) rfl ?_
      refine Go.iconst C dc_prog_20_method_3_136 (q := 137) rfl (v := (0 : Int32)) rfl ?_
      refine Go.laload C (fun _ r => r.arr 1 rfl) (by decide) (v := (.long kA0)) rfl dc_prog_20_method_3_137 (q := 138) rfl ?_
      refine Go.lcmpif C dc_prog_20_method_3_138 rfl dc_prog_20_method_3_139 (by decide) (q := 153) rfl (q' := 142) rfl (fun (h138_2 : kA0 < kA1) => ?_) (fun (h138_2 : ¬ kA0 < kA1) => ?_)
      · refine Go.aloadN C dc_prog_20_method_3_153 (q := 154) rfl rfl rfl ?_
        refine Go.getF C (host := "") (Or.inl (wd hw 39 rfl)) Via.refl (fun _ r => r.fld 6 1 rfl rfl) dc_prog_20_method_3_154 (q := 157) rfl ?_
        refine Go.callPR C (y := yN20) (a := pA4) (as := []) (rest := []) (wd hw 135 rfl) (wd hw 136 rfl) (sel_priv (y := yN20) (wd hw 31 rfl) (wd hw 136 rfl) (wd hw 137 rfl) (by decide)) (wd hw 137 rfl) (wd hw 138 rfl) (wd hw 32 rfl) (fun _ r => r.exa 0 rfl) (u_SequenceQueue_Heap_poll_55 l Z a0 hw _ pA4 pA5 pA6 eA0 kA0 kA8 kA9 kA10 kA11 kA12 hE_eA0) rfl dc_prog_20_method_3_157 (q := 160) rfl (by decide) rfl (na := 0) (by decide +kernel) rfl (by decide) (W := 0) rfl (by decide) (by decide) (by decide) (k' := 0) (n' := 0) rfl rfl ?_
        rintro _ _ ⟨rfl, rfl⟩
        show Go _ _ _ _ _ _ _ _ _ _ [(.ref eA0)]
        refine Go.astoreN C dc_prog_20_method_3_160 (q := 161) rfl rfl (Ls' := #[.val (.ref pA0), .val (.ref eA0), .unset]) rfl ?_
        refine Go.aloadN C dc_prog_20_method_3_161 (q := 162) rfl rfl rfl ?_
        refine Go.iconst C dc_prog_20_method_3_162 (q := 163) rfl (v := (0 : Int32)) rfl ?_
        refine Go.putF C (host := "") (i := 6) (j := 2) (Or.inl (wd hw 46 rfl)) Via.refl rfl rfl (Or.inl (wd hw 47 rfl)) (wd hw 1 rfl) (ty := .boolean) (by decide) rfl rfl dc_prog_20_method_3_163 (q := 166) rfl (M' := ((pA4, oHeap (.ref pA5) (.ref pA6) (.int (0 : Int32))) :: (pA5, .inr (.long, (oK64 (.long kA0) (.long kA8) (.long kA9) (.long kA10) (.long kA11) (.long kA12)), true)) :: (pA6, .inr (.object "java/lang/Object", (oE64 .null .null .null .null .null .null), true)) :: (pA1, oRun (.ref pA2) (.ref pA3) (.int (1 : Int32)) (.int (0 : Int32))) :: (pA2, .inr (.long, (oK64 (.long kA1) (.long kA2) (.long kA3) (.long kA4) (.long kA5) (.long kA6)), true)) :: (pA3, .inr (.object "java/lang/Object", (oE64 (.ref eA1) .null .null .null .null .null), true)) :: (pA0, oQ (.ref pA1) (.ref pA4) (.int (0 : Int32)) (.long kA0) (.ref eA0)) :: F)) rfl ?_
        refine Go.aloadN C dc_prog_20_method_3_166 (q := 167) rfl rfl rfl ?_
        refine Go.aconstNull C dc_prog_20_method_3_167 (q := 168) rfl ?_
        refine Go.putF C (host := "") (i := 6) (j := 4) (Or.inl (wd hw 68 rfl)) Via.refl rfl rfl (Or.inl (wd hw 69 rfl)) (wd hw 1 rfl) (ty := (.object "java/lang/Object")) (by decide) rfl rfl dc_prog_20_method_3_168 (q := 171) rfl (M' := ((pA4, oHeap (.ref pA5) (.ref pA6) (.int (0 : Int32))) :: (pA5, .inr (.long, (oK64 (.long kA0) (.long kA8) (.long kA9) (.long kA10) (.long kA11) (.long kA12)), true)) :: (pA6, .inr (.object "java/lang/Object", (oE64 .null .null .null .null .null .null), true)) :: (pA1, oRun (.ref pA2) (.ref pA3) (.int (1 : Int32)) (.int (0 : Int32))) :: (pA2, .inr (.long, (oK64 (.long kA1) (.long kA2) (.long kA3) (.long kA4) (.long kA5) (.long kA6)), true)) :: (pA3, .inr (.object "java/lang/Object", (oE64 (.ref eA1) .null .null .null .null .null), true)) :: (pA0, oQ (.ref pA1) (.ref pA4) (.int (0 : Int32)) (.long kA0) .null) :: F)) rfl ?_
        refine Go.aloadN C dc_prog_20_method_3_171 (q := 172) rfl rfl rfl ?_
        refine Go.astoreN C dc_prog_20_method_3_172 (q := 173) rfl rfl (Ls' := #[.val (.ref pA0), .val (.ref eA0), .val (.ref eA0)]) rfl ?_
        refine Go.aloadN C dc_prog_20_method_3_173 (q := 174) rfl rfl rfl ?_
        refine Go.retA C rfl rfl rfl dc_prog_20_method_3_174 (by decide) (by decide) ?_
        exact Or.inl ⟨rfl, rfl⟩
      · refine Go.aloadN C dc_prog_20_method_3_142 (q := 143) rfl rfl rfl ?_
        refine Go.getF C (host := "") (Or.inl (wd hw 28 rfl)) Via.refl (fun _ r => r.fld 6 0 rfl rfl) dc_prog_20_method_3_143 (q := 146) rfl ?_
        refine Go.pick (M' := ((pA1, oRun (.ref pA2) (.ref pA3) (.int (1 : Int32)) (.int (0 : Int32))) :: (pA2, .inr (.long, (oK64 (.long kA1) (.long kA2) (.long kA3) (.long kA4) (.long kA5) (.long kA6)), true)) :: (pA3, .inr (.object "java/lang/Object", (oE64 (.ref eA1) .null .null .null .null .null), true)) :: (pA4, oHeap (.ref pA5) (.ref pA6) (.int (1 : Int32))) :: (pA5, .inr (.long, (oK64 (.long kA0) (.long kA8) (.long kA9) (.long kA10) (.long kA11) (.long kA12)), true)) :: (pA6, .inr (.object "java/lang/Object", (oE64 (.ref eA0) .null .null .null .null .null), true)) :: (pA0, oQ (.ref pA1) (.ref pA4) (.int (1 : Int32)) (.long kA0) (.ref eA0)) :: F)) 7 [3, 4, 5, 0, 1, 2, 6] (by decide) (by decide) rfl ?_
        refine Go.callPR C (y := yN5) (a := pA1) (as := []) (rest := []) (wd hw 59 rfl) (wd hw 60 rfl) (sel_priv (y := yN5) (wd hw 10 rfl) (wd hw 60 rfl) (wd hw 61 rfl) (by decide)) (wd hw 61 rfl) (wd hw 62 rfl) (wd hw 11 rfl) (fun _ r => r.exa 0 rfl) (u_SequenceQueue_Run_poll_59 l Z a0 hw _ pA1 pA2 pA3 eA1 kA1 kA2 kA3 kA4 kA5 kA6 hE_eA1) rfl dc_prog_20_method_3_146 (q := 149) rfl (by decide) rfl (na := 0) (by decide +kernel) rfl (by decide) (W := 0) rfl (by decide) (by decide) (by decide) (k' := 0) (n' := 0) rfl rfl ?_
        rintro _ _ ⟨rfl, rfl⟩
        show Go _ _ _ _ _ _ _ _ _ _ [(.ref eA1)]
        refine Go.astoreN C dc_prog_20_method_3_149 (q := 150) rfl rfl (Ls' := #[.val (.ref pA0), .val (.ref eA1), .unset]) rfl ?_
        refine Go.goto C dc_prog_20_method_3_150 (by decide) (q := 161) rfl ?_
        refine Go.aloadN C dc_prog_20_method_3_161 (q := 162) rfl rfl rfl ?_
        refine Go.iconst C dc_prog_20_method_3_162 (q := 163) rfl (v := (0 : Int32)) rfl ?_
        refine Go.putF C (host := "") (i := 6) (j := 2) (Or.inl (wd hw 46 rfl)) Via.refl rfl rfl (Or.inl (wd hw 47 rfl)) (wd hw 1 rfl) (ty := .boolean) (by decide) rfl rfl dc_prog_20_method_3_163 (q := 166) rfl (M' := ((pA1, oRun (.ref pA2) (.ref pA3) (.int (0 : Int32)) (.int (1 : Int32))) :: (pA2, .inr (.long, (oK64 (.long kA1) (.long kA2) (.long kA3) (.long kA4) (.long kA5) (.long kA6)), true)) :: (pA3, .inr (.object "java/lang/Object", (oE64 .null .null .null .null .null .null), true)) :: (pA4, oHeap (.ref pA5) (.ref pA6) (.int (1 : Int32))) :: (pA5, .inr (.long, (oK64 (.long kA0) (.long kA8) (.long kA9) (.long kA10) (.long kA11) (.long kA12)), true)) :: (pA6, .inr (.object "java/lang/Object", (oE64 (.ref eA0) .null .null .null .null .null), true)) :: (pA0, oQ (.ref pA1) (.ref pA4) (.int (0 : Int32)) (.long kA0) (.ref eA0)) :: F)) rfl ?_
        refine Go.aloadN C dc_prog_20_method_3_166 (q := 167) rfl rfl rfl ?_
        refine Go.aconstNull C dc_prog_20_method_3_167 (q := 168) rfl ?_
        refine Go.putF C (host := "") (i := 6) (j := 4) (Or.inl (wd hw 68 rfl)) Via.refl rfl rfl (Or.inl (wd hw 69 rfl)) (wd hw 1 rfl) (ty := (.object "java/lang/Object")) (by decide) rfl rfl dc_prog_20_method_3_168 (q := 171) rfl (M' := ((pA1, oRun (.ref pA2) (.ref pA3) (.int (0 : Int32)) (.int (1 : Int32))) :: (pA2, .inr (.long, (oK64 (.long kA1) (.long kA2) (.long kA3) (.long kA4) (.long kA5) (.long kA6)), true)) :: (pA3, .inr (.object "java/lang/Object", (oE64 .null .null .null .null .null .null), true)) :: (pA4, oHeap (.ref pA5) (.ref pA6) (.int (1 : Int32))) :: (pA5, .inr (.long, (oK64 (.long kA0) (.long kA8) (.long kA9) (.long kA10) (.long kA11) (.long kA12)), true)) :: (pA6, .inr (.object "java/lang/Object", (oE64 (.ref eA0) .null .null .null .null .null), true)) :: (pA0, oQ (.ref pA1) (.ref pA4) (.int (0 : Int32)) (.long kA0) .null) :: F)) rfl ?_
        refine Go.aloadN C dc_prog_20_method_3_171 (q := 172) rfl rfl rfl ?_
        refine Go.astoreN C dc_prog_20_method_3_172 (q := 173) rfl rfl (Ls' := #[.val (.ref pA0), .val (.ref eA1), .val (.ref eA1)]) rfl ?_
        refine Go.aloadN C dc_prog_20_method_3_173 (q := 174) rfl rfl rfl ?_
        refine Go.retA C rfl rfl rfl dc_prog_20_method_3_174 (by decide) (by decide) ?_
        exact Or.inr (Or.inl ⟨rfl, rfl⟩)
    · show Go _ _ _ _ _ _ _ _ _ _ []
      refine Go.aloadN C dc_prog_20_method_3_94 (q := 95) rfl rfl rfl ?_
      refine Go.getF C (host := "") (Or.inl (wd hw 39 rfl)) Via.refl (fun _ r => r.fld 3 1 rfl rfl) dc_prog_20_method_3_95 (q := 98) rfl ?_
      refine Go.getF C (host := "") (Or.inl (wd hw 51 rfl)) (Via.of (wd hw 52 rfl)) (fun _ r => r.fld 4 2 rfl rfl) dc_prog_20_method_3_98 (q := 101) rfl ?_
      refine Go.ifYes C dc_prog_20_method_3_101 (by decide) (q := 142) rfl (XT.i0_eq_t (by decide)) ?_
      refine Go.aloadN C dc_prog_20_method_3_142 (q := 143) rfl rfl rfl ?_
      refine Go.getF C (host := "") (Or.inl (wd hw 28 rfl)) Via.refl (fun _ r => r.fld 3 0 rfl rfl) dc_prog_20_method_3_143 (q := 146) rfl ?_
      refine Go.callPR C (y := yN5) (a := pA1) (as := []) (rest := []) (wd hw 59 rfl) (wd hw 60 rfl) (sel_priv (y := yN5) (wd hw 10 rfl) (wd hw 60 rfl) (wd hw 61 rfl) (by decide)) (wd hw 61 rfl) (wd hw 62 rfl) (wd hw 11 rfl) (fun _ r => r.exa 0 rfl) (u_SequenceQueue_Run_poll_65 l Z a0 hw _ pA1 pA2 pA3 eA1 eA0 kA1 kA0 kA3 kA4 kA5 kA6 hE_eA1 hE_eA0) rfl dc_prog_20_method_3_146 (q := 149) rfl (by decide) rfl (na := 0) (by decide +kernel) rfl (by decide) (W := 0) rfl (by decide) (by decide) (by decide) (k' := 0) (n' := 0) rfl rfl ?_
      rintro _ _ ⟨rfl, rfl⟩
      show Go _ _ _ _ _ _ _ _ _ _ [(.ref eA1)]
      refine Go.astoreN C dc_prog_20_method_3_149 (q := 150) rfl rfl (Ls' := #[.val (.ref pA0), .val (.ref eA1), .unset]) rfl ?_
      refine Go.goto C dc_prog_20_method_3_150 (by decide) (q := 161) rfl ?_
      refine Go.aloadN C dc_prog_20_method_3_161 (q := 162) rfl rfl rfl ?_
      refine Go.iconst C dc_prog_20_method_3_162 (q := 163) rfl (v := (0 : Int32)) rfl ?_
      refine Go.putF C (host := "") (i := 3) (j := 2) (Or.inl (wd hw 46 rfl)) Via.refl rfl rfl (Or.inl (wd hw 47 rfl)) (wd hw 1 rfl) (ty := .boolean) (by decide) rfl rfl dc_prog_20_method_3_163 (q := 166) rfl (M' := ((pA1, oRun (.ref pA2) (.ref pA3) (.int (1 : Int32)) (.int (1 : Int32))) :: (pA2, .inr (.long, (oK64 (.long kA1) (.long kA0) (.long kA3) (.long kA4) (.long kA5) (.long kA6)), true)) :: (pA3, .inr (.object "java/lang/Object", (oE64 .null (.ref eA0) .null .null .null .null), true)) :: (pA0, oQ (.ref pA1) (.ref pA4) (.int (0 : Int32)) (.long kA0) (.ref eA0)) :: (pA4, oHeap (.ref pA5) (.ref pA6) (.int (0 : Int32))) :: (pA5, .inr (.long, (oK64 (.long kA7) (.long kA8) (.long kA9) (.long kA10) (.long kA11) (.long kA12)), true)) :: (pA6, .inr (.object "java/lang/Object", (oE64 .null .null .null .null .null .null), true)) :: F)) rfl ?_
      refine Go.aloadN C dc_prog_20_method_3_166 (q := 167) rfl rfl rfl ?_
      refine Go.aconstNull C dc_prog_20_method_3_167 (q := 168) rfl ?_
      refine Go.putF C (host := "") (i := 3) (j := 4) (Or.inl (wd hw 68 rfl)) Via.refl rfl rfl (Or.inl (wd hw 69 rfl)) (wd hw 1 rfl) (ty := (.object "java/lang/Object")) (by decide) rfl rfl dc_prog_20_method_3_168 (q := 171) rfl (M' := ((pA1, oRun (.ref pA2) (.ref pA3) (.int (1 : Int32)) (.int (1 : Int32))) :: (pA2, .inr (.long, (oK64 (.long kA1) (.long kA0) (.long kA3) (.long kA4) (.long kA5) (.long kA6)), true)) :: (pA3, .inr (.object "java/lang/Object", (oE64 .null (.ref eA0) .null .null .null .null), true)) :: (pA0, oQ (.ref pA1) (.ref pA4) (.int (0 : Int32)) (.long kA0) .null) :: (pA4, oHeap (.ref pA5) (.ref pA6) (.int (0 : Int32))) :: (pA5, .inr (.long, (oK64 (.long kA7) (.long kA8) (.long kA9) (.long kA10) (.long kA11) (.long kA12)), true)) :: (pA6, .inr (.object "java/lang/Object", (oE64 .null .null .null .null .null .null), true)) :: F)) rfl ?_
      refine Go.aloadN C dc_prog_20_method_3_171 (q := 172) rfl rfl rfl ?_
      refine Go.astoreN C dc_prog_20_method_3_172 (q := 173) rfl rfl (Ls' := #[.val (.ref pA0), .val (.ref eA1), .val (.ref eA1)]) rfl ?_
      refine Go.aloadN C dc_prog_20_method_3_173 (q := 174) rfl rfl rfl ?_
      refine Go.retA C rfl rfl rfl dc_prog_20_method_3_174 (by decide) (by decide) ?_
      exact Or.inr (Or.inr (Or.inl ⟨rfl, rfl⟩))
  · refine Go.aloadN C dc_prog_20_method_3_40 (q := 41) rfl rfl rfl ?_
    refine Go.getF C (host := "") (Or.inl (wd hw 39 rfl)) Via.refl (fun _ r => r.fld 0 1 rfl rfl) dc_prog_20_method_3_41 (q := 44) rfl ?_
    refine Go.getF C (host := "") (Or.inl (wd hw 51 rfl)) (Via.of (wd hw 52 rfl)) (fun _ r => r.fld 4 2 rfl rfl) dc_prog_20_method_3_44 (q := 47) rfl ?_
    refine Go.ifYes C dc_prog_20_method_3_47 (by decide) (q := 67) rfl (XT.i0_eq_t (by decide)) ?_
    refine Go.aloadN C dc_prog_20_method_3_67 (q := 68) rfl rfl rfl ?_
    refine Go.getF C (host := "") (Or.inl (wd hw 68 rfl)) Via.refl (fun _ r => r.fld 0 4 rfl rfl) dc_prog_20_method_3_68 (q := 71) rfl ?_
    refine Go.astoreN C dc_prog_20_method_3_71 (q := 72) rfl rfl (Ls' := #[.val (.ref pA0), .val (.ref eA0), .unset]) rfl ?_
    refine Go.goto C dc_prog_20_method_3_72 (by decide) (q := 161) rfl ?_
    refine Go.aloadN C dc_prog_20_method_3_161 (q := 162) rfl rfl rfl ?_
    refine Go.iconst C dc_prog_20_method_3_162 (q := 163) rfl (v := (0 : Int32)) rfl ?_
    refine Go.putF C (host := "") (i := 0) (j := 2) (Or.inl (wd hw 46 rfl)) Via.refl rfl rfl (Or.inl (wd hw 47 rfl)) (wd hw 1 rfl) (ty := .boolean) (by decide) rfl rfl dc_prog_20_method_3_163 (q := 166) rfl (M' := ((pA0, oQ (.ref pA1) (.ref pA4) (.int (0 : Int32)) (.long kA0) (.ref eA0)) :: (pA1, oRun (.ref pA2) (.ref pA3) (.int (1 : Int32)) (.int (0 : Int32))) :: (pA2, .inr (.long, (oK64 (.long kA1) (.long kA2) (.long kA3) (.long kA4) (.long kA5) (.long kA6)), true)) :: (pA3, .inr (.object "java/lang/Object", (oE64 (.ref eA1) .null .null .null .null .null), true)) :: (pA4, oHeap (.ref pA5) (.ref pA6) (.int (0 : Int32))) :: (pA5, .inr (.long, (oK64 (.long kA7) (.long kA8) (.long kA9) (.long kA10) (.long kA11) (.long kA12)), true)) :: (pA6, .inr (.object "java/lang/Object", (oE64 .null .null .null .null .null .null), true)) :: F)) rfl ?_
    refine Go.aloadN C dc_prog_20_method_3_166 (q := 167) rfl rfl rfl ?_
    refine Go.aconstNull C dc_prog_20_method_3_167 (q := 168) rfl ?_
    refine Go.putF C (host := "") (i := 0) (j := 4) (Or.inl (wd hw 68 rfl)) Via.refl rfl rfl (Or.inl (wd hw 69 rfl)) (wd hw 1 rfl) (ty := (.object "java/lang/Object")) (by decide) rfl rfl dc_prog_20_method_3_168 (q := 171) rfl (M' := ((pA0, oQ (.ref pA1) (.ref pA4) (.int (0 : Int32)) (.long kA0) .null) :: (pA1, oRun (.ref pA2) (.ref pA3) (.int (1 : Int32)) (.int (0 : Int32))) :: (pA2, .inr (.long, (oK64 (.long kA1) (.long kA2) (.long kA3) (.long kA4) (.long kA5) (.long kA6)), true)) :: (pA3, .inr (.object "java/lang/Object", (oE64 (.ref eA1) .null .null .null .null .null), true)) :: (pA4, oHeap (.ref pA5) (.ref pA6) (.int (0 : Int32))) :: (pA5, .inr (.long, (oK64 (.long kA7) (.long kA8) (.long kA9) (.long kA10) (.long kA11) (.long kA12)), true)) :: (pA6, .inr (.object "java/lang/Object", (oE64 .null .null .null .null .null .null), true)) :: F)) rfl ?_
    refine Go.aloadN C dc_prog_20_method_3_171 (q := 172) rfl rfl rfl ?_
    refine Go.astoreN C dc_prog_20_method_3_172 (q := 173) rfl rfl (Ls' := #[.val (.ref pA0), .val (.ref eA0), .val (.ref eA0)]) rfl ?_
    refine Go.aloadN C dc_prog_20_method_3_173 (q := 174) rfl rfl rfl ?_
    refine Go.retA C rfl rfl rfl dc_prog_20_method_3_174 (by decide) (by decide) ?_
    exact Or.inr (Or.inr (Or.inr (⟨rfl, rfl⟩)))
theorem dc_jdk_29_method_65_9 : decode jdk_29_method_65_code 9 = .ok (.iload_n 1, 1) := by decide +kernel
set_option maxRecDepth 65536 in
set_option maxHeartbeats 40000000 in
theorem u_Math_max_72 (l : Launch) (Z : State) (a0 : Array Value) (hw : ∀ d ∈ tables_1, d.before a0 Z = true) (F : List Ent)  :
    Met l Z yN7 jdk_29_method_65_code 2 (some .int) { frames := 0, cells := 0, slots := 0, locals := 0 } #[(.int (0 : Int32)), (.int (1 : Int32))] (F) (fun r M' => (r = (some (.int (1 : Int32))) ∧ M' = (F))) := by
  refine Met.of_go pn_7 (Ls := #[.val (.int (0 : Int32)), .val (.int (1 : Int32))]) (fun m => by first | rfl | (simp [entryFrame, mkF, argsToLocals, Value.category, maxLocals]; done)) ?_
  intro E C
  refine Go.iloadN C dc_jdk_29_method_65_0 (q := 1) rfl rfl ?_
  refine Go.iloadN C dc_jdk_29_method_65_1 (q := 2) rfl rfl ?_
  refine Go.icmpYes C dc_jdk_29_method_65_2 (by decide) (q := 9) rfl (XT.ii_lt_t (by decide)) ?_
  refine Go.iloadN C dc_jdk_29_method_65_9 (q := 10) rfl rfl ?_
  refine Go.retI C rfl dc_jdk_29_method_65_10 (by decide) (by decide) ?_
  exact ⟨rfl, rfl⟩
set_option maxRecDepth 65536 in
set_option maxHeartbeats 40000000 in
theorem u_SequenceQueue_isEmpty_74 (l : Launch) (Z : State) (a0 : Array Value) (hw : ∀ d ∈ tables_1, d.before a0 Z = true) (F : List Ent) (pA0 pA1 pA2 pA3 pA4 pA5 pA6 eA0 : Addr) (kA0 kA1 kA2 kA3 kA4 kA5 kA6 kA7 kA8 kA9 kA10 kA11 kA12 : Int64) (hE_eA0 : Exa Z Z.heap eA0 "java/lang/Integer") :
    Met l Z yN4 prog_20_method_4_code 1 (some .boolean) { frames := 0, cells := 0, slots := 0, locals := 0 } #[(.ref pA0)] ((pA0, oQ (.ref pA1) (.ref pA4) (.int (0 : Int32)) (.long kA0) .null) :: (pA1, oRun (.ref pA2) (.ref pA3) (.int (1 : Int32)) (.int (0 : Int32))) :: (pA2, .inr (.long, (oK64 (.long kA1) (.long kA2) (.long kA3) (.long kA4) (.long kA5) (.long kA6)), true)) :: (pA3, .inr (.object "java/lang/Object", (oE64 (.ref eA0) .null .null .null .null .null), true)) :: (pA4, oHeap (.ref pA5) (.ref pA6) (.int (0 : Int32))) :: (pA5, .inr (.long, (oK64 (.long kA7) (.long kA8) (.long kA9) (.long kA10) (.long kA11) (.long kA12)), true)) :: (pA6, .inr (.object "java/lang/Object", (oE64 .null .null .null .null .null .null), true)) :: F) (fun r M' => (r = (some (.int (0 : Int32))) ∧ M' = ((pA0, oQ (.ref pA1) (.ref pA4) (.int (0 : Int32)) (.long kA0) .null) :: (pA1, oRun (.ref pA2) (.ref pA3) (.int (1 : Int32)) (.int (0 : Int32))) :: (pA2, .inr (.long, (oK64 (.long kA1) (.long kA2) (.long kA3) (.long kA4) (.long kA5) (.long kA6)), true)) :: (pA3, .inr (.object "java/lang/Object", (oE64 (.ref eA0) .null .null .null .null .null), true)) :: (pA4, oHeap (.ref pA5) (.ref pA6) (.int (0 : Int32))) :: (pA5, .inr (.long, (oK64 (.long kA7) (.long kA8) (.long kA9) (.long kA10) (.long kA11) (.long kA12)), true)) :: (pA6, .inr (.object "java/lang/Object", (oE64 .null .null .null .null .null .null), true)) :: F))) := by
  refine Met.of_go pn_4 (Ls := #[.val (.ref pA0)]) (fun m => by first | rfl | (simp [entryFrame, mkF, argsToLocals, Value.category, maxLocals]; done)) ?_
  intro E C
  refine Go.aloadN C dc_prog_20_method_4_0 (q := 1) rfl rfl rfl ?_
  refine Go.getF C (host := "") (Or.inl (wd hw 46 rfl)) Via.refl (fun _ r => r.fld 0 2 rfl rfl) dc_prog_20_method_4_1 (q := 4) rfl ?_
  refine Go.ifNo C dc_prog_20_method_4_4 (q := 7) rfl (XT.i0_ne_f (by decide)) ?_
  refine Go.aloadN C dc_prog_20_method_4_7 (q := 8) rfl rfl rfl ?_
  refine Go.getF C (host := "") (Or.inl (wd hw 28 rfl)) Via.refl (fun _ r => r.fld 0 0 rfl rfl) dc_prog_20_method_4_8 (q := 11) rfl ?_
  refine Go.getF C (host := "") (Or.inl (wd hw 48 rfl)) (Via.of (wd hw 49 rfl)) (fun _ r => r.fld 1 2 rfl rfl) dc_prog_20_method_4_11 (q := 14) rfl ?_
  refine Go.ifYes C dc_prog_20_method_4_14 (by decide) (q := 31) rfl (XT.i0_ne_t (by decide)) ?_
  refine Go.iconst C dc_prog_20_method_4_31 (q := 32) rfl (v := (0 : Int32)) rfl ?_
  refine Go.retZ C rfl (by decide) dc_prog_20_method_4_32 (by decide) (by decide) ?_
  exact ⟨rfl, rfl⟩
set_option maxRecDepth 65536 in
set_option maxHeartbeats 40000000 in
theorem u_SequenceQueue_isEmpty_76 (l : Launch) (Z : State) (a0 : Array Value) (hw : ∀ d ∈ tables_1, d.before a0 Z = true) (F : List Ent) (pA0 pA1 pA2 pA3 pA4 pA5 pA6 eA0 : Addr) (kA0 kA1 kA2 kA3 kA4 kA5 kA6 kA7 kA8 kA9 kA10 kA11 kA12 : Int64) (hE_eA0 : Exa Z Z.heap eA0 "java/lang/Integer") :
    Met l Z yN4 prog_20_method_4_code 1 (some .boolean) { frames := 0, cells := 0, slots := 0, locals := 0 } #[(.ref pA0)] ((pA0, oQ (.ref pA1) (.ref pA4) (.int (0 : Int32)) (.long kA0) .null) :: (pA1, oRun (.ref pA2) (.ref pA3) (.int (0 : Int32)) (.int (1 : Int32))) :: (pA2, .inr (.long, (oK64 (.long kA1) (.long kA2) (.long kA3) (.long kA4) (.long kA5) (.long kA6)), true)) :: (pA3, .inr (.object "java/lang/Object", (oE64 .null .null .null .null .null .null), true)) :: (pA4, oHeap (.ref pA5) (.ref pA6) (.int (1 : Int32))) :: (pA5, .inr (.long, (oK64 (.long kA7) (.long kA8) (.long kA9) (.long kA10) (.long kA11) (.long kA12)), true)) :: (pA6, .inr (.object "java/lang/Object", (oE64 (.ref eA0) .null .null .null .null .null), true)) :: F) (fun r M' => (r = (some (.int (0 : Int32))) ∧ M' = ((pA0, oQ (.ref pA1) (.ref pA4) (.int (0 : Int32)) (.long kA0) .null) :: (pA1, oRun (.ref pA2) (.ref pA3) (.int (0 : Int32)) (.int (1 : Int32))) :: (pA2, .inr (.long, (oK64 (.long kA1) (.long kA2) (.long kA3) (.long kA4) (.long kA5) (.long kA6)), true)) :: (pA3, .inr (.object "java/lang/Object", (oE64 .null .null .null .null .null .null), true)) :: (pA4, oHeap (.ref pA5) (.ref pA6) (.int (1 : Int32))) :: (pA5, .inr (.long, (oK64 (.long kA7) (.long kA8) (.long kA9) (.long kA10) (.long kA11) (.long kA12)), true)) :: (pA6, .inr (.object "java/lang/Object", (oE64 (.ref eA0) .null .null .null .null .null), true)) :: F))) := by
  refine Met.of_go pn_4 (Ls := #[.val (.ref pA0)]) (fun m => by first | rfl | (simp [entryFrame, mkF, argsToLocals, Value.category, maxLocals]; done)) ?_
  intro E C
  refine Go.aloadN C dc_prog_20_method_4_0 (q := 1) rfl rfl rfl ?_
  refine Go.getF C (host := "") (Or.inl (wd hw 46 rfl)) Via.refl (fun _ r => r.fld 0 2 rfl rfl) dc_prog_20_method_4_1 (q := 4) rfl ?_
  refine Go.ifNo C dc_prog_20_method_4_4 (q := 7) rfl (XT.i0_ne_f (by decide)) ?_
  refine Go.aloadN C dc_prog_20_method_4_7 (q := 8) rfl rfl rfl ?_
  refine Go.getF C (host := "") (Or.inl (wd hw 28 rfl)) Via.refl (fun _ r => r.fld 0 0 rfl rfl) dc_prog_20_method_4_8 (q := 11) rfl ?_
  refine Go.getF C (host := "") (Or.inl (wd hw 48 rfl)) (Via.of (wd hw 49 rfl)) (fun _ r => r.fld 1 2 rfl rfl) dc_prog_20_method_4_11 (q := 14) rfl ?_
  refine Go.ifNo C dc_prog_20_method_4_14 (q := 17) rfl (XT.i0_ne_f (by decide)) ?_
  refine Go.aloadN C dc_prog_20_method_4_17 (q := 18) rfl rfl rfl ?_
  refine Go.getF C (host := "") (Or.inl (wd hw 39 rfl)) Via.refl (fun _ r => r.fld 0 1 rfl rfl) dc_prog_20_method_4_18 (q := 21) rfl ?_
  refine Go.getF C (host := "") (Or.inl (wd hw 51 rfl)) (Via.of (wd hw 52 rfl)) (fun _ r => r.fld 4 2 rfl rfl) dc_prog_20_method_4_21 (q := 24) rfl ?_
  refine Go.ifYes C dc_prog_20_method_4_24 (by decide) (q := 31) rfl (XT.i0_ne_t (by decide)) ?_
  refine Go.iconst C dc_prog_20_method_4_31 (q := 32) rfl (v := (0 : Int32)) rfl ?_
  refine Go.retZ C rfl (by decide) dc_prog_20_method_4_32 (by decide) (by decide) ?_
  exact ⟨rfl, rfl⟩
set_option maxRecDepth 65536 in
set_option maxHeartbeats 40000000 in
theorem u_SequenceQueue_isEmpty_78 (l : Launch) (Z : State) (a0 : Array Value) (hw : ∀ d ∈ tables_1, d.before a0 Z = true) (F : List Ent) (pA0 pA1 pA2 pA3 pA4 pA5 pA6 eA0 : Addr) (kA0 kA1 kA2 kA3 kA4 kA5 kA6 kA7 kA8 kA9 kA10 kA11 kA12 : Int64) (hE_eA0 : Exa Z Z.heap eA0 "java/lang/Integer") :
    Met l Z yN4 prog_20_method_4_code 1 (some .boolean) { frames := 0, cells := 0, slots := 0, locals := 0 } #[(.ref pA0)] ((pA0, oQ (.ref pA1) (.ref pA4) (.int (0 : Int32)) (.long kA0) .null) :: (pA1, oRun (.ref pA2) (.ref pA3) (.int (1 : Int32)) (.int (1 : Int32))) :: (pA2, .inr (.long, (oK64 (.long kA1) (.long kA2) (.long kA3) (.long kA4) (.long kA5) (.long kA6)), true)) :: (pA3, .inr (.object "java/lang/Object", (oE64 .null (.ref eA0) .null .null .null .null), true)) :: (pA4, oHeap (.ref pA5) (.ref pA6) (.int (0 : Int32))) :: (pA5, .inr (.long, (oK64 (.long kA7) (.long kA8) (.long kA9) (.long kA10) (.long kA11) (.long kA12)), true)) :: (pA6, .inr (.object "java/lang/Object", (oE64 .null .null .null .null .null .null), true)) :: F) (fun r M' => (r = (some (.int (0 : Int32))) ∧ M' = ((pA0, oQ (.ref pA1) (.ref pA4) (.int (0 : Int32)) (.long kA0) .null) :: (pA1, oRun (.ref pA2) (.ref pA3) (.int (1 : Int32)) (.int (1 : Int32))) :: (pA2, .inr (.long, (oK64 (.long kA1) (.long kA2) (.long kA3) (.long kA4) (.long kA5) (.long kA6)), true)) :: (pA3, .inr (.object "java/lang/Object", (oE64 .null (.ref eA0) .null .null .null .null), true)) :: (pA4, oHeap (.ref pA5) (.ref pA6) (.int (0 : Int32))) :: (pA5, .inr (.long, (oK64 (.long kA7) (.long kA8) (.long kA9) (.long kA10) (.long kA11) (.long kA12)), true)) :: (pA6, .inr (.object "java/lang/Object", (oE64 .null .null .null .null .null .null), true)) :: F))) := by
  refine Met.of_go pn_4 (Ls := #[.val (.ref pA0)]) (fun m => by first | rfl | (simp [entryFrame, mkF, argsToLocals, Value.category, maxLocals]; done)) ?_
  intro E C
  refine Go.aloadN C dc_prog_20_method_4_0 (q := 1) rfl rfl rfl ?_
  refine Go.getF C (host := "") (Or.inl (wd hw 46 rfl)) Via.refl (fun _ r => r.fld 0 2 rfl rfl) dc_prog_20_method_4_1 (q := 4) rfl ?_
  refine Go.ifNo C dc_prog_20_method_4_4 (q := 7) rfl (XT.i0_ne_f (by decide)) ?_
  refine Go.aloadN C dc_prog_20_method_4_7 (q := 8) rfl rfl rfl ?_
  refine Go.getF C (host := "") (Or.inl (wd hw 28 rfl)) Via.refl (fun _ r => r.fld 0 0 rfl rfl) dc_prog_20_method_4_8 (q := 11) rfl ?_
  refine Go.getF C (host := "") (Or.inl (wd hw 48 rfl)) (Via.of (wd hw 49 rfl)) (fun _ r => r.fld 1 2 rfl rfl) dc_prog_20_method_4_11 (q := 14) rfl ?_
  refine Go.ifYes C dc_prog_20_method_4_14 (by decide) (q := 31) rfl (XT.i0_ne_t (by decide)) ?_
  refine Go.iconst C dc_prog_20_method_4_31 (q := 32) rfl (v := (0 : Int32)) rfl ?_
  refine Go.retZ C rfl (by decide) dc_prog_20_method_4_32 (by decide) (by decide) ?_
  exact ⟨rfl, rfl⟩
set_option maxRecDepth 65536 in
set_option maxHeartbeats 40000000 in
theorem u_SequenceQueue_add_80 (l : Launch) (Z : State) (a0 : Array Value) (hw : ∀ d ∈ tables_1, d.before a0 Z = true) (F : List Ent) (pA0 pA1 pA2 pA3 pA4 pA5 pA6 eA0 eA1 eA2 : Addr) (kA0 kA1 kA2 kA3 kA4 kA5 kA6 kA7 kA8 kA9 kA10 kA11 kA12 kA13 : Int64) (hE_eA0 : Exa Z Z.heap eA0 "java/lang/Integer") (hE_eA1 : Exa Z Z.heap eA1 "java/lang/Integer") (hE_eA2 : Exa Z Z.heap eA2 "java/lang/Integer") :
    Met l Z yN9 prog_20_method_2_code 4 none { frames := 3, cells := 0, slots := 0, locals := 45 } #[(.ref pA0), (.long kA0), (.ref eA0)] ((pA0, oQ (.ref pA1) (.ref pA4) (.int (1 : Int32)) (.long kA1) (.ref eA1)) :: (pA1, oRun (.ref pA2) (.ref pA3) (.int (1 : Int32)) (.int (0 : Int32))) :: (pA2, .inr (.long, (oK64 (.long kA2) (.long kA3) (.long kA4) (.long kA5) (.long kA6) (.long kA7)), true)) :: (pA3, .inr (.object "java/lang/Object", (oE64 (.ref eA2) .null .null .null .null .null), true)) :: (pA4, oHeap (.ref pA5) (.ref pA6) (.int (0 : Int32))) :: (pA5, .inr (.long, (oK64 (.long kA8) (.long kA9) (.long kA10) (.long kA11) (.long kA12) (.long kA13)), true)) :: (pA6, .inr (.object "java/lang/Object", (oE64 .null .null .null .null .null .null), true)) :: F) (fun r M' => (r = none ∧ M' = ((pA4, oHeap (.ref pA5) (.ref pA6) (.int (1 : Int32))) :: (pA5, .inr (.long, (oK64 (.long kA1) (.long kA9) (.long kA10) (.long kA11) (.long kA12) (.long kA13)), true)) :: (pA6, .inr (.object "java/lang/Object", (oE64 (.ref eA1) .null .null .null .null .null), true)) :: (pA1, oRun (.ref pA2) (.ref pA3) (.int (1 : Int32)) (.int (0 : Int32))) :: (pA2, .inr (.long, (oK64 (.long kA2) (.long kA3) (.long kA4) (.long kA5) (.long kA6) (.long kA7)), true)) :: (pA3, .inr (.object "java/lang/Object", (oE64 (.ref eA2) .null .null .null .null .null), true)) :: (pA0, oQ (.ref pA1) (.ref pA4) (.int (1 : Int32)) (.long kA0) (.ref eA0)) :: F)) ∨ (r = none ∧ M' = ((pA1, oRun (.ref pA2) (.ref pA3) (.int (2 : Int32)) (.int (0 : Int32))) :: (pA2, .inr (.long, (oK64 (.long kA2) (.long kA1) (.long kA4) (.long kA5) (.long kA6) (.long kA7)), true)) :: (pA3, .inr (.object "java/lang/Object", (oE64 (.ref eA2) (.ref eA1) .null .null .null .null), true)) :: (pA0, oQ (.ref pA1) (.ref pA4) (.int (1 : Int32)) (.long kA0) (.ref eA0)) :: (pA4, oHeap (.ref pA5) (.ref pA6) (.int (0 : Int32))) :: (pA5, .inr (.long, (oK64 (.long kA8) (.long kA9) (.long kA10) (.long kA11) (.long kA12) (.long kA13)), true)) :: (pA6, .inr (.object "java/lang/Object", (oE64 .null .null .null .null .null .null), true)) :: F))) := by
  refine Met.of_go pn_9 (Ls := #[.val (.ref pA0), .val (.long kA0), .second, .val (.ref eA0)]) (fun m => by first | rfl | (simp [entryFrame, mkF, argsToLocals, Value.category, maxLocals]; done)) ?_
  intro E C
  refine Go.aloadN C dc_prog_20_method_2_0 (q := 1) rfl rfl rfl ?_
  refine Go.getF C (host := "") (Or.inl (wd hw 46 rfl)) Via.refl (fun _ r => r.fld 0 2 rfl rfl) dc_prog_20_method_2_1 (q := 4) rfl ?_
  refine Go.ifNo C dc_prog_20_method_2_4 (q := 7) rfl (XT.i0_eq_f (by decide)) ?_
  refine Go.aloadN C dc_prog_20_method_2_7 (q := 8) rfl rfl rfl ?_
  refine Go.aloadN C dc_prog_20_method_2_8 (q := 9) rfl rfl rfl ?_
  refine Go.getF C (host := "") (Or.inl (wd hw 86 rfl)) Via.refl (fun _ r => r.fld 0 3 rfl rfl) dc_prog_20_method_2_9 (q := 12) rfl ?_
  refine Go.aloadN C dc_prog_20_method_2_12 (q := 13) rfl rfl rfl ?_
  refine Go.getF C (host := "") (Or.inl (wd hw 68 rfl)) Via.refl (fun _ r => r.fld 0 4 rfl rfl) dc_prog_20_method_2_13 (q := 16) rfl ?_
  refine Go.callP C (y := yN14) (a := pA0) (as := [(.long kA1), (.ref eA1)]) (rest := []) (wd hw 88 rfl) (wd hw 89 rfl) (sel_priv (y := yN14) (wd hw 1 rfl) (wd hw 89 rfl) (wd hw 90 rfl) (by decide)) (wd hw 90 rfl) (wd hw 91 rfl) (wd hw 2 rfl) (fun _ r => r.exa 0 rfl) (u_SequenceQueue_place_39 l Z a0 hw _ pA0 pA1 pA2 pA3 pA4 pA5 pA6 eA1 eA1 eA2 kA1 kA1 kA2 kA3 kA4 kA5 kA6 kA7 kA8 kA9 kA10 kA11 kA12 kA13 hE_eA1 hE_eA1 hE_eA2) rfl dc_prog_20_method_2_16 (q := 19) rfl (by decide) rfl (na := 2) (by decide +kernel) rfl (by decide) (W := 0) rfl (by decide) (by decide) (by decide) (k' := 0) (n' := 0) rfl rfl ?_
  rintro _ _ (⟨rfl, rfl⟩ | ⟨rfl, rfl⟩)
  · show Go _ _ _ _ _ _ _ _ _ _ []
    refine Go.aloadN C dc_prog_20_method_2_19 (q := 20) rfl rfl rfl ?_
    refine Go.iconst C dc_prog_20_method_2_20 (q := 21) rfl (v := (1 : Int32)) rfl ?_
    refine Go.putF C (host := "") (i := 6) (j := 2) (Or.inl (wd hw 46 rfl)) Via.refl rfl rfl (Or.inl (wd hw 47 rfl)) (wd hw 1 rfl) (ty := .boolean) (by decide) rfl rfl dc_prog_20_method_2_21 (q := 24) rfl (M' := ((pA4, oHeap (.ref pA5) (.ref pA6) (.int (1 : Int32))) :: (pA5, .inr (.long, (oK64 (.long kA1) (.long kA9) (.long kA10) (.long kA11) (.long kA12) (.long kA13)), true)) :: (pA6, .inr (.object "java/lang/Object", (oE64 (.ref eA1) .null .null .null .null .null), true)) :: (pA1, oRun (.ref pA2) (.ref pA3) (.int (1 : Int32)) (.int (0 : Int32))) :: (pA2, .inr (.long, (oK64 (.long kA2) (.long kA3) (.long kA4) (.long kA5) (.long kA6) (.long kA7)), true)) :: (pA3, .inr (.object "java/lang/Object", (oE64 (.ref eA2) .null .null .null .null .null), true)) :: (pA0, oQ (.ref pA1) (.ref pA4) (.int (1 : Int32)) (.long kA1) (.ref eA1)) :: F)) rfl ?_
    refine Go.aloadN C dc_prog_20_method_2_24 (q := 25) rfl rfl rfl ?_
    refine Go.lloadN C dc_prog_20_method_2_25 (q := 26) rfl rfl ?_
    refine Go.putF C (host := "") (i := 6) (j := 3) (Or.inl (wd hw 86 rfl)) Via.refl rfl rfl (Or.inl (wd hw 87 rfl)) (wd hw 1 rfl) (ty := .long) (by decide) rfl rfl dc_prog_20_method_2_26 (q := 29) rfl (M' := ((pA4, oHeap (.ref pA5) (.ref pA6) (.int (1 : Int32))) :: (pA5, .inr (.long, (oK64 (.long kA1) (.long kA9) (.long kA10) (.long kA11) (.long kA12) (.long kA13)), true)) :: (pA6, .inr (.object "java/lang/Object", (oE64 (.ref eA1) .null .null .null .null .null), true)) :: (pA1, oRun (.ref pA2) (.ref pA3) (.int (1 : Int32)) (.int (0 : Int32))) :: (pA2, .inr (.long, (oK64 (.long kA2) (.long kA3) (.long kA4) (.long kA5) (.long kA6) (.long kA7)), true)) :: (pA3, .inr (.object "java/lang/Object", (oE64 (.ref eA2) .null .null .null .null .null), true)) :: (pA0, oQ (.ref pA1) (.ref pA4) (.int (1 : Int32)) (.long kA0) (.ref eA1)) :: F)) rfl ?_
    refine Go.aloadN C dc_prog_20_method_2_29 (q := 30) rfl rfl rfl ?_
    refine Go.aloadN C dc_prog_20_method_2_30 (q := 31) rfl rfl rfl ?_
    refine Go.putF C (host := "") (i := 6) (j := 4) (Or.inl (wd hw 68 rfl)) Via.refl rfl rfl (Or.inl (wd hw 69 rfl)) (wd hw 1 rfl) (ty := (.object "java/lang/Object")) (by decide) rfl rfl dc_prog_20_method_2_31 (q := 34) rfl (M' := ((pA4, oHeap (.ref pA5) (.ref pA6) (.int (1 : Int32))) :: (pA5, .inr (.long, (oK64 (.long kA1) (.long kA9) (.long kA10) (.long kA11) (.long kA12) (.long kA13)), true)) :: (pA6, .inr (.object "java/lang/Object", (oE64 (.ref eA1) .null .null .null .null .null), true)) :: (pA1, oRun (.ref pA2) (.ref pA3) (.int (1 : Int32)) (.int (0 : Int32))) :: (pA2, .inr (.long, (oK64 (.long kA2) (.long kA3) (.long kA4) (.long kA5) (.long kA6) (.long kA7)), true)) :: (pA3, .inr (.object "java/lang/Object", (oE64 (.ref eA2) .null .null .null .null .null), true)) :: (pA0, oQ (.ref pA1) (.ref pA4) (.int (1 : Int32)) (.long kA0) (.ref eA0)) :: F)) rfl ?_
    refine Go.ret0 C rfl dc_prog_20_method_2_34 (by decide) (by decide) ?_
    exact Or.inl ⟨rfl, rfl⟩
  · show Go _ _ _ _ _ _ _ _ _ _ []
    refine Go.aloadN C dc_prog_20_method_2_19 (q := 20) rfl rfl rfl ?_
    refine Go.iconst C dc_prog_20_method_2_20 (q := 21) rfl (v := (1 : Int32)) rfl ?_
    refine Go.putF C (host := "") (i := 3) (j := 2) (Or.inl (wd hw 46 rfl)) Via.refl rfl rfl (Or.inl (wd hw 47 rfl)) (wd hw 1 rfl) (ty := .boolean) (by decide) rfl rfl dc_prog_20_method_2_21 (q := 24) rfl (M' := ((pA1, oRun (.ref pA2) (.ref pA3) (.int (2 : Int32)) (.int (0 : Int32))) :: (pA2, .inr (.long, (oK64 (.long kA2) (.long kA1) (.long kA4) (.long kA5) (.long kA6) (.long kA7)), true)) :: (pA3, .inr (.object "java/lang/Object", (oE64 (.ref eA2) (.ref eA1) .null .null .null .null), true)) :: (pA0, oQ (.ref pA1) (.ref pA4) (.int (1 : Int32)) (.long kA1) (.ref eA1)) :: (pA4, oHeap (.ref pA5) (.ref pA6) (.int (0 : Int32))) :: (pA5, .inr (.long, (oK64 (.long kA8) (.long kA9) (.long kA10) (.long kA11) (.long kA12) (.long kA13)), true)) :: (pA6, .inr (.object "java/lang/Object", (oE64 .null .null .null .null .null .null), true)) :: F)) rfl ?_
    refine Go.aloadN C dc_prog_20_method_2_24 (q := 25) rfl rfl rfl ?_
    refine Go.lloadN C dc_prog_20_method_2_25 (q := 26) rfl rfl ?_
    refine Go.putF C (host := "") (i := 3) (j := 3) (Or.inl (wd hw 86 rfl)) Via.refl rfl rfl (Or.inl (wd hw 87 rfl)) (wd hw 1 rfl) (ty := .long) (by decide) rfl rfl dc_prog_20_method_2_26 (q := 29) rfl (M' := ((pA1, oRun (.ref pA2) (.ref pA3) (.int (2 : Int32)) (.int (0 : Int32))) :: (pA2, .inr (.long, (oK64 (.long kA2) (.long kA1) (.long kA4) (.long kA5) (.long kA6) (.long kA7)), true)) :: (pA3, .inr (.object "java/lang/Object", (oE64 (.ref eA2) (.ref eA1) .null .null .null .null), true)) :: (pA0, oQ (.ref pA1) (.ref pA4) (.int (1 : Int32)) (.long kA0) (.ref eA1)) :: (pA4, oHeap (.ref pA5) (.ref pA6) (.int (0 : Int32))) :: (pA5, .inr (.long, (oK64 (.long kA8) (.long kA9) (.long kA10) (.long kA11) (.long kA12) (.long kA13)), true)) :: (pA6, .inr (.object "java/lang/Object", (oE64 .null .null .null .null .null .null), true)) :: F)) rfl ?_
    refine Go.aloadN C dc_prog_20_method_2_29 (q := 30) rfl rfl rfl ?_
    refine Go.aloadN C dc_prog_20_method_2_30 (q := 31) rfl rfl rfl ?_
    refine Go.putF C (host := "") (i := 3) (j := 4) (Or.inl (wd hw 68 rfl)) Via.refl rfl rfl (Or.inl (wd hw 69 rfl)) (wd hw 1 rfl) (ty := (.object "java/lang/Object")) (by decide) rfl rfl dc_prog_20_method_2_31 (q := 34) rfl (M' := ((pA1, oRun (.ref pA2) (.ref pA3) (.int (2 : Int32)) (.int (0 : Int32))) :: (pA2, .inr (.long, (oK64 (.long kA2) (.long kA1) (.long kA4) (.long kA5) (.long kA6) (.long kA7)), true)) :: (pA3, .inr (.object "java/lang/Object", (oE64 (.ref eA2) (.ref eA1) .null .null .null .null), true)) :: (pA0, oQ (.ref pA1) (.ref pA4) (.int (1 : Int32)) (.long kA0) (.ref eA0)) :: (pA4, oHeap (.ref pA5) (.ref pA6) (.int (0 : Int32))) :: (pA5, .inr (.long, (oK64 (.long kA8) (.long kA9) (.long kA10) (.long kA11) (.long kA12) (.long kA13)), true)) :: (pA6, .inr (.object "java/lang/Object", (oE64 .null .null .null .null .null .null), true)) :: F)) rfl ?_
    refine Go.ret0 C rfl dc_prog_20_method_2_34 (by decide) (by decide) ?_
    exact Or.inr (⟨rfl, rfl⟩)
set_option maxRecDepth 65536 in
set_option maxHeartbeats 40000000 in
theorem u_SequenceQueue_isEmpty_82 (l : Launch) (Z : State) (a0 : Array Value) (hw : ∀ d ∈ tables_1, d.before a0 Z = true) (F : List Ent) (pA0 pA1 pA2 pA3 pA4 pA5 pA6 eA0 eA1 eA2 : Addr) (kA0 kA1 kA2 kA3 kA4 kA5 kA6 kA7 kA8 kA9 kA10 kA11 kA12 : Int64) (hE_eA0 : Exa Z Z.heap eA0 "java/lang/Integer") (hE_eA1 : Exa Z Z.heap eA1 "java/lang/Integer") (hE_eA2 : Exa Z Z.heap eA2 "java/lang/Integer") :
    Met l Z yN4 prog_20_method_4_code 1 (some .boolean) { frames := 0, cells := 0, slots := 0, locals := 0 } #[(.ref pA0)] ((pA0, oQ (.ref pA1) (.ref pA4) (.int (1 : Int32)) (.long kA0) (.ref eA0)) :: (pA1, oRun (.ref pA2) (.ref pA3) (.int (1 : Int32)) (.int (0 : Int32))) :: (pA2, .inr (.long, (oK64 (.long kA1) (.long kA2) (.long kA3) (.long kA4) (.long kA5) (.long kA6)), true)) :: (pA3, .inr (.object "java/lang/Object", (oE64 (.ref eA1) .null .null .null .null .null), true)) :: (pA4, oHeap (.ref pA5) (.ref pA6) (.int (1 : Int32))) :: (pA5, .inr (.long, (oK64 (.long kA7) (.long kA8) (.long kA9) (.long kA10) (.long kA11) (.long kA12)), true)) :: (pA6, .inr (.object "java/lang/Object", (oE64 (.ref eA2) .null .null .null .null .null), true)) :: F) (fun r M' => (r = (some (.int (0 : Int32))) ∧ M' = ((pA0, oQ (.ref pA1) (.ref pA4) (.int (1 : Int32)) (.long kA0) (.ref eA0)) :: (pA1, oRun (.ref pA2) (.ref pA3) (.int (1 : Int32)) (.int (0 : Int32))) :: (pA2, .inr (.long, (oK64 (.long kA1) (.long kA2) (.long kA3) (.long kA4) (.long kA5) (.long kA6)), true)) :: (pA3, .inr (.object "java/lang/Object", (oE64 (.ref eA1) .null .null .null .null .null), true)) :: (pA4, oHeap (.ref pA5) (.ref pA6) (.int (1 : Int32))) :: (pA5, .inr (.long, (oK64 (.long kA7) (.long kA8) (.long kA9) (.long kA10) (.long kA11) (.long kA12)), true)) :: (pA6, .inr (.object "java/lang/Object", (oE64 (.ref eA2) .null .null .null .null .null), true)) :: F))) := by
  refine Met.of_go pn_4 (Ls := #[.val (.ref pA0)]) (fun m => by first | rfl | (simp [entryFrame, mkF, argsToLocals, Value.category, maxLocals]; done)) ?_
  intro E C
  refine Go.aloadN C dc_prog_20_method_4_0 (q := 1) rfl rfl rfl ?_
  refine Go.getF C (host := "") (Or.inl (wd hw 46 rfl)) Via.refl (fun _ r => r.fld 0 2 rfl rfl) dc_prog_20_method_4_1 (q := 4) rfl ?_
  refine Go.ifYes C dc_prog_20_method_4_4 (by decide) (q := 31) rfl (XT.i0_ne_t (by decide)) ?_
  refine Go.iconst C dc_prog_20_method_4_31 (q := 32) rfl (v := (0 : Int32)) rfl ?_
  refine Go.retZ C rfl (by decide) dc_prog_20_method_4_32 (by decide) (by decide) ?_
  exact ⟨rfl, rfl⟩
set_option maxRecDepth 65536 in
set_option maxHeartbeats 40000000 in
theorem u_SequenceQueue_isEmpty_84 (l : Launch) (Z : State) (a0 : Array Value) (hw : ∀ d ∈ tables_1, d.before a0 Z = true) (F : List Ent) (pA0 pA1 pA2 pA3 pA4 pA5 pA6 eA0 eA1 eA2 : Addr) (kA0 kA1 kA2 kA3 kA4 kA5 kA6 kA7 kA8 kA9 kA10 kA11 kA12 : Int64) (hE_eA0 : Exa Z Z.heap eA0 "java/lang/Integer") (hE_eA1 : Exa Z Z.heap eA1 "java/lang/Integer") (hE_eA2 : Exa Z Z.heap eA2 "java/lang/Integer") :
    Met l Z yN4 prog_20_method_4_code 1 (some .boolean) { frames := 0, cells := 0, slots := 0, locals := 0 } #[(.ref pA0)] ((pA0, oQ (.ref pA1) (.ref pA4) (.int (1 : Int32)) (.long kA0) (.ref eA0)) :: (pA1, oRun (.ref pA2) (.ref pA3) (.int (2 : Int32)) (.int (0 : Int32))) :: (pA2, .inr (.long, (oK64 (.long kA1) (.long kA2) (.long kA3) (.long kA4) (.long kA5) (.long kA6)), true)) :: (pA3, .inr (.object "java/lang/Object", (oE64 (.ref eA1) (.ref eA2) .null .null .null .null), true)) :: (pA4, oHeap (.ref pA5) (.ref pA6) (.int (0 : Int32))) :: (pA5, .inr (.long, (oK64 (.long kA7) (.long kA8) (.long kA9) (.long kA10) (.long kA11) (.long kA12)), true)) :: (pA6, .inr (.object "java/lang/Object", (oE64 .null .null .null .null .null .null), true)) :: F) (fun r M' => (r = (some (.int (0 : Int32))) ∧ M' = ((pA0, oQ (.ref pA1) (.ref pA4) (.int (1 : Int32)) (.long kA0) (.ref eA0)) :: (pA1, oRun (.ref pA2) (.ref pA3) (.int (2 : Int32)) (.int (0 : Int32))) :: (pA2, .inr (.long, (oK64 (.long kA1) (.long kA2) (.long kA3) (.long kA4) (.long kA5) (.long kA6)), true)) :: (pA3, .inr (.object "java/lang/Object", (oE64 (.ref eA1) (.ref eA2) .null .null .null .null), true)) :: (pA4, oHeap (.ref pA5) (.ref pA6) (.int (0 : Int32))) :: (pA5, .inr (.long, (oK64 (.long kA7) (.long kA8) (.long kA9) (.long kA10) (.long kA11) (.long kA12)), true)) :: (pA6, .inr (.object "java/lang/Object", (oE64 .null .null .null .null .null .null), true)) :: F))) := by
  refine Met.of_go pn_4 (Ls := #[.val (.ref pA0)]) (fun m => by first | rfl | (simp [entryFrame, mkF, argsToLocals, Value.category, maxLocals]; done)) ?_
  intro E C
  refine Go.aloadN C dc_prog_20_method_4_0 (q := 1) rfl rfl rfl ?_
  refine Go.getF C (host := "") (Or.inl (wd hw 46 rfl)) Via.refl (fun _ r => r.fld 0 2 rfl rfl) dc_prog_20_method_4_1 (q := 4) rfl ?_
  refine Go.ifYes C dc_prog_20_method_4_4 (by decide) (q := 31) rfl (XT.i0_ne_t (by decide)) ?_
  refine Go.iconst C dc_prog_20_method_4_31 (q := 32) rfl (v := (0 : Int32)) rfl ?_
  refine Go.retZ C rfl (by decide) dc_prog_20_method_4_32 (by decide) (by decide) ?_
  exact ⟨rfl, rfl⟩
set_option maxRecDepth 65536 in
set_option maxHeartbeats 40000000 in
theorem m_valueOf0 (l : Launch) (Z : State) (a0 : Array Value) (hw : ∀ d ∈ tables_1, d.before a0 Z = true) (F : List Ent) (cb : Addr) (cs : List Value) (S_high : Sta Z Z.heap "java/lang/Integer$IntegerCache" "high" "I" (.int (127 : Int32))) (S_cache : Sta Z Z.heap "java/lang/Integer$IntegerCache" "cache" "[Ljava/lang/Integer;" (.ref cb)) (A_cache : ArrIs Z Z.heap cb (.object "java/lang/Integer") cs) (H_cache : ∀ j : Nat, j < 256 → ∃ b, cs[j]? = some (.ref b) ∧ Exa Z Z.heap b "java/lang/Integer" ∧ Fld Z Z.heap b "java/lang/Integer" "value" "I" (.int (j.toInt32 - 128))) :
    Met l Z yN8 jdk_33_method_22_code 1 (some (.object "java/lang/Integer")) { frames := 0, cells := 0, slots := 0, locals := 0 } #[(.int (0 : Int32))] (F) (fun r M' => ∃ b, r = some (.ref b) ∧ M' = F ∧ Exa Z Z.heap b "java/lang/Integer" ∧ Fld Z Z.heap b "java/lang/Integer" "value" "I" (.int (0 : Int32))) := by
  refine Met.of_go pn_8 (Ls := #[.val (.int (0 : Int32))]) (fun m => by first | rfl | (simp [entryFrame, mkF, argsToLocals, Value.category, maxLocals]; done)) ?_
  intro E C
  refine Go.iloadN C dc_jdk_33_method_22_0 (q := 1) rfl rfl ?_
  refine Go.bipush C dc_jdk_33_method_22_1 (q := 3) rfl (v := (-128 : Int32)) (by decide) ?_
  refine Go.icmpNo C dc_jdk_33_method_22_3 (q := 6) rfl (XT.ii_lt_f (by decide)) ?_
  refine Go.iloadN C dc_jdk_33_method_22_6 (q := 7) rfl rfl ?_
  refine Go.getS C (host := "") (Or.inl (wd hw 78 rfl)) Via.refl S_high dc_jdk_33_method_22_7 (q := 10) rfl ?_
  refine Go.icmpNo C dc_jdk_33_method_22_10 (q := 13) rfl (XT.ii_gt_f (by decide)) ?_
  refine Go.getS C (host := "") (Or.inl (wd hw 80 rfl)) Via.refl S_cache dc_jdk_33_method_22_13 (q := 16) rfl ?_
  refine Go.iloadN C dc_jdk_33_method_22_16 (q := 17) rfl rfl ?_
  refine Go.sipush C dc_jdk_33_method_22_17 (q := 20) rfl (v := (128 : Int32)) (by decide) ?_
  refine Go.iadd C dc_jdk_33_method_22_20 (q := 21) rfl ?_
  refine Go.castI (w := (128 : Int32)) (by decide) ?_
  obtain ⟨b, hb1, hb2, hb3⟩ := H_cache 128 (by decide)
  have e : (128 : Nat).toInt32 - 128 = (0 : Int32) := by decide
  rw [e] at hb3
  refine Go.aaload C (fun _ r => (A_cache).ext r.1) rfl (by decide) (v := (.ref b)) hb1 dc_jdk_33_method_22_21 (q := 22) rfl ?_
  refine Go.retA C rfl rfl rfl dc_jdk_33_method_22_22 (by decide) (by decide) ?_
  exact ⟨b, rfl, rfl, hb2, hb3⟩
set_option maxRecDepth 65536 in
set_option maxHeartbeats 40000000 in
theorem u_SequenceQueue_poll_86 (l : Launch) (Z : State) (a0 : Array Value) (hw : ∀ d ∈ tables_1, d.before a0 Z = true) (F : List Ent) (pA0 pA1 pA2 pA3 pA4 pA5 pA6 eA0 : Addr) (kA0 kA1 kA2 kA3 kA4 kA5 kA6 kA7 kA8 kA9 kA10 kA11 kA12 : Int64) (hE_eA0 : Exa Z Z.heap eA0 "java/lang/Integer") :
    Met l Z yN6 prog_20_method_3_code 3 (some (.object "java/lang/Object")) { frames := 2, cells := 0, slots := 0, locals := 28 } #[(.ref pA0)] ((pA0, oQ (.ref pA1) (.ref pA4) (.int (0 : Int32)) (.long kA0) .null) :: (pA1, oRun (.ref pA2) (.ref pA3) (.int (1 : Int32)) (.int (0 : Int32))) :: (pA2, .inr (.long, (oK64 (.long kA1) (.long kA2) (.long kA3) (.long kA4) (.long kA5) (.long kA6)), true)) :: (pA3, .inr (.object "java/lang/Object", (oE64 (.ref eA0) .null .null .null .null .null), true)) :: (pA4, oHeap (.ref pA5) (.ref pA6) (.int (0 : Int32))) :: (pA5, .inr (.long, (oK64 (.long kA7) (.long kA8) (.long kA9) (.long kA10) (.long kA11) (.long kA12)), true)) :: (pA6, .inr (.object "java/lang/Object", (oE64 .null .null .null .null .null .null), true)) :: F) (fun r M' => (r = (some (.ref eA0)) ∧ M' = ((pA1, oRun (.ref pA2) (.ref pA3) (.int (0 : Int32)) (.int (1 : Int32))) :: (pA2, .inr (.long, (oK64 (.long kA1) (.long kA2) (.long kA3) (.long kA4) (.long kA5) (.long kA6)), true)) :: (pA3, .inr (.object "java/lang/Object", (oE64 .null .null .null .null .null .null), true)) :: (pA0, oQ (.ref pA1) (.ref pA4) (.int (0 : Int32)) (.long kA0) .null) :: (pA4, oHeap (.ref pA5) (.ref pA6) (.int (0 : Int32))) :: (pA5, .inr (.long, (oK64 (.long kA7) (.long kA8) (.long kA9) (.long kA10) (.long kA11) (.long kA12)), true)) :: (pA6, .inr (.object "java/lang/Object", (oE64 .null .null .null .null .null .null), true)) :: F))) := by
  refine Met.of_go pn_6 (Ls := #[.val (.ref pA0), .unset, .unset]) (fun m => by first | rfl | (simp [entryFrame, mkF, argsToLocals, Value.category, maxLocals]; done)) ?_
  intro E C
  refine Go.aloadN C dc_prog_20_method_3_0 (q := 1) rfl rfl rfl ?_
  refine Go.getF C (host := "") (Or.inl (wd hw 46 rfl)) Via.refl (fun _ r => r.fld 0 2 rfl rfl) dc_prog_20_method_3_1 (q := 4) rfl ?_
  refine Go.ifYes C dc_prog_20_method_3_4 (by decide) (q := 75) rfl (XT.i0_eq_t (by decide)) ?_
  refine Go.aloadN C dc_prog_20_method_3_75 (q := 76) rfl rfl rfl ?_
  refine Go.getF C (host := "") (Or.inl (wd hw 46 rfl)) Via.refl (fun _ r => r.fld 0 2 rfl rfl) dc_prog_20_method_3_76 (q := 79) rfl ?_
  refine Go.ifYes C dc_prog_20_method_3_79 (by decide) (q := 94) rfl (XT.i0_eq_t (by decide)) ?_
  refine Go.aloadN C dc_prog_20_method_3_94 (q := 95) rfl rfl rfl ?_
  refine Go.getF C (host := "") (Or.inl (wd hw 39 rfl)) Via.refl (fun _ r => r.fld 0 1 rfl rfl) dc_prog_20_method_3_95 (q := 98) rfl ?_
  refine Go.getF C (host := "") (Or.inl (wd hw 51 rfl)) (Via.of (wd hw 52 rfl)) (fun _ r => r.fld 4 2 rfl rfl) dc_prog_20_method_3_98 (q := 101) rfl ?_
  refine Go.ifYes C dc_prog_20_method_3_101 (by decide) (q := 142) rfl (XT.i0_eq_t (by decide)) ?_
  refine Go.aloadN C dc_prog_20_method_3_142 (q := 143) rfl rfl rfl ?_
  refine Go.getF C (host := "") (Or.inl (wd hw 28 rfl)) Via.refl (fun _ r => r.fld 0 0 rfl rfl) dc_prog_20_method_3_143 (q := 146) rfl ?_
  refine Go.pick (M' := ((pA1, oRun (.ref pA2) (.ref pA3) (.int (1 : Int32)) (.int (0 : Int32))) :: (pA2, .inr (.long, (oK64 (.long kA1) (.long kA2) (.long kA3) (.long kA4) (.long kA5) (.long kA6)), true)) :: (pA3, .inr (.object "java/lang/Object", (oE64 (.ref eA0) .null .null .null .null .null), true)) :: (pA0, oQ (.ref pA1) (.ref pA4) (.int (0 : Int32)) (.long kA0) .null) :: (pA4, oHeap (.ref pA5) (.ref pA6) (.int (0 : Int32))) :: (pA5, .inr (.long, (oK64 (.long kA7) (.long kA8) (.long kA9) (.long kA10) (.long kA11) (.long kA12)), true)) :: (pA6, .inr (.object "java/lang/Object", (oE64 .null .null .null .null .null .null), true)) :: F)) 7 [1, 2, 3, 0, 4, 5, 6] (by decide) (by decide) rfl ?_
  refine Go.callPR C (y := yN5) (a := pA1) (as := []) (rest := []) (wd hw 59 rfl) (wd hw 60 rfl) (sel_priv (y := yN5) (wd hw 10 rfl) (wd hw 60 rfl) (wd hw 61 rfl) (by decide)) (wd hw 61 rfl) (wd hw 62 rfl) (wd hw 11 rfl) (fun _ r => r.exa 0 rfl) (u_SequenceQueue_Run_poll_59 l Z a0 hw _ pA1 pA2 pA3 eA0 kA1 kA2 kA3 kA4 kA5 kA6 hE_eA0) rfl dc_prog_20_method_3_146 (q := 149) rfl (by decide) rfl (na := 0) (by decide +kernel) rfl (by decide) (W := 0) rfl (by decide) (by decide) (by decide) (k' := 0) (n' := 0) rfl rfl ?_
  rintro _ _ ⟨rfl, rfl⟩
  show Go _ _ _ _ _ _ _ _ _ _ [(.ref eA0)]
  refine Go.astoreN C dc_prog_20_method_3_149 (q := 150) rfl rfl (Ls' := #[.val (.ref pA0), .val (.ref eA0), .unset]) rfl ?_
  refine Go.goto C dc_prog_20_method_3_150 (by decide) (q := 161) rfl ?_
  refine Go.aloadN C dc_prog_20_method_3_161 (q := 162) rfl rfl rfl ?_
  refine Go.iconst C dc_prog_20_method_3_162 (q := 163) rfl (v := (0 : Int32)) rfl ?_
  refine Go.putF C (host := "") (i := 3) (j := 2) (Or.inl (wd hw 46 rfl)) Via.refl rfl rfl (Or.inl (wd hw 47 rfl)) (wd hw 1 rfl) (ty := .boolean) (by decide) rfl rfl dc_prog_20_method_3_163 (q := 166) rfl (M' := ((pA1, oRun (.ref pA2) (.ref pA3) (.int (0 : Int32)) (.int (1 : Int32))) :: (pA2, .inr (.long, (oK64 (.long kA1) (.long kA2) (.long kA3) (.long kA4) (.long kA5) (.long kA6)), true)) :: (pA3, .inr (.object "java/lang/Object", (oE64 .null .null .null .null .null .null), true)) :: (pA0, oQ (.ref pA1) (.ref pA4) (.int (0 : Int32)) (.long kA0) .null) :: (pA4, oHeap (.ref pA5) (.ref pA6) (.int (0 : Int32))) :: (pA5, .inr (.long, (oK64 (.long kA7) (.long kA8) (.long kA9) (.long kA10) (.long kA11) (.long kA12)), true)) :: (pA6, .inr (.object "java/lang/Object", (oE64 .null .null .null .null .null .null), true)) :: F)) rfl ?_
  refine Go.aloadN C dc_prog_20_method_3_166 (q := 167) rfl rfl rfl ?_
  refine Go.aconstNull C dc_prog_20_method_3_167 (q := 168) rfl ?_
  refine Go.putF C (host := "") (i := 3) (j := 4) (Or.inl (wd hw 68 rfl)) Via.refl rfl rfl (Or.inl (wd hw 69 rfl)) (wd hw 1 rfl) (ty := (.object "java/lang/Object")) (by decide) rfl rfl dc_prog_20_method_3_168 (q := 171) rfl (M' := ((pA1, oRun (.ref pA2) (.ref pA3) (.int (0 : Int32)) (.int (1 : Int32))) :: (pA2, .inr (.long, (oK64 (.long kA1) (.long kA2) (.long kA3) (.long kA4) (.long kA5) (.long kA6)), true)) :: (pA3, .inr (.object "java/lang/Object", (oE64 .null .null .null .null .null .null), true)) :: (pA0, oQ (.ref pA1) (.ref pA4) (.int (0 : Int32)) (.long kA0) .null) :: (pA4, oHeap (.ref pA5) (.ref pA6) (.int (0 : Int32))) :: (pA5, .inr (.long, (oK64 (.long kA7) (.long kA8) (.long kA9) (.long kA10) (.long kA11) (.long kA12)), true)) :: (pA6, .inr (.object "java/lang/Object", (oE64 .null .null .null .null .null .null), true)) :: F)) rfl ?_
  refine Go.aloadN C dc_prog_20_method_3_171 (q := 172) rfl rfl rfl ?_
  refine Go.astoreN C dc_prog_20_method_3_172 (q := 173) rfl rfl (Ls' := #[.val (.ref pA0), .val (.ref eA0), .val (.ref eA0)]) rfl ?_
  refine Go.aloadN C dc_prog_20_method_3_173 (q := 174) rfl rfl rfl ?_
  refine Go.retA C rfl rfl rfl dc_prog_20_method_3_174 (by decide) (by decide) ?_
  exact ⟨rfl, rfl⟩
set_option maxRecDepth 65536 in
set_option maxHeartbeats 40000000 in
theorem u_SequenceQueue_isEmpty_88 (l : Launch) (Z : State) (a0 : Array Value) (hw : ∀ d ∈ tables_1, d.before a0 Z = true) (F : List Ent) (pA0 pA1 pA2 pA3 pA4 pA5 pA6 : Addr) (kA0 kA1 kA2 kA3 kA4 kA5 kA6 kA7 kA8 kA9 kA10 kA11 kA12 : Int64)  :
    Met l Z yN4 prog_20_method_4_code 1 (some .boolean) { frames := 0, cells := 0, slots := 0, locals := 0 } #[(.ref pA0)] ((pA0, oQ (.ref pA1) (.ref pA4) (.int (0 : Int32)) (.long kA0) .null) :: (pA1, oRun (.ref pA2) (.ref pA3) (.int (0 : Int32)) (.int (1 : Int32))) :: (pA2, .inr (.long, (oK64 (.long kA1) (.long kA2) (.long kA3) (.long kA4) (.long kA5) (.long kA6)), true)) :: (pA3, .inr (.object "java/lang/Object", (oE64 .null .null .null .null .null .null), true)) :: (pA4, oHeap (.ref pA5) (.ref pA6) (.int (0 : Int32))) :: (pA5, .inr (.long, (oK64 (.long kA7) (.long kA8) (.long kA9) (.long kA10) (.long kA11) (.long kA12)), true)) :: (pA6, .inr (.object "java/lang/Object", (oE64 .null .null .null .null .null .null), true)) :: F) (fun r M' => (r = (some (.int (1 : Int32))) ∧ M' = ((pA0, oQ (.ref pA1) (.ref pA4) (.int (0 : Int32)) (.long kA0) .null) :: (pA1, oRun (.ref pA2) (.ref pA3) (.int (0 : Int32)) (.int (1 : Int32))) :: (pA2, .inr (.long, (oK64 (.long kA1) (.long kA2) (.long kA3) (.long kA4) (.long kA5) (.long kA6)), true)) :: (pA3, .inr (.object "java/lang/Object", (oE64 .null .null .null .null .null .null), true)) :: (pA4, oHeap (.ref pA5) (.ref pA6) (.int (0 : Int32))) :: (pA5, .inr (.long, (oK64 (.long kA7) (.long kA8) (.long kA9) (.long kA10) (.long kA11) (.long kA12)), true)) :: (pA6, .inr (.object "java/lang/Object", (oE64 .null .null .null .null .null .null), true)) :: F))) := by
  refine Met.of_go pn_4 (Ls := #[.val (.ref pA0)]) (fun m => by first | rfl | (simp [entryFrame, mkF, argsToLocals, Value.category, maxLocals]; done)) ?_
  intro E C
  refine Go.aloadN C dc_prog_20_method_4_0 (q := 1) rfl rfl rfl ?_
  refine Go.getF C (host := "") (Or.inl (wd hw 46 rfl)) Via.refl (fun _ r => r.fld 0 2 rfl rfl) dc_prog_20_method_4_1 (q := 4) rfl ?_
  refine Go.ifNo C dc_prog_20_method_4_4 (q := 7) rfl (XT.i0_ne_f (by decide)) ?_
  refine Go.aloadN C dc_prog_20_method_4_7 (q := 8) rfl rfl rfl ?_
  refine Go.getF C (host := "") (Or.inl (wd hw 28 rfl)) Via.refl (fun _ r => r.fld 0 0 rfl rfl) dc_prog_20_method_4_8 (q := 11) rfl ?_
  refine Go.getF C (host := "") (Or.inl (wd hw 48 rfl)) (Via.of (wd hw 49 rfl)) (fun _ r => r.fld 1 2 rfl rfl) dc_prog_20_method_4_11 (q := 14) rfl ?_
  refine Go.ifNo C dc_prog_20_method_4_14 (q := 17) rfl (XT.i0_ne_f (by decide)) ?_
  refine Go.aloadN C dc_prog_20_method_4_17 (q := 18) rfl rfl rfl ?_
  refine Go.getF C (host := "") (Or.inl (wd hw 39 rfl)) Via.refl (fun _ r => r.fld 0 1 rfl rfl) dc_prog_20_method_4_18 (q := 21) rfl ?_
  refine Go.getF C (host := "") (Or.inl (wd hw 51 rfl)) (Via.of (wd hw 52 rfl)) (fun _ r => r.fld 4 2 rfl rfl) dc_prog_20_method_4_21 (q := 24) rfl ?_
  refine Go.ifNo C dc_prog_20_method_4_24 (q := 27) rfl (XT.i0_ne_f (by decide)) ?_
  refine Go.iconst C dc_prog_20_method_4_27 (q := 28) rfl (v := (1 : Int32)) rfl ?_
  refine Go.goto C dc_prog_20_method_4_28 (by decide) (q := 32) rfl ?_
  refine Go.retZ C rfl (by decide) dc_prog_20_method_4_32 (by decide) (by decide) ?_
  exact ⟨rfl, rfl⟩
set_option maxRecDepth 65536 in
set_option maxHeartbeats 40000000 in
theorem u_SequenceQueue_add_90 (l : Launch) (Z : State) (a0 : Array Value) (hw : ∀ d ∈ tables_1, d.before a0 Z = true) (F : List Ent) (pA0 pA1 pA2 pA3 pA4 pA5 pA6 eA0 eA1 : Addr) (kA0 kA1 kA2 kA3 kA4 kA5 kA6 kA7 kA8 kA9 kA10 kA11 kA12 kA13 : Int64) (hE_eA0 : Exa Z Z.heap eA0 "java/lang/Integer") (hE_eA1 : Exa Z Z.heap eA1 "java/lang/Integer") :
    Met l Z yN9 prog_20_method_2_code 4 none { frames := 0, cells := 0, slots := 0, locals := 0 } #[(.ref pA0), (.long kA0), (.ref eA0)] ((pA0, oQ (.ref pA1) (.ref pA4) (.int (0 : Int32)) (.long kA1) .null) :: (pA1, oRun (.ref pA2) (.ref pA3) (.int (1 : Int32)) (.int (0 : Int32))) :: (pA2, .inr (.long, (oK64 (.long kA2) (.long kA3) (.long kA4) (.long kA5) (.long kA6) (.long kA7)), true)) :: (pA3, .inr (.object "java/lang/Object", (oE64 (.ref eA1) .null .null .null .null .null), true)) :: (pA4, oHeap (.ref pA5) (.ref pA6) (.int (0 : Int32))) :: (pA5, .inr (.long, (oK64 (.long kA8) (.long kA9) (.long kA10) (.long kA11) (.long kA12) (.long kA13)), true)) :: (pA6, .inr (.object "java/lang/Object", (oE64 .null .null .null .null .null .null), true)) :: F) (fun r M' => (r = none ∧ M' = ((pA0, oQ (.ref pA1) (.ref pA4) (.int (1 : Int32)) (.long kA0) (.ref eA0)) :: (pA1, oRun (.ref pA2) (.ref pA3) (.int (1 : Int32)) (.int (0 : Int32))) :: (pA2, .inr (.long, (oK64 (.long kA2) (.long kA3) (.long kA4) (.long kA5) (.long kA6) (.long kA7)), true)) :: (pA3, .inr (.object "java/lang/Object", (oE64 (.ref eA1) .null .null .null .null .null), true)) :: (pA4, oHeap (.ref pA5) (.ref pA6) (.int (0 : Int32))) :: (pA5, .inr (.long, (oK64 (.long kA8) (.long kA9) (.long kA10) (.long kA11) (.long kA12) (.long kA13)), true)) :: (pA6, .inr (.object "java/lang/Object", (oE64 .null .null .null .null .null .null), true)) :: F))) := by
  refine Met.of_go pn_9 (Ls := #[.val (.ref pA0), .val (.long kA0), .second, .val (.ref eA0)]) (fun m => by first | rfl | (simp [entryFrame, mkF, argsToLocals, Value.category, maxLocals]; done)) ?_
  intro E C
  refine Go.aloadN C dc_prog_20_method_2_0 (q := 1) rfl rfl rfl ?_
  refine Go.getF C (host := "") (Or.inl (wd hw 46 rfl)) Via.refl (fun _ r => r.fld 0 2 rfl rfl) dc_prog_20_method_2_1 (q := 4) rfl ?_
  refine Go.ifYes C dc_prog_20_method_2_4 (by decide) (q := 19) rfl (XT.i0_eq_t (by decide)) ?_
  refine Go.aloadN C dc_prog_20_method_2_19 (q := 20) rfl rfl rfl ?_
  refine Go.iconst C dc_prog_20_method_2_20 (q := 21) rfl (v := (1 : Int32)) rfl ?_
  refine Go.putF C (host := "") (i := 0) (j := 2) (Or.inl (wd hw 46 rfl)) Via.refl rfl rfl (Or.inl (wd hw 47 rfl)) (wd hw 1 rfl) (ty := .boolean) (by decide) rfl rfl dc_prog_20_method_2_21 (q := 24) rfl (M' := ((pA0, oQ (.ref pA1) (.ref pA4) (.int (1 : Int32)) (.long kA1) .null) :: (pA1, oRun (.ref pA2) (.ref pA3) (.int (1 : Int32)) (.int (0 : Int32))) :: (pA2, .inr (.long, (oK64 (.long kA2) (.long kA3) (.long kA4) (.long kA5) (.long kA6) (.long kA7)), true)) :: (pA3, .inr (.object "java/lang/Object", (oE64 (.ref eA1) .null .null .null .null .null), true)) :: (pA4, oHeap (.ref pA5) (.ref pA6) (.int (0 : Int32))) :: (pA5, .inr (.long, (oK64 (.long kA8) (.long kA9) (.long kA10) (.long kA11) (.long kA12) (.long kA13)), true)) :: (pA6, .inr (.object "java/lang/Object", (oE64 .null .null .null .null .null .null), true)) :: F)) rfl ?_
  refine Go.aloadN C dc_prog_20_method_2_24 (q := 25) rfl rfl rfl ?_
  refine Go.lloadN C dc_prog_20_method_2_25 (q := 26) rfl rfl ?_
  refine Go.putF C (host := "") (i := 0) (j := 3) (Or.inl (wd hw 86 rfl)) Via.refl rfl rfl (Or.inl (wd hw 87 rfl)) (wd hw 1 rfl) (ty := .long) (by decide) rfl rfl dc_prog_20_method_2_26 (q := 29) rfl (M' := ((pA0, oQ (.ref pA1) (.ref pA4) (.int (1 : Int32)) (.long kA0) .null) :: (pA1, oRun (.ref pA2) (.ref pA3) (.int (1 : Int32)) (.int (0 : Int32))) :: (pA2, .inr (.long, (oK64 (.long kA2) (.long kA3) (.long kA4) (.long kA5) (.long kA6) (.long kA7)), true)) :: (pA3, .inr (.object "java/lang/Object", (oE64 (.ref eA1) .null .null .null .null .null), true)) :: (pA4, oHeap (.ref pA5) (.ref pA6) (.int (0 : Int32))) :: (pA5, .inr (.long, (oK64 (.long kA8) (.long kA9) (.long kA10) (.long kA11) (.long kA12) (.long kA13)), true)) :: (pA6, .inr (.object "java/lang/Object", (oE64 .null .null .null .null .null .null), true)) :: F)) rfl ?_
  refine Go.aloadN C dc_prog_20_method_2_29 (q := 30) rfl rfl rfl ?_
  refine Go.aloadN C dc_prog_20_method_2_30 (q := 31) rfl rfl rfl ?_
  refine Go.putF C (host := "") (i := 0) (j := 4) (Or.inl (wd hw 68 rfl)) Via.refl rfl rfl (Or.inl (wd hw 69 rfl)) (wd hw 1 rfl) (ty := (.object "java/lang/Object")) (by decide) rfl rfl dc_prog_20_method_2_31 (q := 34) rfl (M' := ((pA0, oQ (.ref pA1) (.ref pA4) (.int (1 : Int32)) (.long kA0) (.ref eA0)) :: (pA1, oRun (.ref pA2) (.ref pA3) (.int (1 : Int32)) (.int (0 : Int32))) :: (pA2, .inr (.long, (oK64 (.long kA2) (.long kA3) (.long kA4) (.long kA5) (.long kA6) (.long kA7)), true)) :: (pA3, .inr (.object "java/lang/Object", (oE64 (.ref eA1) .null .null .null .null .null), true)) :: (pA4, oHeap (.ref pA5) (.ref pA6) (.int (0 : Int32))) :: (pA5, .inr (.long, (oK64 (.long kA8) (.long kA9) (.long kA10) (.long kA11) (.long kA12) (.long kA13)), true)) :: (pA6, .inr (.object "java/lang/Object", (oE64 .null .null .null .null .null .null), true)) :: F)) rfl ?_
  refine Go.ret0 C rfl dc_prog_20_method_2_34 (by decide) (by decide) ?_
  exact ⟨rfl, rfl⟩
set_option maxRecDepth 65536 in
set_option maxHeartbeats 40000000 in
theorem u_SequenceQueue_poll_92 (l : Launch) (Z : State) (a0 : Array Value) (hw : ∀ d ∈ tables_1, d.before a0 Z = true) (F : List Ent) (pA0 pA1 pA2 pA3 pA4 pA5 pA6 eA0 : Addr) (kA0 kA1 kA2 kA3 kA4 kA5 kA6 kA7 kA8 kA9 kA10 kA11 kA12 : Int64) (hE_eA0 : Exa Z Z.heap eA0 "java/lang/Integer") :
    Met l Z yN6 prog_20_method_3_code 3 (some (.object "java/lang/Object")) { frames := 2, cells := 0, slots := 0, locals := 31 } #[(.ref pA0)] ((pA0, oQ (.ref pA1) (.ref pA4) (.int (0 : Int32)) (.long kA0) .null) :: (pA1, oRun (.ref pA2) (.ref pA3) (.int (0 : Int32)) (.int (1 : Int32))) :: (pA2, .inr (.long, (oK64 (.long kA1) (.long kA2) (.long kA3) (.long kA4) (.long kA5) (.long kA6)), true)) :: (pA3, .inr (.object "java/lang/Object", (oE64 .null .null .null .null .null .null), true)) :: (pA4, oHeap (.ref pA5) (.ref pA6) (.int (1 : Int32))) :: (pA5, .inr (.long, (oK64 (.long kA7) (.long kA8) (.long kA9) (.long kA10) (.long kA11) (.long kA12)), true)) :: (pA6, .inr (.object "java/lang/Object", (oE64 (.ref eA0) .null .null .null .null .null), true)) :: F) (fun r M' => (r = (some (.ref eA0)) ∧ M' = ((pA4, oHeap (.ref pA5) (.ref pA6) (.int (0 : Int32))) :: (pA5, .inr (.long, (oK64 (.long kA7) (.long kA8) (.long kA9) (.long kA10) (.long kA11) (.long kA12)), true)) :: (pA6, .inr (.object "java/lang/Object", (oE64 .null .null .null .null .null .null), true)) :: (pA0, oQ (.ref pA1) (.ref pA4) (.int (0 : Int32)) (.long kA0) .null) :: (pA1, oRun (.ref pA2) (.ref pA3) (.int (0 : Int32)) (.int (1 : Int32))) :: (pA2, .inr (.long, (oK64 (.long kA1) (.long kA2) (.long kA3) (.long kA4) (.long kA5) (.long kA6)), true)) :: (pA3, .inr (.object "java/lang/Object", (oE64 .null .null .null .null .null .null), true)) :: F))) := by
  refine Met.of_go pn_6 (Ls := #[.val (.ref pA0), .unset, .unset]) (fun m => by first | rfl | (simp [entryFrame, mkF, argsToLocals, Value.category, maxLocals]; done)) ?_
  intro E C
  refine Go.aloadN C dc_prog_20_method_3_0 (q := 1) rfl rfl rfl ?_
  refine Go.getF C (host := "") (Or.inl (wd hw 46 rfl)) Via.refl (fun _ r => r.fld 0 2 rfl rfl) dc_prog_20_method_3_1 (q := 4) rfl ?_
  refine Go.ifYes C dc_prog_20_method_3_4 (by decide) (q := 75) rfl (XT.i0_eq_t (by decide)) ?_
  refine Go.aloadN C dc_prog_20_method_3_75 (q := 76) rfl rfl rfl ?_
  refine Go.getF C (host := "") (Or.inl (wd hw 46 rfl)) Via.refl (fun _ r => r.fld 0 2 rfl rfl) dc_prog_20_method_3_76 (q := 79) rfl ?_
  refine Go.ifYes C dc_prog_20_method_3_79 (by decide) (q := 94) rfl (XT.i0_eq_t (by decide)) ?_
  refine Go.aloadN C dc_prog_20_method_3_94 (q := 95) rfl rfl rfl ?_
  refine Go.getF C (host := "") (Or.inl (wd hw 39 rfl)) Via.refl (fun _ r => r.fld 0 1 rfl rfl) dc_prog_20_method_3_95 (q := 98) rfl ?_
  refine Go.getF C (host := "") (Or.inl (wd hw 51 rfl)) (Via.of (wd hw 52 rfl)) (fun _ r => r.fld 4 2 rfl rfl) dc_prog_20_method_3_98 (q := 101) rfl ?_
  refine Go.ifNo C dc_prog_20_method_3_101 (q := 104) rfl (XT.i0_eq_f (by decide)) ?_
  refine Go.aloadN C dc_prog_20_method_3_104 (q := 105) rfl rfl rfl ?_
  refine Go.getF C (host := "") (Or.inl (wd hw 28 rfl)) Via.refl (fun _ r => r.fld 0 0 rfl rfl) dc_prog_20_method_3_105 (q := 108) rfl ?_
  refine Go.getF C (host := "") (Or.inl (wd hw 48 rfl)) (Via.of (wd hw 49 rfl)) (fun _ r => r.fld 1 2 rfl rfl) dc_prog_20_method_3_108 (q := 111) rfl ?_
  refine Go.ifYes C dc_prog_20_method_3_111 (by decide) (q := 153) rfl (XT.i0_le_t (by decide)) ?_
  refine Go.aloadN C dc_prog_20_method_3_153 (q := 154) rfl rfl rfl ?_
  refine Go.getF C (host := "") (Or.inl (wd hw 39 rfl)) Via.refl (fun _ r => r.fld 0 1 rfl rfl) dc_prog_20_method_3_154 (q := 157) rfl ?_
  refine Go.pick (M' := ((pA4, oHeap (.ref pA5) (.ref pA6) (.int (1 : Int32))) :: (pA5, .inr (.long, (oK64 (.long kA7) (.long kA8) (.long kA9) (.long kA10) (.long kA11) (.long kA12)), true)) :: (pA6, .inr (.object "java/lang/Object", (oE64 (.ref eA0) .null .null .null .null .null), true)) :: (pA0, oQ (.ref pA1) (.ref pA4) (.int (0 : Int32)) (.long kA0) .null) :: (pA1, oRun (.ref pA2) (.ref pA3) (.int (0 : Int32)) (.int (1 : Int32))) :: (pA2, .inr (.long, (oK64 (.long kA1) (.long kA2) (.long kA3) (.long kA4) (.long kA5) (.long kA6)), true)) :: (pA3, .inr (.object "java/lang/Object", (oE64 .null .null .null .null .null .null), true)) :: F)) 7 [4, 5, 6, 0, 1, 2, 3] (by decide) (by decide) rfl ?_
  refine Go.callPR C (y := yN20) (a := pA4) (as := []) (rest := []) (wd hw 135 rfl) (wd hw 136 rfl) (sel_priv (y := yN20) (wd hw 31 rfl) (wd hw 136 rfl) (wd hw 137 rfl) (by decide)) (wd hw 137 rfl) (wd hw 138 rfl) (wd hw 32 rfl) (fun _ r => r.exa 0 rfl) (u_SequenceQueue_Heap_poll_55 l Z a0 hw _ pA4 pA5 pA6 eA0 kA7 kA8 kA9 kA10 kA11 kA12 hE_eA0) rfl dc_prog_20_method_3_157 (q := 160) rfl (by decide) rfl (na := 0) (by decide +kernel) rfl (by decide) (W := 0) rfl (by decide) (by decide) (by decide) (k' := 0) (n' := 0) rfl rfl ?_
  rintro _ _ ⟨rfl, rfl⟩
  show Go _ _ _ _ _ _ _ _ _ _ [(.ref eA0)]
  refine Go.astoreN C dc_prog_20_method_3_160 (q := 161) rfl rfl (Ls' := #[.val (.ref pA0), .val (.ref eA0), .unset]) rfl ?_
  refine Go.aloadN C dc_prog_20_method_3_161 (q := 162) rfl rfl rfl ?_
  refine Go.iconst C dc_prog_20_method_3_162 (q := 163) rfl (v := (0 : Int32)) rfl ?_
  refine Go.putF C (host := "") (i := 3) (j := 2) (Or.inl (wd hw 46 rfl)) Via.refl rfl rfl (Or.inl (wd hw 47 rfl)) (wd hw 1 rfl) (ty := .boolean) (by decide) rfl rfl dc_prog_20_method_3_163 (q := 166) rfl (M' := ((pA4, oHeap (.ref pA5) (.ref pA6) (.int (0 : Int32))) :: (pA5, .inr (.long, (oK64 (.long kA7) (.long kA8) (.long kA9) (.long kA10) (.long kA11) (.long kA12)), true)) :: (pA6, .inr (.object "java/lang/Object", (oE64 .null .null .null .null .null .null), true)) :: (pA0, oQ (.ref pA1) (.ref pA4) (.int (0 : Int32)) (.long kA0) .null) :: (pA1, oRun (.ref pA2) (.ref pA3) (.int (0 : Int32)) (.int (1 : Int32))) :: (pA2, .inr (.long, (oK64 (.long kA1) (.long kA2) (.long kA3) (.long kA4) (.long kA5) (.long kA6)), true)) :: (pA3, .inr (.object "java/lang/Object", (oE64 .null .null .null .null .null .null), true)) :: F)) rfl ?_
  refine Go.aloadN C dc_prog_20_method_3_166 (q := 167) rfl rfl rfl ?_
  refine Go.aconstNull C dc_prog_20_method_3_167 (q := 168) rfl ?_
  refine Go.putF C (host := "") (i := 3) (j := 4) (Or.inl (wd hw 68 rfl)) Via.refl rfl rfl (Or.inl (wd hw 69 rfl)) (wd hw 1 rfl) (ty := (.object "java/lang/Object")) (by decide) rfl rfl dc_prog_20_method_3_168 (q := 171) rfl (M' := ((pA4, oHeap (.ref pA5) (.ref pA6) (.int (0 : Int32))) :: (pA5, .inr (.long, (oK64 (.long kA7) (.long kA8) (.long kA9) (.long kA10) (.long kA11) (.long kA12)), true)) :: (pA6, .inr (.object "java/lang/Object", (oE64 .null .null .null .null .null .null), true)) :: (pA0, oQ (.ref pA1) (.ref pA4) (.int (0 : Int32)) (.long kA0) .null) :: (pA1, oRun (.ref pA2) (.ref pA3) (.int (0 : Int32)) (.int (1 : Int32))) :: (pA2, .inr (.long, (oK64 (.long kA1) (.long kA2) (.long kA3) (.long kA4) (.long kA5) (.long kA6)), true)) :: (pA3, .inr (.object "java/lang/Object", (oE64 .null .null .null .null .null .null), true)) :: F)) rfl ?_
  refine Go.aloadN C dc_prog_20_method_3_171 (q := 172) rfl rfl rfl ?_
  refine Go.astoreN C dc_prog_20_method_3_172 (q := 173) rfl rfl (Ls' := #[.val (.ref pA0), .val (.ref eA0), .val (.ref eA0)]) rfl ?_
  refine Go.aloadN C dc_prog_20_method_3_173 (q := 174) rfl rfl rfl ?_
  refine Go.retA C rfl rfl rfl dc_prog_20_method_3_174 (by decide) (by decide) ?_
  exact ⟨rfl, rfl⟩
set_option maxRecDepth 65536 in
set_option maxHeartbeats 40000000 in
theorem u_SequenceQueue_add_94 (l : Launch) (Z : State) (a0 : Array Value) (hw : ∀ d ∈ tables_1, d.before a0 Z = true) (F : List Ent) (pA0 pA1 pA2 pA3 pA4 pA5 pA6 eA0 eA1 : Addr) (kA0 kA1 kA2 kA3 kA4 kA5 kA6 kA7 kA8 kA9 kA10 kA11 kA12 kA13 : Int64) (hE_eA0 : Exa Z Z.heap eA0 "java/lang/Integer") (hE_eA1 : Exa Z Z.heap eA1 "java/lang/Integer") :
    Met l Z yN9 prog_20_method_2_code 4 none { frames := 0, cells := 0, slots := 0, locals := 0 } #[(.ref pA0), (.long kA0), (.ref eA0)] ((pA0, oQ (.ref pA1) (.ref pA4) (.int (0 : Int32)) (.long kA1) .null) :: (pA1, oRun (.ref pA2) (.ref pA3) (.int (0 : Int32)) (.int (1 : Int32))) :: (pA2, .inr (.long, (oK64 (.long kA2) (.long kA3) (.long kA4) (.long kA5) (.long kA6) (.long kA7)), true)) :: (pA3, .inr (.object "java/lang/Object", (oE64 .null .null .null .null .null .null), true)) :: (pA4, oHeap (.ref pA5) (.ref pA6) (.int (1 : Int32))) :: (pA5, .inr (.long, (oK64 (.long kA8) (.long kA9) (.long kA10) (.long kA11) (.long kA12) (.long kA13)), true)) :: (pA6, .inr (.object "java/lang/Object", (oE64 (.ref eA1) .null .null .null .null .null), true)) :: F) (fun r M' => (r = none ∧ M' = ((pA0, oQ (.ref pA1) (.ref pA4) (.int (1 : Int32)) (.long kA0) (.ref eA0)) :: (pA1, oRun (.ref pA2) (.ref pA3) (.int (0 : Int32)) (.int (1 : Int32))) :: (pA2, .inr (.long, (oK64 (.long kA2) (.long kA3) (.long kA4) (.long kA5) (.long kA6) (.long kA7)), true)) :: (pA3, .inr (.object "java/lang/Object", (oE64 .null .null .null .null .null .null), true)) :: (pA4, oHeap (.ref pA5) (.ref pA6) (.int (1 : Int32))) :: (pA5, .inr (.long, (oK64 (.long kA8) (.long kA9) (.long kA10) (.long kA11) (.long kA12) (.long kA13)), true)) :: (pA6, .inr (.object "java/lang/Object", (oE64 (.ref eA1) .null .null .null .null .null), true)) :: F))) := by
  refine Met.of_go pn_9 (Ls := #[.val (.ref pA0), .val (.long kA0), .second, .val (.ref eA0)]) (fun m => by first | rfl | (simp [entryFrame, mkF, argsToLocals, Value.category, maxLocals]; done)) ?_
  intro E C
  refine Go.aloadN C dc_prog_20_method_2_0 (q := 1) rfl rfl rfl ?_
  refine Go.getF C (host := "") (Or.inl (wd hw 46 rfl)) Via.refl (fun _ r => r.fld 0 2 rfl rfl) dc_prog_20_method_2_1 (q := 4) rfl ?_
  refine Go.ifYes C dc_prog_20_method_2_4 (by decide) (q := 19) rfl (XT.i0_eq_t (by decide)) ?_
  refine Go.aloadN C dc_prog_20_method_2_19 (q := 20) rfl rfl rfl ?_
  refine Go.iconst C dc_prog_20_method_2_20 (q := 21) rfl (v := (1 : Int32)) rfl ?_
  refine Go.putF C (host := "") (i := 0) (j := 2) (Or.inl (wd hw 46 rfl)) Via.refl rfl rfl (Or.inl (wd hw 47 rfl)) (wd hw 1 rfl) (ty := .boolean) (by decide) rfl rfl dc_prog_20_method_2_21 (q := 24) rfl (M' := ((pA0, oQ (.ref pA1) (.ref pA4) (.int (1 : Int32)) (.long kA1) .null) :: (pA1, oRun (.ref pA2) (.ref pA3) (.int (0 : Int32)) (.int (1 : Int32))) :: (pA2, .inr (.long, (oK64 (.long kA2) (.long kA3) (.long kA4) (.long kA5) (.long kA6) (.long kA7)), true)) :: (pA3, .inr (.object "java/lang/Object", (oE64 .null .null .null .null .null .null), true)) :: (pA4, oHeap (.ref pA5) (.ref pA6) (.int (1 : Int32))) :: (pA5, .inr (.long, (oK64 (.long kA8) (.long kA9) (.long kA10) (.long kA11) (.long kA12) (.long kA13)), true)) :: (pA6, .inr (.object "java/lang/Object", (oE64 (.ref eA1) .null .null .null .null .null), true)) :: F)) rfl ?_
  refine Go.aloadN C dc_prog_20_method_2_24 (q := 25) rfl rfl rfl ?_
  refine Go.lloadN C dc_prog_20_method_2_25 (q := 26) rfl rfl ?_
  refine Go.putF C (host := "") (i := 0) (j := 3) (Or.inl (wd hw 86 rfl)) Via.refl rfl rfl (Or.inl (wd hw 87 rfl)) (wd hw 1 rfl) (ty := .long) (by decide) rfl rfl dc_prog_20_method_2_26 (q := 29) rfl (M' := ((pA0, oQ (.ref pA1) (.ref pA4) (.int (1 : Int32)) (.long kA0) .null) :: (pA1, oRun (.ref pA2) (.ref pA3) (.int (0 : Int32)) (.int (1 : Int32))) :: (pA2, .inr (.long, (oK64 (.long kA2) (.long kA3) (.long kA4) (.long kA5) (.long kA6) (.long kA7)), true)) :: (pA3, .inr (.object "java/lang/Object", (oE64 .null .null .null .null .null .null), true)) :: (pA4, oHeap (.ref pA5) (.ref pA6) (.int (1 : Int32))) :: (pA5, .inr (.long, (oK64 (.long kA8) (.long kA9) (.long kA10) (.long kA11) (.long kA12) (.long kA13)), true)) :: (pA6, .inr (.object "java/lang/Object", (oE64 (.ref eA1) .null .null .null .null .null), true)) :: F)) rfl ?_
  refine Go.aloadN C dc_prog_20_method_2_29 (q := 30) rfl rfl rfl ?_
  refine Go.aloadN C dc_prog_20_method_2_30 (q := 31) rfl rfl rfl ?_
  refine Go.putF C (host := "") (i := 0) (j := 4) (Or.inl (wd hw 68 rfl)) Via.refl rfl rfl (Or.inl (wd hw 69 rfl)) (wd hw 1 rfl) (ty := (.object "java/lang/Object")) (by decide) rfl rfl dc_prog_20_method_2_31 (q := 34) rfl (M' := ((pA0, oQ (.ref pA1) (.ref pA4) (.int (1 : Int32)) (.long kA0) (.ref eA0)) :: (pA1, oRun (.ref pA2) (.ref pA3) (.int (0 : Int32)) (.int (1 : Int32))) :: (pA2, .inr (.long, (oK64 (.long kA2) (.long kA3) (.long kA4) (.long kA5) (.long kA6) (.long kA7)), true)) :: (pA3, .inr (.object "java/lang/Object", (oE64 .null .null .null .null .null .null), true)) :: (pA4, oHeap (.ref pA5) (.ref pA6) (.int (1 : Int32))) :: (pA5, .inr (.long, (oK64 (.long kA8) (.long kA9) (.long kA10) (.long kA11) (.long kA12) (.long kA13)), true)) :: (pA6, .inr (.object "java/lang/Object", (oE64 (.ref eA1) .null .null .null .null .null), true)) :: F)) rfl ?_
  refine Go.ret0 C rfl dc_prog_20_method_2_34 (by decide) (by decide) ?_
  exact ⟨rfl, rfl⟩
set_option maxRecDepth 65536 in
set_option maxHeartbeats 40000000 in
theorem u_SequenceQueue_isEmpty_96 (l : Launch) (Z : State) (a0 : Array Value) (hw : ∀ d ∈ tables_1, d.before a0 Z = true) (F : List Ent) (pA0 pA1 pA2 pA3 pA4 pA5 pA6 eA0 eA1 : Addr) (kA0 kA1 kA2 kA3 kA4 kA5 kA6 kA7 kA8 kA9 kA10 kA11 kA12 : Int64) (hE_eA0 : Exa Z Z.heap eA0 "java/lang/Integer") (hE_eA1 : Exa Z Z.heap eA1 "java/lang/Integer") :
    Met l Z yN4 prog_20_method_4_code 1 (some .boolean) { frames := 0, cells := 0, slots := 0, locals := 0 } #[(.ref pA0)] ((pA0, oQ (.ref pA1) (.ref pA4) (.int (1 : Int32)) (.long kA0) (.ref eA0)) :: (pA1, oRun (.ref pA2) (.ref pA3) (.int (0 : Int32)) (.int (1 : Int32))) :: (pA2, .inr (.long, (oK64 (.long kA1) (.long kA2) (.long kA3) (.long kA4) (.long kA5) (.long kA6)), true)) :: (pA3, .inr (.object "java/lang/Object", (oE64 .null .null .null .null .null .null), true)) :: (pA4, oHeap (.ref pA5) (.ref pA6) (.int (1 : Int32))) :: (pA5, .inr (.long, (oK64 (.long kA7) (.long kA8) (.long kA9) (.long kA10) (.long kA11) (.long kA12)), true)) :: (pA6, .inr (.object "java/lang/Object", (oE64 (.ref eA1) .null .null .null .null .null), true)) :: F) (fun r M' => (r = (some (.int (0 : Int32))) ∧ M' = ((pA0, oQ (.ref pA1) (.ref pA4) (.int (1 : Int32)) (.long kA0) (.ref eA0)) :: (pA1, oRun (.ref pA2) (.ref pA3) (.int (0 : Int32)) (.int (1 : Int32))) :: (pA2, .inr (.long, (oK64 (.long kA1) (.long kA2) (.long kA3) (.long kA4) (.long kA5) (.long kA6)), true)) :: (pA3, .inr (.object "java/lang/Object", (oE64 .null .null .null .null .null .null), true)) :: (pA4, oHeap (.ref pA5) (.ref pA6) (.int (1 : Int32))) :: (pA5, .inr (.long, (oK64 (.long kA7) (.long kA8) (.long kA9) (.long kA10) (.long kA11) (.long kA12)), true)) :: (pA6, .inr (.object "java/lang/Object", (oE64 (.ref eA1) .null .null .null .null .null), true)) :: F))) := by
  refine Met.of_go pn_4 (Ls := #[.val (.ref pA0)]) (fun m => by first | rfl | (simp [entryFrame, mkF, argsToLocals, Value.category, maxLocals]; done)) ?_
  intro E C
  refine Go.aloadN C dc_prog_20_method_4_0 (q := 1) rfl rfl rfl ?_
  refine Go.getF C (host := "") (Or.inl (wd hw 46 rfl)) Via.refl (fun _ r => r.fld 0 2 rfl rfl) dc_prog_20_method_4_1 (q := 4) rfl ?_
  refine Go.ifYes C dc_prog_20_method_4_4 (by decide) (q := 31) rfl (XT.i0_ne_t (by decide)) ?_
  refine Go.iconst C dc_prog_20_method_4_31 (q := 32) rfl (v := (0 : Int32)) rfl ?_
  refine Go.retZ C rfl (by decide) dc_prog_20_method_4_32 (by decide) (by decide) ?_
  exact ⟨rfl, rfl⟩
set_option maxRecDepth 65536 in
set_option maxHeartbeats 40000000 in
theorem u_SequenceQueue_Run_slot_100 (l : Launch) (Z : State) (a0 : Array Value) (hw : ∀ d ∈ tables_1, d.before a0 Z = true) (F : List Ent) (pA0 pA1 pA2 : Addr) (kA0 kA1 kA2 kA3 kA4 kA5 : Int64)  :
    Met l Z yN12 prog_23_method_6_code 3 (some .int) { frames := 0, cells := 0, slots := 0, locals := 0 } #[(.ref pA0), (.int (1 : Int32))] ((pA0, oRun (.ref pA1) (.ref pA2) (.int (1 : Int32)) (.int (1 : Int32))) :: (pA1, .inr (.long, (oK64 (.long kA0) (.long kA1) (.long kA2) (.long kA3) (.long kA4) (.long kA5)), true)) :: (pA2, .inr (.object "java/lang/Object", (oE64 .null .null .null .null .null .null), true)) :: F) (fun r M' => (r = (some (.int (2 : Int32))) ∧ M' = ((pA0, oRun (.ref pA1) (.ref pA2) (.int (1 : Int32)) (.int (1 : Int32))) :: (pA1, .inr (.long, (oK64 (.long kA0) (.long kA1) (.long kA2) (.long kA3) (.long kA4) (.long kA5)), true)) :: (pA2, .inr (.object "java/lang/Object", (oE64 .null .null .null .null .null .null), true)) :: F))) := by
  refine Met.of_go pn_11 (Ls := #[.val (.ref pA0), .val (.int (1 : Int32)), .unset]) (fun m => by first | rfl | (simp [entryFrame, mkF, argsToLocals, Value.category, maxLocals]; done)) ?_
  intro E C
  refine Go.aloadN C dc_prog_23_method_6_0 (q := 1) rfl rfl rfl ?_
  refine Go.getF C (host := "") (Or.inl (wd hw 65 rfl)) Via.refl (fun _ r => r.fld 0 3 rfl rfl) dc_prog_23_method_6_1 (q := 4) rfl ?_
  refine Go.iloadN C dc_prog_23_method_6_4 (q := 5) rfl rfl ?_
  refine Go.iadd C dc_prog_23_method_6_5 (q := 6) rfl ?_
  refine Go.castI (w := (2 : Int32)) (by decide) ?_
  refine Go.istoreN C dc_prog_23_method_6_6 (q := 7) rfl (Ls' := #[.val (.ref pA0), .val (.int (1 : Int32)), .val (.int (2 : Int32))]) rfl ?_
  refine Go.iloadN C dc_prog_23_method_6_7 (q := 8) rfl rfl ?_
  refine Go.aloadN C dc_prog_23_method_6_8 (q := 9) rfl rfl rfl ?_
  refine Go.getF C (host := "") (Or.inl (wd hw 107 rfl)) (Via.of (wd hw 108 rfl)) (fun _ r => r.fld 0 0 rfl rfl) dc_prog_23_method_6_9 (q := 12) rfl ?_
  refine Go.arraylength C (fun _ r => r.arr 1 rfl) (z := (64 : Int32)) rfl dc_prog_23_method_6_12 (q := 13) rfl ?_
  refine Go.icmpYes C dc_prog_23_method_6_13 (by decide) (q := 24) rfl (XT.ii_lt_t (by decide)) ?_
  refine Go.iloadN C dc_prog_23_method_6_24 (q := 25) rfl rfl ?_
  refine Go.retI C rfl dc_prog_23_method_6_25 (by decide) (by decide) ?_
  exact ⟨rfl, rfl⟩
set_option maxRecDepth 65536 in
set_option maxHeartbeats 40000000 in
theorem u_SequenceQueue_Part_giveBackRoom_102 (l : Launch) (Z : State) (a0 : Array Value) (hw : ∀ d ∈ tables_1, d.before a0 Z = true) (F : List Ent) (pA0 pA1 pA2 : Addr) (kA0 kA1 kA2 kA3 kA4 kA5 : Int64)  :
    Met l Z yN18 prog_22_method_3_code 1 none { frames := 0, cells := 0, slots := 0, locals := 0 } #[(.ref pA0)] ((pA0, oRun (.ref pA1) (.ref pA2) (.int (0 : Int32)) (.int (2 : Int32))) :: (pA1, .inr (.long, (oK64 (.long kA0) (.long kA1) (.long kA2) (.long kA3) (.long kA4) (.long kA5)), true)) :: (pA2, .inr (.object "java/lang/Object", (oE64 .null .null .null .null .null .null), true)) :: F) (fun r M' => (r = none ∧ M' = ((pA0, oRun (.ref pA1) (.ref pA2) (.int (0 : Int32)) (.int (2 : Int32))) :: (pA1, .inr (.long, (oK64 (.long kA0) (.long kA1) (.long kA2) (.long kA3) (.long kA4) (.long kA5)), true)) :: (pA2, .inr (.object "java/lang/Object", (oE64 .null .null .null .null .null .null), true)) :: F))) := by
  refine Met.of_go pn_16 (Ls := #[.val (.ref pA0)]) (fun m => by first | rfl | (simp [entryFrame, mkF, argsToLocals, Value.category, maxLocals]; done)) ?_
  intro E C
  refine Go.aloadN C dc_prog_22_method_3_0 (q := 1) rfl rfl rfl ?_
  refine Go.getF C (host := "") (Or.inl (wd hw 22 rfl)) Via.refl (fun _ r => r.fld 0 0 rfl rfl) dc_prog_22_method_3_1 (q := 4) rfl ?_
  refine Go.arraylength C (fun _ r => r.arr 1 rfl) (z := (64 : Int32)) rfl dc_prog_22_method_3_4 (q := 5) rfl ?_
  refine Go.bipush C dc_prog_22_method_3_5 (q := 7) rfl (v := (64 : Int32)) (by decide) ?_
  refine Go.icmpYes C dc_prog_22_method_3_7 (by decide) (q := 40) rfl (XT.ii_le_t (by decide)) ?_
  refine Go.ret0 C rfl dc_prog_22_method_3_40 (by decide) (by decide) ?_
  exact ⟨rfl, rfl⟩
set_option maxRecDepth 65536 in
set_option maxHeartbeats 40000000 in
theorem u_SequenceQueue_Run_poll_99 (l : Launch) (Z : State) (a0 : Array Value) (hw : ∀ d ∈ tables_1, d.before a0 Z = true) (F : List Ent) (pA0 pA1 pA2 eA0 : Addr) (kA0 kA1 kA2 kA3 kA4 kA5 : Int64) (hE_eA0 : Exa Z Z.heap eA0 "java/lang/Integer") :
    Met l Z yN5 prog_23_method_4_code 2 (some (.object "java/lang/Object")) { frames := 1, cells := 0, slots := 0, locals := 15 } #[(.ref pA0)] ((pA0, oRun (.ref pA1) (.ref pA2) (.int (1 : Int32)) (.int (1 : Int32))) :: (pA1, .inr (.long, (oK64 (.long kA0) (.long kA1) (.long kA2) (.long kA3) (.long kA4) (.long kA5)), true)) :: (pA2, .inr (.object "java/lang/Object", (oE64 .null (.ref eA0) .null .null .null .null), true)) :: F) (fun r M' => (r = (some (.ref eA0)) ∧ M' = ((pA0, oRun (.ref pA1) (.ref pA2) (.int (0 : Int32)) (.int (2 : Int32))) :: (pA1, .inr (.long, (oK64 (.long kA0) (.long kA1) (.long kA2) (.long kA3) (.long kA4) (.long kA5)), true)) :: (pA2, .inr (.object "java/lang/Object", (oE64 .null .null .null .null .null .null), true)) :: F))) := by
  refine Met.of_go pn_5 (Ls := #[.val (.ref pA0), .unset]) (fun m => by first | rfl | (simp [entryFrame, mkF, argsToLocals, Value.category, maxLocals]; done)) ?_
  intro E C
  refine Go.aloadN C dc_prog_23_method_4_0 (q := 1) rfl rfl rfl ?_
  refine Go.getF C (host := "") (Or.inl (wd hw 63 rfl)) (Via.of (wd hw 64 rfl)) (fun _ r => r.fld 0 1 rfl rfl) dc_prog_23_method_4_1 (q := 4) rfl ?_
  refine Go.aloadN C dc_prog_23_method_4_4 (q := 5) rfl rfl rfl ?_
  refine Go.getF C (host := "") (Or.inl (wd hw 65 rfl)) Via.refl (fun _ r => r.fld 0 3 rfl rfl) dc_prog_23_method_4_5 (q := 8) rfl ?_
  refine Go.aaload C (fun _ r => r.arr 2 rfl) rfl (by decide) (v := (.ref eA0)) rfl dc_prog_23_method_4_8 (q := 9) rfl ?_
  refine Go.astoreN C dc_prog_23_method_4_9 (q := 10) rfl rfl (Ls' := #[.val (.ref pA0), .val (.ref eA0)]) rfl ?_
  refine Go.aloadN C dc_prog_23_method_4_10 (q := 11) rfl rfl rfl ?_
  refine Go.getF C (host := "") (Or.inl (wd hw 67 rfl)) (Via.of (wd hw 49 rfl)) (fun _ r => r.fld 0 2 rfl rfl) dc_prog_23_method_4_11 (q := 14) rfl ?_
  refine Go.ifNo C dc_prog_23_method_4_14 (q := 17) rfl (XT.i0_le_f (by decide)) ?_
  refine Go.aloadN C dc_prog_23_method_4_17 (q := 18) rfl rfl rfl ?_
  refine Go.getF C (host := "") (Or.inl (wd hw 63 rfl)) (Via.of (wd hw 64 rfl)) (fun _ r => r.fld 0 1 rfl rfl) dc_prog_23_method_4_18 (q := 21) rfl ?_
  refine Go.aloadN C dc_prog_23_method_4_21 (q := 22) rfl rfl rfl ?_
  refine Go.getF C (host := "") (Or.inl (wd hw 65 rfl)) Via.refl (fun _ r => r.fld 0 3 rfl rfl) dc_prog_23_method_4_22 (q := 25) rfl ?_
  refine Go.aconstNull C dc_prog_23_method_4_25 (q := 26) rfl ?_
  refine Go.aastore C (i := 2) rfl (by decide) (show (1 : Int32).toNatClampNeg < 64 from by decide) (fun _ _ => Or.inl rfl) dc_prog_23_method_4_26 (q := 27) rfl (M' := ((pA0, oRun (.ref pA1) (.ref pA2) (.int (1 : Int32)) (.int (1 : Int32))) :: (pA1, .inr (.long, (oK64 (.long kA0) (.long kA1) (.long kA2) (.long kA3) (.long kA4) (.long kA5)), true)) :: (pA2, .inr (.object "java/lang/Object", (oE64 .null .null .null .null .null .null), true)) :: F)) rfl ?_
  refine Go.aloadN C dc_prog_23_method_4_27 (q := 28) rfl rfl rfl ?_
  refine Go.aloadN C dc_prog_23_method_4_28 (q := 29) rfl rfl rfl ?_
  refine Go.iconst C dc_prog_23_method_4_29 (q := 30) rfl (v := (1 : Int32)) rfl ?_
  refine Go.callP C (y := yN12) (a := pA0) (as := [(.int (1 : Int32))]) (rest := [(.ref pA0)]) (wd hw 103 rfl) (wd hw 104 rfl) (sel_priv (y := yN12) (wd hw 10 rfl) (wd hw 104 rfl) (wd hw 105 rfl) (by decide)) (wd hw 105 rfl) (wd hw 106 rfl) (wd hw 11 rfl) (fun _ r => r.exa 0 rfl) (u_SequenceQueue_Run_slot_100 l Z a0 hw _ pA0 pA1 pA2 kA0 kA1 kA2 kA3 kA4 kA5) rfl dc_prog_23_method_4_30 (q := 33) rfl (by decide) rfl (na := 1) (by decide +kernel) rfl (by decide) (W := 1) rfl (by decide) (by decide) (by decide) (k' := 0) (n' := 0) rfl rfl ?_
  rintro _ _ ⟨rfl, rfl⟩
  show Go _ _ _ _ _ _ _ _ _ _ [(.int (2 : Int32)), (.ref pA0)]
  refine Go.putF C (host := "") (i := 0) (j := 3) (Or.inl (wd hw 65 rfl)) Via.refl rfl rfl (Or.inl (wd hw 66 rfl)) (wd hw 10 rfl) (ty := .int) (by decide) rfl rfl dc_prog_23_method_4_33 (q := 36) rfl (M' := ((pA0, oRun (.ref pA1) (.ref pA2) (.int (1 : Int32)) (.int (2 : Int32))) :: (pA1, .inr (.long, (oK64 (.long kA0) (.long kA1) (.long kA2) (.long kA3) (.long kA4) (.long kA5)), true)) :: (pA2, .inr (.object "java/lang/Object", (oE64 .null .null .null .null .null .null), true)) :: F)) rfl ?_
  refine Go.aloadN C dc_prog_23_method_4_36 (q := 37) rfl rfl rfl ?_
  refine Go.dup C dc_prog_23_method_4_37 (q := 38) rfl rfl ?_
  refine Go.getF C (host := "") (Or.inl (wd hw 67 rfl)) (Via.of (wd hw 49 rfl)) (fun _ r => r.fld 0 2 rfl rfl) dc_prog_23_method_4_38 (q := 41) rfl ?_
  refine Go.iconst C dc_prog_23_method_4_41 (q := 42) rfl (v := (1 : Int32)) rfl ?_
  refine Go.isub C dc_prog_23_method_4_42 (q := 43) rfl ?_
  refine Go.castI (w := (0 : Int32)) (by decide) ?_
  refine Go.putF C (host := "") (i := 0) (j := 2) (Or.inl (wd hw 67 rfl)) (Via.of (wd hw 49 rfl)) rfl rfl (Or.inl (wd hw 50 rfl)) (wd hw 10 rfl) (ty := .int) (by decide) rfl rfl dc_prog_23_method_4_43 (q := 46) rfl (M' := ((pA0, oRun (.ref pA1) (.ref pA2) (.int (0 : Int32)) (.int (2 : Int32))) :: (pA1, .inr (.long, (oK64 (.long kA0) (.long kA1) (.long kA2) (.long kA3) (.long kA4) (.long kA5)), true)) :: (pA2, .inr (.object "java/lang/Object", (oE64 .null .null .null .null .null .null), true)) :: F)) rfl ?_
  refine Go.aloadN C dc_prog_23_method_4_46 (q := 47) rfl rfl rfl ?_
  refine Go.callU C (y := yN21) (z := yN18) (owner := "com/example/ordered_dispatch/ordereddispatch/SequenceQueue$Part") (a := pA0) (as := []) (rest := []) (wd hw 116 rfl) (wd hw 117 rfl) (wd hw 118 rfl) (wd hw 120 rfl) (wd hw 119 rfl) (wd hw 121 rfl) (wd hw 18 rfl) (fun _ r => r.exa 0 rfl) (u_SequenceQueue_Part_giveBackRoom_102 l Z a0 hw _ pA0 pA1 pA2 kA0 kA1 kA2 kA3 kA4 kA5) rfl dc_prog_23_method_4_47 (q := 50) rfl (by decide) rfl (na := 0) (by decide +kernel) rfl (by decide) (W := 0) rfl (by decide) (by decide) (by decide) (k' := 0) (n' := 0) rfl rfl ?_
  rintro _ _ ⟨rfl, rfl⟩
  show Go _ _ _ _ _ _ _ _ _ _ []
  refine Go.aloadN C dc_prog_23_method_4_50 (q := 51) rfl rfl rfl ?_
  refine Go.retA C rfl rfl rfl dc_prog_23_method_4_51 (by decide) (by decide) ?_
  exact ⟨rfl, rfl⟩
set_option maxRecDepth 65536 in
set_option maxHeartbeats 40000000 in
theorem u_SequenceQueue_poll_98 (l : Launch) (Z : State) (a0 : Array Value) (hw : ∀ d ∈ tables_1, d.before a0 Z = true) (F : List Ent) (pA0 pA1 pA2 pA3 pA4 pA5 pA6 eA0 : Addr) (kA0 kA1 kA2 kA3 kA4 kA5 kA6 kA7 kA8 kA9 kA10 kA11 kA12 : Int64) (hE_eA0 : Exa Z Z.heap eA0 "java/lang/Integer") :
    Met l Z yN6 prog_20_method_3_code 3 (some (.object "java/lang/Object")) { frames := 2, cells := 0, slots := 0, locals := 28 } #[(.ref pA0)] ((pA0, oQ (.ref pA1) (.ref pA4) (.int (0 : Int32)) (.long kA0) .null) :: (pA1, oRun (.ref pA2) (.ref pA3) (.int (1 : Int32)) (.int (1 : Int32))) :: (pA2, .inr (.long, (oK64 (.long kA1) (.long kA2) (.long kA3) (.long kA4) (.long kA5) (.long kA6)), true)) :: (pA3, .inr (.object "java/lang/Object", (oE64 .null (.ref eA0) .null .null .null .null), true)) :: (pA4, oHeap (.ref pA5) (.ref pA6) (.int (0 : Int32))) :: (pA5, .inr (.long, (oK64 (.long kA7) (.long kA8) (.long kA9) (.long kA10) (.long kA11) (.long kA12)), true)) :: (pA6, .inr (.object "java/lang/Object", (oE64 .null .null .null .null .null .null), true)) :: F) (fun r M' => (r = (some (.ref eA0)) ∧ M' = ((pA1, oRun (.ref pA2) (.ref pA3) (.int (0 : Int32)) (.int (2 : Int32))) :: (pA2, .inr (.long, (oK64 (.long kA1) (.long kA2) (.long kA3) (.long kA4) (.long kA5) (.long kA6)), true)) :: (pA3, .inr (.object "java/lang/Object", (oE64 .null .null .null .null .null .null), true)) :: (pA0, oQ (.ref pA1) (.ref pA4) (.int (0 : Int32)) (.long kA0) .null) :: (pA4, oHeap (.ref pA5) (.ref pA6) (.int (0 : Int32))) :: (pA5, .inr (.long, (oK64 (.long kA7) (.long kA8) (.long kA9) (.long kA10) (.long kA11) (.long kA12)), true)) :: (pA6, .inr (.object "java/lang/Object", (oE64 .null .null .null .null .null .null), true)) :: F))) := by
  refine Met.of_go pn_6 (Ls := #[.val (.ref pA0), .unset, .unset]) (fun m => by first | rfl | (simp [entryFrame, mkF, argsToLocals, Value.category, maxLocals]; done)) ?_
  intro E C
  refine Go.aloadN C dc_prog_20_method_3_0 (q := 1) rfl rfl rfl ?_
  refine Go.getF C (host := "") (Or.inl (wd hw 46 rfl)) Via.refl (fun _ r => r.fld 0 2 rfl rfl) dc_prog_20_method_3_1 (q := 4) rfl ?_
  refine Go.ifYes C dc_prog_20_method_3_4 (by decide) (q := 75) rfl (XT.i0_eq_t (by decide)) ?_
  refine Go.aloadN C dc_prog_20_method_3_75 (q := 76) rfl rfl rfl ?_
  refine Go.getF C (host := "") (Or.inl (wd hw 46 rfl)) Via.refl (fun _ r => r.fld 0 2 rfl rfl) dc_prog_20_method_3_76 (q := 79) rfl ?_
  refine Go.ifYes C dc_prog_20_method_3_79 (by decide) (q := 94) rfl (XT.i0_eq_t (by decide)) ?_
  refine Go.aloadN C dc_prog_20_method_3_94 (q := 95) rfl rfl rfl ?_
  refine Go.getF C (host := "") (Or.inl (wd hw 39 rfl)) Via.refl (fun _ r => r.fld 0 1 rfl rfl) dc_prog_20_method_3_95 (q := 98) rfl ?_
  refine Go.getF C (host := "") (Or.inl (wd hw 51 rfl)) (Via.of (wd hw 52 rfl)) (fun _ r => r.fld 4 2 rfl rfl) dc_prog_20_method_3_98 (q := 101) rfl ?_
  refine Go.ifYes C dc_prog_20_method_3_101 (by decide) (q := 142) rfl (XT.i0_eq_t (by decide)) ?_
  refine Go.aloadN C dc_prog_20_method_3_142 (q := 143) rfl rfl rfl ?_
  refine Go.getF C (host := "") (Or.inl (wd hw 28 rfl)) Via.refl (fun _ r => r.fld 0 0 rfl rfl) dc_prog_20_method_3_143 (q := 146) rfl ?_
  refine Go.pick (M' := ((pA1, oRun (.ref pA2) (.ref pA3) (.int (1 : Int32)) (.int (1 : Int32))) :: (pA2, .inr (.long, (oK64 (.long kA1) (.long kA2) (.long kA3) (.long kA4) (.long kA5) (.long kA6)), true)) :: (pA3, .inr (.object "java/lang/Object", (oE64 .null (.ref eA0) .null .null .null .null), true)) :: (pA0, oQ (.ref pA1) (.ref pA4) (.int (0 : Int32)) (.long kA0) .null) :: (pA4, oHeap (.ref pA5) (.ref pA6) (.int (0 : Int32))) :: (pA5, .inr (.long, (oK64 (.long kA7) (.long kA8) (.long kA9) (.long kA10) (.long kA11) (.long kA12)), true)) :: (pA6, .inr (.object "java/lang/Object", (oE64 .null .null .null .null .null .null), true)) :: F)) 7 [1, 2, 3, 0, 4, 5, 6] (by decide) (by decide) rfl ?_
  refine Go.callPR C (y := yN5) (a := pA1) (as := []) (rest := []) (wd hw 59 rfl) (wd hw 60 rfl) (sel_priv (y := yN5) (wd hw 10 rfl) (wd hw 60 rfl) (wd hw 61 rfl) (by decide)) (wd hw 61 rfl) (wd hw 62 rfl) (wd hw 11 rfl) (fun _ r => r.exa 0 rfl) (u_SequenceQueue_Run_poll_99 l Z a0 hw _ pA1 pA2 pA3 eA0 kA1 kA2 kA3 kA4 kA5 kA6 hE_eA0) rfl dc_prog_20_method_3_146 (q := 149) rfl (by decide) rfl (na := 0) (by decide +kernel) rfl (by decide) (W := 0) rfl (by decide) (by decide) (by decide) (k' := 0) (n' := 0) rfl rfl ?_
  rintro _ _ ⟨rfl, rfl⟩
  show Go _ _ _ _ _ _ _ _ _ _ [(.ref eA0)]
  refine Go.astoreN C dc_prog_20_method_3_149 (q := 150) rfl rfl (Ls' := #[.val (.ref pA0), .val (.ref eA0), .unset]) rfl ?_
  refine Go.goto C dc_prog_20_method_3_150 (by decide) (q := 161) rfl ?_
  refine Go.aloadN C dc_prog_20_method_3_161 (q := 162) rfl rfl rfl ?_
  refine Go.iconst C dc_prog_20_method_3_162 (q := 163) rfl (v := (0 : Int32)) rfl ?_
  refine Go.putF C (host := "") (i := 3) (j := 2) (Or.inl (wd hw 46 rfl)) Via.refl rfl rfl (Or.inl (wd hw 47 rfl)) (wd hw 1 rfl) (ty := .boolean) (by decide) rfl rfl dc_prog_20_method_3_163 (q := 166) rfl (M' := ((pA1, oRun (.ref pA2) (.ref pA3) (.int (0 : Int32)) (.int (2 : Int32))) :: (pA2, .inr (.long, (oK64 (.long kA1) (.long kA2) (.long kA3) (.long kA4) (.long kA5) (.long kA6)), true)) :: (pA3, .inr (.object "java/lang/Object", (oE64 .null .null .null .null .null .null), true)) :: (pA0, oQ (.ref pA1) (.ref pA4) (.int (0 : Int32)) (.long kA0) .null) :: (pA4, oHeap (.ref pA5) (.ref pA6) (.int (0 : Int32))) :: (pA5, .inr (.long, (oK64 (.long kA7) (.long kA8) (.long kA9) (.long kA10) (.long kA11) (.long kA12)), true)) :: (pA6, .inr (.object "java/lang/Object", (oE64 .null .null .null .null .null .null), true)) :: F)) rfl ?_
  refine Go.aloadN C dc_prog_20_method_3_166 (q := 167) rfl rfl rfl ?_
  refine Go.aconstNull C dc_prog_20_method_3_167 (q := 168) rfl ?_
  refine Go.putF C (host := "") (i := 3) (j := 4) (Or.inl (wd hw 68 rfl)) Via.refl rfl rfl (Or.inl (wd hw 69 rfl)) (wd hw 1 rfl) (ty := (.object "java/lang/Object")) (by decide) rfl rfl dc_prog_20_method_3_168 (q := 171) rfl (M' := ((pA1, oRun (.ref pA2) (.ref pA3) (.int (0 : Int32)) (.int (2 : Int32))) :: (pA2, .inr (.long, (oK64 (.long kA1) (.long kA2) (.long kA3) (.long kA4) (.long kA5) (.long kA6)), true)) :: (pA3, .inr (.object "java/lang/Object", (oE64 .null .null .null .null .null .null), true)) :: (pA0, oQ (.ref pA1) (.ref pA4) (.int (0 : Int32)) (.long kA0) .null) :: (pA4, oHeap (.ref pA5) (.ref pA6) (.int (0 : Int32))) :: (pA5, .inr (.long, (oK64 (.long kA7) (.long kA8) (.long kA9) (.long kA10) (.long kA11) (.long kA12)), true)) :: (pA6, .inr (.object "java/lang/Object", (oE64 .null .null .null .null .null .null), true)) :: F)) rfl ?_
  refine Go.aloadN C dc_prog_20_method_3_171 (q := 172) rfl rfl rfl ?_
  refine Go.astoreN C dc_prog_20_method_3_172 (q := 173) rfl rfl (Ls' := #[.val (.ref pA0), .val (.ref eA0), .val (.ref eA0)]) rfl ?_
  refine Go.aloadN C dc_prog_20_method_3_173 (q := 174) rfl rfl rfl ?_
  refine Go.retA C rfl rfl rfl dc_prog_20_method_3_174 (by decide) (by decide) ?_
  exact ⟨rfl, rfl⟩
set_option maxRecDepth 65536 in
set_option maxHeartbeats 40000000 in
theorem u_SequenceQueue_isEmpty_106 (l : Launch) (Z : State) (a0 : Array Value) (hw : ∀ d ∈ tables_1, d.before a0 Z = true) (F : List Ent) (pA0 pA1 pA2 pA3 pA4 pA5 pA6 : Addr) (kA0 kA1 kA2 kA3 kA4 kA5 kA6 kA7 kA8 kA9 kA10 kA11 kA12 : Int64)  :
    Met l Z yN4 prog_20_method_4_code 1 (some .boolean) { frames := 0, cells := 0, slots := 0, locals := 0 } #[(.ref pA0)] ((pA0, oQ (.ref pA1) (.ref pA4) (.int (0 : Int32)) (.long kA0) .null) :: (pA1, oRun (.ref pA2) (.ref pA3) (.int (0 : Int32)) (.int (2 : Int32))) :: (pA2, .inr (.long, (oK64 (.long kA1) (.long kA2) (.long kA3) (.long kA4) (.long kA5) (.long kA6)), true)) :: (pA3, .inr (.object "java/lang/Object", (oE64 .null .null .null .null .null .null), true)) :: (pA4, oHeap (.ref pA5) (.ref pA6) (.int (0 : Int32))) :: (pA5, .inr (.long, (oK64 (.long kA7) (.long kA8) (.long kA9) (.long kA10) (.long kA11) (.long kA12)), true)) :: (pA6, .inr (.object "java/lang/Object", (oE64 .null .null .null .null .null .null), true)) :: F) (fun r M' => (r = (some (.int (1 : Int32))) ∧ M' = ((pA0, oQ (.ref pA1) (.ref pA4) (.int (0 : Int32)) (.long kA0) .null) :: (pA1, oRun (.ref pA2) (.ref pA3) (.int (0 : Int32)) (.int (2 : Int32))) :: (pA2, .inr (.long, (oK64 (.long kA1) (.long kA2) (.long kA3) (.long kA4) (.long kA5) (.long kA6)), true)) :: (pA3, .inr (.object "java/lang/Object", (oE64 .null .null .null .null .null .null), true)) :: (pA4, oHeap (.ref pA5) (.ref pA6) (.int (0 : Int32))) :: (pA5, .inr (.long, (oK64 (.long kA7) (.long kA8) (.long kA9) (.long kA10) (.long kA11) (.long kA12)), true)) :: (pA6, .inr (.object "java/lang/Object", (oE64 .null .null .null .null .null .null), true)) :: F))) := by
  refine Met.of_go pn_4 (Ls := #[.val (.ref pA0)]) (fun m => by first | rfl | (simp [entryFrame, mkF, argsToLocals, Value.category, maxLocals]; done)) ?_
  intro E C
  refine Go.aloadN C dc_prog_20_method_4_0 (q := 1) rfl rfl rfl ?_
  refine Go.getF C (host := "") (Or.inl (wd hw 46 rfl)) Via.refl (fun _ r => r.fld 0 2 rfl rfl) dc_prog_20_method_4_1 (q := 4) rfl ?_
  refine Go.ifNo C dc_prog_20_method_4_4 (q := 7) rfl (XT.i0_ne_f (by decide)) ?_
  refine Go.aloadN C dc_prog_20_method_4_7 (q := 8) rfl rfl rfl ?_
  refine Go.getF C (host := "") (Or.inl (wd hw 28 rfl)) Via.refl (fun _ r => r.fld 0 0 rfl rfl) dc_prog_20_method_4_8 (q := 11) rfl ?_
  refine Go.getF C (host := "") (Or.inl (wd hw 48 rfl)) (Via.of (wd hw 49 rfl)) (fun _ r => r.fld 1 2 rfl rfl) dc_prog_20_method_4_11 (q := 14) rfl ?_
  refine Go.ifNo C dc_prog_20_method_4_14 (q := 17) rfl (XT.i0_ne_f (by decide)) ?_
  refine Go.aloadN C dc_prog_20_method_4_17 (q := 18) rfl rfl rfl ?_
  refine Go.getF C (host := "") (Or.inl (wd hw 39 rfl)) Via.refl (fun _ r => r.fld 0 1 rfl rfl) dc_prog_20_method_4_18 (q := 21) rfl ?_
  refine Go.getF C (host := "") (Or.inl (wd hw 51 rfl)) (Via.of (wd hw 52 rfl)) (fun _ r => r.fld 4 2 rfl rfl) dc_prog_20_method_4_21 (q := 24) rfl ?_
  refine Go.ifNo C dc_prog_20_method_4_24 (q := 27) rfl (XT.i0_ne_f (by decide)) ?_
  refine Go.iconst C dc_prog_20_method_4_27 (q := 28) rfl (v := (1 : Int32)) rfl ?_
  refine Go.goto C dc_prog_20_method_4_28 (by decide) (q := 32) rfl ?_
  refine Go.retZ C rfl (by decide) dc_prog_20_method_4_32 (by decide) (by decide) ?_
  exact ⟨rfl, rfl⟩
set_option maxRecDepth 65536 in
set_option maxHeartbeats 40000000 in
theorem u_SequenceQueue_add_108 (l : Launch) (Z : State) (a0 : Array Value) (hw : ∀ d ∈ tables_1, d.before a0 Z = true) (F : List Ent) (pA0 pA1 pA2 pA3 pA4 pA5 pA6 eA0 eA1 : Addr) (kA0 kA1 kA2 kA3 kA4 kA5 kA6 kA7 kA8 kA9 kA10 kA11 kA12 kA13 : Int64) (hE_eA0 : Exa Z Z.heap eA0 "java/lang/Integer") (hE_eA1 : Exa Z Z.heap eA1 "java/lang/Integer") :
    Met l Z yN9 prog_20_method_2_code 4 none { frames := 0, cells := 0, slots := 0, locals := 0 } #[(.ref pA0), (.long kA0), (.ref eA0)] ((pA0, oQ (.ref pA1) (.ref pA4) (.int (0 : Int32)) (.long kA1) .null) :: (pA1, oRun (.ref pA2) (.ref pA3) (.int (1 : Int32)) (.int (1 : Int32))) :: (pA2, .inr (.long, (oK64 (.long kA2) (.long kA3) (.long kA4) (.long kA5) (.long kA6) (.long kA7)), true)) :: (pA3, .inr (.object "java/lang/Object", (oE64 .null (.ref eA1) .null .null .null .null), true)) :: (pA4, oHeap (.ref pA5) (.ref pA6) (.int (0 : Int32))) :: (pA5, .inr (.long, (oK64 (.long kA8) (.long kA9) (.long kA10) (.long kA11) (.long kA12) (.long kA13)), true)) :: (pA6, .inr (.object "java/lang/Object", (oE64 .null .null .null .null .null .null), true)) :: F) (fun r M' => (r = none ∧ M' = ((pA0, oQ (.ref pA1) (.ref pA4) (.int (1 : Int32)) (.long kA0) (.ref eA0)) :: (pA1, oRun (.ref pA2) (.ref pA3) (.int (1 : Int32)) (.int (1 : Int32))) :: (pA2, .inr (.long, (oK64 (.long kA2) (.long kA3) (.long kA4) (.long kA5) (.long kA6) (.long kA7)), true)) :: (pA3, .inr (.object "java/lang/Object", (oE64 .null (.ref eA1) .null .null .null .null), true)) :: (pA4, oHeap (.ref pA5) (.ref pA6) (.int (0 : Int32))) :: (pA5, .inr (.long, (oK64 (.long kA8) (.long kA9) (.long kA10) (.long kA11) (.long kA12) (.long kA13)), true)) :: (pA6, .inr (.object "java/lang/Object", (oE64 .null .null .null .null .null .null), true)) :: F))) := by
  refine Met.of_go pn_9 (Ls := #[.val (.ref pA0), .val (.long kA0), .second, .val (.ref eA0)]) (fun m => by first | rfl | (simp [entryFrame, mkF, argsToLocals, Value.category, maxLocals]; done)) ?_
  intro E C
  refine Go.aloadN C dc_prog_20_method_2_0 (q := 1) rfl rfl rfl ?_
  refine Go.getF C (host := "") (Or.inl (wd hw 46 rfl)) Via.refl (fun _ r => r.fld 0 2 rfl rfl) dc_prog_20_method_2_1 (q := 4) rfl ?_
  refine Go.ifYes C dc_prog_20_method_2_4 (by decide) (q := 19) rfl (XT.i0_eq_t (by decide)) ?_
  refine Go.aloadN C dc_prog_20_method_2_19 (q := 20) rfl rfl rfl ?_
  refine Go.iconst C dc_prog_20_method_2_20 (q := 21) rfl (v := (1 : Int32)) rfl ?_
  refine Go.putF C (host := "") (i := 0) (j := 2) (Or.inl (wd hw 46 rfl)) Via.refl rfl rfl (Or.inl (wd hw 47 rfl)) (wd hw 1 rfl) (ty := .boolean) (by decide) rfl rfl dc_prog_20_method_2_21 (q := 24) rfl (M' := ((pA0, oQ (.ref pA1) (.ref pA4) (.int (1 : Int32)) (.long kA1) .null) :: (pA1, oRun (.ref pA2) (.ref pA3) (.int (1 : Int32)) (.int (1 : Int32))) :: (pA2, .inr (.long, (oK64 (.long kA2) (.long kA3) (.long kA4) (.long kA5) (.long kA6) (.long kA7)), true)) :: (pA3, .inr (.object "java/lang/Object", (oE64 .null (.ref eA1) .null .null .null .null), true)) :: (pA4, oHeap (.ref pA5) (.ref pA6) (.int (0 : Int32))) :: (pA5, .inr (.long, (oK64 (.long kA8) (.long kA9) (.long kA10) (.long kA11) (.long kA12) (.long kA13)), true)) :: (pA6, .inr (.object "java/lang/Object", (oE64 .null .null .null .null .null .null), true)) :: F)) rfl ?_
  refine Go.aloadN C dc_prog_20_method_2_24 (q := 25) rfl rfl rfl ?_
  refine Go.lloadN C dc_prog_20_method_2_25 (q := 26) rfl rfl ?_
  refine Go.putF C (host := "") (i := 0) (j := 3) (Or.inl (wd hw 86 rfl)) Via.refl rfl rfl (Or.inl (wd hw 87 rfl)) (wd hw 1 rfl) (ty := .long) (by decide) rfl rfl dc_prog_20_method_2_26 (q := 29) rfl (M' := ((pA0, oQ (.ref pA1) (.ref pA4) (.int (1 : Int32)) (.long kA0) .null) :: (pA1, oRun (.ref pA2) (.ref pA3) (.int (1 : Int32)) (.int (1 : Int32))) :: (pA2, .inr (.long, (oK64 (.long kA2) (.long kA3) (.long kA4) (.long kA5) (.long kA6) (.long kA7)), true)) :: (pA3, .inr (.object "java/lang/Object", (oE64 .null (.ref eA1) .null .null .null .null), true)) :: (pA4, oHeap (.ref pA5) (.ref pA6) (.int (0 : Int32))) :: (pA5, .inr (.long, (oK64 (.long kA8) (.long kA9) (.long kA10) (.long kA11) (.long kA12) (.long kA13)), true)) :: (pA6, .inr (.object "java/lang/Object", (oE64 .null .null .null .null .null .null), true)) :: F)) rfl ?_
  refine Go.aloadN C dc_prog_20_method_2_29 (q := 30) rfl rfl rfl ?_
  refine Go.aloadN C dc_prog_20_method_2_30 (q := 31) rfl rfl rfl ?_
  refine Go.putF C (host := "") (i := 0) (j := 4) (Or.inl (wd hw 68 rfl)) Via.refl rfl rfl (Or.inl (wd hw 69 rfl)) (wd hw 1 rfl) (ty := (.object "java/lang/Object")) (by decide) rfl rfl dc_prog_20_method_2_31 (q := 34) rfl (M' := ((pA0, oQ (.ref pA1) (.ref pA4) (.int (1 : Int32)) (.long kA0) (.ref eA0)) :: (pA1, oRun (.ref pA2) (.ref pA3) (.int (1 : Int32)) (.int (1 : Int32))) :: (pA2, .inr (.long, (oK64 (.long kA2) (.long kA3) (.long kA4) (.long kA5) (.long kA6) (.long kA7)), true)) :: (pA3, .inr (.object "java/lang/Object", (oE64 .null (.ref eA1) .null .null .null .null), true)) :: (pA4, oHeap (.ref pA5) (.ref pA6) (.int (0 : Int32))) :: (pA5, .inr (.long, (oK64 (.long kA8) (.long kA9) (.long kA10) (.long kA11) (.long kA12) (.long kA13)), true)) :: (pA6, .inr (.object "java/lang/Object", (oE64 .null .null .null .null .null .null), true)) :: F)) rfl ?_
  refine Go.ret0 C rfl dc_prog_20_method_2_34 (by decide) (by decide) ?_
  exact ⟨rfl, rfl⟩
set_option maxRecDepth 65536 in
set_option maxHeartbeats 40000000 in
theorem u_SequenceQueue_isEmpty_110 (l : Launch) (Z : State) (a0 : Array Value) (hw : ∀ d ∈ tables_1, d.before a0 Z = true) (F : List Ent) (pA0 pA1 pA2 pA3 pA4 pA5 pA6 eA0 eA1 : Addr) (kA0 kA1 kA2 kA3 kA4 kA5 kA6 kA7 kA8 kA9 kA10 kA11 kA12 : Int64) (hE_eA0 : Exa Z Z.heap eA0 "java/lang/Integer") (hE_eA1 : Exa Z Z.heap eA1 "java/lang/Integer") :
    Met l Z yN4 prog_20_method_4_code 1 (some .boolean) { frames := 0, cells := 0, slots := 0, locals := 0 } #[(.ref pA0)] ((pA0, oQ (.ref pA1) (.ref pA4) (.int (1 : Int32)) (.long kA0) (.ref eA0)) :: (pA1, oRun (.ref pA2) (.ref pA3) (.int (1 : Int32)) (.int (1 : Int32))) :: (pA2, .inr (.long, (oK64 (.long kA1) (.long kA2) (.long kA3) (.long kA4) (.long kA5) (.long kA6)), true)) :: (pA3, .inr (.object "java/lang/Object", (oE64 .null (.ref eA1) .null .null .null .null), true)) :: (pA4, oHeap (.ref pA5) (.ref pA6) (.int (0 : Int32))) :: (pA5, .inr (.long, (oK64 (.long kA7) (.long kA8) (.long kA9) (.long kA10) (.long kA11) (.long kA12)), true)) :: (pA6, .inr (.object "java/lang/Object", (oE64 .null .null .null .null .null .null), true)) :: F) (fun r M' => (r = (some (.int (0 : Int32))) ∧ M' = ((pA0, oQ (.ref pA1) (.ref pA4) (.int (1 : Int32)) (.long kA0) (.ref eA0)) :: (pA1, oRun (.ref pA2) (.ref pA3) (.int (1 : Int32)) (.int (1 : Int32))) :: (pA2, .inr (.long, (oK64 (.long kA1) (.long kA2) (.long kA3) (.long kA4) (.long kA5) (.long kA6)), true)) :: (pA3, .inr (.object "java/lang/Object", (oE64 .null (.ref eA1) .null .null .null .null), true)) :: (pA4, oHeap (.ref pA5) (.ref pA6) (.int (0 : Int32))) :: (pA5, .inr (.long, (oK64 (.long kA7) (.long kA8) (.long kA9) (.long kA10) (.long kA11) (.long kA12)), true)) :: (pA6, .inr (.object "java/lang/Object", (oE64 .null .null .null .null .null .null), true)) :: F))) := by
  refine Met.of_go pn_4 (Ls := #[.val (.ref pA0)]) (fun m => by first | rfl | (simp [entryFrame, mkF, argsToLocals, Value.category, maxLocals]; done)) ?_
  intro E C
  refine Go.aloadN C dc_prog_20_method_4_0 (q := 1) rfl rfl rfl ?_
  refine Go.getF C (host := "") (Or.inl (wd hw 46 rfl)) Via.refl (fun _ r => r.fld 0 2 rfl rfl) dc_prog_20_method_4_1 (q := 4) rfl ?_
  refine Go.ifYes C dc_prog_20_method_4_4 (by decide) (q := 31) rfl (XT.i0_ne_t (by decide)) ?_
  refine Go.iconst C dc_prog_20_method_4_31 (q := 32) rfl (v := (0 : Int32)) rfl ?_
  refine Go.retZ C rfl (by decide) dc_prog_20_method_4_32 (by decide) (by decide) ?_
  exact ⟨rfl, rfl⟩
set_option maxRecDepth 65536 in
set_option maxHeartbeats 40000000 in
theorem u_SequenceQueue_Part_makeRoom_115 (l : Launch) (Z : State) (a0 : Array Value) (hw : ∀ d ∈ tables_1, d.before a0 Z = true) (F : List Ent) (pA0 pA1 pA2 eA0 : Addr) (kA0 kA1 kA2 kA3 kA4 kA5 : Int64) (hE_eA0 : Exa Z Z.heap eA0 "java/lang/Integer") :
    Met l Z yN10 prog_22_method_2_code 1 none { frames := 0, cells := 0, slots := 0, locals := 0 } #[(.ref pA0)] ((pA0, oHeap (.ref pA1) (.ref pA2) (.int (1 : Int32))) :: (pA1, .inr (.long, (oK64 (.long kA0) (.long kA1) (.long kA2) (.long kA3) (.long kA4) (.long kA5)), true)) :: (pA2, .inr (.object "java/lang/Object", (oE64 (.ref eA0) .null .null .null .null .null), true)) :: F) (fun r M' => (r = none ∧ M' = ((pA0, oHeap (.ref pA1) (.ref pA2) (.int (1 : Int32))) :: (pA1, .inr (.long, (oK64 (.long kA0) (.long kA1) (.long kA2) (.long kA3) (.long kA4) (.long kA5)), true)) :: (pA2, .inr (.object "java/lang/Object", (oE64 (.ref eA0) .null .null .null .null .null), true)) :: F))) := by
  refine Met.of_go pn_10 (Ls := #[.val (.ref pA0)]) (fun m => by first | rfl | (simp [entryFrame, mkF, argsToLocals, Value.category, maxLocals]; done)) ?_
  intro E C
  refine Go.aloadN C dc_prog_22_method_2_0 (q := 1) rfl rfl rfl ?_
  refine Go.getF C (host := "") (Or.inl (wd hw 102 rfl)) Via.refl (fun _ r => r.fld 0 2 rfl rfl) dc_prog_22_method_2_1 (q := 4) rfl ?_
  refine Go.aloadN C dc_prog_22_method_2_4 (q := 5) rfl rfl rfl ?_
  refine Go.getF C (host := "") (Or.inl (wd hw 22 rfl)) Via.refl (fun _ r => r.fld 0 0 rfl rfl) dc_prog_22_method_2_5 (q := 8) rfl ?_
  refine Go.arraylength C (fun _ r => r.arr 1 rfl) (z := (64 : Int32)) rfl dc_prog_22_method_2_8 (q := 9) rfl ?_
  refine Go.icmpYes C dc_prog_22_method_2_9 (by decide) (q := 58) rfl (XT.ii_ne_t (by decide)) ?_
  refine Go.ret0 C rfl dc_prog_22_method_2_58 (by decide) (by decide) ?_
  exact ⟨rfl, rfl⟩
theorem dc_prog_21_method_2_25 : decode prog_21_method_2_code 25 = .ok (.iload 4, 2) := by decide +kernel
theorem dc_prog_21_method_2_27 : decode prog_21_method_2_code 27 = .ok (.iconst 1, 1) := by decide +kernel
theorem dc_prog_21_method_2_28 : decode prog_21_method_2_code 28 = .ok (.isub, 1) := by decide +kernel
theorem dc_prog_21_method_2_29 : decode prog_21_method_2_code 29 = .ok (.iconst 1, 1) := by decide +kernel
theorem dc_prog_21_method_2_30 : decode prog_21_method_2_code 30 = .ok (.iushr, 1) := by decide +kernel
theorem dc_prog_21_method_2_31 : decode prog_21_method_2_code 31 = .ok (.istore 5, 2) := by decide +kernel
theorem dc_prog_21_method_2_33 : decode prog_21_method_2_code 33 = .ok (.aload_n 0, 1) := by decide +kernel
theorem dc_prog_21_method_2_34 : decode prog_21_method_2_code 34 = .ok (.getfield 16, 3) := by decide +kernel
theorem dc_prog_21_method_2_37 : decode prog_21_method_2_code 37 = .ok (.iload 5, 2) := by decide +kernel
theorem dc_prog_21_method_2_39 : decode prog_21_method_2_code 39 = .ok (.laload, 1) := by decide +kernel
theorem dc_prog_21_method_2_40 : decode prog_21_method_2_code 40 = .ok (.lload_n 1, 1) := by decide +kernel
theorem dc_prog_21_method_2_41 : decode prog_21_method_2_code 41 = .ok (.lcmp, 1) := by decide +kernel
theorem dc_prog_21_method_2_42 : decode prog_21_method_2_code 42 = .ok (.ifCond .gt 6, 3) := by decide +kernel
theorem dc_prog_21_method_2_48 : decode prog_21_method_2_code 48 = .ok (.aload_n 0, 1) := by decide +kernel
theorem dc_prog_21_method_2_49 : decode prog_21_method_2_code 49 = .ok (.getfield 16, 3) := by decide +kernel
theorem dc_prog_21_method_2_52 : decode prog_21_method_2_code 52 = .ok (.iload 4, 2) := by decide +kernel
theorem dc_prog_21_method_2_54 : decode prog_21_method_2_code 54 = .ok (.aload_n 0, 1) := by decide +kernel
theorem dc_prog_21_method_2_55 : decode prog_21_method_2_code 55 = .ok (.getfield 16, 3) := by decide +kernel
theorem dc_prog_21_method_2_58 : decode prog_21_method_2_code 58 = .ok (.iload 5, 2) := by decide +kernel
theorem dc_prog_21_method_2_60 : decode prog_21_method_2_code 60 = .ok (.laload, 1) := by decide +kernel
theorem dc_prog_21_method_2_61 : decode prog_21_method_2_code 61 = .ok (.lastore, 1) := by decide +kernel
theorem dc_prog_21_method_2_62 : decode prog_21_method_2_code 62 = .ok (.aload_n 0, 1) := by decide +kernel
theorem dc_prog_21_method_2_63 : decode prog_21_method_2_code 63 = .ok (.getfield 20, 3) := by decide +kernel
theorem dc_prog_21_method_2_66 : decode prog_21_method_2_code 66 = .ok (.iload 4, 2) := by decide +kernel
theorem dc_prog_21_method_2_68 : decode prog_21_method_2_code 68 = .ok (.aload_n 0, 1) := by decide +kernel
theorem dc_prog_21_method_2_69 : decode prog_21_method_2_code 69 = .ok (.getfield 20, 3) := by decide +kernel
theorem dc_prog_21_method_2_72 : decode prog_21_method_2_code 72 = .ok (.iload 5, 2) := by decide +kernel
theorem dc_prog_21_method_2_74 : decode prog_21_method_2_code 74 = .ok (.aaload, 1) := by decide +kernel
theorem dc_prog_21_method_2_75 : decode prog_21_method_2_code 75 = .ok (.aastore, 1) := by decide +kernel
theorem dc_prog_21_method_2_76 : decode prog_21_method_2_code 76 = .ok (.iload 5, 2) := by decide +kernel
theorem dc_prog_21_method_2_78 : decode prog_21_method_2_code 78 = .ok (.istore 4, 2) := by decide +kernel
theorem dc_prog_21_method_2_80 : decode prog_21_method_2_code 80 = .ok (.goto (-60), 3) := by decide +kernel
theorem dc_prog_21_method_2_45 : decode prog_21_method_2_code 45 = .ok (.goto 38, 3) := by decide +kernel
set_option maxRecDepth 65536 in
set_option maxHeartbeats 40000000 in
theorem u_SequenceQueue_Heap_add_114 (l : Launch) (Z : State) (a0 : Array Value) (hw : ∀ d ∈ tables_1, d.before a0 Z = true) (F : List Ent) (pA0 pA1 pA2 eA0 eA1 : Addr) (kA0 kA1 kA2 kA3 kA4 kA5 kA6 : Int64) (hE_eA0 : Exa Z Z.heap eA0 "java/lang/Integer") (hE_eA1 : Exa Z Z.heap eA1 "java/lang/Integer") :
    Met l Z yN17 prog_21_method_2_code 6 none { frames := 1, cells := 0, slots := 0, locals := 12 } #[(.ref pA0), (.long kA0), (.ref eA0)] ((pA0, oHeap (.ref pA1) (.ref pA2) (.int (1 : Int32))) :: (pA1, .inr (.long, (oK64 (.long kA1) (.long kA2) (.long kA3) (.long kA4) (.long kA5) (.long kA6)), true)) :: (pA2, .inr (.object "java/lang/Object", (oE64 (.ref eA1) .null .null .null .null .null), true)) :: F) (fun r M' => (r = none ∧ M' = ((pA0, oHeap (.ref pA1) (.ref pA2) (.int (2 : Int32))) :: (pA1, .inr (.long, (oK64 (.long kA0) (.long kA1) (.long kA3) (.long kA4) (.long kA5) (.long kA6)), true)) :: (pA2, .inr (.object "java/lang/Object", (oE64 (.ref eA0) (.ref eA1) .null .null .null .null), true)) :: F)) ∨ (r = none ∧ M' = ((pA0, oHeap (.ref pA1) (.ref pA2) (.int (2 : Int32))) :: (pA1, .inr (.long, (oK64 (.long kA1) (.long kA0) (.long kA3) (.long kA4) (.long kA5) (.long kA6)), true)) :: (pA2, .inr (.object "java/lang/Object", (oE64 (.ref eA1) (.ref eA0) .null .null .null .null), true)) :: F))) := by
  refine Met.of_go pn_15 (Ls := #[.val (.ref pA0), .val (.long kA0), .second, .val (.ref eA0), .unset, .unset]) (fun m => by first | rfl | (simp [entryFrame, mkF, argsToLocals, Value.category, maxLocals]; done)) ?_
  intro E C
  refine Go.aloadN C dc_prog_21_method_2_0 (q := 1) rfl rfl rfl ?_
  refine Go.callU C (y := yN16) (z := yN10) (owner := "com/example/ordered_dispatch/ordereddispatch/SequenceQueue$Part") (a := pA0) (as := []) (rest := []) (wd hw 126 rfl) (wd hw 127 rfl) (wd hw 98 rfl) (wd hw 128 rfl) (wd hw 99 rfl) (wd hw 101 rfl) (wd hw 18 rfl) (fun _ r => r.exa 0 rfl) (u_SequenceQueue_Part_makeRoom_115 l Z a0 hw _ pA0 pA1 pA2 eA1 kA1 kA2 kA3 kA4 kA5 kA6 hE_eA1) rfl dc_prog_21_method_2_1 (q := 4) rfl (by decide) rfl (na := 0) (by decide +kernel) rfl (by decide) (W := 0) rfl (by decide) (by decide) (by decide) (k' := 0) (n' := 0) rfl rfl ?_
  rintro _ _ ⟨rfl, rfl⟩
  show Go _ _ _ _ _ _ _ _ _ _ []
  refine Go.aloadN C dc_prog_21_method_2_4 (q := 5) rfl rfl rfl ?_
  refine Go.getF C (host := "") (Or.inl (wd hw 129 rfl)) (Via.of (wd hw 52 rfl)) (fun _ r => r.fld 0 2 rfl rfl) dc_prog_21_method_2_5 (q := 8) rfl ?_
  refine Go.istore C dc_prog_21_method_2_8 (q := 10) rfl (Ls' := #[.val (.ref pA0), .val (.long kA0), .second, .val (.ref eA0), .val (.int (1 : Int32)), .unset]) rfl ?_
  refine Go.aloadN C dc_prog_21_method_2_10 (q := 11) rfl rfl rfl ?_
  refine Go.dup C dc_prog_21_method_2_11 (q := 12) rfl rfl ?_
  refine Go.getF C (host := "") (Or.inl (wd hw 129 rfl)) (Via.of (wd hw 52 rfl)) (fun _ r => r.fld 0 2 rfl rfl) dc_prog_21_method_2_12 (q := 15) rfl ?_
  refine Go.iconst C dc_prog_21_method_2_15 (q := 16) rfl (v := (1 : Int32)) rfl ?_
  refine Go.iadd C dc_prog_21_method_2_16 (q := 17) rfl ?_
  refine Go.castI (w := (2 : Int32)) (by decide) ?_
  refine Go.putF C (host := "") (i := 0) (j := 2) (Or.inl (wd hw 129 rfl)) (Via.of (wd hw 52 rfl)) rfl rfl (Or.inl (wd hw 53 rfl)) (wd hw 31 rfl) (ty := .int) (by decide) rfl rfl dc_prog_21_method_2_17 (q := 20) rfl (M' := ((pA0, oHeap (.ref pA1) (.ref pA2) (.int (2 : Int32))) :: (pA1, .inr (.long, (oK64 (.long kA1) (.long kA2) (.long kA3) (.long kA4) (.long kA5) (.long kA6)), true)) :: (pA2, .inr (.object "java/lang/Object", (oE64 (.ref eA1) .null .null .null .null .null), true)) :: F)) rfl ?_
  refine Go.iload C dc_prog_21_method_2_20 (q := 22) rfl rfl ?_
  refine Go.ifNo C dc_prog_21_method_2_22 (q := 25) rfl (XT.i0_le_f (by decide)) ?_
  refine Go.iload C dc_prog_21_method_2_25 (q := 27) rfl rfl ?_
  refine Go.iconst C dc_prog_21_method_2_27 (q := 28) rfl (v := (1 : Int32)) rfl ?_
  refine Go.isub C dc_prog_21_method_2_28 (q := 29) rfl ?_
  refine Go.castI (w := (0 : Int32)) (by decide) ?_
  refine Go.iconst C dc_prog_21_method_2_29 (q := 30) rfl (v := (1 : Int32)) rfl ?_
  refine Go.iushr C dc_prog_21_method_2_30 (q := 31) rfl ?_
  refine Go.castI (w := (0 : Int32)) (by decide) ?_
  refine Go.istore C dc_prog_21_method_2_31 (q := 33) rfl (Ls' := #[.val (.ref pA0), .val (.long kA0), .second, .val (.ref eA0), .val (.int (1 : Int32)), .val (.int (0 : Int32))]) rfl ?_
  refine Go.aloadN C dc_prog_21_method_2_33 (q := 34) rfl rfl rfl ?_
  refine Go.getF C (host := "") (Or.inl (wd hw 130 rfl)) (Via.of (wd hw 131 rfl)) (fun _ r => r.fld 0 0 rfl rfl) dc_prog_21_method_2_34 (q := 37) rfl ?_
  refine Go.iload C dc_prog_21_method_2_37 (q := 39) rfl rfl ?_
  refine Go.laload C (fun _ r => r.arr 1 rfl) (by decide) (v := (.long kA1)) rfl dc_prog_21_method_2_39 (q := 40) rfl ?_
  refine Go.lloadN C dc_prog_21_method_2_40 (q := 41) rfl rfl ?_
  refine Go.lcmpif C dc_prog_21_method_2_41 rfl dc_prog_21_method_2_42 (by decide) (q := 48) rfl (q' := 45) rfl (fun (h41_1 : kA0 < kA1) => ?_) (fun (h41_1 : ¬ kA0 < kA1) => ?_)
  · refine Go.aloadN C dc_prog_21_method_2_48 (q := 49) rfl rfl rfl ?_
    refine Go.getF C (host := "") (Or.inl (wd hw 130 rfl)) (Via.of (wd hw 131 rfl)) (fun _ r => r.fld 0 0 rfl rfl) dc_prog_21_method_2_49 (q := 52) rfl ?_
    refine Go.iload C dc_prog_21_method_2_52 (q := 54) rfl rfl ?_
    refine Go.aloadN C dc_prog_21_method_2_54 (q := 55) rfl rfl rfl ?_
    refine Go.getF C (host := "") (Or.inl (wd hw 130 rfl)) (Via.of (wd hw 131 rfl)) (fun _ r => r.fld 0 0 rfl rfl) dc_prog_21_method_2_55 (q := 58) rfl ?_
    refine Go.iload C dc_prog_21_method_2_58 (q := 60) rfl rfl ?_
    refine Go.laload C (fun _ r => r.arr 1 rfl) (by decide) (v := (.long kA1)) rfl dc_prog_21_method_2_60 (q := 61) rfl ?_
    refine Go.lastore C (i := 1) rfl (by decide) (show (1 : Int32).toNatClampNeg < 64 from by decide) (w' := (.long kA1)) rfl dc_prog_21_method_2_61 (q := 62) rfl (M' := ((pA0, oHeap (.ref pA1) (.ref pA2) (.int (2 : Int32))) :: (pA1, .inr (.long, (oK64 (.long kA1) (.long kA1) (.long kA3) (.long kA4) (.long kA5) (.long kA6)), true)) :: (pA2, .inr (.object "java/lang/Object", (oE64 (.ref eA1) .null .null .null .null .null), true)) :: F)) rfl ?_
    refine Go.aloadN C dc_prog_21_method_2_62 (q := 63) rfl rfl rfl ?_
    refine Go.getF C (host := "") (Or.inl (wd hw 132 rfl)) (Via.of (wd hw 133 rfl)) (fun _ r => r.fld 0 1 rfl rfl) dc_prog_21_method_2_63 (q := 66) rfl ?_
    refine Go.iload C dc_prog_21_method_2_66 (q := 68) rfl rfl ?_
    refine Go.aloadN C dc_prog_21_method_2_68 (q := 69) rfl rfl rfl ?_
    refine Go.getF C (host := "") (Or.inl (wd hw 132 rfl)) (Via.of (wd hw 133 rfl)) (fun _ r => r.fld 0 1 rfl rfl) dc_prog_21_method_2_69 (q := 72) rfl ?_
    refine Go.iload C dc_prog_21_method_2_72 (q := 74) rfl rfl ?_
    refine Go.aaload C (fun _ r => r.arr 2 rfl) rfl (by decide) (v := (.ref eA1)) rfl dc_prog_21_method_2_74 (q := 75) rfl ?_
    refine Go.aastore C (i := 2) rfl (by decide) (show (1 : Int32).toNatClampNeg < 64 from by decide) (fun _ r => Or.inr ⟨_, rfl, Ins.of_exa ((hE_eA1).ext r.1) (wd hw 109 rfl)⟩) dc_prog_21_method_2_75 (q := 76) rfl (M' := ((pA0, oHeap (.ref pA1) (.ref pA2) (.int (2 : Int32))) :: (pA1, .inr (.long, (oK64 (.long kA1) (.long kA1) (.long kA3) (.long kA4) (.long kA5) (.long kA6)), true)) :: (pA2, .inr (.object "java/lang/Object", (oE64 (.ref eA1) (.ref eA1) .null .null .null .null), true)) :: F)) rfl ?_
    refine Go.iload C dc_prog_21_method_2_76 (q := 78) rfl rfl ?_
    refine Go.istore C dc_prog_21_method_2_78 (q := 80) rfl (Ls' := #[.val (.ref pA0), .val (.long kA0), .second, .val (.ref eA0), .val (.int (0 : Int32)), .val (.int (0 : Int32))]) rfl ?_
    refine Go.goto C dc_prog_21_method_2_80 (by decide) (q := 20) rfl ?_
    refine Go.iload C dc_prog_21_method_2_20 (q := 22) rfl rfl ?_
    refine Go.ifYes C dc_prog_21_method_2_22 (by decide) (q := 83) rfl (XT.i0_le_t (by decide)) ?_
    refine Go.aloadN C dc_prog_21_method_2_83 (q := 84) rfl rfl rfl ?_
    refine Go.getF C (host := "") (Or.inl (wd hw 130 rfl)) (Via.of (wd hw 131 rfl)) (fun _ r => r.fld 0 0 rfl rfl) dc_prog_21_method_2_84 (q := 87) rfl ?_
    refine Go.iload C dc_prog_21_method_2_87 (q := 89) rfl rfl ?_
    refine Go.lloadN C dc_prog_21_method_2_89 (q := 90) rfl rfl ?_
    refine Go.lastore C (i := 1) rfl (by decide) (show (0 : Int32).toNatClampNeg < 64 from by decide) (w' := (.long kA0)) rfl dc_prog_21_method_2_90 (q := 91) rfl (M' := ((pA0, oHeap (.ref pA1) (.ref pA2) (.int (2 : Int32))) :: (pA1, .inr (.long, (oK64 (.long kA0) (.long kA1) (.long kA3) (.long kA4) (.long kA5) (.long kA6)), true)) :: (pA2, .inr (.object "java/lang/Object", (oE64 (.ref eA1) (.ref eA1) .null .null .null .null), true)) :: F)) rfl ?_
    refine Go.aloadN C dc_prog_21_method_2_91 (q := 92) rfl rfl rfl ?_
    refine Go.getF C (host := "") (Or.inl (wd hw 132 rfl)) (Via.of (wd hw 133 rfl)) (fun _ r => r.fld 0 1 rfl rfl) dc_prog_21_method_2_92 (q := 95) rfl ?_
    refine Go.iload C dc_prog_21_method_2_95 (q := 97) rfl rfl ?_
    refine Go.aloadN C dc_prog_21_method_2_97 (q := 98) rfl rfl rfl ?_
    refine Go.aastore C (i := 2) rfl (by decide) (show (0 : Int32).toNatClampNeg < 64 from by decide) (fun _ r => Or.inr ⟨_, rfl, Ins.of_exa ((hE_eA0).ext r.1) (wd hw 109 rfl)⟩) dc_prog_21_method_2_98 (q := 99) rfl (M' := ((pA0, oHeap (.ref pA1) (.ref pA2) (.int (2 : Int32))) :: (pA1, .inr (.long, (oK64 (.long kA0) (.long kA1) (.long kA3) (.long kA4) (.long kA5) (.long kA6)), true)) :: (pA2, .inr (.object "java/lang/Object", (oE64 (.ref eA0) (.ref eA1) .null .null .null .null), true)) :: F)) rfl ?_
    refine Go.ret0 C rfl dc_prog_21_method_2_99 (by decide) (by decide) ?_
    exact Or.inl ⟨rfl, rfl⟩
  · refine Go.goto C dc_prog_21_method_2_45 (by decide) (q := 83) rfl ?_
    refine Go.aloadN C dc_prog_21_method_2_83 (q := 84) rfl rfl rfl ?_
    refine Go.getF C (host := "") (Or.inl (wd hw 130 rfl)) (Via.of (wd hw 131 rfl)) (fun _ r => r.fld 0 0 rfl rfl) dc_prog_21_method_2_84 (q := 87) rfl ?_
    refine Go.iload C dc_prog_21_method_2_87 (q := 89) rfl rfl ?_
    refine Go.lloadN C dc_prog_21_method_2_89 (q := 90) rfl rfl ?_
    refine Go.lastore C (i := 1) rfl (by decide) (show (1 : Int32).toNatClampNeg < 64 from by decide) (w' := (.long kA0)) rfl dc_prog_21_method_2_90 (q := 91) rfl (M' := ((pA0, oHeap (.ref pA1) (.ref pA2) (.int (2 : Int32))) :: (pA1, .inr (.long, (oK64 (.long kA1) (.long kA0) (.long kA3) (.long kA4) (.long kA5) (.long kA6)), true)) :: (pA2, .inr (.object "java/lang/Object", (oE64 (.ref eA1) .null .null .null .null .null), true)) :: F)) rfl ?_
    refine Go.aloadN C dc_prog_21_method_2_91 (q := 92) rfl rfl rfl ?_
    refine Go.getF C (host := "") (Or.inl (wd hw 132 rfl)) (Via.of (wd hw 133 rfl)) (fun _ r => r.fld 0 1 rfl rfl) dc_prog_21_method_2_92 (q := 95) rfl ?_
    refine Go.iload C dc_prog_21_method_2_95 (q := 97) rfl rfl ?_
    refine Go.aloadN C dc_prog_21_method_2_97 (q := 98) rfl rfl rfl ?_
    refine Go.aastore C (i := 2) rfl (by decide) (show (1 : Int32).toNatClampNeg < 64 from by decide) (fun _ r => Or.inr ⟨_, rfl, Ins.of_exa ((hE_eA0).ext r.1) (wd hw 109 rfl)⟩) dc_prog_21_method_2_98 (q := 99) rfl (M' := ((pA0, oHeap (.ref pA1) (.ref pA2) (.int (2 : Int32))) :: (pA1, .inr (.long, (oK64 (.long kA1) (.long kA0) (.long kA3) (.long kA4) (.long kA5) (.long kA6)), true)) :: (pA2, .inr (.object "java/lang/Object", (oE64 (.ref eA1) (.ref eA0) .null .null .null .null), true)) :: F)) rfl ?_
    refine Go.ret0 C rfl dc_prog_21_method_2_99 (by decide) (by decide) ?_
    exact Or.inr (⟨rfl, rfl⟩)
set_option maxRecDepth 65536 in
set_option maxHeartbeats 40000000 in
theorem u_SequenceQueue_place_113 (l : Launch) (Z : State) (a0 : Array Value) (hw : ∀ d ∈ tables_1, d.before a0 Z = true) (F : List Ent) (pA0 pA1 pA2 pA3 pA4 pA5 pA6 eA0 eA1 eA2 eA3 : Addr) (kA0 kA1 kA2 kA3 kA4 kA5 kA6 kA7 kA8 kA9 kA10 kA11 kA12 kA13 : Int64) (hE_eA0 : Exa Z Z.heap eA0 "java/lang/Integer") (hE_eA1 : Exa Z Z.heap eA1 "java/lang/Integer") (hE_eA2 : Exa Z Z.heap eA2 "java/lang/Integer") (hE_eA3 : Exa Z Z.heap eA3 "java/lang/Integer") :
    Met l Z yN14 prog_20_method_9_code 4 none { frames := 2, cells := 0, slots := 0, locals := 30 } #[(.ref pA0), (.long kA0), (.ref eA0)] ((pA0, oQ (.ref pA1) (.ref pA4) (.int (1 : Int32)) (.long kA1) (.ref eA1)) :: (pA1, oRun (.ref pA2) (.ref pA3) (.int (1 : Int32)) (.int (0 : Int32))) :: (pA2, .inr (.long, (oK64 (.long kA2) (.long kA3) (.long kA4) (.long kA5) (.long kA6) (.long kA7)), true)) :: (pA3, .inr (.object "java/lang/Object", (oE64 (.ref eA2) .null .null .null .null .null), true)) :: (pA4, oHeap (.ref pA5) (.ref pA6) (.int (1 : Int32))) :: (pA5, .inr (.long, (oK64 (.long kA8) (.long kA9) (.long kA10) (.long kA11) (.long kA12) (.long kA13)), true)) :: (pA6, .inr (.object "java/lang/Object", (oE64 (.ref eA3) .null .null .null .null .null), true)) :: F) (fun r M' => (r = none ∧ M' = ((pA4, oHeap (.ref pA5) (.ref pA6) (.int (2 : Int32))) :: (pA5, .inr (.long, (oK64 (.long kA0) (.long kA8) (.long kA10) (.long kA11) (.long kA12) (.long kA13)), true)) :: (pA6, .inr (.object "java/lang/Object", (oE64 (.ref eA0) (.ref eA3) .null .null .null .null), true)) :: (pA1, oRun (.ref pA2) (.ref pA3) (.int (1 : Int32)) (.int (0 : Int32))) :: (pA2, .inr (.long, (oK64 (.long kA2) (.long kA3) (.long kA4) (.long kA5) (.long kA6) (.long kA7)), true)) :: (pA3, .inr (.object "java/lang/Object", (oE64 (.ref eA2) .null .null .null .null .null), true)) :: (pA0, oQ (.ref pA1) (.ref pA4) (.int (1 : Int32)) (.long kA1) (.ref eA1)) :: F)) ∨ (r = none ∧ M' = ((pA4, oHeap (.ref pA5) (.ref pA6) (.int (2 : Int32))) :: (pA5, .inr (.long, (oK64 (.long kA8) (.long kA0) (.long kA10) (.long kA11) (.long kA12) (.long kA13)), true)) :: (pA6, .inr (.object "java/lang/Object", (oE64 (.ref eA3) (.ref eA0) .null .null .null .null), true)) :: (pA1, oRun (.ref pA2) (.ref pA3) (.int (1 : Int32)) (.int (0 : Int32))) :: (pA2, .inr (.long, (oK64 (.long kA2) (.long kA3) (.long kA4) (.long kA5) (.long kA6) (.long kA7)), true)) :: (pA3, .inr (.object "java/lang/Object", (oE64 (.ref eA2) .null .null .null .null .null), true)) :: (pA0, oQ (.ref pA1) (.ref pA4) (.int (1 : Int32)) (.long kA1) (.ref eA1)) :: F)) ∨ (r = none ∧ M' = ((pA1, oRun (.ref pA2) (.ref pA3) (.int (2 : Int32)) (.int (0 : Int32))) :: (pA2, .inr (.long, (oK64 (.long kA2) (.long kA0) (.long kA4) (.long kA5) (.long kA6) (.long kA7)), true)) :: (pA3, .inr (.object "java/lang/Object", (oE64 (.ref eA2) (.ref eA0) .null .null .null .null), true)) :: (pA0, oQ (.ref pA1) (.ref pA4) (.int (1 : Int32)) (.long kA1) (.ref eA1)) :: (pA4, oHeap (.ref pA5) (.ref pA6) (.int (1 : Int32))) :: (pA5, .inr (.long, (oK64 (.long kA8) (.long kA9) (.long kA10) (.long kA11) (.long kA12) (.long kA13)), true)) :: (pA6, .inr (.object "java/lang/Object", (oE64 (.ref eA3) .null .null .null .null .null), true)) :: F))) := by
  refine Met.of_go pn_13 (Ls := #[.val (.ref pA0), .val (.long kA0), .second, .val (.ref eA0)]) (fun m => by first | rfl | (simp [entryFrame, mkF, argsToLocals, Value.category, maxLocals]; done)) ?_
  intro E C
  refine Go.aloadN C dc_prog_20_method_9_0 (q := 1) rfl rfl rfl ?_
  refine Go.getF C (host := "") (Or.inl (wd hw 28 rfl)) Via.refl (fun _ r => r.fld 0 0 rfl rfl) dc_prog_20_method_9_1 (q := 4) rfl ?_
  refine Go.getF C (host := "") (Or.inl (wd hw 48 rfl)) (Via.of (wd hw 49 rfl)) (fun _ r => r.fld 1 2 rfl rfl) dc_prog_20_method_9_4 (q := 7) rfl ?_
  refine Go.ifNo C dc_prog_20_method_9_7 (q := 10) rfl (XT.i0_eq_f (by decide)) ?_
  refine Go.lloadN C dc_prog_20_method_9_10 (q := 11) rfl rfl ?_
  refine Go.aloadN C dc_prog_20_method_9_11 (q := 12) rfl rfl rfl ?_
  refine Go.getF C (host := "") (Or.inl (wd hw 28 rfl)) Via.refl (fun _ r => r.fld 0 0 rfl rfl) dc_prog_20_method_9_12 (q := 15) rfl ?_
  refine Go.pick (M' := ((pA1, oRun (.ref pA2) (.ref pA3) (.int (1 : Int32)) (.int (0 : Int32))) :: (pA2, .inr (.long, (oK64 (.long kA2) (.long kA3) (.long kA4) (.long kA5) (.long kA6) (.long kA7)), true)) :: (pA3, .inr (.object "java/lang/Object", (oE64 (.ref eA2) .null .null .null .null .null), true)) :: (pA0, oQ (.ref pA1) (.ref pA4) (.int (1 : Int32)) (.long kA1) (.ref eA1)) :: (pA4, oHeap (.ref pA5) (.ref pA6) (.int (1 : Int32))) :: (pA5, .inr (.long, (oK64 (.long kA8) (.long kA9) (.long kA10) (.long kA11) (.long kA12) (.long kA13)), true)) :: (pA6, .inr (.object "java/lang/Object", (oE64 (.ref eA3) .null .null .null .null .null), true)) :: F)) 7 [1, 2, 3, 0, 4, 5, 6] (by decide) (by decide) rfl ?_
  refine Go.callPR C (y := yN15) (a := pA1) (as := []) (rest := [(.long kA0)]) (wd hw 110 rfl) (wd hw 111 rfl) (sel_priv (y := yN15) (wd hw 10 rfl) (wd hw 111 rfl) (wd hw 112 rfl) (by decide)) (wd hw 112 rfl) (wd hw 113 rfl) (wd hw 11 rfl) (fun _ r => r.exa 0 rfl) (u_SequenceQueue_Run_lastKey_40 l Z a0 hw _ pA1 pA2 pA3 eA2 kA2 kA3 kA4 kA5 kA6 kA7 hE_eA2) rfl dc_prog_20_method_9_15 (q := 18) rfl (by decide) rfl (na := 0) (by decide +kernel) rfl (by decide) (W := 2) rfl (by decide) (by decide) (by decide) (k' := 0) (n' := 0) rfl rfl ?_
  rintro _ _ ⟨rfl, rfl⟩
  show Go _ _ _ _ _ _ _ _ _ _ [(.long kA2), (.long kA0)]
  refine Go.lcmpif C dc_prog_20_method_9_18 rfl dc_prog_20_method_9_19 (by decide) (q := 34) rfl (q' := 22) rfl (fun (h18_1 : kA0 < kA2) => ?_) (fun (h18_1 : ¬ kA0 < kA2) => ?_)
  · refine Go.aloadN C dc_prog_20_method_9_34 (q := 35) rfl rfl rfl ?_
    refine Go.getF C (host := "") (Or.inl (wd hw 39 rfl)) Via.refl (fun _ r => r.fld 3 1 rfl rfl) dc_prog_20_method_9_35 (q := 38) rfl ?_
    refine Go.lloadN C dc_prog_20_method_9_38 (q := 39) rfl rfl ?_
    refine Go.aloadN C dc_prog_20_method_9_39 (q := 40) rfl rfl rfl ?_
    refine Go.pick (M' := ((pA4, oHeap (.ref pA5) (.ref pA6) (.int (1 : Int32))) :: (pA5, .inr (.long, (oK64 (.long kA8) (.long kA9) (.long kA10) (.long kA11) (.long kA12) (.long kA13)), true)) :: (pA6, .inr (.object "java/lang/Object", (oE64 (.ref eA3) .null .null .null .null .null), true)) :: (pA1, oRun (.ref pA2) (.ref pA3) (.int (1 : Int32)) (.int (0 : Int32))) :: (pA2, .inr (.long, (oK64 (.long kA2) (.long kA3) (.long kA4) (.long kA5) (.long kA6) (.long kA7)), true)) :: (pA3, .inr (.object "java/lang/Object", (oE64 (.ref eA2) .null .null .null .null .null), true)) :: (pA0, oQ (.ref pA1) (.ref pA4) (.int (1 : Int32)) (.long kA1) (.ref eA1)) :: F)) 7 [4, 5, 6, 0, 1, 2, 3] (by decide) (by decide) rfl ?_
    refine Go.callPR C (y := yN17) (a := pA4) (as := [(.long kA0), (.ref eA0)]) (rest := []) (wd hw 122 rfl) (wd hw 123 rfl) (sel_priv (y := yN17) (wd hw 31 rfl) (wd hw 123 rfl) (wd hw 124 rfl) (by decide)) (wd hw 124 rfl) (wd hw 125 rfl) (wd hw 32 rfl) (fun _ r => r.exa 0 rfl) (u_SequenceQueue_Heap_add_114 l Z a0 hw _ pA4 pA5 pA6 eA0 eA3 kA0 kA8 kA9 kA10 kA11 kA12 kA13 hE_eA0 hE_eA3) rfl dc_prog_20_method_9_40 (q := 43) rfl (by decide) rfl (na := 2) (by decide +kernel) rfl (by decide) (W := 0) rfl (by decide) (by decide) (by decide) (k' := 0) (n' := 0) rfl rfl ?_
    rintro _ _ (⟨rfl, rfl⟩ | ⟨rfl, rfl⟩)
    · show Go _ _ _ _ _ _ _ _ _ _ []
      refine Go.ret0 C rfl dc_prog_20_method_9_43 (by decide) (by decide) ?_
      exact Or.inl ⟨rfl, rfl⟩
    · show Go _ _ _ _ _ _ _ _ _ _ []
      refine Go.ret0 C rfl dc_prog_20_method_9_43 (by decide) (by decide) ?_
      exact Or.inr (Or.inl ⟨rfl, rfl⟩)
  · refine Go.aloadN C dc_prog_20_method_9_22 (q := 23) rfl rfl rfl ?_
    refine Go.getF C (host := "") (Or.inl (wd hw 28 rfl)) Via.refl (fun _ r => r.fld 3 0 rfl rfl) dc_prog_20_method_9_23 (q := 26) rfl ?_
    refine Go.lloadN C dc_prog_20_method_9_26 (q := 27) rfl rfl ?_
    refine Go.aloadN C dc_prog_20_method_9_27 (q := 28) rfl rfl rfl ?_
    refine Go.callPR C (y := yN13) (a := pA1) (as := [(.long kA0), (.ref eA0)]) (rest := []) (wd hw 92 rfl) (wd hw 93 rfl) (sel_priv (y := yN13) (wd hw 10 rfl) (wd hw 93 rfl) (wd hw 94 rfl) (by decide)) (wd hw 94 rfl) (wd hw 95 rfl) (wd hw 11 rfl) (fun _ r => r.exa 0 rfl) (u_SequenceQueue_Run_add_48 l Z a0 hw _ pA1 pA2 pA3 eA0 eA2 kA0 kA2 kA3 kA4 kA5 kA6 kA7 hE_eA0 hE_eA2) rfl dc_prog_20_method_9_28 (q := 31) rfl (by decide) rfl (na := 2) (by decide +kernel) rfl (by decide) (W := 0) rfl (by decide) (by decide) (by decide) (k' := 0) (n' := 0) rfl rfl ?_
    rintro _ _ ⟨rfl, rfl⟩
    show Go _ _ _ _ _ _ _ _ _ _ []
    refine Go.goto C dc_prog_20_method_9_31 (by decide) (q := 43) rfl ?_
    refine Go.ret0 C rfl dc_prog_20_method_9_43 (by decide) (by decide) ?_
    exact Or.inr (Or.inr (⟨rfl, rfl⟩))
theorem dc_prog_21_method_3_55 : decode prog_21_method_3_code 55 = .ok (.iconst 0, 1) := by decide +kernel
theorem dc_prog_21_method_3_56 : decode prog_21_method_3_code 56 = .ok (.istore 5, 2) := by decide +kernel
theorem dc_prog_21_method_3_58 : decode prog_21_method_3_code 58 = .ok (.aload_n 0, 1) := by decide +kernel
theorem dc_prog_21_method_3_59 : decode prog_21_method_3_code 59 = .ok (.getfield 12, 3) := by decide +kernel
theorem dc_prog_21_method_3_62 : decode prog_21_method_3_code 62 = .ok (.iconst 1, 1) := by decide +kernel
theorem dc_prog_21_method_3_63 : decode prog_21_method_3_code 63 = .ok (.iushr, 1) := by decide +kernel
theorem dc_prog_21_method_3_64 : decode prog_21_method_3_code 64 = .ok (.istore 6, 2) := by decide +kernel
theorem dc_prog_21_method_3_66 : decode prog_21_method_3_code 66 = .ok (.iload 5, 2) := by decide +kernel
theorem dc_prog_21_method_3_68 : decode prog_21_method_3_code 68 = .ok (.iload 6, 2) := by decide +kernel
theorem dc_prog_21_method_3_70 : decode prog_21_method_3_code 70 = .ok (.if_icmp .ge 95, 3) := by decide +kernel
theorem dc_prog_21_method_3_165 : decode prog_21_method_3_code 165 = .ok (.aload_n 0, 1) := by decide +kernel
theorem dc_prog_21_method_3_166 : decode prog_21_method_3_code 166 = .ok (.getfield 16, 3) := by decide +kernel
theorem dc_prog_21_method_3_169 : decode prog_21_method_3_code 169 = .ok (.iload 5, 2) := by decide +kernel
theorem dc_prog_21_method_3_171 : decode prog_21_method_3_code 171 = .ok (.lload_n 2, 1) := by decide +kernel
theorem dc_prog_21_method_3_172 : decode prog_21_method_3_code 172 = .ok (.lastore, 1) := by decide +kernel
theorem dc_prog_21_method_3_173 : decode prog_21_method_3_code 173 = .ok (.aload_n 0, 1) := by decide +kernel
theorem dc_prog_21_method_3_174 : decode prog_21_method_3_code 174 = .ok (.getfield 20, 3) := by decide +kernel
theorem dc_prog_21_method_3_177 : decode prog_21_method_3_code 177 = .ok (.iload 5, 2) := by decide +kernel
theorem dc_prog_21_method_3_179 : decode prog_21_method_3_code 179 = .ok (.aload 4, 2) := by decide +kernel
theorem dc_prog_21_method_3_181 : decode prog_21_method_3_code 181 = .ok (.aastore, 1) := by decide +kernel
set_option maxRecDepth 65536 in
set_option maxHeartbeats 40000000 in
theorem u_SequenceQueue_Part_giveBackRoom_120 (l : Launch) (Z : State) (a0 : Array Value) (hw : ∀ d ∈ tables_1, d.before a0 Z = true) (F : List Ent) (pA0 pA1 pA2 eA0 : Addr) (kA0 kA1 kA2 kA3 kA4 kA5 : Int64) (hE_eA0 : Exa Z Z.heap eA0 "java/lang/Integer") :
    Met l Z yN18 prog_22_method_3_code 1 none { frames := 0, cells := 0, slots := 0, locals := 0 } #[(.ref pA0)] ((pA0, oHeap (.ref pA1) (.ref pA2) (.int (1 : Int32))) :: (pA1, .inr (.long, (oK64 (.long kA0) (.long kA1) (.long kA2) (.long kA3) (.long kA4) (.long kA5)), true)) :: (pA2, .inr (.object "java/lang/Object", (oE64 (.ref eA0) .null .null .null .null .null), true)) :: F) (fun r M' => (r = none ∧ M' = ((pA0, oHeap (.ref pA1) (.ref pA2) (.int (1 : Int32))) :: (pA1, .inr (.long, (oK64 (.long kA0) (.long kA1) (.long kA2) (.long kA3) (.long kA4) (.long kA5)), true)) :: (pA2, .inr (.object "java/lang/Object", (oE64 (.ref eA0) .null .null .null .null .null), true)) :: F))) := by
  refine Met.of_go pn_16 (Ls := #[.val (.ref pA0)]) (fun m => by first | rfl | (simp [entryFrame, mkF, argsToLocals, Value.category, maxLocals]; done)) ?_
  intro E C
  refine Go.aloadN C dc_prog_22_method_3_0 (q := 1) rfl rfl rfl ?_
  refine Go.getF C (host := "") (Or.inl (wd hw 22 rfl)) Via.refl (fun _ r => r.fld 0 0 rfl rfl) dc_prog_22_method_3_1 (q := 4) rfl ?_
  refine Go.arraylength C (fun _ r => r.arr 1 rfl) (z := (64 : Int32)) rfl dc_prog_22_method_3_4 (q := 5) rfl ?_
  refine Go.bipush C dc_prog_22_method_3_5 (q := 7) rfl (v := (64 : Int32)) (by decide) ?_
  refine Go.icmpYes C dc_prog_22_method_3_7 (by decide) (q := 40) rfl (XT.ii_le_t (by decide)) ?_
  refine Go.ret0 C rfl dc_prog_22_method_3_40 (by decide) (by decide) ?_
  exact ⟨rfl, rfl⟩
set_option maxRecDepth 65536 in
set_option maxHeartbeats 40000000 in
theorem u_SequenceQueue_Heap_poll_119 (l : Launch) (Z : State) (a0 : Array Value) (hw : ∀ d ∈ tables_1, d.before a0 Z = true) (F : List Ent) (pA0 pA1 pA2 eA0 eA1 : Addr) (kA0 kA1 kA2 kA3 kA4 kA5 : Int64) (hE_eA0 : Exa Z Z.heap eA0 "java/lang/Integer") (hE_eA1 : Exa Z Z.heap eA1 "java/lang/Integer") :
    Met l Z yN20 prog_21_method_3_code 8 (some (.object "java/lang/Object")) { frames := 1, cells := 0, slots := 0, locals := 12 } #[(.ref pA0)] ((pA0, oHeap (.ref pA1) (.ref pA2) (.int (2 : Int32))) :: (pA1, .inr (.long, (oK64 (.long kA0) (.long kA1) (.long kA2) (.long kA3) (.long kA4) (.long kA5)), true)) :: (pA2, .inr (.object "java/lang/Object", (oE64 (.ref eA0) (.ref eA1) .null .null .null .null), true)) :: F) (fun r M' => (r = (some (.ref eA0)) ∧ M' = ((pA0, oHeap (.ref pA1) (.ref pA2) (.int (1 : Int32))) :: (pA1, .inr (.long, (oK64 (.long kA1) (.long kA1) (.long kA2) (.long kA3) (.long kA4) (.long kA5)), true)) :: (pA2, .inr (.object "java/lang/Object", (oE64 (.ref eA1) .null .null .null .null .null), true)) :: F))) := by
  refine Met.of_go pn_17 (Ls := #[.val (.ref pA0), .unset, .unset, .unset, .unset, .unset, .unset, .unset]) (fun m => by first | rfl | (simp [entryFrame, mkF, argsToLocals, Value.category, maxLocals]; done)) ?_
  intro E C
  refine Go.aloadN C dc_prog_21_method_3_0 (q := 1) rfl rfl rfl ?_
  refine Go.getF C (host := "") (Or.inl (wd hw 132 rfl)) (Via.of (wd hw 133 rfl)) (fun _ r => r.fld 0 1 rfl rfl) dc_prog_21_method_3_1 (q := 4) rfl ?_
  refine Go.iconst C dc_prog_21_method_3_4 (q := 5) rfl (v := (0 : Int32)) rfl ?_
  refine Go.aaload C (fun _ r => r.arr 2 rfl) rfl (by decide) (v := (.ref eA0)) rfl dc_prog_21_method_3_5 (q := 6) rfl ?_
  refine Go.astoreN C dc_prog_21_method_3_6 (q := 7) rfl rfl (Ls' := #[.val (.ref pA0), .val (.ref eA0), .unset, .unset, .unset, .unset, .unset, .unset]) rfl ?_
  refine Go.aloadN C dc_prog_21_method_3_7 (q := 8) rfl rfl rfl ?_
  refine Go.dup C dc_prog_21_method_3_8 (q := 9) rfl rfl ?_
  refine Go.getF C (host := "") (Or.inl (wd hw 129 rfl)) (Via.of (wd hw 52 rfl)) (fun _ r => r.fld 0 2 rfl rfl) dc_prog_21_method_3_9 (q := 12) rfl ?_
  refine Go.iconst C dc_prog_21_method_3_12 (q := 13) rfl (v := (1 : Int32)) rfl ?_
  refine Go.isub C dc_prog_21_method_3_13 (q := 14) rfl ?_
  refine Go.castI (w := (1 : Int32)) (by decide) ?_
  refine Go.putF C (host := "") (i := 0) (j := 2) (Or.inl (wd hw 129 rfl)) (Via.of (wd hw 52 rfl)) rfl rfl (Or.inl (wd hw 53 rfl)) (wd hw 31 rfl) (ty := .int) (by decide) rfl rfl dc_prog_21_method_3_14 (q := 17) rfl (M' := ((pA0, oHeap (.ref pA1) (.ref pA2) (.int (1 : Int32))) :: (pA1, .inr (.long, (oK64 (.long kA0) (.long kA1) (.long kA2) (.long kA3) (.long kA4) (.long kA5)), true)) :: (pA2, .inr (.object "java/lang/Object", (oE64 (.ref eA0) (.ref eA1) .null .null .null .null), true)) :: F)) rfl ?_
  refine Go.aloadN C dc_prog_21_method_3_17 (q := 18) rfl rfl rfl ?_
  refine Go.getF C (host := "") (Or.inl (wd hw 130 rfl)) (Via.of (wd hw 131 rfl)) (fun _ r => r.fld 0 0 rfl rfl) dc_prog_21_method_3_18 (q := 21) rfl ?_
  refine Go.aloadN C dc_prog_21_method_3_21 (q := 22) rfl rfl rfl ?_
  refine Go.getF C (host := "") (Or.inl (wd hw 129 rfl)) (Via.of (wd hw 52 rfl)) (fun _ r => r.fld 0 2 rfl rfl) dc_prog_21_method_3_22 (q := 25) rfl ?_
  refine Go.laload C (fun _ r => r.arr 1 rfl) (by decide) (v := (.long kA1)) rfl dc_prog_21_method_3_25 (q := 26) rfl ?_
  refine Go.lstoreN C dc_prog_21_method_3_26 (q := 27) rfl (Ls' := #[.val (.ref pA0), .val (.ref eA0), .val (.long kA1), .second, .unset, .unset, .unset, .unset]) rfl ?_
  refine Go.aloadN C dc_prog_21_method_3_27 (q := 28) rfl rfl rfl ?_
  refine Go.getF C (host := "") (Or.inl (wd hw 132 rfl)) (Via.of (wd hw 133 rfl)) (fun _ r => r.fld 0 1 rfl rfl) dc_prog_21_method_3_28 (q := 31) rfl ?_
  refine Go.aloadN C dc_prog_21_method_3_31 (q := 32) rfl rfl rfl ?_
  refine Go.getF C (host := "") (Or.inl (wd hw 129 rfl)) (Via.of (wd hw 52 rfl)) (fun _ r => r.fld 0 2 rfl rfl) dc_prog_21_method_3_32 (q := 35) rfl ?_
  refine Go.aaload C (fun _ r => r.arr 2 rfl) rfl (by decide) (v := (.ref eA1)) rfl dc_prog_21_method_3_35 (q := 36) rfl ?_
  refine Go.astore C dc_prog_21_method_3_36 (q := 38) rfl rfl (Ls' := #[.val (.ref pA0), .val (.ref eA0), .val (.long kA1), .second, .val (.ref eA1), .unset, .unset, .unset]) rfl ?_
  refine Go.aloadN C dc_prog_21_method_3_38 (q := 39) rfl rfl rfl ?_
  refine Go.getF C (host := "") (Or.inl (wd hw 132 rfl)) (Via.of (wd hw 133 rfl)) (fun _ r => r.fld 0 1 rfl rfl) dc_prog_21_method_3_39 (q := 42) rfl ?_
  refine Go.aloadN C dc_prog_21_method_3_42 (q := 43) rfl rfl rfl ?_
  refine Go.getF C (host := "") (Or.inl (wd hw 129 rfl)) (Via.of (wd hw 52 rfl)) (fun _ r => r.fld 0 2 rfl rfl) dc_prog_21_method_3_43 (q := 46) rfl ?_
  refine Go.aconstNull C dc_prog_21_method_3_46 (q := 47) rfl ?_
  refine Go.aastore C (i := 2) rfl (by decide) (show (1 : Int32).toNatClampNeg < 64 from by decide) (fun _ _ => Or.inl rfl) dc_prog_21_method_3_47 (q := 48) rfl (M' := ((pA0, oHeap (.ref pA1) (.ref pA2) (.int (1 : Int32))) :: (pA1, .inr (.long, (oK64 (.long kA0) (.long kA1) (.long kA2) (.long kA3) (.long kA4) (.long kA5)), true)) :: (pA2, .inr (.object "java/lang/Object", (oE64 (.ref eA0) .null .null .null .null .null), true)) :: F)) rfl ?_
  refine Go.aloadN C dc_prog_21_method_3_48 (q := 49) rfl rfl rfl ?_
  refine Go.getF C (host := "") (Or.inl (wd hw 129 rfl)) (Via.of (wd hw 52 rfl)) (fun _ r => r.fld 0 2 rfl rfl) dc_prog_21_method_3_49 (q := 52) rfl ?_
  refine Go.ifNo C dc_prog_21_method_3_52 (q := 55) rfl (XT.i0_le_f (by decide)) ?_
  refine Go.iconst C dc_prog_21_method_3_55 (q := 56) rfl (v := (0 : Int32)) rfl ?_
  refine Go.istore C dc_prog_21_method_3_56 (q := 58) rfl (Ls' := #[.val (.ref pA0), .val (.ref eA0), .val (.long kA1), .second, .val (.ref eA1), .val (.int (0 : Int32)), .unset, .unset]) rfl ?_
  refine Go.aloadN C dc_prog_21_method_3_58 (q := 59) rfl rfl rfl ?_
  refine Go.getF C (host := "") (Or.inl (wd hw 129 rfl)) (Via.of (wd hw 52 rfl)) (fun _ r => r.fld 0 2 rfl rfl) dc_prog_21_method_3_59 (q := 62) rfl ?_
  refine Go.iconst C dc_prog_21_method_3_62 (q := 63) rfl (v := (1 : Int32)) rfl ?_
  refine Go.iushr C dc_prog_21_method_3_63 (q := 64) rfl ?_
  refine Go.castI (w := (0 : Int32)) (by decide) ?_
  refine Go.istore C dc_prog_21_method_3_64 (q := 66) rfl (Ls' := #[.val (.ref pA0), .val (.ref eA0), .val (.long kA1), .second, .val (.ref eA1), .val (.int (0 : Int32)), .val (.int (0 : Int32)), .unset]) rfl ?_
  refine Go.iload C dc_prog_21_method_3_66 (q := 68) rfl rfl ?_
  refine Go.iload C dc_prog_21_method_3_68 (q := 70) rfl rfl ?_
  refine Go.icmpYes C dc_prog_21_method_3_70 (by decide) (q := 165) rfl (XT.ii_ge_t (by decide)) ?_
  refine Go.aloadN C dc_prog_21_method_3_165 (q := 166) rfl rfl rfl ?_
  refine Go.getF C (host := "") (Or.inl (wd hw 130 rfl)) (Via.of (wd hw 131 rfl)) (fun _ r => r.fld 0 0 rfl rfl) dc_prog_21_method_3_166 (q := 169) rfl ?_
  refine Go.iload C dc_prog_21_method_3_169 (q := 171) rfl rfl ?_
  refine Go.lloadN C dc_prog_21_method_3_171 (q := 172) rfl rfl ?_
  refine Go.lastore C (i := 1) rfl (by decide) (show (0 : Int32).toNatClampNeg < 64 from by decide) (w' := (.long kA1)) rfl dc_prog_21_method_3_172 (q := 173) rfl (M' := ((pA0, oHeap (.ref pA1) (.ref pA2) (.int (1 : Int32))) :: (pA1, .inr (.long, (oK64 (.long kA1) (.long kA1) (.long kA2) (.long kA3) (.long kA4) (.long kA5)), true)) :: (pA2, .inr (.object "java/lang/Object", (oE64 (.ref eA0) .null .null .null .null .null), true)) :: F)) rfl ?_
  refine Go.aloadN C dc_prog_21_method_3_173 (q := 174) rfl rfl rfl ?_
  refine Go.getF C (host := "") (Or.inl (wd hw 132 rfl)) (Via.of (wd hw 133 rfl)) (fun _ r => r.fld 0 1 rfl rfl) dc_prog_21_method_3_174 (q := 177) rfl ?_
  refine Go.iload C dc_prog_21_method_3_177 (q := 179) rfl rfl ?_
  refine Go.aload C dc_prog_21_method_3_179 (q := 181) rfl rfl rfl ?_
  refine Go.aastore C (i := 2) rfl (by decide) (show (0 : Int32).toNatClampNeg < 64 from by decide) (fun _ r => Or.inr ⟨_, rfl, Ins.of_exa ((hE_eA1).ext r.1) (wd hw 109 rfl)⟩) dc_prog_21_method_3_181 (q := 182) rfl (M' := ((pA0, oHeap (.ref pA1) (.ref pA2) (.int (1 : Int32))) :: (pA1, .inr (.long, (oK64 (.long kA1) (.long kA1) (.long kA2) (.long kA3) (.long kA4) (.long kA5)), true)) :: (pA2, .inr (.object "java/lang/Object", (oE64 (.ref eA1) .null .null .null .null .null), true)) :: F)) rfl ?_
  refine Go.aloadN C dc_prog_21_method_3_182 (q := 183) rfl rfl rfl ?_
  refine Go.callU C (y := yN19) (z := yN18) (owner := "com/example/ordered_dispatch/ordereddispatch/SequenceQueue$Part") (a := pA0) (as := []) (rest := []) (wd hw 139 rfl) (wd hw 140 rfl) (wd hw 118 rfl) (wd hw 141 rfl) (wd hw 119 rfl) (wd hw 121 rfl) (wd hw 18 rfl) (fun _ r => r.exa 0 rfl) (u_SequenceQueue_Part_giveBackRoom_120 l Z a0 hw _ pA0 pA1 pA2 eA1 kA1 kA1 kA2 kA3 kA4 kA5 hE_eA1) rfl dc_prog_21_method_3_183 (q := 186) rfl (by decide) rfl (na := 0) (by decide +kernel) rfl (by decide) (W := 0) rfl (by decide) (by decide) (by decide) (k' := 0) (n' := 0) rfl rfl ?_
  rintro _ _ ⟨rfl, rfl⟩
  show Go _ _ _ _ _ _ _ _ _ _ []
  refine Go.aloadN C dc_prog_21_method_3_186 (q := 187) rfl rfl rfl ?_
  refine Go.retA C rfl rfl rfl dc_prog_21_method_3_187 (by decide) (by decide) ?_
  exact ⟨rfl, rfl⟩
theorem dc_prog_20_method_3_50 : decode prog_20_method_3_code 50 = .ok (.aload_n 0, 1) := by decide +kernel
theorem dc_prog_20_method_3_51 : decode prog_20_method_3_code 51 = .ok (.getfield 29, 3) := by decide +kernel
theorem dc_prog_20_method_3_54 : decode prog_20_method_3_code 54 = .ok (.aload_n 0, 1) := by decide +kernel
theorem dc_prog_20_method_3_55 : decode prog_20_method_3_code 55 = .ok (.getfield 21, 3) := by decide +kernel
theorem dc_prog_20_method_3_58 : decode prog_20_method_3_code 58 = .ok (.getfield 53, 3) := by decide +kernel
theorem dc_prog_20_method_3_61 : decode prog_20_method_3_code 61 = .ok (.iconst 0, 1) := by decide +kernel
theorem dc_prog_20_method_3_62 : decode prog_20_method_3_code 62 = .ok (.laload, 1) := by decide +kernel
theorem dc_prog_20_method_3_63 : decode prog_20_method_3_code 63 = .ok (.lcmp, 1) := by decide +kernel
theorem dc_prog_20_method_3_64 : decode prog_20_method_3_code 64 = .ok (.ifCond .gt 11, 3) := by decide +kernel
set_option maxRecDepth 65536 in
set_option maxHeartbeats 40000000 in
theorem u_SequenceQueue_poll_112 (l : Launch) (Z : State) (a0 : Array Value) (hw : ∀ d ∈ tables_1, d.before a0 Z = true) (F : List Ent) (pA0 pA1 pA2 pA3 pA4 pA5 pA6 eA0 eA1 eA2 : Addr) (kA0 kA1 kA2 kA3 kA4 kA5 kA6 kA7 kA8 kA9 kA10 kA11 kA12 : Int64) (hE_eA0 : Exa Z Z.heap eA0 "java/lang/Integer") (hE_eA1 : Exa Z Z.heap eA1 "java/lang/Integer") (hE_eA2 : Exa Z Z.heap eA2 "java/lang/Integer") :
    Met l Z yN6 prog_20_method_3_code 3 (some (.object "java/lang/Object")) { frames := 3, cells := 0, slots := 0, locals := 45 } #[(.ref pA0)] ((pA0, oQ (.ref pA1) (.ref pA4) (.int (1 : Int32)) (.long kA0) (.ref eA0)) :: (pA1, oRun (.ref pA2) (.ref pA3) (.int (1 : Int32)) (.int (0 : Int32))) :: (pA2, .inr (.long, (oK64 (.long kA1) (.long kA2) (.long kA3) (.long kA4) (.long kA5) (.long kA6)), true)) :: (pA3, .inr (.object "java/lang/Object", (oE64 (.ref eA1) .null .null .null .null .null), true)) :: (pA4, oHeap (.ref pA5) (.ref pA6) (.int (1 : Int32))) :: (pA5, .inr (.long, (oK64 (.long kA7) (.long kA8) (.long kA9) (.long kA10) (.long kA11) (.long kA12)), true)) :: (pA6, .inr (.object "java/lang/Object", (oE64 (.ref eA2) .null .null .null .null .null), true)) :: F) (fun r M' => (r = (some (.ref eA0)) ∧ M' = ((pA4, oHeap (.ref pA5) (.ref pA6) (.int (1 : Int32))) :: (pA5, .inr (.long, (oK64 (.long kA7) (.long kA7) (.long kA9) (.long kA10) (.long kA11) (.long kA12)), true)) :: (pA6, .inr (.object "java/lang/Object", (oE64 (.ref eA2) .null .null .null .null .null), true)) :: (pA1, oRun (.ref pA2) (.ref pA3) (.int (1 : Int32)) (.int (0 : Int32))) :: (pA2, .inr (.long, (oK64 (.long kA1) (.long kA2) (.long kA3) (.long kA4) (.long kA5) (.long kA6)), true)) :: (pA3, .inr (.object "java/lang/Object", (oE64 (.ref eA1) .null .null .null .null .null), true)) :: (pA0, oQ (.ref pA1) (.ref pA4) (.int (0 : Int32)) (.long kA0) .null) :: F)) ∨ (r = (some (.ref eA1)) ∧ M' = ((pA1, oRun (.ref pA2) (.ref pA3) (.int (0 : Int32)) (.int (1 : Int32))) :: (pA2, .inr (.long, (oK64 (.long kA1) (.long kA2) (.long kA3) (.long kA4) (.long kA5) (.long kA6)), true)) :: (pA3, .inr (.object "java/lang/Object", (oE64 .null .null .null .null .null .null), true)) :: (pA4, oHeap (.ref pA5) (.ref pA6) (.int (2 : Int32))) :: (pA5, .inr (.long, (oK64 (.long kA0) (.long kA7) (.long kA9) (.long kA10) (.long kA11) (.long kA12)), true)) :: (pA6, .inr (.object "java/lang/Object", (oE64 (.ref eA0) (.ref eA2) .null .null .null .null), true)) :: (pA0, oQ (.ref pA1) (.ref pA4) (.int (0 : Int32)) (.long kA0) .null) :: F)) ∨ (r = (some (.ref eA2)) ∧ M' = ((pA4, oHeap (.ref pA5) (.ref pA6) (.int (1 : Int32))) :: (pA5, .inr (.long, (oK64 (.long kA0) (.long kA0) (.long kA9) (.long kA10) (.long kA11) (.long kA12)), true)) :: (pA6, .inr (.object "java/lang/Object", (oE64 (.ref eA0) .null .null .null .null .null), true)) :: (pA1, oRun (.ref pA2) (.ref pA3) (.int (1 : Int32)) (.int (0 : Int32))) :: (pA2, .inr (.long, (oK64 (.long kA1) (.long kA2) (.long kA3) (.long kA4) (.long kA5) (.long kA6)), true)) :: (pA3, .inr (.object "java/lang/Object", (oE64 (.ref eA1) .null .null .null .null .null), true)) :: (pA0, oQ (.ref pA1) (.ref pA4) (.int (0 : Int32)) (.long kA0) .null) :: F)) ∨ (r = (some (.ref eA1)) ∧ M' = ((pA1, oRun (.ref pA2) (.ref pA3) (.int (0 : Int32)) (.int (1 : Int32))) :: (pA2, .inr (.long, (oK64 (.long kA1) (.long kA2) (.long kA3) (.long kA4) (.long kA5) (.long kA6)), true)) :: (pA3, .inr (.object "java/lang/Object", (oE64 .null .null .null .null .null .null), true)) :: (pA4, oHeap (.ref pA5) (.ref pA6) (.int (2 : Int32))) :: (pA5, .inr (.long, (oK64 (.long kA7) (.long kA0) (.long kA9) (.long kA10) (.long kA11) (.long kA12)), true)) :: (pA6, .inr (.object "java/lang/Object", (oE64 (.ref eA2) (.ref eA0) .null .null .null .null), true)) :: (pA0, oQ (.ref pA1) (.ref pA4) (.int (0 : Int32)) (.long kA0) .null) :: F)) ∨ (r = (some (.ref eA2)) ∧ M' = ((pA4, oHeap (.ref pA5) (.ref pA6) (.int (0 : Int32))) :: (pA5, .inr (.long, (oK64 (.long kA7) (.long kA8) (.long kA9) (.long kA10) (.long kA11) (.long kA12)), true)) :: (pA6, .inr (.object "java/lang/Object", (oE64 .null .null .null .null .null .null), true)) :: (pA1, oRun (.ref pA2) (.ref pA3) (.int (2 : Int32)) (.int (0 : Int32))) :: (pA2, .inr (.long, (oK64 (.long kA1) (.long kA0) (.long kA3) (.long kA4) (.long kA5) (.long kA6)), true)) :: (pA3, .inr (.object "java/lang/Object", (oE64 (.ref eA1) (.ref eA0) .null .null .null .null), true)) :: (pA0, oQ (.ref pA1) (.ref pA4) (.int (0 : Int32)) (.long kA0) .null) :: F)) ∨ (r = (some (.ref eA1)) ∧ M' = ((pA1, oRun (.ref pA2) (.ref pA3) (.int (1 : Int32)) (.int (1 : Int32))) :: (pA2, .inr (.long, (oK64 (.long kA1) (.long kA0) (.long kA3) (.long kA4) (.long kA5) (.long kA6)), true)) :: (pA3, .inr (.object "java/lang/Object", (oE64 .null (.ref eA0) .null .null .null .null), true)) :: (pA0, oQ (.ref pA1) (.ref pA4) (.int (0 : Int32)) (.long kA0) .null) :: (pA4, oHeap (.ref pA5) (.ref pA6) (.int (1 : Int32))) :: (pA5, .inr (.long, (oK64 (.long kA7) (.long kA8) (.long kA9) (.long kA10) (.long kA11) (.long kA12)), true)) :: (pA6, .inr (.object "java/lang/Object", (oE64 (.ref eA2) .null .null .null .null .null), true)) :: F)) ∨ (r = (some (.ref eA0)) ∧ M' = ((pA0, oQ (.ref pA1) (.ref pA4) (.int (0 : Int32)) (.long kA0) .null) :: (pA1, oRun (.ref pA2) (.ref pA3) (.int (1 : Int32)) (.int (0 : Int32))) :: (pA2, .inr (.long, (oK64 (.long kA1) (.long kA2) (.long kA3) (.long kA4) (.long kA5) (.long kA6)), true)) :: (pA3, .inr (.object "java/lang/Object", (oE64 (.ref eA1) .null .null .null .null .null), true)) :: (pA4, oHeap (.ref pA5) (.ref pA6) (.int (1 : Int32))) :: (pA5, .inr (.long, (oK64 (.long kA7) (.long kA8) (.long kA9) (.long kA10) (.long kA11) (.long kA12)), true)) :: (pA6, .inr (.object "java/lang/Object", (oE64 (.ref eA2) .null .null .null .null .null), true)) :: F))) := by
  refine Met.of_go pn_6 (Ls := #[.val (.ref pA0), .unset, .unset]) (fun m => by first | rfl | (simp [entryFrame, mkF, argsToLocals, Value.category, maxLocals]; done)) ?_
  intro E C
  refine Go.aloadN C dc_prog_20_method_3_0 (q := 1) rfl rfl rfl ?_
  refine Go.getF C (host := "") (Or.inl (wd hw 46 rfl)) Via.refl (fun _ r => r.fld 0 2 rfl rfl) dc_prog_20_method_3_1 (q := 4) rfl ?_
  refine Go.ifNo C dc_prog_20_method_3_4 (q := 7) rfl (XT.i0_eq_f (by decide)) ?_
  refine Go.aloadN C dc_prog_20_method_3_7 (q := 8) rfl rfl rfl ?_
  refine Go.getF C (host := "") (Or.inl (wd hw 28 rfl)) Via.refl (fun _ r => r.fld 0 0 rfl rfl) dc_prog_20_method_3_8 (q := 11) rfl ?_
  refine Go.getF C (host := "") (Or.inl (wd hw 48 rfl)) (Via.of (wd hw 49 rfl)) (fun _ r => r.fld 1 2 rfl rfl) dc_prog_20_method_3_11 (q := 14) rfl ?_
  refine Go.ifNo C dc_prog_20_method_3_14 (q := 17) rfl (XT.i0_eq_f (by decide)) ?_
  refine Go.aloadN C dc_prog_20_method_3_17 (q := 18) rfl rfl rfl ?_
  refine Go.getF C (host := "") (Or.inl (wd hw 86 rfl)) Via.refl (fun _ r => r.fld 0 3 rfl rfl) dc_prog_20_method_3_18 (q := 21) rfl ?_
  refine Go.aloadN C dc_prog_20_method_3_21 (q := 22) rfl rfl rfl ?_
  refine Go.getF C (host := "") (Or.inl (wd hw 28 rfl)) Via.refl (fun _ r => r.fld 0 0 rfl rfl) dc_prog_20_method_3_22 (q := 25) rfl ?_
  refine Go.getF C (host := "") (Or.inl (wd hw 114 rfl)) (Via.of (wd hw 108 rfl)) (fun _ r => r.fld 1 0 rfl rfl) dc_prog_20_method_3_25 (q := 28) rfl ?_
  refine Go.aloadN C dc_prog_20_method_3_28 (q := 29) rfl rfl rfl ?_
  refine Go.getF C (host := "") (Or.inl (wd hw 28 rfl)) Via.refl (fun _ r => r.fld 0 0 rfl rfl) dc_prog_20_method_3_29 (q := 32) rfl ?_
  refine Go.getR C (wd hw 115 rfl) (fun _ r => r.fld 1 3 rfl rfl) dc_prog_20_method_3_32 (q := 35) rfl ?_
  refine Go.laload C (fun _ r => r.arr 2 rfl) (by decide) (v := (.long kA1)) rfl dc_prog_20_method_3_35 (q := 36) rfl ?_
  refine Go.lcmpif C dc_prog_20_method_3_36 rfl dc_prog_20_method_3_37 (by decide) (q := 75) rfl (q' := 40) rfl (fun (h36_1 : kA1 < kA0) => ?_) (fun (h36_1 : ¬ kA1 < kA0) => ?_)
  · refine Go.aloadN C dc_prog_20_method_3_75 (q := 76) rfl rfl rfl ?_
    refine Go.getF C (host := "") (Or.inl (wd hw 46 rfl)) Via.refl (fun _ r => r.fld 0 2 rfl rfl) dc_prog_20_method_3_76 (q := 79) rfl ?_
    refine Go.ifNo C dc_prog_20_method_3_79 (q := 82) rfl (XT.i0_eq_f (by decide)) ?_
    refine Go.aloadN C dc_prog_20_method_3_82 (q := 83) rfl rfl rfl ?_
    refine Go.aloadN C dc_prog_20_method_3_83 (q := 84) rfl rfl rfl ?_
    refine Go.getF C (host := "") (Or.inl (wd hw 86 rfl)) Via.refl (fun _ r => r.fld 0 3 rfl rfl) dc_prog_20_method_3_84 (q := 87) rfl ?_
    refine Go.aloadN C dc_prog_20_method_3_87 (q := 88) rfl rfl rfl ?_
    refine Go.getF C (host := "") (Or.inl (wd hw 68 rfl)) Via.refl (fun _ r => r.fld 0 4 rfl rfl) dc_prog_20_method_3_88 (q := 91) rfl ?_
    refine Go.callP C (y := yN14) (a := pA0) (as := [(.long kA0), (.ref eA0)]) (rest := []) (wd hw 88 rfl) (wd hw 89 rfl) (sel_priv (y := yN14) (wd hw 1 rfl) (wd hw 89 rfl) (wd hw 90 rfl) (by decide)) (wd hw 90 rfl) (wd hw 91 rfl) (wd hw 2 rfl) (fun _ r => r.exa 0 rfl) (u_SequenceQueue_place_113 l Z a0 hw _ pA0 pA1 pA2 pA3 pA4 pA5 pA6 eA0 eA0 eA1 eA2 kA0 kA0 kA1 kA2 kA3 kA4 kA5 kA6 kA7 kA8 kA9 kA10 kA11 kA12 hE_eA0 hE_eA0 hE_eA1 hE_eA2) rfl dc_prog_20_method_3_91 (q := 94) rfl (by decide) rfl (na := 2) (by decide +kernel) rfl (by decide) (W := 0) rfl (by decide) (by decide) (by decide) (k' := 0) (n' := 0) rfl rfl ?_
    rintro _ _ (⟨rfl, rfl⟩ | ⟨rfl, rfl⟩ | ⟨rfl, rfl⟩)
    · show Go _ _ _ _ _ _ _ _ _ _ []
      refine Go.aloadN C dc_prog_20_method_3_94 (q := 95) rfl rfl rfl ?_
      refine Go.getF C (host := "") (Or.inl (wd hw 39 rfl)) Via.refl (fun _ r => r.fld 6 1 rfl rfl) dc_prog_20_method_3_95 (q := 98) rfl ?_
      refine Go.getF C (host := "") (Or.inl (wd hw 51 rfl)) (Via.of (wd hw 52 rfl)) (fun _ r => r.fld 0 2 rfl rfl) dc_prog_20_method_3_98 (q := 101) rfl ?_
      refine Go.ifNo C dc_prog_20_method_3_101 (q := 104) rfl (XT.i0_eq_f (by decide)) ?_
      refine Go.aloadN C dc_prog_20_method_3_104 (q := 105) rfl rfl rfl ?_
      refine Go.getF C (host := "") (Or.inl (wd hw 28 rfl)) Via.refl (fun _ r => r.fld 6 0 rfl rfl) dc_prog_20_method_3_105 (q := 108) rfl ?_
      refine Go.getF C (host := "") (Or.inl (wd hw 48 rfl)) (Via.of (wd hw 49 rfl)) (fun _ r => r.fld 3 2 rfl rfl) dc_prog_20_method_3_108 (q := 111) rfl ?_
      refine Go.ifNo C dc_prog_20_method_3_111 (q := 114) rfl (XT.i0_le_f (by decide)) ?_
      refine Go.aloadN C dc_prog_20_method_3_114 (q := 115) rfl rfl rfl ?_
      refine Go.getF C (host := "") (Or.inl (wd hw 28 rfl)) Via.refl (fun _ r => r.fld 6 0 rfl rfl) dc_prog_20_method_3_115 (q := 118) rfl ?_
      refine Go.getF C (host := "") (Or.inl (wd hw 114 rfl)) (Via.of (wd hw 108 rfl)) (fun _ r => r.fld 3 0 rfl rfl) dc_prog_20_method_3_118 (q := 121) rfl ?_
      refine Go.aloadN C dc_prog_20_method_3_121 (q := 122) rfl rfl rfl ?_
      refine Go.getF C (host := "") (Or.inl (wd hw 28 rfl)) Via.refl (fun _ r => r.fld 6 0 rfl rfl) dc_prog_20_method_3_122 (q := 125) rfl ?_
      refine Go.getR C (wd hw 115 rfl) (fun _ r => r.fld 3 3 rfl rfl) dc_prog_20_method_3_125 (q := 128) rfl ?_
      refine Go.laload C (fun _ r => r.arr 4 rfl) (by decide) (v := (.long kA1)) rfl dc_prog_20_method_3_128 (q := 129) rfl ?_
      refine Go.aloadN C dc_prog_20_method_3_129 (q := 130) rfl rfl rfl ?_
      refine Go.getF C (host := "") (Or.inl (wd hw 39 rfl)) Via.refl (fun _ r => r.fld 6 1 rfl rfl) dc_prog_20_method_3_130 (q := 133) rfl ?_
      refine Go.getF C (host := "") (Or.inl (wd hw 134 rfl)) (Via.of (wd hw 131 rfl)) (fun _ r => r.fld 0 0 rfl rfl) dc_prog_20_method_3_133 (q := 136) rfl ?_
      refine Go.iconst C dc_prog_20_method_3_136 (q := 137) rfl (v := (0 : Int32)) rfl ?_
      refine Go.laload C (fun _ r => r.arr 1 rfl) (by decide) (v := (.long kA0)) rfl dc_prog_20_method_3_137 (q := 138) rfl ?_
      refine Go.lcmpif C dc_prog_20_method_3_138 rfl dc_prog_20_method_3_139 (by decide) (q := 153) rfl (q' := 142) rfl (fun (h138_2 : kA0 < kA1) => ?_) (fun (h138_2 : ¬ kA0 < kA1) => ?_)
      · refine Go.aloadN C dc_prog_20_method_3_153 (q := 154) rfl rfl rfl ?_
        refine Go.getF C (host := "") (Or.inl (wd hw 39 rfl)) Via.refl (fun _ r => r.fld 6 1 rfl rfl) dc_prog_20_method_3_154 (q := 157) rfl ?_
        refine Go.callPR C (y := yN20) (a := pA4) (as := []) (rest := []) (wd hw 135 rfl) (wd hw 136 rfl) (sel_priv (y := yN20) (wd hw 31 rfl) (wd hw 136 rfl) (wd hw 137 rfl) (by decide)) (wd hw 137 rfl) (wd hw 138 rfl) (wd hw 32 rfl) (fun _ r => r.exa 0 rfl) (u_SequenceQueue_Heap_poll_119 l Z a0 hw _ pA4 pA5 pA6 eA0 eA2 kA0 kA7 kA9 kA10 kA11 kA12 hE_eA0 hE_eA2) rfl dc_prog_20_method_3_157 (q := 160) rfl (by decide) rfl (na := 0) (by decide +kernel) rfl (by decide) (W := 0) rfl (by decide) (by decide) (by decide) (k' := 0) (n' := 0) rfl rfl ?_
        rintro _ _ ⟨rfl, rfl⟩
        show Go _ _ _ _ _ _ _ _ _ _ [(.ref eA0)]
        refine Go.astoreN C dc_prog_20_method_3_160 (q := 161) rfl rfl (Ls' := #[.val (.ref pA0), .val (.ref eA0), .unset]) rfl ?_
        refine Go.aloadN C dc_prog_20_method_3_161 (q := 162) rfl rfl rfl ?_
        refine Go.iconst C dc_prog_20_method_3_162 (q := 163) rfl (v := (0 : Int32)) rfl ?_
        refine Go.putF C (host := "") (i := 6) (j := 2) (Or.inl (wd hw 46 rfl)) Via.refl rfl rfl (Or.inl (wd hw 47 rfl)) (wd hw 1 rfl) (ty := .boolean) (by decide) rfl rfl dc_prog_20_method_3_163 (q := 166) rfl (M' := ((pA4, oHeap (.ref pA5) (.ref pA6) (.int (1 : Int32))) :: (pA5, .inr (.long, (oK64 (.long kA7) (.long kA7) (.long kA9) (.long kA10) (.long kA11) (.long kA12)), true)) :: (pA6, .inr (.object "java/lang/Object", (oE64 (.ref eA2) .null .null .null .null .null), true)) :: (pA1, oRun (.ref pA2) (.ref pA3) (.int (1 : Int32)) (.int (0 : Int32))) :: (pA2, .inr (.long, (oK64 (.long kA1) (.long kA2) (.long kA3) (.long kA4) (.long kA5) (.long kA6)), true)) :: (pA3, .inr (.object "java/lang/Object", (oE64 (.ref eA1) .null .null .null .null .null), true)) :: (pA0, oQ (.ref pA1) (.ref pA4) (.int (0 : Int32)) (.long kA0) (.ref eA0)) :: F)) rfl ?_
        refine Go.aloadN C dc_prog_20_method_3_166 (q := 167) rfl rfl rfl ?_
        refine Go.aconstNull C dc_prog_20_method_3_167 (q := 168) rfl ?_
        refine Go.putF C (host := "") (i := 6) (j := 4) (Or.inl (wd hw 68 rfl)) Via.refl rfl rfl (Or.inl (wd hw 69 rfl)) (wd hw 1 rfl) (ty := (.object "java/lang/Object")) (by decide) rfl rfl dc_prog_20_method_3_168 (q := 171) rfl (M' := ((pA4, oHeap (.ref pA5) (.ref pA6) (.int (1 : Int32))) :: (pA5, .inr (.long, (oK64 (.long kA7) (.long kA7) (.long kA9) (.long kA10) (.long kA11) (.long kA12)), true)) :: (pA6, .inr (.object "java/lang/Object", (oE64 (.ref eA2) .null .null .null .null .null), true)) :: (pA1, oRun (.ref pA2) (.ref pA3) (.int (1 : Int32)) (.int (0 : Int32))) :: (pA2, .inr (.long, (oK64 (.long kA1) (.long kA2) (.long kA3) (.long kA4) (.long kA5) (.long kA6)), true)) :: (pA3, .inr (.object "java/lang/Object", (oE64 (.ref eA1) .null .null .null .null .null), true)) :: (pA0, oQ (.ref pA1) (.ref pA4) (.int (0 : Int32)) (.long kA0) .null) :: F)) rfl ?_
        refine Go.aloadN C dc_prog_20_method_3_171 (q := 172) rfl rfl rfl ?_
        refine Go.astoreN C dc_prog_20_method_3_172 (q := 173) rfl rfl (Ls' := #[.val (.ref pA0), .val (.ref eA0), .val (.ref eA0)]) rfl ?_
        refine Go.aloadN C dc_prog_20_method_3_173 (q := 174) rfl rfl rfl ?_
        refine Go.retA C rfl rfl rfl dc_prog_20_method_3_174 (by decide) (by decide) ?_
        exact Or.inl ⟨rfl, rfl⟩
      · refine Go.aloadN C dc_prog_20_method_3_142 (q := 143) rfl rfl rfl ?_
        refine Go.getF C (host := "") (Or.inl (wd hw 28 rfl)) Via.refl (fun _ r => r.fld 6 0 rfl rfl) dc_prog_20_method_3_143 (q := 146) rfl ?_
        refine Go.pick (M' := ((pA1, oRun (.ref pA2) (.ref pA3) (.int (1 : Int32)) (.int (0 : Int32))) :: (pA2, .inr (.long, (oK64 (.long kA1) (.long kA2) (.long kA3) (.long kA4) (.long kA5) (.long kA6)), true)) :: (pA3, .inr (.object "java/lang/Object", (oE64 (.ref eA1) .null .null .null .null .null), true)) :: (pA4, oHeap (.ref pA5) (.ref pA6) (.int (2 : Int32))) :: (pA5, .inr (.long, (oK64 (.long kA0) (.long kA7) (.long kA9) (.long kA10) (.long kA11) (.long kA12)), true)) :: (pA6, .inr (.object "java/lang/Object", (oE64 (.ref eA0) (.ref eA2) .null .null .null .null), true)) :: (pA0, oQ (.ref pA1) (.ref pA4) (.int (1 : Int32)) (.long kA0) (.ref eA0)) :: F)) 7 [3, 4, 5, 0, 1, 2, 6] (by decide) (by decide) rfl ?_
        refine Go.callPR C (y := yN5) (a := pA1) (as := []) (rest := []) (wd hw 59 rfl) (wd hw 60 rfl) (sel_priv (y := yN5) (wd hw 10 rfl) (wd hw 60 rfl) (wd hw 61 rfl) (by decide)) (wd hw 61 rfl) (wd hw 62 rfl) (wd hw 11 rfl) (fun _ r => r.exa 0 rfl) (u_SequenceQueue_Run_poll_59 l Z a0 hw _ pA1 pA2 pA3 eA1 kA1 kA2 kA3 kA4 kA5 kA6 hE_eA1) rfl dc_prog_20_method_3_146 (q := 149) rfl (by decide) rfl (na := 0) (by decide +kernel) rfl (by decide) (W := 0) rfl (by decide) (by decide) (by decide) (k' := 0) (n' := 0) rfl rfl ?_
        rintro _ _ ⟨rfl, rfl⟩
        show Go _ _ _ _ _ _ _ _ _ _ [(.ref eA1)]
        refine Go.astoreN C dc_prog_20_method_3_149 (q := 150) rfl rfl (Ls' := #[.val (.ref pA0), .val (.ref eA1), .unset]) rfl ?_
        refine Go.goto C dc_prog_20_method_3_150 (by decide) (q := 161) rfl ?_
        refine Go.aloadN C dc_prog_20_method_3_161 (q := 162) rfl rfl rfl ?_
        refine Go.iconst C dc_prog_20_method_3_162 (q := 163) rfl (v := (0 : Int32)) rfl ?_
        refine Go.putF C (host := "") (i := 6) (j := 2) (Or.inl (wd hw 46 rfl)) Via.refl rfl rfl (Or.inl (wd hw 47 rfl)) (wd hw 1 rfl) (ty := .boolean) (by decide) rfl rfl dc_prog_20_method_3_163 (q := 166) rfl (M' := ((pA1, oRun (.ref pA2) (.ref pA3) (.int (0 : Int32)) (.int (1 : Int32))) :: (pA2, .inr (.long, (oK64 (.long kA1) (.long kA2) (.long kA3) (.long kA4) (.long kA5) (.long kA6)), true)) :: (pA3, .inr (.object "java/lang/Object", (oE64 .null .null .null .null .null .null), true)) :: (pA4, oHeap (.ref pA5) (.ref pA6) (.int (2 : Int32))) :: (pA5, .inr (.long, (oK64 (.long kA0) (.long kA7) (.long kA9) (.long kA10) (.long kA11) (.long kA12)), true)) :: (pA6, .inr (.object "java/lang/Object", (oE64 (.ref eA0) (.ref eA2) .null .null .null .null), true)) :: (pA0, oQ (.ref pA1) (.ref pA4) (.int (0 : Int32)) (.long kA0) (.ref eA0)) :: F)) rfl ?_
        refine Go.aloadN C dc_prog_20_method_3_166 (q := 167) rfl rfl rfl ?_
        refine Go.aconstNull C dc_prog_20_method_3_167 (q := 168) rfl ?_
        refine Go.putF C (host := "") (i := 6) (j := 4) (Or.inl (wd hw 68 rfl)) Via.refl rfl rfl (Or.inl (wd hw 69 rfl)) (wd hw 1 rfl) (ty := (.object "java/lang/Object")) (by decide) rfl rfl dc_prog_20_method_3_168 (q := 171) rfl (M' := ((pA1, oRun (.ref pA2) (.ref pA3) (.int (0 : Int32)) (.int (1 : Int32))) :: (pA2, .inr (.long, (oK64 (.long kA1) (.long kA2) (.long kA3) (.long kA4) (.long kA5) (.long kA6)), true)) :: (pA3, .inr (.object "java/lang/Object", (oE64 .null .null .null .null .null .null), true)) :: (pA4, oHeap (.ref pA5) (.ref pA6) (.int (2 : Int32))) :: (pA5, .inr (.long, (oK64 (.long kA0) (.long kA7) (.long kA9) (.long kA10) (.long kA11) (.long kA12)), true)) :: (pA6, .inr (.object "java/lang/Object", (oE64 (.ref eA0) (.ref eA2) .null .null .null .null), true)) :: (pA0, oQ (.ref pA1) (.ref pA4) (.int (0 : Int32)) (.long kA0) .null) :: F)) rfl ?_
        refine Go.aloadN C dc_prog_20_method_3_171 (q := 172) rfl rfl rfl ?_
        refine Go.astoreN C dc_prog_20_method_3_172 (q := 173) rfl rfl (Ls' := #[.val (.ref pA0), .val (.ref eA1), .val (.ref eA1)]) rfl ?_
        refine Go.aloadN C dc_prog_20_method_3_173 (q := 174) rfl rfl rfl ?_
        refine Go.retA C rfl rfl rfl dc_prog_20_method_3_174 (by decide) (by decide) ?_
        exact Or.inr (Or.inl ⟨rfl, rfl⟩)
    · show Go _ _ _ _ _ _ _ _ _ _ []
      refine Go.aloadN C dc_prog_20_method_3_94 (q := 95) rfl rfl rfl ?_
      refine Go.getF C (host := "") (Or.inl (wd hw 39 rfl)) Via.refl (fun _ r => r.fld 6 1 rfl rfl) dc_prog_20_method_3_95 (q := 98) rfl ?_
      refine Go.getF C (host := "") (Or.inl (wd hw 51 rfl)) (Via.of (wd hw 52 rfl)) (fun _ r => r.fld 0 2 rfl rfl) dc_prog_20_method_3_98 (q := 101) rfl ?_
      refine Go.ifNo C dc_prog_20_method_3_101 (q := 104) rfl (XT.i0_eq_f (by decide)) ?_
      refine Go.aloadN C dc_prog_20_method_3_104 (q := 105) rfl rfl rfl ?_
      refine Go.getF C (host := "") (Or.inl (wd hw 28 rfl)) Via.refl (fun _ r => r.fld 6 0 rfl rfl) dc_prog_20_method_3_105 (q := 108) rfl ?_
      refine Go.getF C (host := "") (Or.inl (wd hw 48 rfl)) (Via.of (wd hw 49 rfl)) (fun _ r => r.fld 3 2 rfl rfl) dc_prog_20_method_3_108 (q := 111) rfl ?_
      refine Go.ifNo C dc_prog_20_method_3_111 (q := 114) rfl (XT.i0_le_f (by decide)) ?_
      refine Go.aloadN C dc_prog_20_method_3_114 (q := 115) rfl rfl rfl ?_
      refine Go.getF C (host := "") (Or.inl (wd hw 28 rfl)) Via.refl (fun _ r => r.fld 6 0 rfl rfl) dc_prog_20_method_3_115 (q := 118) rfl ?_
      refine Go.getF C (host := "") (Or.inl (wd hw 114 rfl)) (Via.of (wd hw 108 rfl)) (fun _ r => r.fld 3 0 rfl rfl) dc_prog_20_method_3_118 (q := 121) rfl ?_
      refine Go.aloadN C dc_prog_20_method_3_121 (q := 122) rfl rfl rfl ?_
      refine Go.getF C (host := "") (Or.inl (wd hw 28 rfl)) Via.refl (fun _ r => r.fld 6 0 rfl rfl) dc_prog_20_method_3_122 (q := 125) rfl ?_
      refine Go.getR C (wd hw 115 rfl) (fun _ r => r.fld 3 3 rfl rfl) dc_prog_20_method_3_125 (q := 128) rfl ?_
      refine Go.laload C (fun _ r => r.arr 4 rfl) (by decide) (v := (.long kA1)) rfl dc_prog_20_method_3_128 (q := 129) rfl ?_
      refine Go.aloadN C dc_prog_20_method_3_129 (q := 130) rfl rfl rfl ?_
      refine Go.getF C (host := "") (Or.inl (wd hw 39 rfl)) Via.refl (fun _ r => r.fld 6 1 rfl rfl) dc_prog_20_method_3_130 (q := 133) rfl ?_
      refine Go.getF C (host := "") (Or.inl (wd hw 134 rfl)) (Via.of (wd hw 131 rfl)) (fun _ r => r.fld 0 0 rfl rfl) dc_prog_20_method_3_133 (q := 136) rfl ?_
      refine Go.iconst C dc_prog_20_method_3_136 (q := 137) rfl (v := (0 : Int32)) rfl ?_
      refine Go.laload C (fun _ r => r.arr 1 rfl) (by decide) (v := (.long kA7)) rfl dc_prog_20_method_3_137 (q := 138) rfl ?_
      refine Go.lcmpif C dc_prog_20_method_3_138 rfl dc_prog_20_method_3_139 (by decide) (q := 153) rfl (q' := 142) rfl (fun (h138_3 : kA7 < kA1) => ?_) (fun (h138_3 : ¬ kA7 < kA1) => ?_)
      · refine Go.aloadN C dc_prog_20_method_3_153 (q := 154) rfl rfl rfl ?_
        refine Go.getF C (host := "") (Or.inl (wd hw 39 rfl)) Via.refl (fun _ r => r.fld 6 1 rfl rfl) dc_prog_20_method_3_154 (q := 157) rfl ?_
        refine Go.callPR C (y := yN20) (a := pA4) (as := []) (rest := []) (wd hw 135 rfl) (wd hw 136 rfl) (sel_priv (y := yN20) (wd hw 31 rfl) (wd hw 136 rfl) (wd hw 137 rfl) (by decide)) (wd hw 137 rfl) (wd hw 138 rfl) (wd hw 32 rfl) (fun _ r => r.exa 0 rfl) (u_SequenceQueue_Heap_poll_119 l Z a0 hw _ pA4 pA5 pA6 eA2 eA0 kA7 kA0 kA9 kA10 kA11 kA12 hE_eA2 hE_eA0) rfl dc_prog_20_method_3_157 (q := 160) rfl (by decide) rfl (na := 0) (by decide +kernel) rfl (by decide) (W := 0) rfl (by decide) (by decide) (by decide) (k' := 0) (n' := 0) rfl rfl ?_
        rintro _ _ ⟨rfl, rfl⟩
        show Go _ _ _ _ _ _ _ _ _ _ [(.ref eA2)]
        refine Go.astoreN C dc_prog_20_method_3_160 (q := 161) rfl rfl (Ls' := #[.val (.ref pA0), .val (.ref eA2), .unset]) rfl ?_
        refine Go.aloadN C dc_prog_20_method_3_161 (q := 162) rfl rfl rfl ?_
        refine Go.iconst C dc_prog_20_method_3_162 (q := 163) rfl (v := (0 : Int32)) rfl ?_
        refine Go.putF C (host := "") (i := 6) (j := 2) (Or.inl (wd hw 46 rfl)) Via.refl rfl rfl (Or.inl (wd hw 47 rfl)) (wd hw 1 rfl) (ty := .boolean) (by decide) rfl rfl dc_prog_20_method_3_163 (q := 166) rfl (M' := ((pA4, oHeap (.ref pA5) (.ref pA6) (.int (1 : Int32))) :: (pA5, .inr (.long, (oK64 (.long kA0) (.long kA0) (.long kA9) (.long kA10) (.long kA11) (.long kA12)), true)) :: (pA6, .inr (.object "java/lang/Object", (oE64 (.ref eA0) .null .null .null .null .null), true)) :: (pA1, oRun (.ref pA2) (.ref pA3) (.int (1 : Int32)) (.int (0 : Int32))) :: (pA2, .inr (.long, (oK64 (.long kA1) (.long kA2) (.long kA3) (.long kA4) (.long kA5) (.long kA6)), true)) :: (pA3, .inr (.object "java/lang/Object", (oE64 (.ref eA1) .null .null .null .null .null), true)) :: (pA0, oQ (.ref pA1) (.ref pA4) (.int (0 : Int32)) (.long kA0) (.ref eA0)) :: F)) rfl ?_
        refine Go.aloadN C dc_prog_20_method_3_166 (q := 167) rfl rfl rfl ?_
        refine Go.aconstNull C dc_prog_20_method_3_167 (q := 168) rfl ?_
        refine Go.putF C (host := "") (i := 6) (j := 4) (Or.inl (wd hw 68 rfl)) Via.refl rfl rfl (Or.inl (wd hw 69 rfl)) (wd hw 1 rfl) (ty := (.object "java/lang/Object")) (by decide) rfl rfl dc_prog_20_method_3_168 (q := 171) rfl (M' := ((pA4, oHeap (.ref pA5) (.ref pA6) (.int (1 : Int32))) :: (pA5, .inr (.long, (oK64 (.long kA0) (.long kA0) (.long kA9) (.long kA10) (.long kA11) (.long kA12)), true)) :: (pA6, .inr (.object "java/lang/Object", (oE64 (.ref eA0) .null .null .null .null .null), true)) :: (pA1, oRun (.ref pA2) (.ref pA3) (.int (1 : Int32)) (.int (0 : Int32))) :: (pA2, .inr (.long, (oK64 (.long kA1) (.long kA2) (.long kA3) (.long kA4) (.long kA5) (.long kA6)), true)) :: (pA3, .inr (.object "java/lang/Object", (oE64 (.ref eA1) .null .null .null .null .null), true)) :: (pA0, oQ (.ref pA1) (.ref pA4) (.int (0 : Int32)) (.long kA0) .null) :: F)) rfl ?_
        refine Go.aloadN C dc_prog_20_method_3_171 (q := 172) rfl rfl rfl ?_
        refine Go.astoreN C dc_prog_20_method_3_172 (q := 173) rfl rfl (Ls' := #[.val (.ref pA0), .val (.ref eA2), .val (.ref eA2)]) rfl ?_
        refine Go.aloadN C dc_prog_20_method_3_173 (q := 174) rfl rfl rfl ?_
        refine Go.retA C rfl rfl rfl dc_prog_20_method_3_174 (by decide) (by decide) ?_
        exact Or.inr (Or.inr (Or.inl ⟨rfl, rfl⟩))
      · refine Go.aloadN C dc_prog_20_method_3_142 (q := 143) rfl rfl rfl ?_
        refine Go.getF C (host := "") (Or.inl (wd hw 28 rfl)) Via.refl (fun _ r => r.fld 6 0 rfl rfl) dc_prog_20_method_3_143 (q := 146) rfl ?_
        refine Go.pick (M' := ((pA1, oRun (.ref pA2) (.ref pA3) (.int (1 : Int32)) (.int (0 : Int32))) :: (pA2, .inr (.long, (oK64 (.long kA1) (.long kA2) (.long kA3) (.long kA4) (.long kA5) (.long kA6)), true)) :: (pA3, .inr (.object "java/lang/Object", (oE64 (.ref eA1) .null .null .null .null .null), true)) :: (pA4, oHeap (.ref pA5) (.ref pA6) (.int (2 : Int32))) :: (pA5, .inr (.long, (oK64 (.long kA7) (.long kA0) (.long kA9) (.long kA10) (.long kA11) (.long kA12)), true)) :: (pA6, .inr (.object "java/lang/Object", (oE64 (.ref eA2) (.ref eA0) .null .null .null .null), true)) :: (pA0, oQ (.ref pA1) (.ref pA4) (.int (1 : Int32)) (.long kA0) (.ref eA0)) :: F)) 7 [3, 4, 5, 0, 1, 2, 6] (by decide) (by decide) rfl ?_
        refine Go.callPR C (y := yN5) (a := pA1) (as := []) (rest := []) (wd hw 59 rfl) (wd hw 60 rfl) (sel_priv (y := yN5) (wd hw 10 rfl) (wd hw 60 rfl) (wd hw 61 rfl) (by decide)) (wd hw 61 rfl) (wd hw 62 rfl) (wd hw 11 rfl) (fun _ r => r.exa 0 rfl) (u_SequenceQueue_Run_poll_59 l Z a0 hw _ pA1 pA2 pA3 eA1 kA1 kA2 kA3 kA4 kA5 kA6 hE_eA1) rfl dc_prog_20_method_3_146 (q := 149) rfl (by decide) rfl (na := 0) (by decide +kernel) rfl (by decide) (W := 0) rfl (by decide) (by decide) (by decide) (k' := 0) (n' := 0) rfl rfl ?_
        rintro _ _ ⟨rfl, rfl⟩
        show Go _ _ _ _ _ _ _ _ _ _ [(.ref eA1)]
        refine Go.astoreN C dc_prog_20_method_3_149 (q := 150) rfl rfl (Ls' := #[.val (.ref pA0), .val (.ref eA1), .unset]) rfl ?_
        refine Go.goto C dc_prog_20_method_3_150 (by decide) (q := 161) rfl ?_
        refine Go.aloadN C dc_prog_20_method_3_161 (q := 162) rfl rfl rfl ?_
        refine Go.iconst C dc_prog_20_method_3_162 (q := 163) rfl (v := (0 : Int32)) rfl ?_
        refine Go.putF C (host := "") (i := 6) (j := 2) (Or.inl (wd hw 46 rfl)) Via.refl rfl rfl (Or.inl (wd hw 47 rfl)) (wd hw 1 rfl) (ty := .boolean) (by decide) rfl rfl dc_prog_20_method_3_163 (q := 166) rfl (M' := ((pA1, oRun (.ref pA2) (.ref pA3) (.int (0 : Int32)) (.int (1 : Int32))) :: (pA2, .inr (.long, (oK64 (.long kA1) (.long kA2) (.long kA3) (.long kA4) (.long kA5) (.long kA6)), true)) :: (pA3, .inr (.object "java/lang/Object", (oE64 .null .null .null .null .null .null), true)) :: (pA4, oHeap (.ref pA5) (.ref pA6) (.int (2 : Int32))) :: (pA5, .inr (.long, (oK64 (.long kA7) (.long kA0) (.long kA9) (.long kA10) (.long kA11) (.long kA12)), true)) :: (pA6, .inr (.object "java/lang/Object", (oE64 (.ref eA2) (.ref eA0) .null .null .null .null), true)) :: (pA0, oQ (.ref pA1) (.ref pA4) (.int (0 : Int32)) (.long kA0) (.ref eA0)) :: F)) rfl ?_
        refine Go.aloadN C dc_prog_20_method_3_166 (q := 167) rfl rfl rfl ?_
        refine Go.aconstNull C dc_prog_20_method_3_167 (q := 168) rfl ?_
        refine Go.putF C (host := "") (i := 6) (j := 4) (Or.inl (wd hw 68 rfl)) Via.refl rfl rfl (Or.inl (wd hw 69 rfl)) (wd hw 1 rfl) (ty := (.object "java/lang/Object")) (by decide) rfl rfl dc_prog_20_method_3_168 (q := 171) rfl (M' := ((pA1, oRun (.ref pA2) (.ref pA3) (.int (0 : Int32)) (.int (1 : Int32))) :: (pA2, .inr (.long, (oK64 (.long kA1) (.long kA2) (.long kA3) (.long kA4) (.long kA5) (.long kA6)), true)) :: (pA3, .inr (.object "java/lang/Object", (oE64 .null .null .null .null .null .null), true)) :: (pA4, oHeap (.ref pA5) (.ref pA6) (.int (2 : Int32))) :: (pA5, .inr (.long, (oK64 (.long kA7) (.long kA0) (.long kA9) (.long kA10) (.long kA11) (.long kA12)), true)) :: (pA6, .inr (.object "java/lang/Object", (oE64 (.ref eA2) (.ref eA0) .null .null .null .null), true)) :: (pA0, oQ (.ref pA1) (.ref pA4) (.int (0 : Int32)) (.long kA0) .null) :: F)) rfl ?_
        refine Go.aloadN C dc_prog_20_method_3_171 (q := 172) rfl rfl rfl ?_
        refine Go.astoreN C dc_prog_20_method_3_172 (q := 173) rfl rfl (Ls' := #[.val (.ref pA0), .val (.ref eA1), .val (.ref eA1)]) rfl ?_
        refine Go.aloadN C dc_prog_20_method_3_173 (q := 174) rfl rfl rfl ?_
        refine Go.retA C rfl rfl rfl dc_prog_20_method_3_174 (by decide) (by decide) ?_
        exact Or.inr (Or.inr (Or.inr (Or.inl ⟨rfl, rfl⟩)))
    · show Go _ _ _ _ _ _ _ _ _ _ []
      refine Go.aloadN C dc_prog_20_method_3_94 (q := 95) rfl rfl rfl ?_
      refine Go.getF C (host := "") (Or.inl (wd hw 39 rfl)) Via.refl (fun _ r => r.fld 3 1 rfl rfl) dc_prog_20_method_3_95 (q := 98) rfl ?_
      refine Go.getF C (host := "") (Or.inl (wd hw 51 rfl)) (Via.of (wd hw 52 rfl)) (fun _ r => r.fld 4 2 rfl rfl) dc_prog_20_method_3_98 (q := 101) rfl ?_
      refine Go.ifNo C dc_prog_20_method_3_101 (q := 104) rfl (XT.i0_eq_f (by decide)) ?_
      refine Go.aloadN C dc_prog_20_method_3_104 (q := 105) rfl rfl rfl ?_
      refine Go.getF C (host := "") (Or.inl (wd hw 28 rfl)) Via.refl (fun _ r => r.fld 3 0 rfl rfl) dc_prog_20_method_3_105 (q := 108) rfl ?_
      refine Go.getF C (host := "") (Or.inl (wd hw 48 rfl)) (Via.of (wd hw 49 rfl)) (fun _ r => r.fld 0 2 rfl rfl) dc_prog_20_method_3_108 (q := 111) rfl ?_
      refine Go.ifNo C dc_prog_20_method_3_111 (q := 114) rfl (XT.i0_le_f (by decide)) ?_
      refine Go.aloadN C dc_prog_20_method_3_114 (q := 115) rfl rfl rfl ?_
      refine Go.getF C (host := "") (Or.inl (wd hw 28 rfl)) Via.refl (fun _ r => r.fld 3 0 rfl rfl) dc_prog_20_method_3_115 (q := 118) rfl ?_
      refine Go.getF C (host := "") (Or.inl (wd hw 114 rfl)) (Via.of (wd hw 108 rfl)) (fun _ r => r.fld 0 0 rfl rfl) dc_prog_20_method_3_118 (q := 121) rfl ?_
      refine Go.aloadN C dc_prog_20_method_3_121 (q := 122) rfl rfl rfl ?_
      refine Go.getF C (host := "") (Or.inl (wd hw 28 rfl)) Via.refl (fun _ r => r.fld 3 0 rfl rfl) dc_prog_20_method_3_122 (q := 125) rfl ?_
      refine Go.getR C (wd hw 115 rfl) (fun _ r => r.fld 0 3 rfl rfl) dc_prog_20_method_3_125 (q := 128) rfl ?_
      refine Go.laload C (fun _ r => r.arr 1 rfl) (by decide) (v := (.long kA1)) rfl dc_prog_20_method_3_128 (q := 129) rfl ?_
      refine Go.aloadN C dc_prog_20_method_3_129 (q := 130) rfl rfl rfl ?_
      refine Go.getF C (host := "") (Or.inl (wd hw 39 rfl)) Via.refl (fun _ r => r.fld 3 1 rfl rfl) dc_prog_20_method_3_130 (q := 133) rfl ?_
      refine Go.getF C (host := "") (Or.inl (wd hw 134 rfl)) (Via.of (wd hw 131 rfl)) (fun _ r => r.fld 4 0 rfl rfl) dc_prog_20_method_3_133 (q := 136) rfl ?_
      refine Go.iconst C dc_prog_20_method_3_136 (q := 137) rfl (v := (0 : Int32)) rfl ?_
      refine Go.laload C (fun _ r => r.arr 5 rfl) (by decide) (v := (.long kA7)) rfl dc_prog_20_method_3_137 (q := 138) rfl ?_
      refine Go.lcmpif C dc_prog_20_method_3_138 rfl dc_prog_20_method_3_139 (by decide) (q := 153) rfl (q' := 142) rfl (fun (h138_4 : kA7 < kA1) => ?_) (fun (h138_4 : ¬ kA7 < kA1) => ?_)
      · refine Go.aloadN C dc_prog_20_method_3_153 (q := 154) rfl rfl rfl ?_
        refine Go.getF C (host := "") (Or.inl (wd hw 39 rfl)) Via.refl (fun _ r => r.fld 3 1 rfl rfl) dc_prog_20_method_3_154 (q := 157) rfl ?_
        refine Go.pick (M' := ((pA4, oHeap (.ref pA5) (.ref pA6) (.int (1 : Int32))) :: (pA5, .inr (.long, (oK64 (.long kA7) (.long kA8) (.long kA9) (.long kA10) (.long kA11) (.long kA12)), true)) :: (pA6, .inr (.object "java/lang/Object", (oE64 (.ref eA2) .null .null .null .null .null), true)) :: (pA1, oRun (.ref pA2) (.ref pA3) (.int (2 : Int32)) (.int (0 : Int32))) :: (pA2, .inr (.long, (oK64 (.long kA1) (.long kA0) (.long kA3) (.long kA4) (.long kA5) (.long kA6)), true)) :: (pA3, .inr (.object "java/lang/Object", (oE64 (.ref eA1) (.ref eA0) .null .null .null .null), true)) :: (pA0, oQ (.ref pA1) (.ref pA4) (.int (1 : Int32)) (.long kA0) (.ref eA0)) :: F)) 7 [4, 5, 6, 0, 1, 2, 3] (by decide) (by decide) rfl ?_
        refine Go.callPR C (y := yN20) (a := pA4) (as := []) (rest := []) (wd hw 135 rfl) (wd hw 136 rfl) (sel_priv (y := yN20) (wd hw 31 rfl) (wd hw 136 rfl) (wd hw 137 rfl) (by decide)) (wd hw 137 rfl) (wd hw 138 rfl) (wd hw 32 rfl) (fun _ r => r.exa 0 rfl) (u_SequenceQueue_Heap_poll_55 l Z a0 hw _ pA4 pA5 pA6 eA2 kA7 kA8 kA9 kA10 kA11 kA12 hE_eA2) rfl dc_prog_20_method_3_157 (q := 160) rfl (by decide) rfl (na := 0) (by decide +kernel) rfl (by decide) (W := 0) rfl (by decide) (by decide) (by decide) (k' := 0) (n' := 0) rfl rfl ?_
        rintro _ _ ⟨rfl, rfl⟩
        show Go _ _ _ _ _ _ _ _ _ _ [(.ref eA2)]
        refine Go.astoreN C dc_prog_20_method_3_160 (q := 161) rfl rfl (Ls' := #[.val (.ref pA0), .val (.ref eA2), .unset]) rfl ?_
        refine Go.aloadN C dc_prog_20_method_3_161 (q := 162) rfl rfl rfl ?_
        refine Go.iconst C dc_prog_20_method_3_162 (q := 163) rfl (v := (0 : Int32)) rfl ?_
        refine Go.putF C (host := "") (i := 6) (j := 2) (Or.inl (wd hw 46 rfl)) Via.refl rfl rfl (Or.inl (wd hw 47 rfl)) (wd hw 1 rfl) (ty := .boolean) (by decide) rfl rfl dc_prog_20_method_3_163 (q := 166) rfl (M' := ((pA4, oHeap (.ref pA5) (.ref pA6) (.int (0 : Int32))) :: (pA5, .inr (.long, (oK64 (.long kA7) (.long kA8) (.long kA9) (.long kA10) (.long kA11) (.long kA12)), true)) :: (pA6, .inr (.object "java/lang/Object", (oE64 .null .null .null .null .null .null), true)) :: (pA1, oRun (.ref pA2) (.ref pA3) (.int (2 : Int32)) (.int (0 : Int32))) :: (pA2, .inr (.long, (oK64 (.long kA1) (.long kA0) (.long kA3) (.long kA4) (.long kA5) (.long kA6)), true)) :: (pA3, .inr (.object "java/lang/Object", (oE64 (.ref eA1) (.ref eA0) .null .null .null .null), true)) :: (pA0, oQ (.ref pA1) (.ref pA4) (.int (0 : Int32)) (.long kA0) (.ref eA0)) :: F)) rfl ?_
        refine Go.aloadN C dc_prog_20_method_3_166 (q := 167) rfl rfl rfl ?_
        refine Go.aconstNull C dc_prog_20_method_3_167 (q := 168) rfl ?_
        refine Go.putF C (host := "") (i := 6) (j := 4) (Or.inl (wd hw 68 rfl)) Via.refl rfl rfl (Or.inl (wd hw 69 rfl)) (wd hw 1 rfl) (ty := (.object "java/lang/Object")) (by decide) rfl rfl dc_prog_20_method_3_168 (q := 171) rfl (M' := ((pA4, oHeap (.ref pA5) (.ref pA6) (.int (0 : Int32))) :: (pA5, .inr (.long, (oK64 (.long kA7) (.long kA8) (.long kA9) (.long kA10) (.long kA11) (.long kA12)), true)) :: (pA6, .inr (.object "java/lang/Object", (oE64 .null .null .null .null .null .null), true)) :: (pA1, oRun (.ref pA2) (.ref pA3) (.int (2 : Int32)) (.int (0 : Int32))) :: (pA2, .inr (.long, (oK64 (.long kA1) (.long kA0) (.long kA3) (.long kA4) (.long kA5) (.long kA6)), true)) :: (pA3, .inr (.object "java/lang/Object", (oE64 (.ref eA1) (.ref eA0) .null .null .null .null), true)) :: (pA0, oQ (.ref pA1) (.ref pA4) (.int (0 : Int32)) (.long kA0) .null) :: F)) rfl ?_
        refine Go.aloadN C dc_prog_20_method_3_171 (q := 172) rfl rfl rfl ?_
        refine Go.astoreN C dc_prog_20_method_3_172 (q := 173) rfl rfl (Ls' := #[.val (.ref pA0), .val (.ref eA2), .val (.ref eA2)]) rfl ?_
        refine Go.aloadN C dc_prog_20_method_3_173 (q := 174) rfl rfl rfl ?_
        refine Go.retA C rfl rfl rfl dc_prog_20_method_3_174 (by decide) (by decide) ?_
        exact Or.inr (Or.inr (Or.inr (Or.inr (Or.inl ⟨rfl, rfl⟩))))
      · refine Go.aloadN C dc_prog_20_method_3_142 (q := 143) rfl rfl rfl ?_
        refine Go.getF C (host := "") (Or.inl (wd hw 28 rfl)) Via.refl (fun _ r => r.fld 3 0 rfl rfl) dc_prog_20_method_3_143 (q := 146) rfl ?_
        refine Go.callPR C (y := yN5) (a := pA1) (as := []) (rest := []) (wd hw 59 rfl) (wd hw 60 rfl) (sel_priv (y := yN5) (wd hw 10 rfl) (wd hw 60 rfl) (wd hw 61 rfl) (by decide)) (wd hw 61 rfl) (wd hw 62 rfl) (wd hw 11 rfl) (fun _ r => r.exa 0 rfl) (u_SequenceQueue_Run_poll_65 l Z a0 hw _ pA1 pA2 pA3 eA1 eA0 kA1 kA0 kA3 kA4 kA5 kA6 hE_eA1 hE_eA0) rfl dc_prog_20_method_3_146 (q := 149) rfl (by decide) rfl (na := 0) (by decide +kernel) rfl (by decide) (W := 0) rfl (by decide) (by decide) (by decide) (k' := 0) (n' := 0) rfl rfl ?_
        rintro _ _ ⟨rfl, rfl⟩
        show Go _ _ _ _ _ _ _ _ _ _ [(.ref eA1)]
        refine Go.astoreN C dc_prog_20_method_3_149 (q := 150) rfl rfl (Ls' := #[.val (.ref pA0), .val (.ref eA1), .unset]) rfl ?_
        refine Go.goto C dc_prog_20_method_3_150 (by decide) (q := 161) rfl ?_
        refine Go.aloadN C dc_prog_20_method_3_161 (q := 162) rfl rfl rfl ?_
        refine Go.iconst C dc_prog_20_method_3_162 (q := 163) rfl (v := (0 : Int32)) rfl ?_
        refine Go.putF C (host := "") (i := 3) (j := 2) (Or.inl (wd hw 46 rfl)) Via.refl rfl rfl (Or.inl (wd hw 47 rfl)) (wd hw 1 rfl) (ty := .boolean) (by decide) rfl rfl dc_prog_20_method_3_163 (q := 166) rfl (M' := ((pA1, oRun (.ref pA2) (.ref pA3) (.int (1 : Int32)) (.int (1 : Int32))) :: (pA2, .inr (.long, (oK64 (.long kA1) (.long kA0) (.long kA3) (.long kA4) (.long kA5) (.long kA6)), true)) :: (pA3, .inr (.object "java/lang/Object", (oE64 .null (.ref eA0) .null .null .null .null), true)) :: (pA0, oQ (.ref pA1) (.ref pA4) (.int (0 : Int32)) (.long kA0) (.ref eA0)) :: (pA4, oHeap (.ref pA5) (.ref pA6) (.int (1 : Int32))) :: (pA5, .inr (.long, (oK64 (.long kA7) (.long kA8) (.long kA9) (.long kA10) (.long kA11) (.long kA12)), true)) :: (pA6, .inr (.object "java/lang/Object", (oE64 (.ref eA2) .null .null .null .null .null), true)) :: F)) rfl ?_
        refine Go.aloadN C dc_prog_20_method_3_166 (q := 167) rfl rfl rfl ?_
        refine Go.aconstNull C dc_prog_20_method_3_167 (q := 168) rfl ?_
        refine Go.putF C (host := "") (i := 3) (j := 4) (Or.inl (wd hw 68 rfl)) Via.refl rfl rfl (Or.inl (wd hw 69 rfl)) (wd hw 1 rfl) (ty := (.object "java/lang/Object")) (by decide) rfl rfl dc_prog_20_method_3_168 (q := 171) rfl (M' := ((pA1, oRun (.ref pA2) (.ref pA3) (.int (1 : Int32)) (.int (1 : Int32))) :: (pA2, .inr (.long, (oK64 (.long kA1) (.long kA0) (.long kA3) (.long kA4) (.long kA5) (.long kA6)), true)) :: (pA3, .inr (.object "java/lang/Object", (oE64 .null (.ref eA0) .null .null .null .null), true)) :: (pA0, oQ (.ref pA1) (.ref pA4) (.int (0 : Int32)) (.long kA0) .null) :: (pA4, oHeap (.ref pA5) (.ref pA6) (.int (1 : Int32))) :: (pA5, .inr (.long, (oK64 (.long kA7) (.long kA8) (.long kA9) (.long kA10) (.long kA11) (.long kA12)), true)) :: (pA6, .inr (.object "java/lang/Object", (oE64 (.ref eA2) .null .null .null .null .null), true)) :: F)) rfl ?_
        refine Go.aloadN C dc_prog_20_method_3_171 (q := 172) rfl rfl rfl ?_
        refine Go.astoreN C dc_prog_20_method_3_172 (q := 173) rfl rfl (Ls' := #[.val (.ref pA0), .val (.ref eA1), .val (.ref eA1)]) rfl ?_
        refine Go.aloadN C dc_prog_20_method_3_173 (q := 174) rfl rfl rfl ?_
        refine Go.retA C rfl rfl rfl dc_prog_20_method_3_174 (by decide) (by decide) ?_
        exact Or.inr (Or.inr (Or.inr (Or.inr (Or.inr (Or.inl ⟨rfl, rfl⟩)))))
  · refine Go.aloadN C dc_prog_20_method_3_40 (q := 41) rfl rfl rfl ?_
    refine Go.getF C (host := "") (Or.inl (wd hw 39 rfl)) Via.refl (fun _ r => r.fld 0 1 rfl rfl) dc_prog_20_method_3_41 (q := 44) rfl ?_
    refine Go.getF C (host := "") (Or.inl (wd hw 51 rfl)) (Via.of (wd hw 52 rfl)) (fun _ r => r.fld 4 2 rfl rfl) dc_prog_20_method_3_44 (q := 47) rfl ?_
    refine Go.ifNo C dc_prog_20_method_3_47 (q := 50) rfl (XT.i0_eq_f (by decide)) ?_
    refine Go.aloadN C dc_prog_20_method_3_50 (q := 51) rfl rfl rfl ?_
    refine Go.getF C (host := "") (Or.inl (wd hw 86 rfl)) Via.refl (fun _ r => r.fld 0 3 rfl rfl) dc_prog_20_method_3_51 (q := 54) rfl ?_
    refine Go.aloadN C dc_prog_20_method_3_54 (q := 55) rfl rfl rfl ?_
    refine Go.getF C (host := "") (Or.inl (wd hw 39 rfl)) Via.refl (fun _ r => r.fld 0 1 rfl rfl) dc_prog_20_method_3_55 (q := 58) rfl ?_
    refine Go.getF C (host := "") (Or.inl (wd hw 134 rfl)) (Via.of (wd hw 131 rfl)) (fun _ r => r.fld 4 0 rfl rfl) dc_prog_20_method_3_58 (q := 61) rfl ?_
    refine Go.iconst C dc_prog_20_method_3_61 (q := 62) rfl (v := (0 : Int32)) rfl ?_
    refine Go.laload C (fun _ r => r.arr 5 rfl) (by decide) (v := (.long kA7)) rfl dc_prog_20_method_3_62 (q := 63) rfl ?_
    refine Go.lcmpif C dc_prog_20_method_3_63 rfl dc_prog_20_method_3_64 (by decide) (q := 75) rfl (q' := 67) rfl (fun (h63_5 : kA7 < kA0) => ?_) (fun (h63_5 : ¬ kA7 < kA0) => ?_)
    · refine Go.aloadN C dc_prog_20_method_3_75 (q := 76) rfl rfl rfl ?_
      refine Go.getF C (host := "") (Or.inl (wd hw 46 rfl)) Via.refl (fun _ r => r.fld 0 2 rfl rfl) dc_prog_20_method_3_76 (q := 79) rfl ?_
      refine Go.ifNo C dc_prog_20_method_3_79 (q := 82) rfl (XT.i0_eq_f (by decide)) ?_
      refine Go.aloadN C dc_prog_20_method_3_82 (q := 83) rfl rfl rfl ?_
      refine Go.aloadN C dc_prog_20_method_3_83 (q := 84) rfl rfl rfl ?_
      refine Go.getF C (host := "") (Or.inl (wd hw 86 rfl)) Via.refl (fun _ r => r.fld 0 3 rfl rfl) dc_prog_20_method_3_84 (q := 87) rfl ?_
      refine Go.aloadN C dc_prog_20_method_3_87 (q := 88) rfl rfl rfl ?_
      refine Go.getF C (host := "") (Or.inl (wd hw 68 rfl)) Via.refl (fun _ r => r.fld 0 4 rfl rfl) dc_prog_20_method_3_88 (q := 91) rfl ?_
      refine Go.callP C (y := yN14) (a := pA0) (as := [(.long kA0), (.ref eA0)]) (rest := []) (wd hw 88 rfl) (wd hw 89 rfl) (sel_priv (y := yN14) (wd hw 1 rfl) (wd hw 89 rfl) (wd hw 90 rfl) (by decide)) (wd hw 90 rfl) (wd hw 91 rfl) (wd hw 2 rfl) (fun _ r => r.exa 0 rfl) (u_SequenceQueue_place_113 l Z a0 hw _ pA0 pA1 pA2 pA3 pA4 pA5 pA6 eA0 eA0 eA1 eA2 kA0 kA0 kA1 kA2 kA3 kA4 kA5 kA6 kA7 kA8 kA9 kA10 kA11 kA12 hE_eA0 hE_eA0 hE_eA1 hE_eA2) rfl dc_prog_20_method_3_91 (q := 94) rfl (by decide) rfl (na := 2) (by decide +kernel) rfl (by decide) (W := 0) rfl (by decide) (by decide) (by decide) (k' := 0) (n' := 0) rfl rfl ?_
      rintro _ _ (⟨rfl, rfl⟩ | ⟨rfl, rfl⟩ | ⟨rfl, rfl⟩)
      · show Go _ _ _ _ _ _ _ _ _ _ []
        refine Go.aloadN C dc_prog_20_method_3_94 (q := 95) rfl rfl rfl ?_
        refine Go.getF C (host := "") (Or.inl (wd hw 39 rfl)) Via.refl (fun _ r => r.fld 6 1 rfl rfl) dc_prog_20_method_3_95 (q := 98) rfl ?_
        refine Go.getF C (host := "") (Or.inl (wd hw 51 rfl)) (Via.of (wd hw 52 rfl)) (fun _ r => r.fld 0 2 rfl rfl) dc_prog_20_method_3_98 (q := 101) rfl ?_
        refine Go.ifNo C dc_prog_20_method_3_101 (q := 104) rfl (XT.i0_eq_f (by decide)) ?_
        refine Go.aloadN C dc_prog_20_method_3_104 (q := 105) rfl rfl rfl ?_
        refine Go.getF C (host := "") (Or.inl (wd hw 28 rfl)) Via.refl (fun _ r => r.fld 6 0 rfl rfl) dc_prog_20_method_3_105 (q := 108) rfl ?_
        refine Go.getF C (host := "") (Or.inl (wd hw 48 rfl)) (Via.of (wd hw 49 rfl)) (fun _ r => r.fld 3 2 rfl rfl) dc_prog_20_method_3_108 (q := 111) rfl ?_
        refine Go.ifNo C dc_prog_20_method_3_111 (q := 114) rfl (XT.i0_le_f (by decide)) ?_
        refine Go.aloadN C dc_prog_20_method_3_114 (q := 115) rfl rfl rfl ?_
        refine Go.getF C (host := "") (Or.inl (wd hw 28 rfl)) Via.refl (fun _ r => r.fld 6 0 rfl rfl) dc_prog_20_method_3_115 (q := 118) rfl ?_
        refine Go.getF C (host := "") (Or.inl (wd hw 114 rfl)) (Via.of (wd hw 108 rfl)) (fun _ r => r.fld 3 0 rfl rfl) dc_prog_20_method_3_118 (q := 121) rfl ?_
        refine Go.aloadN C dc_prog_20_method_3_121 (q := 122) rfl rfl rfl ?_
        refine Go.getF C (host := "") (Or.inl (wd hw 28 rfl)) Via.refl (fun _ r => r.fld 6 0 rfl rfl) dc_prog_20_method_3_122 (q := 125) rfl ?_
        refine Go.getR C (wd hw 115 rfl) (fun _ r => r.fld 3 3 rfl rfl) dc_prog_20_method_3_125 (q := 128) rfl ?_
        refine Go.laload C (fun _ r => r.arr 4 rfl) (by decide) (v := (.long kA1)) rfl dc_prog_20_method_3_128 (q := 129) rfl ?_
        refine Go.aloadN C dc_prog_20_method_3_129 (q := 130) rfl rfl rfl ?_
        refine Go.getF C (host := "") (Or.inl (wd hw 39 rfl)) Via.refl (fun _ r => r.fld 6 1 rfl rfl) dc_prog_20_method_3_130 (q := 133) rfl ?_
        refine Go.getF C (host := "") (Or.inl (wd hw 134 rfl)) (Via.of (wd hw 131 rfl)) (fun _ r => r.fld 0 0 rfl rfl) dc_prog_20_method_3_133 (q := 136) rfl ?_
        refine Go.iconst C dc_prog_20_method_3_136 (q := 137) rfl (v := (0 : Int32)) rfl ?_
        refine Go.laload C (fun _ r => r.arr 1 rfl) (by decide) (v := (.long kA0)) rfl dc_prog_20_method_3_137 (q := 138) rfl ?_
        refine Go.lcmpif C dc_prog_20_method_3_138 rfl dc_prog_20_method_3_139 (by decide) (q := 153) rfl (q' := 142) rfl (fun (h138_6 : kA0 < kA1) => ?_) (fun (h138_6 : ¬ kA0 < kA1) => ?_)
        · refine Go.aloadN C dc_prog_20_method_3_153 (q := 154) rfl rfl rfl ?_
          refine Go.getF C (host := "") (Or.inl (wd hw 39 rfl)) Via.refl (fun _ r => r.fld 6 1 rfl rfl) dc_prog_20_method_3_154 (q := 157) rfl ?_
          refine Go.callPR C (y := yN20) (a := pA4) (as := []) (rest := []) (wd hw 135 rfl) (wd hw 136 rfl) (sel_priv (y := yN20) (wd hw 31 rfl) (wd hw 136 rfl) (wd hw 137 rfl) (by decide)) (wd hw 137 rfl) (wd hw 138 rfl) (wd hw 32 rfl) (fun _ r => r.exa 0 rfl) (u_SequenceQueue_Heap_poll_119 l Z a0 hw _ pA4 pA5 pA6 eA0 eA2 kA0 kA7 kA9 kA10 kA11 kA12 hE_eA0 hE_eA2) rfl dc_prog_20_method_3_157 (q := 160) rfl (by decide) rfl (na := 0) (by decide +kernel) rfl (by decide) (W := 0) rfl (by decide) (by decide) (by decide) (k' := 0) (n' := 0) rfl rfl ?_
          rintro _ _ ⟨rfl, rfl⟩
          show Go _ _ _ _ _ _ _ _ _ _ [(.ref eA0)]
          refine Go.astoreN C dc_prog_20_method_3_160 (q := 161) rfl rfl (Ls' := #[.val (.ref pA0), .val (.ref eA0), .unset]) rfl ?_
          refine Go.aloadN C dc_prog_20_method_3_161 (q := 162) rfl rfl rfl ?_
          refine Go.iconst C dc_prog_20_method_3_162 (q := 163) rfl (v := (0 : Int32)) rfl ?_
          refine Go.putF C (host := "") (i := 6) (j := 2) (Or.inl (wd hw 46 rfl)) Via.refl rfl rfl (Or.inl (wd hw 47 rfl)) (wd hw 1 rfl) (ty := .boolean) (by decide) rfl rfl dc_prog_20_method_3_163 (q := 166) rfl (M' := ((pA4, oHeap (.ref pA5) (.ref pA6) (.int (1 : Int32))) :: (pA5, .inr (.long, (oK64 (.long kA7) (.long kA7) (.long kA9) (.long kA10) (.long kA11) (.long kA12)), true)) :: (pA6, .inr (.object "java/lang/Object", (oE64 (.ref eA2) .null .null .null .null .null), true)) :: (pA1, oRun (.ref pA2) (.ref pA3) (.int (1 : Int32)) (.int (0 : Int32))) :: (pA2, .inr (.long, (oK64 (.long kA1) (.long kA2) (.long kA3) (.long kA4) (.long kA5) (.long kA6)), true)) :: (pA3, .inr (.object "java/lang/Object", (oE64 (.ref eA1) .null .null .null .null .null), true)) :: (pA0, oQ (.ref pA1) (.ref pA4) (.int (0 : Int32)) (.long kA0) (.ref eA0)) :: F)) rfl ?_
          refine Go.aloadN C dc_prog_20_method_3_166 (q := 167) rfl rfl rfl ?_
          refine Go.aconstNull C dc_prog_20_method_3_167 (q := 168) rfl ?_
          refine Go.putF C (host := "") (i := 6) (j := 4) (Or.inl (wd hw 68 rfl)) Via.refl rfl rfl (Or.inl (wd hw 69 rfl)) (wd hw 1 rfl) (ty := (.object "java/lang/Object")) (by decide) rfl rfl dc_prog_20_method_3_168 (q := 171) rfl (M' := ((pA4, oHeap (.ref pA5) (.ref pA6) (.int (1 : Int32))) :: (pA5, .inr (.long, (oK64 (.long kA7) (.long kA7) (.long kA9) (.long kA10) (.long kA11) (.long kA12)), true)) :: (pA6, .inr (.object "java/lang/Object", (oE64 (.ref eA2) .null .null .null .null .null), true)) :: (pA1, oRun (.ref pA2) (.ref pA3) (.int (1 : Int32)) (.int (0 : Int32))) :: (pA2, .inr (.long, (oK64 (.long kA1) (.long kA2) (.long kA3) (.long kA4) (.long kA5) (.long kA6)), true)) :: (pA3, .inr (.object "java/lang/Object", (oE64 (.ref eA1) .null .null .null .null .null), true)) :: (pA0, oQ (.ref pA1) (.ref pA4) (.int (0 : Int32)) (.long kA0) .null) :: F)) rfl ?_
          refine Go.aloadN C dc_prog_20_method_3_171 (q := 172) rfl rfl rfl ?_
          refine Go.astoreN C dc_prog_20_method_3_172 (q := 173) rfl rfl (Ls' := #[.val (.ref pA0), .val (.ref eA0), .val (.ref eA0)]) rfl ?_
          refine Go.aloadN C dc_prog_20_method_3_173 (q := 174) rfl rfl rfl ?_
          refine Go.retA C rfl rfl rfl dc_prog_20_method_3_174 (by decide) (by decide) ?_
          exact Or.inl ⟨rfl, rfl⟩
        · refine Go.aloadN C dc_prog_20_method_3_142 (q := 143) rfl rfl rfl ?_
          refine Go.getF C (host := "") (Or.inl (wd hw 28 rfl)) Via.refl (fun _ r => r.fld 6 0 rfl rfl) dc_prog_20_method_3_143 (q := 146) rfl ?_
          refine Go.pick (M' := ((pA1, oRun (.ref pA2) (.ref pA3) (.int (1 : Int32)) (.int (0 : Int32))) :: (pA2, .inr (.long, (oK64 (.long kA1) (.long kA2) (.long kA3) (.long kA4) (.long kA5) (.long kA6)), true)) :: (pA3, .inr (.object "java/lang/Object", (oE64 (.ref eA1) .null .null .null .null .null), true)) :: (pA4, oHeap (.ref pA5) (.ref pA6) (.int (2 : Int32))) :: (pA5, .inr (.long, (oK64 (.long kA0) (.long kA7) (.long kA9) (.long kA10) (.long kA11) (.long kA12)), true)) :: (pA6, .inr (.object "java/lang/Object", (oE64 (.ref eA0) (.ref eA2) .null .null .null .null), true)) :: (pA0, oQ (.ref pA1) (.ref pA4) (.int (1 : Int32)) (.long kA0) (.ref eA0)) :: F)) 7 [3, 4, 5, 0, 1, 2, 6] (by decide) (by decide) rfl ?_
          refine Go.callPR C (y := yN5) (a := pA1) (as := []) (rest := []) (wd hw 59 rfl) (wd hw 60 rfl) (sel_priv (y := yN5) (wd hw 10 rfl) (wd hw 60 rfl) (wd hw 61 rfl) (by decide)) (wd hw 61 rfl) (wd hw 62 rfl) (wd hw 11 rfl) (fun _ r => r.exa 0 rfl) (u_SequenceQueue_Run_poll_59 l Z a0 hw _ pA1 pA2 pA3 eA1 kA1 kA2 kA3 kA4 kA5 kA6 hE_eA1) rfl dc_prog_20_method_3_146 (q := 149) rfl (by decide) rfl (na := 0) (by decide +kernel) rfl (by decide) (W := 0) rfl (by decide) (by decide) (by decide) (k' := 0) (n' := 0) rfl rfl ?_
          rintro _ _ ⟨rfl, rfl⟩
          show Go _ _ _ _ _ _ _ _ _ _ [(.ref eA1)]
          refine Go.astoreN C dc_prog_20_method_3_149 (q := 150) rfl rfl (Ls' := #[.val (.ref pA0), .val (.ref eA1), .unset]) rfl ?_
          refine Go.goto C dc_prog_20_method_3_150 (by decide) (q := 161) rfl ?_
          refine Go.aloadN C dc_prog_20_method_3_161 (q := 162) rfl rfl rfl ?_
          refine Go.iconst C dc_prog_20_method_3_162 (q := 163) rfl (v := (0 : Int32)) rfl ?_
          refine Go.putF C (host := "") (i := 6) (j := 2) (Or.inl (wd hw 46 rfl)) Via.refl rfl rfl (Or.inl (wd hw 47 rfl)) (wd hw 1 rfl) (ty := .boolean) (by decide) rfl rfl dc_prog_20_method_3_163 (q := 166) rfl (M' := ((pA1, oRun (.ref pA2) (.ref pA3) (.int (0 : Int32)) (.int (1 : Int32))) :: (pA2, .inr (.long, (oK64 (.long kA1) (.long kA2) (.long kA3) (.long kA4) (.long kA5) (.long kA6)), true)) :: (pA3, .inr (.object "java/lang/Object", (oE64 .null .null .null .null .null .null), true)) :: (pA4, oHeap (.ref pA5) (.ref pA6) (.int (2 : Int32))) :: (pA5, .inr (.long, (oK64 (.long kA0) (.long kA7) (.long kA9) (.long kA10) (.long kA11) (.long kA12)), true)) :: (pA6, .inr (.object "java/lang/Object", (oE64 (.ref eA0) (.ref eA2) .null .null .null .null), true)) :: (pA0, oQ (.ref pA1) (.ref pA4) (.int (0 : Int32)) (.long kA0) (.ref eA0)) :: F)) rfl ?_
          refine Go.aloadN C dc_prog_20_method_3_166 (q := 167) rfl rfl rfl ?_
          refine Go.aconstNull C dc_prog_20_method_3_167 (q := 168) rfl ?_
          refine Go.putF C (host := "") (i := 6) (j := 4) (Or.inl (wd hw 68 rfl)) Via.refl rfl rfl (Or.inl (wd hw 69 rfl)) (wd hw 1 rfl) (ty := (.object "java/lang/Object")) (by decide) rfl rfl dc_prog_20_method_3_168 (q := 171) rfl (M' := ((pA1, oRun (.ref pA2) (.ref pA3) (.int (0 : Int32)) (.int (1 : Int32))) :: (pA2, .inr (.long, (oK64 (.long kA1) (.long kA2) (.long kA3) (.long kA4) (.long kA5) (.long kA6)), true)) :: (pA3, .inr (.object "java/lang/Object", (oE64 .null .null .null .null .null .null), true)) :: (pA4, oHeap (.ref pA5) (.ref pA6) (.int (2 : Int32))) :: (pA5, .inr (.long, (oK64 (.long kA0) (.long kA7) (.long kA9) (.long kA10) (.long kA11) (.long kA12)), true)) :: (pA6, .inr (.object "java/lang/Object", (oE64 (.ref eA0) (.ref eA2) .null .null .null .null), true)) :: (pA0, oQ (.ref pA1) (.ref pA4) (.int (0 : Int32)) (.long kA0) .null) :: F)) rfl ?_
          refine Go.aloadN C dc_prog_20_method_3_171 (q := 172) rfl rfl rfl ?_
          refine Go.astoreN C dc_prog_20_method_3_172 (q := 173) rfl rfl (Ls' := #[.val (.ref pA0), .val (.ref eA1), .val (.ref eA1)]) rfl ?_
          refine Go.aloadN C dc_prog_20_method_3_173 (q := 174) rfl rfl rfl ?_
          refine Go.retA C rfl rfl rfl dc_prog_20_method_3_174 (by decide) (by decide) ?_
          exact Or.inr (Or.inl ⟨rfl, rfl⟩)
      · show Go _ _ _ _ _ _ _ _ _ _ []
        refine Go.aloadN C dc_prog_20_method_3_94 (q := 95) rfl rfl rfl ?_
        refine Go.getF C (host := "") (Or.inl (wd hw 39 rfl)) Via.refl (fun _ r => r.fld 6 1 rfl rfl) dc_prog_20_method_3_95 (q := 98) rfl ?_
        refine Go.getF C (host := "") (Or.inl (wd hw 51 rfl)) (Via.of (wd hw 52 rfl)) (fun _ r => r.fld 0 2 rfl rfl) dc_prog_20_method_3_98 (q := 101) rfl ?_
        refine Go.ifNo C dc_prog_20_method_3_101 (q := 104) rfl (XT.i0_eq_f (by decide)) ?_
        refine Go.aloadN C dc_prog_20_method_3_104 (q := 105) rfl rfl rfl ?_
        refine Go.getF C (host := "") (Or.inl (wd hw 28 rfl)) Via.refl (fun _ r => r.fld 6 0 rfl rfl) dc_prog_20_method_3_105 (q := 108) rfl ?_
        refine Go.getF C (host := "") (Or.inl (wd hw 48 rfl)) (Via.of (wd hw 49 rfl)) (fun _ r => r.fld 3 2 rfl rfl) dc_prog_20_method_3_108 (q := 111) rfl ?_
        refine Go.ifNo C dc_prog_20_method_3_111 (q := 114) rfl (XT.i0_le_f (by decide)) ?_
        refine Go.aloadN C dc_prog_20_method_3_114 (q := 115) rfl rfl rfl ?_
        refine Go.getF C (host := "") (Or.inl (wd hw 28 rfl)) Via.refl (fun _ r => r.fld 6 0 rfl rfl) dc_prog_20_method_3_115 (q := 118) rfl ?_
        refine Go.getF C (host := "") (Or.inl (wd hw 114 rfl)) (Via.of (wd hw 108 rfl)) (fun _ r => r.fld 3 0 rfl rfl) dc_prog_20_method_3_118 (q := 121) rfl ?_
        refine Go.aloadN C dc_prog_20_method_3_121 (q := 122) rfl rfl rfl ?_
        refine Go.getF C (host := "") (Or.inl (wd hw 28 rfl)) Via.refl (fun _ r => r.fld 6 0 rfl rfl) dc_prog_20_method_3_122 (q := 125) rfl ?_
        refine Go.getR C (wd hw 115 rfl) (fun _ r => r.fld 3 3 rfl rfl) dc_prog_20_method_3_125 (q := 128) rfl ?_
        refine Go.laload C (fun _ r => r.arr 4 rfl) (by decide) (v := (.long kA1)) rfl dc_prog_20_method_3_128 (q := 129) rfl ?_
        refine Go.aloadN C dc_prog_20_method_3_129 (q := 130) rfl rfl rfl ?_
        refine Go.getF C (host := "") (Or.inl (wd hw 39 rfl)) Via.refl (fun _ r => r.fld 6 1 rfl rfl) dc_prog_20_method_3_130 (q := 133) rfl ?_
        refine Go.getF C (host := "") (Or.inl (wd hw 134 rfl)) (Via.of (wd hw 131 rfl)) (fun _ r => r.fld 0 0 rfl rfl) dc_prog_20_method_3_133 (q := 136) rfl ?_
        refine Go.iconst C dc_prog_20_method_3_136 (q := 137) rfl (v := (0 : Int32)) rfl ?_
        refine Go.laload C (fun _ r => r.arr 1 rfl) (by decide) (v := (.long kA7)) rfl dc_prog_20_method_3_137 (q := 138) rfl ?_
        refine Go.lcmpif C dc_prog_20_method_3_138 rfl dc_prog_20_method_3_139 (by decide) (q := 153) rfl (q' := 142) rfl (fun (h138_7 : kA7 < kA1) => ?_) (fun (h138_7 : ¬ kA7 < kA1) => ?_)
        · refine Go.aloadN C dc_prog_20_method_3_153 (q := 154) rfl rfl rfl ?_
          refine Go.getF C (host := "") (Or.inl (wd hw 39 rfl)) Via.refl (fun _ r => r.fld 6 1 rfl rfl) dc_prog_20_method_3_154 (q := 157) rfl ?_
          refine Go.callPR C (y := yN20) (a := pA4) (as := []) (rest := []) (wd hw 135 rfl) (wd hw 136 rfl) (sel_priv (y := yN20) (wd hw 31 rfl) (wd hw 136 rfl) (wd hw 137 rfl) (by decide)) (wd hw 137 rfl) (wd hw 138 rfl) (wd hw 32 rfl) (fun _ r => r.exa 0 rfl) (u_SequenceQueue_Heap_poll_119 l Z a0 hw _ pA4 pA5 pA6 eA2 eA0 kA7 kA0 kA9 kA10 kA11 kA12 hE_eA2 hE_eA0) rfl dc_prog_20_method_3_157 (q := 160) rfl (by decide) rfl (na := 0) (by decide +kernel) rfl (by decide) (W := 0) rfl (by decide) (by decide) (by decide) (k' := 0) (n' := 0) rfl rfl ?_
          rintro _ _ ⟨rfl, rfl⟩
          show Go _ _ _ _ _ _ _ _ _ _ [(.ref eA2)]
          refine Go.astoreN C dc_prog_20_method_3_160 (q := 161) rfl rfl (Ls' := #[.val (.ref pA0), .val (.ref eA2), .unset]) rfl ?_
          refine Go.aloadN C dc_prog_20_method_3_161 (q := 162) rfl rfl rfl ?_
          refine Go.iconst C dc_prog_20_method_3_162 (q := 163) rfl (v := (0 : Int32)) rfl ?_
          refine Go.putF C (host := "") (i := 6) (j := 2) (Or.inl (wd hw 46 rfl)) Via.refl rfl rfl (Or.inl (wd hw 47 rfl)) (wd hw 1 rfl) (ty := .boolean) (by decide) rfl rfl dc_prog_20_method_3_163 (q := 166) rfl (M' := ((pA4, oHeap (.ref pA5) (.ref pA6) (.int (1 : Int32))) :: (pA5, .inr (.long, (oK64 (.long kA0) (.long kA0) (.long kA9) (.long kA10) (.long kA11) (.long kA12)), true)) :: (pA6, .inr (.object "java/lang/Object", (oE64 (.ref eA0) .null .null .null .null .null), true)) :: (pA1, oRun (.ref pA2) (.ref pA3) (.int (1 : Int32)) (.int (0 : Int32))) :: (pA2, .inr (.long, (oK64 (.long kA1) (.long kA2) (.long kA3) (.long kA4) (.long kA5) (.long kA6)), true)) :: (pA3, .inr (.object "java/lang/Object", (oE64 (.ref eA1) .null .null .null .null .null), true)) :: (pA0, oQ (.ref pA1) (.ref pA4) (.int (0 : Int32)) (.long kA0) (.ref eA0)) :: F)) rfl ?_
          refine Go.aloadN C dc_prog_20_method_3_166 (q := 167) rfl rfl rfl ?_
          refine Go.aconstNull C dc_prog_20_method_3_167 (q := 168) rfl ?_
          refine Go.putF C (host := "") (i := 6) (j := 4) (Or.inl (wd hw 68 rfl)) Via.refl rfl rfl (Or.inl (wd hw 69 rfl)) (wd hw 1 rfl) (ty := (.object "java/lang/Object")) (by decide) rfl rfl dc_prog_20_method_3_168 (q := 171) rfl (M' := ((pA4, oHeap (.ref pA5) (.ref pA6) (.int (1 : Int32))) :: (pA5, .inr (.long, (oK64 (.long kA0) (.long kA0) (.long kA9) (.long kA10) (.long kA11) (.long kA12)), true)) :: (pA6, .inr (.object "java/lang/Object", (oE64 (.ref eA0) .null .null .null .null .null), true)) :: (pA1, oRun (.ref pA2) (.ref pA3) (.int (1 : Int32)) (.int (0 : Int32))) :: (pA2, .inr (.long, (oK64 (.long kA1) (.long kA2) (.long kA3) (.long kA4) (.long kA5) (.long kA6)), true)) :: (pA3, .inr (.object "java/lang/Object", (oE64 (.ref eA1) .null .null .null .null .null), true)) :: (pA0, oQ (.ref pA1) (.ref pA4) (.int (0 : Int32)) (.long kA0) .null) :: F)) rfl ?_
          refine Go.aloadN C dc_prog_20_method_3_171 (q := 172) rfl rfl rfl ?_
          refine Go.astoreN C dc_prog_20_method_3_172 (q := 173) rfl rfl (Ls' := #[.val (.ref pA0), .val (.ref eA2), .val (.ref eA2)]) rfl ?_
          refine Go.aloadN C dc_prog_20_method_3_173 (q := 174) rfl rfl rfl ?_
          refine Go.retA C rfl rfl rfl dc_prog_20_method_3_174 (by decide) (by decide) ?_
          exact Or.inr (Or.inr (Or.inl ⟨rfl, rfl⟩))
        · refine Go.aloadN C dc_prog_20_method_3_142 (q := 143) rfl rfl rfl ?_
          refine Go.getF C (host := "") (Or.inl (wd hw 28 rfl)) Via.refl (fun _ r => r.fld 6 0 rfl rfl) dc_prog_20_method_3_143 (q := 146) rfl ?_
          refine Go.pick (M' := ((pA1, oRun (.ref pA2) (.ref pA3) (.int (1 : Int32)) (.int (0 : Int32))) :: (pA2, .inr (.long, (oK64 (.long kA1) (.long kA2) (.long kA3) (.long kA4) (.long kA5) (.long kA6)), true)) :: (pA3, .inr (.object "java/lang/Object", (oE64 (.ref eA1) .null .null .null .null .null), true)) :: (pA4, oHeap (.ref pA5) (.ref pA6) (.int (2 : Int32))) :: (pA5, .inr (.long, (oK64 (.long kA7) (.long kA0) (.long kA9) (.long kA10) (.long kA11) (.long kA12)), true)) :: (pA6, .inr (.object "java/lang/Object", (oE64 (.ref eA2) (.ref eA0) .null .null .null .null), true)) :: (pA0, oQ (.ref pA1) (.ref pA4) (.int (1 : Int32)) (.long kA0) (.ref eA0)) :: F)) 7 [3, 4, 5, 0, 1, 2, 6] (by decide) (by decide) rfl ?_
          refine Go.callPR C (y := yN5) (a := pA1) (as := []) (rest := []) (wd hw 59 rfl) (wd hw 60 rfl) (sel_priv (y := yN5) (wd hw 10 rfl) (wd hw 60 rfl) (wd hw 61 rfl) (by decide)) (wd hw 61 rfl) (wd hw 62 rfl) (wd hw 11 rfl) (fun _ r => r.exa 0 rfl) (u_SequenceQueue_Run_poll_59 l Z a0 hw _ pA1 pA2 pA3 eA1 kA1 kA2 kA3 kA4 kA5 kA6 hE_eA1) rfl dc_prog_20_method_3_146 (q := 149) rfl (by decide) rfl (na := 0) (by decide +kernel) rfl (by decide) (W := 0) rfl (by decide) (by decide) (by decide) (k' := 0) (n' := 0) rfl rfl ?_
          rintro _ _ ⟨rfl, rfl⟩
          show Go _ _ _ _ _ _ _ _ _ _ [(.ref eA1)]
          refine Go.astoreN C dc_prog_20_method_3_149 (q := 150) rfl rfl (Ls' := #[.val (.ref pA0), .val (.ref eA1), .unset]) rfl ?_
          refine Go.goto C dc_prog_20_method_3_150 (by decide) (q := 161) rfl ?_
          refine Go.aloadN C dc_prog_20_method_3_161 (q := 162) rfl rfl rfl ?_
          refine Go.iconst C dc_prog_20_method_3_162 (q := 163) rfl (v := (0 : Int32)) rfl ?_
          refine Go.putF C (host := "") (i := 6) (j := 2) (Or.inl (wd hw 46 rfl)) Via.refl rfl rfl (Or.inl (wd hw 47 rfl)) (wd hw 1 rfl) (ty := .boolean) (by decide) rfl rfl dc_prog_20_method_3_163 (q := 166) rfl (M' := ((pA1, oRun (.ref pA2) (.ref pA3) (.int (0 : Int32)) (.int (1 : Int32))) :: (pA2, .inr (.long, (oK64 (.long kA1) (.long kA2) (.long kA3) (.long kA4) (.long kA5) (.long kA6)), true)) :: (pA3, .inr (.object "java/lang/Object", (oE64 .null .null .null .null .null .null), true)) :: (pA4, oHeap (.ref pA5) (.ref pA6) (.int (2 : Int32))) :: (pA5, .inr (.long, (oK64 (.long kA7) (.long kA0) (.long kA9) (.long kA10) (.long kA11) (.long kA12)), true)) :: (pA6, .inr (.object "java/lang/Object", (oE64 (.ref eA2) (.ref eA0) .null .null .null .null), true)) :: (pA0, oQ (.ref pA1) (.ref pA4) (.int (0 : Int32)) (.long kA0) (.ref eA0)) :: F)) rfl ?_
          refine Go.aloadN C dc_prog_20_method_3_166 (q := 167) rfl rfl rfl ?_
          refine Go.aconstNull C dc_prog_20_method_3_167 (q := 168) rfl ?_
          refine Go.putF C (host := "") (i := 6) (j := 4) (Or.inl (wd hw 68 rfl)) Via.refl rfl rfl (Or.inl (wd hw 69 rfl)) (wd hw 1 rfl) (ty := (.object "java/lang/Object")) (by decide) rfl rfl dc_prog_20_method_3_168 (q := 171) rfl (M' := ((pA1, oRun (.ref pA2) (.ref pA3) (.int (0 : Int32)) (.int (1 : Int32))) :: (pA2, .inr (.long, (oK64 (.long kA1) (.long kA2) (.long kA3) (.long kA4) (.long kA5) (.long kA6)), true)) :: (pA3, .inr (.object "java/lang/Object", (oE64 .null .null .null .null .null .null), true)) :: (pA4, oHeap (.ref pA5) (.ref pA6) (.int (2 : Int32))) :: (pA5, .inr (.long, (oK64 (.long kA7) (.long kA0) (.long kA9) (.long kA10) (.long kA11) (.long kA12)), true)) :: (pA6, .inr (.object "java/lang/Object", (oE64 (.ref eA2) (.ref eA0) .null .null .null .null), true)) :: (pA0, oQ (.ref pA1) (.ref pA4) (.int (0 : Int32)) (.long kA0) .null) :: F)) rfl ?_
          refine Go.aloadN C dc_prog_20_method_3_171 (q := 172) rfl rfl rfl ?_
          refine Go.astoreN C dc_prog_20_method_3_172 (q := 173) rfl rfl (Ls' := #[.val (.ref pA0), .val (.ref eA1), .val (.ref eA1)]) rfl ?_
          refine Go.aloadN C dc_prog_20_method_3_173 (q := 174) rfl rfl rfl ?_
          refine Go.retA C rfl rfl rfl dc_prog_20_method_3_174 (by decide) (by decide) ?_
          exact Or.inr (Or.inr (Or.inr (Or.inl ⟨rfl, rfl⟩)))
      · show Go _ _ _ _ _ _ _ _ _ _ []
        refine Go.aloadN C dc_prog_20_method_3_94 (q := 95) rfl rfl rfl ?_
        refine Go.getF C (host := "") (Or.inl (wd hw 39 rfl)) Via.refl (fun _ r => r.fld 3 1 rfl rfl) dc_prog_20_method_3_95 (q := 98) rfl ?_
        refine Go.getF C (host := "") (Or.inl (wd hw 51 rfl)) (Via.of (wd hw 52 rfl)) (fun _ r => r.fld 4 2 rfl rfl) dc_prog_20_method_3_98 (q := 101) rfl ?_
        refine Go.ifNo C dc_prog_20_method_3_101 (q := 104) rfl (XT.i0_eq_f (by decide)) ?_
        refine Go.aloadN C dc_prog_20_method_3_104 (q := 105) rfl rfl rfl ?_
        refine Go.getF C (host := "") (Or.inl (wd hw 28 rfl)) Via.refl (fun _ r => r.fld 3 0 rfl rfl) dc_prog_20_method_3_105 (q := 108) rfl ?_
        refine Go.getF C (host := "") (Or.inl (wd hw 48 rfl)) (Via.of (wd hw 49 rfl)) (fun _ r => r.fld 0 2 rfl rfl) dc_prog_20_method_3_108 (q := 111) rfl ?_
        refine Go.ifNo C dc_prog_20_method_3_111 (q := 114) rfl (XT.i0_le_f (by decide)) ?_
        refine Go.aloadN C dc_prog_20_method_3_114 (q := 115) rfl rfl rfl ?_
        refine Go.getF C (host := "") (Or.inl (wd hw 28 rfl)) Via.refl (fun _ r => r.fld 3 0 rfl rfl) dc_prog_20_method_3_115 (q := 118) rfl ?_
        refine Go.getF C (host := "") (Or.inl (wd hw 114 rfl)) (Via.of (wd hw 108 rfl)) (fun _ r => r.fld 0 0 rfl rfl) dc_prog_20_method_3_118 (q := 121) rfl ?_
        refine Go.aloadN C dc_prog_20_method_3_121 (q := 122) rfl rfl rfl ?_
        refine Go.getF C (host := "") (Or.inl (wd hw 28 rfl)) Via.refl (fun _ r => r.fld 3 0 rfl rfl) dc_prog_20_method_3_122 (q := 125) rfl ?_
        refine Go.getR C (wd hw 115 rfl) (fun _ r => r.fld 0 3 rfl rfl) dc_prog_20_method_3_125 (q := 128) rfl ?_
        refine Go.laload C (fun _ r => r.arr 1 rfl) (by decide) (v := (.long kA1)) rfl dc_prog_20_method_3_128 (q := 129) rfl ?_
        refine Go.aloadN C dc_prog_20_method_3_129 (q := 130) rfl rfl rfl ?_
        refine Go.getF C (host := "") (Or.inl (wd hw 39 rfl)) Via.refl (fun _ r => r.fld 3 1 rfl rfl) dc_prog_20_method_3_130 (q := 133) rfl ?_
        refine Go.getF C (host := "") (Or.inl (wd hw 134 rfl)) (Via.of (wd hw 131 rfl)) (fun _ r => r.fld 4 0 rfl rfl) dc_prog_20_method_3_133 (q := 136) rfl ?_
        refine Go.iconst C dc_prog_20_method_3_136 (q := 137) rfl (v := (0 : Int32)) rfl ?_
        refine Go.laload C (fun _ r => r.arr 5 rfl) (by decide) (v := (.long kA7)) rfl dc_prog_20_method_3_137 (q := 138) rfl ?_
        refine Go.lcmpif C dc_prog_20_method_3_138 rfl dc_prog_20_method_3_139 (by decide) (q := 153) rfl (q' := 142) rfl (fun (h138_8 : kA7 < kA1) => ?_) (fun (h138_8 : ¬ kA7 < kA1) => ?_)
        · refine Go.aloadN C dc_prog_20_method_3_153 (q := 154) rfl rfl rfl ?_
          refine Go.getF C (host := "") (Or.inl (wd hw 39 rfl)) Via.refl (fun _ r => r.fld 3 1 rfl rfl) dc_prog_20_method_3_154 (q := 157) rfl ?_
          refine Go.pick (M' := ((pA4, oHeap (.ref pA5) (.ref pA6) (.int (1 : Int32))) :: (pA5, .inr (.long, (oK64 (.long kA7) (.long kA8) (.long kA9) (.long kA10) (.long kA11) (.long kA12)), true)) :: (pA6, .inr (.object "java/lang/Object", (oE64 (.ref eA2) .null .null .null .null .null), true)) :: (pA1, oRun (.ref pA2) (.ref pA3) (.int (2 : Int32)) (.int (0 : Int32))) :: (pA2, .inr (.long, (oK64 (.long kA1) (.long kA0) (.long kA3) (.long kA4) (.long kA5) (.long kA6)), true)) :: (pA3, .inr (.object "java/lang/Object", (oE64 (.ref eA1) (.ref eA0) .null .null .null .null), true)) :: (pA0, oQ (.ref pA1) (.ref pA4) (.int (1 : Int32)) (.long kA0) (.ref eA0)) :: F)) 7 [4, 5, 6, 0, 1, 2, 3] (by decide) (by decide) rfl ?_
          refine Go.callPR C (y := yN20) (a := pA4) (as := []) (rest := []) (wd hw 135 rfl) (wd hw 136 rfl) (sel_priv (y := yN20) (wd hw 31 rfl) (wd hw 136 rfl) (wd hw 137 rfl) (by decide)) (wd hw 137 rfl) (wd hw 138 rfl) (wd hw 32 rfl) (fun _ r => r.exa 0 rfl) (u_SequenceQueue_Heap_poll_55 l Z a0 hw _ pA4 pA5 pA6 eA2 kA7 kA8 kA9 kA10 kA11 kA12 hE_eA2) rfl dc_prog_20_method_3_157 (q := 160) rfl (by decide) rfl (na := 0) (by decide +kernel) rfl (by decide) (W := 0) rfl (by decide) (by decide) (by decide) (k' := 0) (n' := 0) rfl rfl ?_
          rintro _ _ ⟨rfl, rfl⟩
          show Go _ _ _ _ _ _ _ _ _ _ [(.ref eA2)]
          refine Go.astoreN C dc_prog_20_method_3_160 (q := 161) rfl rfl (Ls' := #[.val (.ref pA0), .val (.ref eA2), .unset]) rfl ?_
          refine Go.aloadN C dc_prog_20_method_3_161 (q := 162) rfl rfl rfl ?_
          refine Go.iconst C dc_prog_20_method_3_162 (q := 163) rfl (v := (0 : Int32)) rfl ?_
          refine Go.putF C (host := "") (i := 6) (j := 2) (Or.inl (wd hw 46 rfl)) Via.refl rfl rfl (Or.inl (wd hw 47 rfl)) (wd hw 1 rfl) (ty := .boolean) (by decide) rfl rfl dc_prog_20_method_3_163 (q := 166) rfl (M' := ((pA4, oHeap (.ref pA5) (.ref pA6) (.int (0 : Int32))) :: (pA5, .inr (.long, (oK64 (.long kA7) (.long kA8) (.long kA9) (.long kA10) (.long kA11) (.long kA12)), true)) :: (pA6, .inr (.object "java/lang/Object", (oE64 .null .null .null .null .null .null), true)) :: (pA1, oRun (.ref pA2) (.ref pA3) (.int (2 : Int32)) (.int (0 : Int32))) :: (pA2, .inr (.long, (oK64 (.long kA1) (.long kA0) (.long kA3) (.long kA4) (.long kA5) (.long kA6)), true)) :: (pA3, .inr (.object "java/lang/Object", (oE64 (.ref eA1) (.ref eA0) .null .null .null .null), true)) :: (pA0, oQ (.ref pA1) (.ref pA4) (.int (0 : Int32)) (.long kA0) (.ref eA0)) :: F)) rfl ?_
          refine Go.aloadN C dc_prog_20_method_3_166 (q := 167) rfl rfl rfl ?_
          refine Go.aconstNull C dc_prog_20_method_3_167 (q := 168) rfl ?_
          refine Go.putF C (host := "") (i := 6) (j := 4) (Or.inl (wd hw 68 rfl)) Via.refl rfl rfl (Or.inl (wd hw 69 rfl)) (wd hw 1 rfl) (ty := (.object "java/lang/Object")) (by decide) rfl rfl dc_prog_20_method_3_168 (q := 171) rfl (M' := ((pA4, oHeap (.ref pA5) (.ref pA6) (.int (0 : Int32))) :: (pA5, .inr (.long, (oK64 (.long kA7) (.long kA8) (.long kA9) (.long kA10) (.long kA11) (.long kA12)), true)) :: (pA6, .inr (.object "java/lang/Object", (oE64 .null .null .null .null .null .null), true)) :: (pA1, oRun (.ref pA2) (.ref pA3) (.int (2 : Int32)) (.int (0 : Int32))) :: (pA2, .inr (.long, (oK64 (.long kA1) (.long kA0) (.long kA3) (.long kA4) (.long kA5) (.long kA6)), true)) :: (pA3, .inr (.object "java/lang/Object", (oE64 (.ref eA1) (.ref eA0) .null .null .null .null), true)) :: (pA0, oQ (.ref pA1) (.ref pA4) (.int (0 : Int32)) (.long kA0) .null) :: F)) rfl ?_
          refine Go.aloadN C dc_prog_20_method_3_171 (q := 172) rfl rfl rfl ?_
          refine Go.astoreN C dc_prog_20_method_3_172 (q := 173) rfl rfl (Ls' := #[.val (.ref pA0), .val (.ref eA2), .val (.ref eA2)]) rfl ?_
          refine Go.aloadN C dc_prog_20_method_3_173 (q := 174) rfl rfl rfl ?_
          refine Go.retA C rfl rfl rfl dc_prog_20_method_3_174 (by decide) (by decide) ?_
          exact Or.inr (Or.inr (Or.inr (Or.inr (Or.inl ⟨rfl, rfl⟩))))
        · refine Go.aloadN C dc_prog_20_method_3_142 (q := 143) rfl rfl rfl ?_
          refine Go.getF C (host := "") (Or.inl (wd hw 28 rfl)) Via.refl (fun _ r => r.fld 3 0 rfl rfl) dc_prog_20_method_3_143 (q := 146) rfl ?_
          refine Go.callPR C (y := yN5) (a := pA1) (as := []) (rest := []) (wd hw 59 rfl) (wd hw 60 rfl) (sel_priv (y := yN5) (wd hw 10 rfl) (wd hw 60 rfl) (wd hw 61 rfl) (by decide)) (wd hw 61 rfl) (wd hw 62 rfl) (wd hw 11 rfl) (fun _ r => r.exa 0 rfl) (u_SequenceQueue_Run_poll_65 l Z a0 hw _ pA1 pA2 pA3 eA1 eA0 kA1 kA0 kA3 kA4 kA5 kA6 hE_eA1 hE_eA0) rfl dc_prog_20_method_3_146 (q := 149) rfl (by decide) rfl (na := 0) (by decide +kernel) rfl (by decide) (W := 0) rfl (by decide) (by decide) (by decide) (k' := 0) (n' := 0) rfl rfl ?_
          rintro _ _ ⟨rfl, rfl⟩
          show Go _ _ _ _ _ _ _ _ _ _ [(.ref eA1)]
          refine Go.astoreN C dc_prog_20_method_3_149 (q := 150) rfl rfl (Ls' := #[.val (.ref pA0), .val (.ref eA1), .unset]) rfl ?_
          refine Go.goto C dc_prog_20_method_3_150 (by decide) (q := 161) rfl ?_
          refine Go.aloadN C dc_prog_20_method_3_161 (q := 162) rfl rfl rfl ?_
          refine Go.iconst C dc_prog_20_method_3_162 (q := 163) rfl (v := (0 : Int32)) rfl ?_
          refine Go.putF C (host := "") (i := 3) (j := 2) (Or.inl (wd hw 46 rfl)) Via.refl rfl rfl (Or.inl (wd hw 47 rfl)) (wd hw 1 rfl) (ty := .boolean) (by decide) rfl rfl dc_prog_20_method_3_163 (q := 166) rfl (M' := ((pA1, oRun (.ref pA2) (.ref pA3) (.int (1 : Int32)) (.int (1 : Int32))) :: (pA2, .inr (.long, (oK64 (.long kA1) (.long kA0) (.long kA3) (.long kA4) (.long kA5) (.long kA6)), true)) :: (pA3, .inr (.object "java/lang/Object", (oE64 .null (.ref eA0) .null .null .null .null), true)) :: (pA0, oQ (.ref pA1) (.ref pA4) (.int (0 : Int32)) (.long kA0) (.ref eA0)) :: (pA4, oHeap (.ref pA5) (.ref pA6) (.int (1 : Int32))) :: (pA5, .inr (.long, (oK64 (.long kA7) (.long kA8) (.long kA9) (.long kA10) (.long kA11) (.long kA12)), true)) :: (pA6, .inr (.object "java/lang/Object", (oE64 (.ref eA2) .null .null .null .null .null), true)) :: F)) rfl ?_
          refine Go.aloadN C dc_prog_20_method_3_166 (q := 167) rfl rfl rfl ?_
          refine Go.aconstNull C dc_prog_20_method_3_167 (q := 168) rfl ?_
          refine Go.putF C (host := "") (i := 3) (j := 4) (Or.inl (wd hw 68 rfl)) Via.refl rfl rfl (Or.inl (wd hw 69 rfl)) (wd hw 1 rfl) (ty := (.object "java/lang/Object")) (by decide) rfl rfl dc_prog_20_method_3_168 (q := 171) rfl (M' := ((pA1, oRun (.ref pA2) (.ref pA3) (.int (1 : Int32)) (.int (1 : Int32))) :: (pA2, .inr (.long, (oK64 (.long kA1) (.long kA0) (.long kA3) (.long kA4) (.long kA5) (.long kA6)), true)) :: (pA3, .inr (.object "java/lang/Object", (oE64 .null (.ref eA0) .null .null .null .null), true)) :: (pA0, oQ (.ref pA1) (.ref pA4) (.int (0 : Int32)) (.long kA0) .null) :: (pA4, oHeap (.ref pA5) (.ref pA6) (.int (1 : Int32))) :: (pA5, .inr (.long, (oK64 (.long kA7) (.long kA8) (.long kA9) (.long kA10) (.long kA11) (.long kA12)), true)) :: (pA6, .inr (.object "java/lang/Object", (oE64 (.ref eA2) .null .null .null .null .null), true)) :: F)) rfl ?_
          refine Go.aloadN C dc_prog_20_method_3_171 (q := 172) rfl rfl rfl ?_
          refine Go.astoreN C dc_prog_20_method_3_172 (q := 173) rfl rfl (Ls' := #[.val (.ref pA0), .val (.ref eA1), .val (.ref eA1)]) rfl ?_
          refine Go.aloadN C dc_prog_20_method_3_173 (q := 174) rfl rfl rfl ?_
          refine Go.retA C rfl rfl rfl dc_prog_20_method_3_174 (by decide) (by decide) ?_
          exact Or.inr (Or.inr (Or.inr (Or.inr (Or.inr (Or.inl ⟨rfl, rfl⟩)))))
    · refine Go.aloadN C dc_prog_20_method_3_67 (q := 68) rfl rfl rfl ?_
      refine Go.getF C (host := "") (Or.inl (wd hw 68 rfl)) Via.refl (fun _ r => r.fld 0 4 rfl rfl) dc_prog_20_method_3_68 (q := 71) rfl ?_
      refine Go.astoreN C dc_prog_20_method_3_71 (q := 72) rfl rfl (Ls' := #[.val (.ref pA0), .val (.ref eA0), .unset]) rfl ?_
      refine Go.goto C dc_prog_20_method_3_72 (by decide) (q := 161) rfl ?_
      refine Go.aloadN C dc_prog_20_method_3_161 (q := 162) rfl rfl rfl ?_
      refine Go.iconst C dc_prog_20_method_3_162 (q := 163) rfl (v := (0 : Int32)) rfl ?_
      refine Go.putF C (host := "") (i := 0) (j := 2) (Or.inl (wd hw 46 rfl)) Via.refl rfl rfl (Or.inl (wd hw 47 rfl)) (wd hw 1 rfl) (ty := .boolean) (by decide) rfl rfl dc_prog_20_method_3_163 (q := 166) rfl (M' := ((pA0, oQ (.ref pA1) (.ref pA4) (.int (0 : Int32)) (.long kA0) (.ref eA0)) :: (pA1, oRun (.ref pA2) (.ref pA3) (.int (1 : Int32)) (.int (0 : Int32))) :: (pA2, .inr (.long, (oK64 (.long kA1) (.long kA2) (.long kA3) (.long kA4) (.long kA5) (.long kA6)), true)) :: (pA3, .inr (.object "java/lang/Object", (oE64 (.ref eA1) .null .null .null .null .null), true)) :: (pA4, oHeap (.ref pA5) (.ref pA6) (.int (1 : Int32))) :: (pA5, .inr (.long, (oK64 (.long kA7) (.long kA8) (.long kA9) (.long kA10) (.long kA11) (.long kA12)), true)) :: (pA6, .inr (.object "java/lang/Object", (oE64 (.ref eA2) .null .null .null .null .null), true)) :: F)) rfl ?_
      refine Go.aloadN C dc_prog_20_method_3_166 (q := 167) rfl rfl rfl ?_
      refine Go.aconstNull C dc_prog_20_method_3_167 (q := 168) rfl ?_
      refine Go.putF C (host := "") (i := 0) (j := 4) (Or.inl (wd hw 68 rfl)) Via.refl rfl rfl (Or.inl (wd hw 69 rfl)) (wd hw 1 rfl) (ty := (.object "java/lang/Object")) (by decide) rfl rfl dc_prog_20_method_3_168 (q := 171) rfl (M' := ((pA0, oQ (.ref pA1) (.ref pA4) (.int (0 : Int32)) (.long kA0) .null) :: (pA1, oRun (.ref pA2) (.ref pA3) (.int (1 : Int32)) (.int (0 : Int32))) :: (pA2, .inr (.long, (oK64 (.long kA1) (.long kA2) (.long kA3) (.long kA4) (.long kA5) (.long kA6)), true)) :: (pA3, .inr (.object "java/lang/Object", (oE64 (.ref eA1) .null .null .null .null .null), true)) :: (pA4, oHeap (.ref pA5) (.ref pA6) (.int (1 : Int32))) :: (pA5, .inr (.long, (oK64 (.long kA7) (.long kA8) (.long kA9) (.long kA10) (.long kA11) (.long kA12)), true)) :: (pA6, .inr (.object "java/lang/Object", (oE64 (.ref eA2) .null .null .null .null .null), true)) :: F)) rfl ?_
      refine Go.aloadN C dc_prog_20_method_3_171 (q := 172) rfl rfl rfl ?_
      refine Go.astoreN C dc_prog_20_method_3_172 (q := 173) rfl rfl (Ls' := #[.val (.ref pA0), .val (.ref eA0), .val (.ref eA0)]) rfl ?_
      refine Go.aloadN C dc_prog_20_method_3_173 (q := 174) rfl rfl rfl ?_
      refine Go.retA C rfl rfl rfl dc_prog_20_method_3_174 (by decide) (by decide) ?_
      exact Or.inr (Or.inr (Or.inr (Or.inr (Or.inr (Or.inr (⟨rfl, rfl⟩))))))
set_option maxRecDepth 65536 in
set_option maxHeartbeats 40000000 in
theorem u_Math_max_124 (l : Launch) (Z : State) (a0 : Array Value) (hw : ∀ d ∈ tables_1, d.before a0 Z = true) (F : List Ent)  :
    Met l Z yN7 jdk_29_method_65_code 2 (some .int) { frames := 0, cells := 0, slots := 0, locals := 0 } #[(.int (0 : Int32)), (.int (2 : Int32))] (F) (fun r M' => (r = (some (.int (2 : Int32))) ∧ M' = (F))) := by
  refine Met.of_go pn_7 (Ls := #[.val (.int (0 : Int32)), .val (.int (2 : Int32))]) (fun m => by first | rfl | (simp [entryFrame, mkF, argsToLocals, Value.category, maxLocals]; done)) ?_
  intro E C
  refine Go.iloadN C dc_jdk_29_method_65_0 (q := 1) rfl rfl ?_
  refine Go.iloadN C dc_jdk_29_method_65_1 (q := 2) rfl rfl ?_
  refine Go.icmpYes C dc_jdk_29_method_65_2 (by decide) (q := 9) rfl (XT.ii_lt_t (by decide)) ?_
  refine Go.iloadN C dc_jdk_29_method_65_9 (q := 10) rfl rfl ?_
  refine Go.retI C rfl dc_jdk_29_method_65_10 (by decide) (by decide) ?_
  exact ⟨rfl, rfl⟩
set_option maxRecDepth 65536 in
set_option maxHeartbeats 40000000 in
theorem u_SequenceQueue_isEmpty_126 (l : Launch) (Z : State) (a0 : Array Value) (hw : ∀ d ∈ tables_1, d.before a0 Z = true) (F : List Ent) (pA0 pA1 pA2 pA3 pA4 pA5 pA6 eA0 eA1 : Addr) (kA0 kA1 kA2 kA3 kA4 kA5 kA6 kA7 kA8 kA9 kA10 kA11 kA12 : Int64) (hE_eA0 : Exa Z Z.heap eA0 "java/lang/Integer") (hE_eA1 : Exa Z Z.heap eA1 "java/lang/Integer") :
    Met l Z yN4 prog_20_method_4_code 1 (some .boolean) { frames := 0, cells := 0, slots := 0, locals := 0 } #[(.ref pA0)] ((pA0, oQ (.ref pA1) (.ref pA4) (.int (0 : Int32)) (.long kA0) .null) :: (pA1, oRun (.ref pA2) (.ref pA3) (.int (1 : Int32)) (.int (0 : Int32))) :: (pA2, .inr (.long, (oK64 (.long kA1) (.long kA2) (.long kA3) (.long kA4) (.long kA5) (.long kA6)), true)) :: (pA3, .inr (.object "java/lang/Object", (oE64 (.ref eA0) .null .null .null .null .null), true)) :: (pA4, oHeap (.ref pA5) (.ref pA6) (.int (1 : Int32))) :: (pA5, .inr (.long, (oK64 (.long kA7) (.long kA8) (.long kA9) (.long kA10) (.long kA11) (.long kA12)), true)) :: (pA6, .inr (.object "java/lang/Object", (oE64 (.ref eA1) .null .null .null .null .null), true)) :: F) (fun r M' => (r = (some (.int (0 : Int32))) ∧ M' = ((pA0, oQ (.ref pA1) (.ref pA4) (.int (0 : Int32)) (.long kA0) .null) :: (pA1, oRun (.ref pA2) (.ref pA3) (.int (1 : Int32)) (.int (0 : Int32))) :: (pA2, .inr (.long, (oK64 (.long kA1) (.long kA2) (.long kA3) (.long kA4) (.long kA5) (.long kA6)), true)) :: (pA3, .inr (.object "java/lang/Object", (oE64 (.ref eA0) .null .null .null .null .null), true)) :: (pA4, oHeap (.ref pA5) (.ref pA6) (.int (1 : Int32))) :: (pA5, .inr (.long, (oK64 (.long kA7) (.long kA8) (.long kA9) (.long kA10) (.long kA11) (.long kA12)), true)) :: (pA6, .inr (.object "java/lang/Object", (oE64 (.ref eA1) .null .null .null .null .null), true)) :: F))) := by
  refine Met.of_go pn_4 (Ls := #[.val (.ref pA0)]) (fun m => by first | rfl | (simp [entryFrame, mkF, argsToLocals, Value.category, maxLocals]; done)) ?_
  intro E C
  refine Go.aloadN C dc_prog_20_method_4_0 (q := 1) rfl rfl rfl ?_
  refine Go.getF C (host := "") (Or.inl (wd hw 46 rfl)) Via.refl (fun _ r => r.fld 0 2 rfl rfl) dc_prog_20_method_4_1 (q := 4) rfl ?_
  refine Go.ifNo C dc_prog_20_method_4_4 (q := 7) rfl (XT.i0_ne_f (by decide)) ?_
  refine Go.aloadN C dc_prog_20_method_4_7 (q := 8) rfl rfl rfl ?_
  refine Go.getF C (host := "") (Or.inl (wd hw 28 rfl)) Via.refl (fun _ r => r.fld 0 0 rfl rfl) dc_prog_20_method_4_8 (q := 11) rfl ?_
  refine Go.getF C (host := "") (Or.inl (wd hw 48 rfl)) (Via.of (wd hw 49 rfl)) (fun _ r => r.fld 1 2 rfl rfl) dc_prog_20_method_4_11 (q := 14) rfl ?_
  refine Go.ifYes C dc_prog_20_method_4_14 (by decide) (q := 31) rfl (XT.i0_ne_t (by decide)) ?_
  refine Go.iconst C dc_prog_20_method_4_31 (q := 32) rfl (v := (0 : Int32)) rfl ?_
  refine Go.retZ C rfl (by decide) dc_prog_20_method_4_32 (by decide) (by decide) ?_
  exact ⟨rfl, rfl⟩
set_option maxRecDepth 65536 in
set_option maxHeartbeats 40000000 in
theorem u_SequenceQueue_isEmpty_128 (l : Launch) (Z : State) (a0 : Array Value) (hw : ∀ d ∈ tables_1, d.before a0 Z = true) (F : List Ent) (pA0 pA1 pA2 pA3 pA4 pA5 pA6 eA0 eA1 : Addr) (kA0 kA1 kA2 kA3 kA4 kA5 kA6 kA7 kA8 kA9 kA10 kA11 kA12 : Int64) (hE_eA0 : Exa Z Z.heap eA0 "java/lang/Integer") (hE_eA1 : Exa Z Z.heap eA1 "java/lang/Integer") :
    Met l Z yN4 prog_20_method_4_code 1 (some .boolean) { frames := 0, cells := 0, slots := 0, locals := 0 } #[(.ref pA0)] ((pA0, oQ (.ref pA1) (.ref pA4) (.int (0 : Int32)) (.long kA0) .null) :: (pA1, oRun (.ref pA2) (.ref pA3) (.int (0 : Int32)) (.int (1 : Int32))) :: (pA2, .inr (.long, (oK64 (.long kA1) (.long kA2) (.long kA3) (.long kA4) (.long kA5) (.long kA6)), true)) :: (pA3, .inr (.object "java/lang/Object", (oE64 .null .null .null .null .null .null), true)) :: (pA4, oHeap (.ref pA5) (.ref pA6) (.int (2 : Int32))) :: (pA5, .inr (.long, (oK64 (.long kA7) (.long kA8) (.long kA9) (.long kA10) (.long kA11) (.long kA12)), true)) :: (pA6, .inr (.object "java/lang/Object", (oE64 (.ref eA0) (.ref eA1) .null .null .null .null), true)) :: F) (fun r M' => (r = (some (.int (0 : Int32))) ∧ M' = ((pA0, oQ (.ref pA1) (.ref pA4) (.int (0 : Int32)) (.long kA0) .null) :: (pA1, oRun (.ref pA2) (.ref pA3) (.int (0 : Int32)) (.int (1 : Int32))) :: (pA2, .inr (.long, (oK64 (.long kA1) (.long kA2) (.long kA3) (.long kA4) (.long kA5) (.long kA6)), true)) :: (pA3, .inr (.object "java/lang/Object", (oE64 .null .null .null .null .null .null), true)) :: (pA4, oHeap (.ref pA5) (.ref pA6) (.int (2 : Int32))) :: (pA5, .inr (.long, (oK64 (.long kA7) (.long kA8) (.long kA9) (.long kA10) (.long kA11) (.long kA12)), true)) :: (pA6, .inr (.object "java/lang/Object", (oE64 (.ref eA0) (.ref eA1) .null .null .null .null), true)) :: F))) := by
  refine Met.of_go pn_4 (Ls := #[.val (.ref pA0)]) (fun m => by first | rfl | (simp [entryFrame, mkF, argsToLocals, Value.category, maxLocals]; done)) ?_
  intro E C
  refine Go.aloadN C dc_prog_20_method_4_0 (q := 1) rfl rfl rfl ?_
  refine Go.getF C (host := "") (Or.inl (wd hw 46 rfl)) Via.refl (fun _ r => r.fld 0 2 rfl rfl) dc_prog_20_method_4_1 (q := 4) rfl ?_
  refine Go.ifNo C dc_prog_20_method_4_4 (q := 7) rfl (XT.i0_ne_f (by decide)) ?_
  refine Go.aloadN C dc_prog_20_method_4_7 (q := 8) rfl rfl rfl ?_
  refine Go.getF C (host := "") (Or.inl (wd hw 28 rfl)) Via.refl (fun _ r => r.fld 0 0 rfl rfl) dc_prog_20_method_4_8 (q := 11) rfl ?_
  refine Go.getF C (host := "") (Or.inl (wd hw 48 rfl)) (Via.of (wd hw 49 rfl)) (fun _ r => r.fld 1 2 rfl rfl) dc_prog_20_method_4_11 (q := 14) rfl ?_
  refine Go.ifNo C dc_prog_20_method_4_14 (q := 17) rfl (XT.i0_ne_f (by decide)) ?_
  refine Go.aloadN C dc_prog_20_method_4_17 (q := 18) rfl rfl rfl ?_
  refine Go.getF C (host := "") (Or.inl (wd hw 39 rfl)) Via.refl (fun _ r => r.fld 0 1 rfl rfl) dc_prog_20_method_4_18 (q := 21) rfl ?_
  refine Go.getF C (host := "") (Or.inl (wd hw 51 rfl)) (Via.of (wd hw 52 rfl)) (fun _ r => r.fld 4 2 rfl rfl) dc_prog_20_method_4_21 (q := 24) rfl ?_
  refine Go.ifYes C dc_prog_20_method_4_24 (by decide) (q := 31) rfl (XT.i0_ne_t (by decide)) ?_
  refine Go.iconst C dc_prog_20_method_4_31 (q := 32) rfl (v := (0 : Int32)) rfl ?_
  refine Go.retZ C rfl (by decide) dc_prog_20_method_4_32 (by decide) (by decide) ?_
  exact ⟨rfl, rfl⟩
set_option maxRecDepth 65536 in
set_option maxHeartbeats 40000000 in
theorem u_SequenceQueue_isEmpty_130 (l : Launch) (Z : State) (a0 : Array Value) (hw : ∀ d ∈ tables_1, d.before a0 Z = true) (F : List Ent) (pA0 pA1 pA2 pA3 pA4 pA5 pA6 eA0 eA1 : Addr) (kA0 kA1 kA2 kA3 kA4 kA5 kA6 kA7 kA8 kA9 kA10 kA11 kA12 : Int64) (hE_eA0 : Exa Z Z.heap eA0 "java/lang/Integer") (hE_eA1 : Exa Z Z.heap eA1 "java/lang/Integer") :
    Met l Z yN4 prog_20_method_4_code 1 (some .boolean) { frames := 0, cells := 0, slots := 0, locals := 0 } #[(.ref pA0)] ((pA0, oQ (.ref pA1) (.ref pA4) (.int (0 : Int32)) (.long kA0) .null) :: (pA1, oRun (.ref pA2) (.ref pA3) (.int (2 : Int32)) (.int (0 : Int32))) :: (pA2, .inr (.long, (oK64 (.long kA1) (.long kA2) (.long kA3) (.long kA4) (.long kA5) (.long kA6)), true)) :: (pA3, .inr (.object "java/lang/Object", (oE64 (.ref eA0) (.ref eA1) .null .null .null .null), true)) :: (pA4, oHeap (.ref pA5) (.ref pA6) (.int (0 : Int32))) :: (pA5, .inr (.long, (oK64 (.long kA7) (.long kA8) (.long kA9) (.long kA10) (.long kA11) (.long kA12)), true)) :: (pA6, .inr (.object "java/lang/Object", (oE64 .null .null .null .null .null .null), true)) :: F) (fun r M' => (r = (some (.int (0 : Int32))) ∧ M' = ((pA0, oQ (.ref pA1) (.ref pA4) (.int (0 : Int32)) (.long kA0) .null) :: (pA1, oRun (.ref pA2) (.ref pA3) (.int (2 : Int32)) (.int (0 : Int32))) :: (pA2, .inr (.long, (oK64 (.long kA1) (.long kA2) (.long kA3) (.long kA4) (.long kA5) (.long kA6)), true)) :: (pA3, .inr (.object "java/lang/Object", (oE64 (.ref eA0) (.ref eA1) .null .null .null .null), true)) :: (pA4, oHeap (.ref pA5) (.ref pA6) (.int (0 : Int32))) :: (pA5, .inr (.long, (oK64 (.long kA7) (.long kA8) (.long kA9) (.long kA10) (.long kA11) (.long kA12)), true)) :: (pA6, .inr (.object "java/lang/Object", (oE64 .null .null .null .null .null .null), true)) :: F))) := by
  refine Met.of_go pn_4 (Ls := #[.val (.ref pA0)]) (fun m => by first | rfl | (simp [entryFrame, mkF, argsToLocals, Value.category, maxLocals]; done)) ?_
  intro E C
  refine Go.aloadN C dc_prog_20_method_4_0 (q := 1) rfl rfl rfl ?_
  refine Go.getF C (host := "") (Or.inl (wd hw 46 rfl)) Via.refl (fun _ r => r.fld 0 2 rfl rfl) dc_prog_20_method_4_1 (q := 4) rfl ?_
  refine Go.ifNo C dc_prog_20_method_4_4 (q := 7) rfl (XT.i0_ne_f (by decide)) ?_
  refine Go.aloadN C dc_prog_20_method_4_7 (q := 8) rfl rfl rfl ?_
  refine Go.getF C (host := "") (Or.inl (wd hw 28 rfl)) Via.refl (fun _ r => r.fld 0 0 rfl rfl) dc_prog_20_method_4_8 (q := 11) rfl ?_
  refine Go.getF C (host := "") (Or.inl (wd hw 48 rfl)) (Via.of (wd hw 49 rfl)) (fun _ r => r.fld 1 2 rfl rfl) dc_prog_20_method_4_11 (q := 14) rfl ?_
  refine Go.ifYes C dc_prog_20_method_4_14 (by decide) (q := 31) rfl (XT.i0_ne_t (by decide)) ?_
  refine Go.iconst C dc_prog_20_method_4_31 (q := 32) rfl (v := (0 : Int32)) rfl ?_
  refine Go.retZ C rfl (by decide) dc_prog_20_method_4_32 (by decide) (by decide) ?_
  exact ⟨rfl, rfl⟩
set_option maxRecDepth 65536 in
set_option maxHeartbeats 40000000 in
theorem u_SequenceQueue_isEmpty_132 (l : Launch) (Z : State) (a0 : Array Value) (hw : ∀ d ∈ tables_1, d.before a0 Z = true) (F : List Ent) (pA0 pA1 pA2 pA3 pA4 pA5 pA6 eA0 eA1 : Addr) (kA0 kA1 kA2 kA3 kA4 kA5 kA6 kA7 kA8 kA9 kA10 kA11 kA12 : Int64) (hE_eA0 : Exa Z Z.heap eA0 "java/lang/Integer") (hE_eA1 : Exa Z Z.heap eA1 "java/lang/Integer") :
    Met l Z yN4 prog_20_method_4_code 1 (some .boolean) { frames := 0, cells := 0, slots := 0, locals := 0 } #[(.ref pA0)] ((pA0, oQ (.ref pA1) (.ref pA4) (.int (0 : Int32)) (.long kA0) .null) :: (pA1, oRun (.ref pA2) (.ref pA3) (.int (1 : Int32)) (.int (1 : Int32))) :: (pA2, .inr (.long, (oK64 (.long kA1) (.long kA2) (.long kA3) (.long kA4) (.long kA5) (.long kA6)), true)) :: (pA3, .inr (.object "java/lang/Object", (oE64 .null (.ref eA0) .null .null .null .null), true)) :: (pA4, oHeap (.ref pA5) (.ref pA6) (.int (1 : Int32))) :: (pA5, .inr (.long, (oK64 (.long kA7) (.long kA8) (.long kA9) (.long kA10) (.long kA11) (.long kA12)), true)) :: (pA6, .inr (.object "java/lang/Object", (oE64 (.ref eA1) .null .null .null .null .null), true)) :: F) (fun r M' => (r = (some (.int (0 : Int32))) ∧ M' = ((pA0, oQ (.ref pA1) (.ref pA4) (.int (0 : Int32)) (.long kA0) .null) :: (pA1, oRun (.ref pA2) (.ref pA3) (.int (1 : Int32)) (.int (1 : Int32))) :: (pA2, .inr (.long, (oK64 (.long kA1) (.long kA2) (.long kA3) (.long kA4) (.long kA5) (.long kA6)), true)) :: (pA3, .inr (.object "java/lang/Object", (oE64 .null (.ref eA0) .null .null .null .null), true)) :: (pA4, oHeap (.ref pA5) (.ref pA6) (.int (1 : Int32))) :: (pA5, .inr (.long, (oK64 (.long kA7) (.long kA8) (.long kA9) (.long kA10) (.long kA11) (.long kA12)), true)) :: (pA6, .inr (.object "java/lang/Object", (oE64 (.ref eA1) .null .null .null .null .null), true)) :: F))) := by
  refine Met.of_go pn_4 (Ls := #[.val (.ref pA0)]) (fun m => by first | rfl | (simp [entryFrame, mkF, argsToLocals, Value.category, maxLocals]; done)) ?_
  intro E C
  refine Go.aloadN C dc_prog_20_method_4_0 (q := 1) rfl rfl rfl ?_
  refine Go.getF C (host := "") (Or.inl (wd hw 46 rfl)) Via.refl (fun _ r => r.fld 0 2 rfl rfl) dc_prog_20_method_4_1 (q := 4) rfl ?_
  refine Go.ifNo C dc_prog_20_method_4_4 (q := 7) rfl (XT.i0_ne_f (by decide)) ?_
  refine Go.aloadN C dc_prog_20_method_4_7 (q := 8) rfl rfl rfl ?_
  refine Go.getF C (host := "") (Or.inl (wd hw 28 rfl)) Via.refl (fun _ r => r.fld 0 0 rfl rfl) dc_prog_20_method_4_8 (q := 11) rfl ?_
  refine Go.getF C (host := "") (Or.inl (wd hw 48 rfl)) (Via.of (wd hw 49 rfl)) (fun _ r => r.fld 1 2 rfl rfl) dc_prog_20_method_4_11 (q := 14) rfl ?_
  refine Go.ifYes C dc_prog_20_method_4_14 (by decide) (q := 31) rfl (XT.i0_ne_t (by decide)) ?_
  refine Go.iconst C dc_prog_20_method_4_31 (q := 32) rfl (v := (0 : Int32)) rfl ?_
  refine Go.retZ C rfl (by decide) dc_prog_20_method_4_32 (by decide) (by decide) ?_
  exact ⟨rfl, rfl⟩
set_option maxRecDepth 65536 in
set_option maxHeartbeats 40000000 in
theorem u_SequenceQueue_add_134 (l : Launch) (Z : State) (a0 : Array Value) (hw : ∀ d ∈ tables_1, d.before a0 Z = true) (F : List Ent) (pA0 pA1 pA2 pA3 pA4 pA5 pA6 eA0 eA1 eA2 eA3 : Addr) (kA0 kA1 kA2 kA3 kA4 kA5 kA6 kA7 kA8 kA9 kA10 kA11 kA12 kA13 : Int64) (hE_eA0 : Exa Z Z.heap eA0 "java/lang/Integer") (hE_eA1 : Exa Z Z.heap eA1 "java/lang/Integer") (hE_eA2 : Exa Z Z.heap eA2 "java/lang/Integer") (hE_eA3 : Exa Z Z.heap eA3 "java/lang/Integer") :
    Met l Z yN9 prog_20_method_2_code 4 none { frames := 3, cells := 0, slots := 0, locals := 45 } #[(.ref pA0), (.long kA0), (.ref eA0)] ((pA0, oQ (.ref pA1) (.ref pA4) (.int (1 : Int32)) (.long kA1) (.ref eA1)) :: (pA1, oRun (.ref pA2) (.ref pA3) (.int (1 : Int32)) (.int (0 : Int32))) :: (pA2, .inr (.long, (oK64 (.long kA2) (.long kA3) (.long kA4) (.long kA5) (.long kA6) (.long kA7)), true)) :: (pA3, .inr (.object "java/lang/Object", (oE64 (.ref eA2) .null .null .null .null .null), true)) :: (pA4, oHeap (.ref pA5) (.ref pA6) (.int (1 : Int32))) :: (pA5, .inr (.long, (oK64 (.long kA8) (.long kA9) (.long kA10) (.long kA11) (.long kA12) (.long kA13)), true)) :: (pA6, .inr (.object "java/lang/Object", (oE64 (.ref eA3) .null .null .null .null .null), true)) :: F) (fun r M' => (r = none ∧ M' = ((pA4, oHeap (.ref pA5) (.ref pA6) (.int (2 : Int32))) :: (pA5, .inr (.long, (oK64 (.long kA1) (.long kA8) (.long kA10) (.long kA11) (.long kA12) (.long kA13)), true)) :: (pA6, .inr (.object "java/lang/Object", (oE64 (.ref eA1) (.ref eA3) .null .null .null .null), true)) :: (pA1, oRun (.ref pA2) (.ref pA3) (.int (1 : Int32)) (.int (0 : Int32))) :: (pA2, .inr (.long, (oK64 (.long kA2) (.long kA3) (.long kA4) (.long kA5) (.long kA6) (.long kA7)), true)) :: (pA3, .inr (.object "java/lang/Object", (oE64 (.ref eA2) .null .null .null .null .null), true)) :: (pA0, oQ (.ref pA1) (.ref pA4) (.int (1 : Int32)) (.long kA0) (.ref eA0)) :: F)) ∨ (r = none ∧ M' = ((pA4, oHeap (.ref pA5) (.ref pA6) (.int (2 : Int32))) :: (pA5, .inr (.long, (oK64 (.long kA8) (.long kA1) (.long kA10) (.long kA11) (.long kA12) (.long kA13)), true)) :: (pA6, .inr (.object "java/lang/Object", (oE64 (.ref eA3) (.ref eA1) .null .null .null .null), true)) :: (pA1, oRun (.ref pA2) (.ref pA3) (.int (1 : Int32)) (.int (0 : Int32))) :: (pA2, .inr (.long, (oK64 (.long kA2) (.long kA3) (.long kA4) (.long kA5) (.long kA6) (.long kA7)), true)) :: (pA3, .inr (.object "java/lang/Object", (oE64 (.ref eA2) .null .null .null .null .null), true)) :: (pA0, oQ (.ref pA1) (.ref pA4) (.int (1 : Int32)) (.long kA0) (.ref eA0)) :: F)) ∨ (r = none ∧ M' = ((pA1, oRun (.ref pA2) (.ref pA3) (.int (2 : Int32)) (.int (0 : Int32))) :: (pA2, .inr (.long, (oK64 (.long kA2) (.long kA1) (.long kA4) (.long kA5) (.long kA6) (.long kA7)), true)) :: (pA3, .inr (.object "java/lang/Object", (oE64 (.ref eA2) (.ref eA1) .null .null .null .null), true)) :: (pA0, oQ (.ref pA1) (.ref pA4) (.int (1 : Int32)) (.long kA0) (.ref eA0)) :: (pA4, oHeap (.ref pA5) (.ref pA6) (.int (1 : Int32))) :: (pA5, .inr (.long, (oK64 (.long kA8) (.long kA9) (.long kA10) (.long kA11) (.long kA12) (.long kA13)), true)) :: (pA6, .inr (.object "java/lang/Object", (oE64 (.ref eA3) .null .null .null .null .null), true)) :: F))) := by
  refine Met.of_go pn_9 (Ls := #[.val (.ref pA0), .val (.long kA0), .second, .val (.ref eA0)]) (fun m => by first | rfl | (simp [entryFrame, mkF, argsToLocals, Value.category, maxLocals]; done)) ?_
  intro E C
  refine Go.aloadN C dc_prog_20_method_2_0 (q := 1) rfl rfl rfl ?_
  refine Go.getF C (host := "") (Or.inl (wd hw 46 rfl)) Via.refl (fun _ r => r.fld 0 2 rfl rfl) dc_prog_20_method_2_1 (q := 4) rfl ?_
  refine Go.ifNo C dc_prog_20_method_2_4 (q := 7) rfl (XT.i0_eq_f (by decide)) ?_
  refine Go.aloadN C dc_prog_20_method_2_7 (q := 8) rfl rfl rfl ?_
  refine Go.aloadN C dc_prog_20_method_2_8 (q := 9) rfl rfl rfl ?_
  refine Go.getF C (host := "") (Or.inl (wd hw 86 rfl)) Via.refl (fun _ r => r.fld 0 3 rfl rfl) dc_prog_20_method_2_9 (q := 12) rfl ?_
  refine Go.aloadN C dc_prog_20_method_2_12 (q := 13) rfl rfl rfl ?_
  refine Go.getF C (host := "") (Or.inl (wd hw 68 rfl)) Via.refl (fun _ r => r.fld 0 4 rfl rfl) dc_prog_20_method_2_13 (q := 16) rfl ?_
  refine Go.callP C (y := yN14) (a := pA0) (as := [(.long kA1), (.ref eA1)]) (rest := []) (wd hw 88 rfl) (wd hw 89 rfl) (sel_priv (y := yN14) (wd hw 1 rfl) (wd hw 89 rfl) (wd hw 90 rfl) (by decide)) (wd hw 90 rfl) (wd hw 91 rfl) (wd hw 2 rfl) (fun _ r => r.exa 0 rfl) (u_SequenceQueue_place_113 l Z a0 hw _ pA0 pA1 pA2 pA3 pA4 pA5 pA6 eA1 eA1 eA2 eA3 kA1 kA1 kA2 kA3 kA4 kA5 kA6 kA7 kA8 kA9 kA10 kA11 kA12 kA13 hE_eA1 hE_eA1 hE_eA2 hE_eA3) rfl dc_prog_20_method_2_16 (q := 19) rfl (by decide) rfl (na := 2) (by decide +kernel) rfl (by decide) (W := 0) rfl (by decide) (by decide) (by decide) (k' := 0) (n' := 0) rfl rfl ?_
  rintro _ _ (⟨rfl, rfl⟩ | ⟨rfl, rfl⟩ | ⟨rfl, rfl⟩)
  · show Go _ _ _ _ _ _ _ _ _ _ []
    refine Go.aloadN C dc_prog_20_method_2_19 (q := 20) rfl rfl rfl ?_
    refine Go.iconst C dc_prog_20_method_2_20 (q := 21) rfl (v := (1 : Int32)) rfl ?_
    refine Go.putF C (host := "") (i := 6) (j := 2) (Or.inl (wd hw 46 rfl)) Via.refl rfl rfl (Or.inl (wd hw 47 rfl)) (wd hw 1 rfl) (ty := .boolean) (by decide) rfl rfl dc_prog_20_method_2_21 (q := 24) rfl (M' := ((pA4, oHeap (.ref pA5) (.ref pA6) (.int (2 : Int32))) :: (pA5, .inr (.long, (oK64 (.long kA1) (.long kA8) (.long kA10) (.long kA11) (.long kA12) (.long kA13)), true)) :: (pA6, .inr (.object "java/lang/Object", (oE64 (.ref eA1) (.ref eA3) .null .null .null .null), true)) :: (pA1, oRun (.ref pA2) (.ref pA3) (.int (1 : Int32)) (.int (0 : Int32))) :: (pA2, .inr (.long, (oK64 (.long kA2) (.long kA3) (.long kA4) (.long kA5) (.long kA6) (.long kA7)), true)) :: (pA3, .inr (.object "java/lang/Object", (oE64 (.ref eA2) .null .null .null .null .null), true)) :: (pA0, oQ (.ref pA1) (.ref pA4) (.int (1 : Int32)) (.long kA1) (.ref eA1)) :: F)) rfl ?_
    refine Go.aloadN C dc_prog_20_method_2_24 (q := 25) rfl rfl rfl ?_
    refine Go.lloadN C dc_prog_20_method_2_25 (q := 26) rfl rfl ?_
    refine Go.putF C (host := "") (i := 6) (j := 3) (Or.inl (wd hw 86 rfl)) Via.refl rfl rfl (Or.inl (wd hw 87 rfl)) (wd hw 1 rfl) (ty := .long) (by decide) rfl rfl dc_prog_20_method_2_26 (q := 29) rfl (M' := ((pA4, oHeap (.ref pA5) (.ref pA6) (.int (2 : Int32))) :: (pA5, .inr (.long, (oK64 (.long kA1) (.long kA8) (.long kA10) (.long kA11) (.long kA12) (.long kA13)), true)) :: (pA6, .inr (.object "java/lang/Object", (oE64 (.ref eA1) (.ref eA3) .null .null .null .null), true)) :: (pA1, oRun (.ref pA2) (.ref pA3) (.int (1 : Int32)) (.int (0 : Int32))) :: (pA2, .inr (.long, (oK64 (.long kA2) (.long kA3) (.long kA4) (.long kA5) (.long kA6) (.long kA7)), true)) :: (pA3, .inr (.object "java/lang/Object", (oE64 (.ref eA2) .null .null .null .null .null), true)) :: (pA0, oQ (.ref pA1) (.ref pA4) (.int (1 : Int32)) (.long kA0) (.ref eA1)) :: F)) rfl ?_
    refine Go.aloadN C dc_prog_20_method_2_29 (q := 30) rfl rfl rfl ?_
    refine Go.aloadN C dc_prog_20_method_2_30 (q := 31) rfl rfl rfl ?_
    refine Go.putF C (host := "") (i := 6) (j := 4) (Or.inl (wd hw 68 rfl)) Via.refl rfl rfl (Or.inl (wd hw 69 rfl)) (wd hw 1 rfl) (ty := (.object "java/lang/Object")) (by decide) rfl rfl dc_prog_20_method_2_31 (q := 34) rfl (M' := ((pA4, oHeap (.ref pA5) (.ref pA6) (.int (2 : Int32))) :: (pA5, .inr (.long, (oK64 (.long kA1) (.long kA8) (.long kA10) (.long kA11) (.long kA12) (.long kA13)), true)) :: (pA6, .inr (.object "java/lang/Object", (oE64 (.ref eA1) (.ref eA3) .null .null .null .null), true)) :: (pA1, oRun (.ref pA2) (.ref pA3) (.int (1 : Int32)) (.int (0 : Int32))) :: (pA2, .inr (.long, (oK64 (.long kA2) (.long kA3) (.long kA4) (.long kA5) (.long kA6) (.long kA7)), true)) :: (pA3, .inr (.object "java/lang/Object", (oE64 (.ref eA2) .null .null .null .null .null), true)) :: (pA0, oQ (.ref pA1) (.ref pA4) (.int (1 : Int32)) (.long kA0) (.ref eA0)) :: F)) rfl ?_
    refine Go.ret0 C rfl dc_prog_20_method_2_34 (by decide) (by decide) ?_
    exact Or.inl ⟨rfl, rfl⟩
  · show Go _ _ _ _ _ _ _ _ _ _ []
    refine Go.aloadN C dc_prog_20_method_2_19 (q := 20) rfl rfl rfl ?_
    refine Go.iconst C dc_prog_20_method_2_20 (q := 21) rfl (v := (1 : Int32)) rfl ?_
    refine Go.putF C (host := "") (i := 6) (j := 2) (Or.inl (wd hw 46 rfl)) Via.refl rfl rfl (Or.inl (wd hw 47 rfl)) (wd hw 1 rfl) (ty := .boolean) (by decide) rfl rfl dc_prog_20_method_2_21 (q := 24) rfl (M' := ((pA4, oHeap (.ref pA5) (.ref pA6) (.int (2 : Int32))) :: (pA5, .inr (.long, (oK64 (.long kA8) (.long kA1) (.long kA10) (.long kA11) (.long kA12) (.long kA13)), true)) :: (pA6, .inr (.object "java/lang/Object", (oE64 (.ref eA3) (.ref eA1) .null .null .null .null), true)) :: (pA1, oRun (.ref pA2) (.ref pA3) (.int (1 : Int32)) (.int (0 : Int32))) :: (pA2, .inr (.long, (oK64 (.long kA2) (.long kA3) (.long kA4) (.long kA5) (.long kA6) (.long kA7)), true)) :: (pA3, .inr (.object "java/lang/Object", (oE64 (.ref eA2) .null .null .null .null .null), true)) :: (pA0, oQ (.ref pA1) (.ref pA4) (.int (1 : Int32)) (.long kA1) (.ref eA1)) :: F)) rfl ?_
    refine Go.aloadN C dc_prog_20_method_2_24 (q := 25) rfl rfl rfl ?_
    refine Go.lloadN C dc_prog_20_method_2_25 (q := 26) rfl rfl ?_
    refine Go.putF C (host := "") (i := 6) (j := 3) (Or.inl (wd hw 86 rfl)) Via.refl rfl rfl (Or.inl (wd hw 87 rfl)) (wd hw 1 rfl) (ty := .long) (by decide) rfl rfl dc_prog_20_method_2_26 (q := 29) rfl (M' := ((pA4, oHeap (.ref pA5) (.ref pA6) (.int (2 : Int32))) :: (pA5, .inr (.long, (oK64 (.long kA8) (.long kA1) (.long kA10) (.long kA11) (.long kA12) (.long kA13)), true)) :: (pA6, .inr (.object "java/lang/Object", (oE64 (.ref eA3) (.ref eA1) .null .null .null .null), true)) :: (pA1, oRun (.ref pA2) (.ref pA3) (.int (1 : Int32)) (.int (0 : Int32))) :: (pA2, .inr (.long, (oK64 (.long kA2) (.long kA3) (.long kA4) (.long kA5) (.long kA6) (.long kA7)), true)) :: (pA3, .inr (.object "java/lang/Object", (oE64 (.ref eA2) .null .null .null .null .null), true)) :: (pA0, oQ (.ref pA1) (.ref pA4) (.int (1 : Int32)) (.long kA0) (.ref eA1)) :: F)) rfl ?_
    refine Go.aloadN C dc_prog_20_method_2_29 (q := 30) rfl rfl rfl ?_
    refine Go.aloadN C dc_prog_20_method_2_30 (q := 31) rfl rfl rfl ?_
    refine Go.putF C (host := "") (i := 6) (j := 4) (Or.inl (wd hw 68 rfl)) Via.refl rfl rfl (Or.inl (wd hw 69 rfl)) (wd hw 1 rfl) (ty := (.object "java/lang/Object")) (by decide) rfl rfl dc_prog_20_method_2_31 (q := 34) rfl (M' := ((pA4, oHeap (.ref pA5) (.ref pA6) (.int (2 : Int32))) :: (pA5, .inr (.long, (oK64 (.long kA8) (.long kA1) (.long kA10) (.long kA11) (.long kA12) (.long kA13)), true)) :: (pA6, .inr (.object "java/lang/Object", (oE64 (.ref eA3) (.ref eA1) .null .null .null .null), true)) :: (pA1, oRun (.ref pA2) (.ref pA3) (.int (1 : Int32)) (.int (0 : Int32))) :: (pA2, .inr (.long, (oK64 (.long kA2) (.long kA3) (.long kA4) (.long kA5) (.long kA6) (.long kA7)), true)) :: (pA3, .inr (.object "java/lang/Object", (oE64 (.ref eA2) .null .null .null .null .null), true)) :: (pA0, oQ (.ref pA1) (.ref pA4) (.int (1 : Int32)) (.long kA0) (.ref eA0)) :: F)) rfl ?_
    refine Go.ret0 C rfl dc_prog_20_method_2_34 (by decide) (by decide) ?_
    exact Or.inr (Or.inl ⟨rfl, rfl⟩)
  · show Go _ _ _ _ _ _ _ _ _ _ []
    refine Go.aloadN C dc_prog_20_method_2_19 (q := 20) rfl rfl rfl ?_
    refine Go.iconst C dc_prog_20_method_2_20 (q := 21) rfl (v := (1 : Int32)) rfl ?_
    refine Go.putF C (host := "") (i := 3) (j := 2) (Or.inl (wd hw 46 rfl)) Via.refl rfl rfl (Or.inl (wd hw 47 rfl)) (wd hw 1 rfl) (ty := .boolean) (by decide) rfl rfl dc_prog_20_method_2_21 (q := 24) rfl (M' := ((pA1, oRun (.ref pA2) (.ref pA3) (.int (2 : Int32)) (.int (0 : Int32))) :: (pA2, .inr (.long, (oK64 (.long kA2) (.long kA1) (.long kA4) (.long kA5) (.long kA6) (.long kA7)), true)) :: (pA3, .inr (.object "java/lang/Object", (oE64 (.ref eA2) (.ref eA1) .null .null .null .null), true)) :: (pA0, oQ (.ref pA1) (.ref pA4) (.int (1 : Int32)) (.long kA1) (.ref eA1)) :: (pA4, oHeap (.ref pA5) (.ref pA6) (.int (1 : Int32))) :: (pA5, .inr (.long, (oK64 (.long kA8) (.long kA9) (.long kA10) (.long kA11) (.long kA12) (.long kA13)), true)) :: (pA6, .inr (.object "java/lang/Object", (oE64 (.ref eA3) .null .null .null .null .null), true)) :: F)) rfl ?_
    refine Go.aloadN C dc_prog_20_method_2_24 (q := 25) rfl rfl rfl ?_
    refine Go.lloadN C dc_prog_20_method_2_25 (q := 26) rfl rfl ?_
    refine Go.putF C (host := "") (i := 3) (j := 3) (Or.inl (wd hw 86 rfl)) Via.refl rfl rfl (Or.inl (wd hw 87 rfl)) (wd hw 1 rfl) (ty := .long) (by decide) rfl rfl dc_prog_20_method_2_26 (q := 29) rfl (M' := ((pA1, oRun (.ref pA2) (.ref pA3) (.int (2 : Int32)) (.int (0 : Int32))) :: (pA2, .inr (.long, (oK64 (.long kA2) (.long kA1) (.long kA4) (.long kA5) (.long kA6) (.long kA7)), true)) :: (pA3, .inr (.object "java/lang/Object", (oE64 (.ref eA2) (.ref eA1) .null .null .null .null), true)) :: (pA0, oQ (.ref pA1) (.ref pA4) (.int (1 : Int32)) (.long kA0) (.ref eA1)) :: (pA4, oHeap (.ref pA5) (.ref pA6) (.int (1 : Int32))) :: (pA5, .inr (.long, (oK64 (.long kA8) (.long kA9) (.long kA10) (.long kA11) (.long kA12) (.long kA13)), true)) :: (pA6, .inr (.object "java/lang/Object", (oE64 (.ref eA3) .null .null .null .null .null), true)) :: F)) rfl ?_
    refine Go.aloadN C dc_prog_20_method_2_29 (q := 30) rfl rfl rfl ?_
    refine Go.aloadN C dc_prog_20_method_2_30 (q := 31) rfl rfl rfl ?_
    refine Go.putF C (host := "") (i := 3) (j := 4) (Or.inl (wd hw 68 rfl)) Via.refl rfl rfl (Or.inl (wd hw 69 rfl)) (wd hw 1 rfl) (ty := (.object "java/lang/Object")) (by decide) rfl rfl dc_prog_20_method_2_31 (q := 34) rfl (M' := ((pA1, oRun (.ref pA2) (.ref pA3) (.int (2 : Int32)) (.int (0 : Int32))) :: (pA2, .inr (.long, (oK64 (.long kA2) (.long kA1) (.long kA4) (.long kA5) (.long kA6) (.long kA7)), true)) :: (pA3, .inr (.object "java/lang/Object", (oE64 (.ref eA2) (.ref eA1) .null .null .null .null), true)) :: (pA0, oQ (.ref pA1) (.ref pA4) (.int (1 : Int32)) (.long kA0) (.ref eA0)) :: (pA4, oHeap (.ref pA5) (.ref pA6) (.int (1 : Int32))) :: (pA5, .inr (.long, (oK64 (.long kA8) (.long kA9) (.long kA10) (.long kA11) (.long kA12) (.long kA13)), true)) :: (pA6, .inr (.object "java/lang/Object", (oE64 (.ref eA3) .null .null .null .null .null), true)) :: F)) rfl ?_
    refine Go.ret0 C rfl dc_prog_20_method_2_34 (by decide) (by decide) ?_
    exact Or.inr (Or.inr (⟨rfl, rfl⟩))
set_option maxRecDepth 65536 in
set_option maxHeartbeats 40000000 in
theorem u_SequenceQueue_isEmpty_136 (l : Launch) (Z : State) (a0 : Array Value) (hw : ∀ d ∈ tables_1, d.before a0 Z = true) (F : List Ent) (pA0 pA1 pA2 pA3 pA4 pA5 pA6 eA0 eA1 eA2 eA3 : Addr) (kA0 kA1 kA2 kA3 kA4 kA5 kA6 kA7 kA8 kA9 kA10 kA11 kA12 : Int64) (hE_eA0 : Exa Z Z.heap eA0 "java/lang/Integer") (hE_eA1 : Exa Z Z.heap eA1 "java/lang/Integer") (hE_eA2 : Exa Z Z.heap eA2 "java/lang/Integer") (hE_eA3 : Exa Z Z.heap eA3 "java/lang/Integer") :
    Met l Z yN4 prog_20_method_4_code 1 (some .boolean) { frames := 0, cells := 0, slots := 0, locals := 0 } #[(.ref pA0)] ((pA0, oQ (.ref pA1) (.ref pA4) (.int (1 : Int32)) (.long kA0) (.ref eA0)) :: (pA1, oRun (.ref pA2) (.ref pA3) (.int (1 : Int32)) (.int (0 : Int32))) :: (pA2, .inr (.long, (oK64 (.long kA1) (.long kA2) (.long kA3) (.long kA4) (.long kA5) (.long kA6)), true)) :: (pA3, .inr (.object "java/lang/Object", (oE64 (.ref eA1) .null .null .null .null .null), true)) :: (pA4, oHeap (.ref pA5) (.ref pA6) (.int (2 : Int32))) :: (pA5, .inr (.long, (oK64 (.long kA7) (.long kA8) (.long kA9) (.long kA10) (.long kA11) (.long kA12)), true)) :: (pA6, .inr (.object "java/lang/Object", (oE64 (.ref eA2) (.ref eA3) .null .null .null .null), true)) :: F) (fun r M' => (r = (some (.int (0 : Int32))) ∧ M' = ((pA0, oQ (.ref pA1) (.ref pA4) (.int (1 : Int32)) (.long kA0) (.ref eA0)) :: (pA1, oRun (.ref pA2) (.ref pA3) (.int (1 : Int32)) (.int (0 : Int32))) :: (pA2, .inr (.long, (oK64 (.long kA1) (.long kA2) (.long kA3) (.long kA4) (.long kA5) (.long kA6)), true)) :: (pA3, .inr (.object "java/lang/Object", (oE64 (.ref eA1) .null .null .null .null .null), true)) :: (pA4, oHeap (.ref pA5) (.ref pA6) (.int (2 : Int32))) :: (pA5, .inr (.long, (oK64 (.long kA7) (.long kA8) (.long kA9) (.long kA10) (.long kA11) (.long kA12)), true)) :: (pA6, .inr (.object "java/lang/Object", (oE64 (.ref eA2) (.ref eA3) .null .null .null .null), true)) :: F))) := by
  refine Met.of_go pn_4 (Ls := #[.val (.ref pA0)]) (fun m => by first | rfl | (simp [entryFrame, mkF, argsToLocals, Value.category, maxLocals]; done)) ?_
  intro E C
  refine Go.aloadN C dc_prog_20_method_4_0 (q := 1) rfl rfl rfl ?_
  refine Go.getF C (host := "") (Or.inl (wd hw 46 rfl)) Via.refl (fun _ r => r.fld 0 2 rfl rfl) dc_prog_20_method_4_1 (q := 4) rfl ?_
  refine Go.ifYes C dc_prog_20_method_4_4 (by decide) (q := 31) rfl (XT.i0_ne_t (by decide)) ?_
  refine Go.iconst C dc_prog_20_method_4_31 (q := 32) rfl (v := (0 : Int32)) rfl ?_
  refine Go.retZ C rfl (by decide) dc_prog_20_method_4_32 (by decide) (by decide) ?_
  exact ⟨rfl, rfl⟩
set_option maxRecDepth 65536 in
set_option maxHeartbeats 40000000 in
theorem u_SequenceQueue_isEmpty_138 (l : Launch) (Z : State) (a0 : Array Value) (hw : ∀ d ∈ tables_1, d.before a0 Z = true) (F : List Ent) (pA0 pA1 pA2 pA3 pA4 pA5 pA6 eA0 eA1 eA2 eA3 : Addr) (kA0 kA1 kA2 kA3 kA4 kA5 kA6 kA7 kA8 kA9 kA10 kA11 kA12 : Int64) (hE_eA0 : Exa Z Z.heap eA0 "java/lang/Integer") (hE_eA1 : Exa Z Z.heap eA1 "java/lang/Integer") (hE_eA2 : Exa Z Z.heap eA2 "java/lang/Integer") (hE_eA3 : Exa Z Z.heap eA3 "java/lang/Integer") :
    Met l Z yN4 prog_20_method_4_code 1 (some .boolean) { frames := 0, cells := 0, slots := 0, locals := 0 } #[(.ref pA0)] ((pA0, oQ (.ref pA1) (.ref pA4) (.int (1 : Int32)) (.long kA0) (.ref eA0)) :: (pA1, oRun (.ref pA2) (.ref pA3) (.int (2 : Int32)) (.int (0 : Int32))) :: (pA2, .inr (.long, (oK64 (.long kA1) (.long kA2) (.long kA3) (.long kA4) (.long kA5) (.long kA6)), true)) :: (pA3, .inr (.object "java/lang/Object", (oE64 (.ref eA1) (.ref eA2) .null .null .null .null), true)) :: (pA4, oHeap (.ref pA5) (.ref pA6) (.int (1 : Int32))) :: (pA5, .inr (.long, (oK64 (.long kA7) (.long kA8) (.long kA9) (.long kA10) (.long kA11) (.long kA12)), true)) :: (pA6, .inr (.object "java/lang/Object", (oE64 (.ref eA3) .null .null .null .null .null), true)) :: F) (fun r M' => (r = (some (.int (0 : Int32))) ∧ M' = ((pA0, oQ (.ref pA1) (.ref pA4) (.int (1 : Int32)) (.long kA0) (.ref eA0)) :: (pA1, oRun (.ref pA2) (.ref pA3) (.int (2 : Int32)) (.int (0 : Int32))) :: (pA2, .inr (.long, (oK64 (.long kA1) (.long kA2) (.long kA3) (.long kA4) (.long kA5) (.long kA6)), true)) :: (pA3, .inr (.object "java/lang/Object", (oE64 (.ref eA1) (.ref eA2) .null .null .null .null), true)) :: (pA4, oHeap (.ref pA5) (.ref pA6) (.int (1 : Int32))) :: (pA5, .inr (.long, (oK64 (.long kA7) (.long kA8) (.long kA9) (.long kA10) (.long kA11) (.long kA12)), true)) :: (pA6, .inr (.object "java/lang/Object", (oE64 (.ref eA3) .null .null .null .null .null), true)) :: F))) := by
  refine Met.of_go pn_4 (Ls := #[.val (.ref pA0)]) (fun m => by first | rfl | (simp [entryFrame, mkF, argsToLocals, Value.category, maxLocals]; done)) ?_
  intro E C
  refine Go.aloadN C dc_prog_20_method_4_0 (q := 1) rfl rfl rfl ?_
  refine Go.getF C (host := "") (Or.inl (wd hw 46 rfl)) Via.refl (fun _ r => r.fld 0 2 rfl rfl) dc_prog_20_method_4_1 (q := 4) rfl ?_
  refine Go.ifYes C dc_prog_20_method_4_4 (by decide) (q := 31) rfl (XT.i0_ne_t (by decide)) ?_
  refine Go.iconst C dc_prog_20_method_4_31 (q := 32) rfl (v := (0 : Int32)) rfl ?_
  refine Go.retZ C rfl (by decide) dc_prog_20_method_4_32 (by decide) (by decide) ?_
  exact ⟨rfl, rfl⟩
set_option maxRecDepth 65536 in
set_option maxHeartbeats 40000000 in
theorem u_SequenceQueue_Run_slot_143 (l : Launch) (Z : State) (a0 : Array Value) (hw : ∀ d ∈ tables_1, d.before a0 Z = true) (F : List Ent) (pA0 pA1 pA2 eA0 eA1 : Addr) (kA0 kA1 kA2 kA3 kA4 kA5 : Int64) (hE_eA0 : Exa Z Z.heap eA0 "java/lang/Integer") (hE_eA1 : Exa Z Z.heap eA1 "java/lang/Integer") :
    Met l Z yN12 prog_23_method_6_code 3 (some .int) { frames := 0, cells := 0, slots := 0, locals := 0 } #[(.ref pA0), (.int (1 : Int32))] ((pA0, oRun (.ref pA1) (.ref pA2) (.int (2 : Int32)) (.int (0 : Int32))) :: (pA1, .inr (.long, (oK64 (.long kA0) (.long kA1) (.long kA2) (.long kA3) (.long kA4) (.long kA5)), true)) :: (pA2, .inr (.object "java/lang/Object", (oE64 (.ref eA0) (.ref eA1) .null .null .null .null), true)) :: F) (fun r M' => (r = (some (.int (1 : Int32))) ∧ M' = ((pA0, oRun (.ref pA1) (.ref pA2) (.int (2 : Int32)) (.int (0 : Int32))) :: (pA1, .inr (.long, (oK64 (.long kA0) (.long kA1) (.long kA2) (.long kA3) (.long kA4) (.long kA5)), true)) :: (pA2, .inr (.object "java/lang/Object", (oE64 (.ref eA0) (.ref eA1) .null .null .null .null), true)) :: F))) := by
  refine Met.of_go pn_11 (Ls := #[.val (.ref pA0), .val (.int (1 : Int32)), .unset]) (fun m => by first | rfl | (simp [entryFrame, mkF, argsToLocals, Value.category, maxLocals]; done)) ?_
  intro E C
  refine Go.aloadN C dc_prog_23_method_6_0 (q := 1) rfl rfl rfl ?_
  refine Go.getF C (host := "") (Or.inl (wd hw 65 rfl)) Via.refl (fun _ r => r.fld 0 3 rfl rfl) dc_prog_23_method_6_1 (q := 4) rfl ?_
  refine Go.iloadN C dc_prog_23_method_6_4 (q := 5) rfl rfl ?_
  refine Go.iadd C dc_prog_23_method_6_5 (q := 6) rfl ?_
  refine Go.castI (w := (1 : Int32)) (by decide) ?_
  refine Go.istoreN C dc_prog_23_method_6_6 (q := 7) rfl (Ls' := #[.val (.ref pA0), .val (.int (1 : Int32)), .val (.int (1 : Int32))]) rfl ?_
  refine Go.iloadN C dc_prog_23_method_6_7 (q := 8) rfl rfl ?_
  refine Go.aloadN C dc_prog_23_method_6_8 (q := 9) rfl rfl rfl ?_
  refine Go.getF C (host := "") (Or.inl (wd hw 107 rfl)) (Via.of (wd hw 108 rfl)) (fun _ r => r.fld 0 0 rfl rfl) dc_prog_23_method_6_9 (q := 12) rfl ?_
  refine Go.arraylength C (fun _ r => r.arr 1 rfl) (z := (64 : Int32)) rfl dc_prog_23_method_6_12 (q := 13) rfl ?_
  refine Go.icmpYes C dc_prog_23_method_6_13 (by decide) (q := 24) rfl (XT.ii_lt_t (by decide)) ?_
  refine Go.iloadN C dc_prog_23_method_6_24 (q := 25) rfl rfl ?_
  refine Go.retI C rfl dc_prog_23_method_6_25 (by decide) (by decide) ?_
  exact ⟨rfl, rfl⟩
set_option maxRecDepth 65536 in
set_option maxHeartbeats 40000000 in
theorem u_SequenceQueue_Run_lastKey_142 (l : Launch) (Z : State) (a0 : Array Value) (hw : ∀ d ∈ tables_1, d.before a0 Z = true) (F : List Ent) (pA0 pA1 pA2 eA0 eA1 : Addr) (kA0 kA1 kA2 kA3 kA4 kA5 : Int64) (hE_eA0 : Exa Z Z.heap eA0 "java/lang/Integer") (hE_eA1 : Exa Z Z.heap eA1 "java/lang/Integer") :
    Met l Z yN15 prog_23_method_2_code 1 (some .long) { frames := 1, cells := 0, slots := 0, locals := 15 } #[(.ref pA0)] ((pA0, oRun (.ref pA1) (.ref pA2) (.int (2 : Int32)) (.int (0 : Int32))) :: (pA1, .inr (.long, (oK64 (.long kA0) (.long kA1) (.long kA2) (.long kA3) (.long kA4) (.long kA5)), true)) :: (pA2, .inr (.object "java/lang/Object", (oE64 (.ref eA0) (.ref eA1) .null .null .null .null), true)) :: F) (fun r M' => (r = (some (.long kA1)) ∧ M' = ((pA0, oRun (.ref pA1) (.ref pA2) (.int (2 : Int32)) (.int (0 : Int32))) :: (pA1, .inr (.long, (oK64 (.long kA0) (.long kA1) (.long kA2) (.long kA3) (.long kA4) (.long kA5)), true)) :: (pA2, .inr (.object "java/lang/Object", (oE64 (.ref eA0) (.ref eA1) .null .null .null .null), true)) :: F))) := by
  refine Met.of_go pn_14 (Ls := #[.val (.ref pA0)]) (fun m => by first | rfl | (simp [entryFrame, mkF, argsToLocals, Value.category, maxLocals]; done)) ?_
  intro E C
  refine Go.aloadN C dc_prog_23_method_2_0 (q := 1) rfl rfl rfl ?_
  refine Go.getF C (host := "") (Or.inl (wd hw 107 rfl)) (Via.of (wd hw 108 rfl)) (fun _ r => r.fld 0 0 rfl rfl) dc_prog_23_method_2_1 (q := 4) rfl ?_
  refine Go.aloadN C dc_prog_23_method_2_4 (q := 5) rfl rfl rfl ?_
  refine Go.aloadN C dc_prog_23_method_2_5 (q := 6) rfl rfl rfl ?_
  refine Go.getF C (host := "") (Or.inl (wd hw 67 rfl)) (Via.of (wd hw 49 rfl)) (fun _ r => r.fld 0 2 rfl rfl) dc_prog_23_method_2_6 (q := 9) rfl ?_
  refine Go.iconst C dc_prog_23_method_2_9 (q := 10) rfl (v := (1 : Int32)) rfl ?_
  refine Go.isub C dc_prog_23_method_2_10 (q := 11) rfl ?_
  refine Go.castI (w := (1 : Int32)) (by decide) ?_
  refine Go.callP C (y := yN12) (a := pA0) (as := [(.int (1 : Int32))]) (rest := [(.ref pA1)]) (wd hw 103 rfl) (wd hw 104 rfl) (sel_priv (y := yN12) (wd hw 10 rfl) (wd hw 104 rfl) (wd hw 105 rfl) (by decide)) (wd hw 105 rfl) (wd hw 106 rfl) (wd hw 11 rfl) (fun _ r => r.exa 0 rfl) (u_SequenceQueue_Run_slot_143 l Z a0 hw _ pA0 pA1 pA2 eA0 eA1 kA0 kA1 kA2 kA3 kA4 kA5 hE_eA0 hE_eA1) rfl dc_prog_23_method_2_11 (q := 14) rfl (by decide) rfl (na := 1) (by decide +kernel) rfl (by decide) (W := 1) rfl (by decide) (by decide) (by decide) (k' := 0) (n' := 0) rfl rfl ?_
  rintro _ _ ⟨rfl, rfl⟩
  show Go _ _ _ _ _ _ _ _ _ _ [(.int (1 : Int32)), (.ref pA1)]
  refine Go.laload C (fun _ r => r.arr 1 rfl) (by decide) (v := (.long kA1)) rfl dc_prog_23_method_2_14 (q := 15) rfl ?_
  refine Go.retL C rfl dc_prog_23_method_2_15 (by decide) (by decide) ?_
  exact ⟨rfl, rfl⟩
set_option maxRecDepth 65536 in
set_option maxHeartbeats 40000000 in
theorem u_SequenceQueue_Part_makeRoom_147 (l : Launch) (Z : State) (a0 : Array Value) (hw : ∀ d ∈ tables_1, d.before a0 Z = true) (F : List Ent) (pA0 pA1 pA2 eA0 eA1 : Addr) (kA0 kA1 kA2 kA3 kA4 kA5 : Int64) (hE_eA0 : Exa Z Z.heap eA0 "java/lang/Integer") (hE_eA1 : Exa Z Z.heap eA1 "java/lang/Integer") :
    Met l Z yN10 prog_22_method_2_code 1 none { frames := 0, cells := 0, slots := 0, locals := 0 } #[(.ref pA0)] ((pA0, oRun (.ref pA1) (.ref pA2) (.int (2 : Int32)) (.int (0 : Int32))) :: (pA1, .inr (.long, (oK64 (.long kA0) (.long kA1) (.long kA2) (.long kA3) (.long kA4) (.long kA5)), true)) :: (pA2, .inr (.object "java/lang/Object", (oE64 (.ref eA0) (.ref eA1) .null .null .null .null), true)) :: F) (fun r M' => (r = none ∧ M' = ((pA0, oRun (.ref pA1) (.ref pA2) (.int (2 : Int32)) (.int (0 : Int32))) :: (pA1, .inr (.long, (oK64 (.long kA0) (.long kA1) (.long kA2) (.long kA3) (.long kA4) (.long kA5)), true)) :: (pA2, .inr (.object "java/lang/Object", (oE64 (.ref eA0) (.ref eA1) .null .null .null .null), true)) :: F))) := by
  refine Met.of_go pn_10 (Ls := #[.val (.ref pA0)]) (fun m => by first | rfl | (simp [entryFrame, mkF, argsToLocals, Value.category, maxLocals]; done)) ?_
  intro E C
  refine Go.aloadN C dc_prog_22_method_2_0 (q := 1) rfl rfl rfl ?_
  refine Go.getF C (host := "") (Or.inl (wd hw 102 rfl)) Via.refl (fun _ r => r.fld 0 2 rfl rfl) dc_prog_22_method_2_1 (q := 4) rfl ?_
  refine Go.aloadN C dc_prog_22_method_2_4 (q := 5) rfl rfl rfl ?_
  refine Go.getF C (host := "") (Or.inl (wd hw 22 rfl)) Via.refl (fun _ r => r.fld 0 0 rfl rfl) dc_prog_22_method_2_5 (q := 8) rfl ?_
  refine Go.arraylength C (fun _ r => r.arr 1 rfl) (z := (64 : Int32)) rfl dc_prog_22_method_2_8 (q := 9) rfl ?_
  refine Go.icmpYes C dc_prog_22_method_2_9 (by decide) (q := 58) rfl (XT.ii_ne_t (by decide)) ?_
  refine Go.ret0 C rfl dc_prog_22_method_2_58 (by decide) (by decide) ?_
  exact ⟨rfl, rfl⟩
set_option maxRecDepth 65536 in
set_option maxHeartbeats 40000000 in
theorem u_SequenceQueue_Run_slot_149 (l : Launch) (Z : State) (a0 : Array Value) (hw : ∀ d ∈ tables_1, d.before a0 Z = true) (F : List Ent) (pA0 pA1 pA2 eA0 eA1 : Addr) (kA0 kA1 kA2 kA3 kA4 kA5 : Int64) (hE_eA0 : Exa Z Z.heap eA0 "java/lang/Integer") (hE_eA1 : Exa Z Z.heap eA1 "java/lang/Integer") :
    Met l Z yN12 prog_23_method_6_code 3 (some .int) { frames := 0, cells := 0, slots := 0, locals := 0 } #[(.ref pA0), (.int (2 : Int32))] ((pA0, oRun (.ref pA1) (.ref pA2) (.int (2 : Int32)) (.int (0 : Int32))) :: (pA1, .inr (.long, (oK64 (.long kA0) (.long kA1) (.long kA2) (.long kA3) (.long kA4) (.long kA5)), true)) :: (pA2, .inr (.object "java/lang/Object", (oE64 (.ref eA0) (.ref eA1) .null .null .null .null), true)) :: F) (fun r M' => (r = (some (.int (2 : Int32))) ∧ M' = ((pA0, oRun (.ref pA1) (.ref pA2) (.int (2 : Int32)) (.int (0 : Int32))) :: (pA1, .inr (.long, (oK64 (.long kA0) (.long kA1) (.long kA2) (.long kA3) (.long kA4) (.long kA5)), true)) :: (pA2, .inr (.object "java/lang/Object", (oE64 (.ref eA0) (.ref eA1) .null .null .null .null), true)) :: F))) := by
  refine Met.of_go pn_11 (Ls := #[.val (.ref pA0), .val (.int (2 : Int32)), .unset]) (fun m => by first | rfl | (simp [entryFrame, mkF, argsToLocals, Value.category, maxLocals]; done)) ?_
  intro E C
  refine Go.aloadN C dc_prog_23_method_6_0 (q := 1) rfl rfl rfl ?_
  refine Go.getF C (host := "") (Or.inl (wd hw 65 rfl)) Via.refl (fun _ r => r.fld 0 3 rfl rfl) dc_prog_23_method_6_1 (q := 4) rfl ?_
  refine Go.iloadN C dc_prog_23_method_6_4 (q := 5) rfl rfl ?_
  refine Go.iadd C dc_prog_23_method_6_5 (q := 6) rfl ?_
  refine Go.castI (w := (2 : Int32)) (by decide) ?_
  refine Go.istoreN C dc_prog_23_method_6_6 (q := 7) rfl (Ls' := #[.val (.ref pA0), .val (.int (2 : Int32)), .val (.int (2 : Int32))]) rfl ?_
  refine Go.iloadN C dc_prog_23_method_6_7 (q := 8) rfl rfl ?_
  refine Go.aloadN C dc_prog_23_method_6_8 (q := 9) rfl rfl rfl ?_
  refine Go.getF C (host := "") (Or.inl (wd hw 107 rfl)) (Via.of (wd hw 108 rfl)) (fun _ r => r.fld 0 0 rfl rfl) dc_prog_23_method_6_9 (q := 12) rfl ?_
  refine Go.arraylength C (fun _ r => r.arr 1 rfl) (z := (64 : Int32)) rfl dc_prog_23_method_6_12 (q := 13) rfl ?_
  refine Go.icmpYes C dc_prog_23_method_6_13 (by decide) (q := 24) rfl (XT.ii_lt_t (by decide)) ?_
  refine Go.iloadN C dc_prog_23_method_6_24 (q := 25) rfl rfl ?_
  refine Go.retI C rfl dc_prog_23_method_6_25 (by decide) (by decide) ?_
  exact ⟨rfl, rfl⟩
set_option maxRecDepth 65536 in
set_option maxHeartbeats 40000000 in
theorem u_SequenceQueue_Run_add_146 (l : Launch) (Z : State) (a0 : Array Value) (hw : ∀ d ∈ tables_1, d.before a0 Z = true) (F : List Ent) (pA0 pA1 pA2 eA0 eA1 eA2 : Addr) (kA0 kA1 kA2 kA3 kA4 kA5 kA6 : Int64) (hE_eA0 : Exa Z Z.heap eA0 "java/lang/Integer") (hE_eA1 : Exa Z Z.heap eA1 "java/lang/Integer") (hE_eA2 : Exa Z Z.heap eA2 "java/lang/Integer") :
    Met l Z yN13 prog_23_method_3_code 5 none { frames := 1, cells := 0, slots := 0, locals := 14 } #[(.ref pA0), (.long kA0), (.ref eA0)] ((pA0, oRun (.ref pA1) (.ref pA2) (.int (2 : Int32)) (.int (0 : Int32))) :: (pA1, .inr (.long, (oK64 (.long kA1) (.long kA2) (.long kA3) (.long kA4) (.long kA5) (.long kA6)), true)) :: (pA2, .inr (.object "java/lang/Object", (oE64 (.ref eA1) (.ref eA2) .null .null .null .null), true)) :: F) (fun r M' => (r = none ∧ M' = ((pA0, oRun (.ref pA1) (.ref pA2) (.int (3 : Int32)) (.int (0 : Int32))) :: (pA1, .inr (.long, (oK64 (.long kA1) (.long kA2) (.long kA0) (.long kA4) (.long kA5) (.long kA6)), true)) :: (pA2, .inr (.object "java/lang/Object", (oE64 (.ref eA1) (.ref eA2) (.ref eA0) .null .null .null), true)) :: F))) := by
  refine Met.of_go pn_12 (Ls := #[.val (.ref pA0), .val (.long kA0), .second, .val (.ref eA0), .unset]) (fun m => by first | rfl | (simp [entryFrame, mkF, argsToLocals, Value.category, maxLocals]; done)) ?_
  intro E C
  refine Go.aloadN C dc_prog_23_method_3_0 (q := 1) rfl rfl rfl ?_
  refine Go.callU C (y := yN11) (z := yN10) (owner := "com/example/ordered_dispatch/ordereddispatch/SequenceQueue$Part") (a := pA0) (as := []) (rest := []) (wd hw 96 rfl) (wd hw 97 rfl) (wd hw 98 rfl) (wd hw 100 rfl) (wd hw 99 rfl) (wd hw 101 rfl) (wd hw 18 rfl) (fun _ r => r.exa 0 rfl) (u_SequenceQueue_Part_makeRoom_147 l Z a0 hw _ pA0 pA1 pA2 eA1 eA2 kA1 kA2 kA3 kA4 kA5 kA6 hE_eA1 hE_eA2) rfl dc_prog_23_method_3_1 (q := 4) rfl (by decide) rfl (na := 0) (by decide +kernel) rfl (by decide) (W := 0) rfl (by decide) (by decide) (by decide) (k' := 0) (n' := 0) rfl rfl ?_
  rintro _ _ ⟨rfl, rfl⟩
  show Go _ _ _ _ _ _ _ _ _ _ []
  refine Go.aloadN C dc_prog_23_method_3_4 (q := 5) rfl rfl rfl ?_
  refine Go.aloadN C dc_prog_23_method_3_5 (q := 6) rfl rfl rfl ?_
  refine Go.getF C (host := "") (Or.inl (wd hw 67 rfl)) (Via.of (wd hw 49 rfl)) (fun _ r => r.fld 0 2 rfl rfl) dc_prog_23_method_3_6 (q := 9) rfl ?_
  refine Go.callP C (y := yN12) (a := pA0) (as := [(.int (2 : Int32))]) (rest := []) (wd hw 103 rfl) (wd hw 104 rfl) (sel_priv (y := yN12) (wd hw 10 rfl) (wd hw 104 rfl) (wd hw 105 rfl) (by decide)) (wd hw 105 rfl) (wd hw 106 rfl) (wd hw 11 rfl) (fun _ r => r.exa 0 rfl) (u_SequenceQueue_Run_slot_149 l Z a0 hw _ pA0 pA1 pA2 eA1 eA2 kA1 kA2 kA3 kA4 kA5 kA6 hE_eA1 hE_eA2) rfl dc_prog_23_method_3_9 (q := 12) rfl (by decide) rfl (na := 1) (by decide +kernel) rfl (by decide) (W := 0) rfl (by decide) (by decide) (by decide) (k' := 0) (n' := 0) rfl rfl ?_
  rintro _ _ ⟨rfl, rfl⟩
  show Go _ _ _ _ _ _ _ _ _ _ [(.int (2 : Int32))]
  refine Go.istore C dc_prog_23_method_3_12 (q := 14) rfl (Ls' := #[.val (.ref pA0), .val (.long kA0), .second, .val (.ref eA0), .val (.int (2 : Int32))]) rfl ?_
  refine Go.aloadN C dc_prog_23_method_3_14 (q := 15) rfl rfl rfl ?_
  refine Go.getF C (host := "") (Or.inl (wd hw 107 rfl)) (Via.of (wd hw 108 rfl)) (fun _ r => r.fld 0 0 rfl rfl) dc_prog_23_method_3_15 (q := 18) rfl ?_
  refine Go.iload C dc_prog_23_method_3_18 (q := 20) rfl rfl ?_
  refine Go.lloadN C dc_prog_23_method_3_20 (q := 21) rfl rfl ?_
  refine Go.lastore C (i := 1) rfl (by decide) (show (2 : Int32).toNatClampNeg < 64 from by decide) (w' := (.long kA0)) rfl dc_prog_23_method_3_21 (q := 22) rfl (M' := ((pA0, oRun (.ref pA1) (.ref pA2) (.int (2 : Int32)) (.int (0 : Int32))) :: (pA1, .inr (.long, (oK64 (.long kA1) (.long kA2) (.long kA0) (.long kA4) (.long kA5) (.long kA6)), true)) :: (pA2, .inr (.object "java/lang/Object", (oE64 (.ref eA1) (.ref eA2) .null .null .null .null), true)) :: F)) rfl ?_
  refine Go.aloadN C dc_prog_23_method_3_22 (q := 23) rfl rfl rfl ?_
  refine Go.getF C (host := "") (Or.inl (wd hw 63 rfl)) (Via.of (wd hw 64 rfl)) (fun _ r => r.fld 0 1 rfl rfl) dc_prog_23_method_3_23 (q := 26) rfl ?_
  refine Go.iload C dc_prog_23_method_3_26 (q := 28) rfl rfl ?_
  refine Go.aloadN C dc_prog_23_method_3_28 (q := 29) rfl rfl rfl ?_
  refine Go.aastore C (i := 2) rfl (by decide) (show (2 : Int32).toNatClampNeg < 64 from by decide) (fun _ r => Or.inr ⟨_, rfl, Ins.of_exa ((hE_eA0).ext r.1) (wd hw 109 rfl)⟩) dc_prog_23_method_3_29 (q := 30) rfl (M' := ((pA0, oRun (.ref pA1) (.ref pA2) (.int (2 : Int32)) (.int (0 : Int32))) :: (pA1, .inr (.long, (oK64 (.long kA1) (.long kA2) (.long kA0) (.long kA4) (.long kA5) (.long kA6)), true)) :: (pA2, .inr (.object "java/lang/Object", (oE64 (.ref eA1) (.ref eA2) (.ref eA0) .null .null .null), true)) :: F)) rfl ?_
  refine Go.aloadN C dc_prog_23_method_3_30 (q := 31) rfl rfl rfl ?_
  refine Go.dup C dc_prog_23_method_3_31 (q := 32) rfl rfl ?_
  refine Go.getF C (host := "") (Or.inl (wd hw 67 rfl)) (Via.of (wd hw 49 rfl)) (fun _ r => r.fld 0 2 rfl rfl) dc_prog_23_method_3_32 (q := 35) rfl ?_
  refine Go.iconst C dc_prog_23_method_3_35 (q := 36) rfl (v := (1 : Int32)) rfl ?_
  refine Go.iadd C dc_prog_23_method_3_36 (q := 37) rfl ?_
  refine Go.castI (w := (3 : Int32)) (by decide) ?_
  refine Go.putF C (host := "") (i := 0) (j := 2) (Or.inl (wd hw 67 rfl)) (Via.of (wd hw 49 rfl)) rfl rfl (Or.inl (wd hw 50 rfl)) (wd hw 10 rfl) (ty := .int) (by decide) rfl rfl dc_prog_23_method_3_37 (q := 40) rfl (M' := ((pA0, oRun (.ref pA1) (.ref pA2) (.int (3 : Int32)) (.int (0 : Int32))) :: (pA1, .inr (.long, (oK64 (.long kA1) (.long kA2) (.long kA0) (.long kA4) (.long kA5) (.long kA6)), true)) :: (pA2, .inr (.object "java/lang/Object", (oE64 (.ref eA1) (.ref eA2) (.ref eA0) .null .null .null), true)) :: F)) rfl ?_
  refine Go.ret0 C rfl dc_prog_23_method_3_40 (by decide) (by decide) ?_
  exact ⟨rfl, rfl⟩
set_option maxRecDepth 65536 in
set_option maxHeartbeats 40000000 in
theorem u_SequenceQueue_place_141 (l : Launch) (Z : State) (a0 : Array Value) (hw : ∀ d ∈ tables_1, d.before a0 Z = true) (F : List Ent) (pA0 pA1 pA2 pA3 pA4 pA5 pA6 eA0 eA1 eA2 eA3 : Addr) (kA0 kA1 kA2 kA3 kA4 kA5 kA6 kA7 kA8 kA9 kA10 kA11 kA12 kA13 : Int64) (hE_eA0 : Exa Z Z.heap eA0 "java/lang/Integer") (hE_eA1 : Exa Z Z.heap eA1 "java/lang/Integer") (hE_eA2 : Exa Z Z.heap eA2 "java/lang/Integer") (hE_eA3 : Exa Z Z.heap eA3 "java/lang/Integer") :
    Met l Z yN14 prog_20_method_9_code 4 none { frames := 2, cells := 0, slots := 0, locals := 30 } #[(.ref pA0), (.long kA0), (.ref eA0)] ((pA0, oQ (.ref pA1) (.ref pA4) (.int (1 : Int32)) (.long kA1) (.ref eA1)) :: (pA1, oRun (.ref pA2) (.ref pA3) (.int (2 : Int32)) (.int (0 : Int32))) :: (pA2, .inr (.long, (oK64 (.long kA2) (.long kA3) (.long kA4) (.long kA5) (.long kA6) (.long kA7)), true)) :: (pA3, .inr (.object "java/lang/Object", (oE64 (.ref eA2) (.ref eA3) .null .null .null .null), true)) :: (pA4, oHeap (.ref pA5) (.ref pA6) (.int (0 : Int32))) :: (pA5, .inr (.long, (oK64 (.long kA8) (.long kA9) (.long kA10) (.long kA11) (.long kA12) (.long kA13)), true)) :: (pA6, .inr (.object "java/lang/Object", (oE64 .null .null .null .null .null .null), true)) :: F) (fun r M' => (r = none ∧ M' = ((pA4, oHeap (.ref pA5) (.ref pA6) (.int (1 : Int32))) :: (pA5, .inr (.long, (oK64 (.long kA0) (.long kA9) (.long kA10) (.long kA11) (.long kA12) (.long kA13)), true)) :: (pA6, .inr (.object "java/lang/Object", (oE64 (.ref eA0) .null .null .null .null .null), true)) :: (pA1, oRun (.ref pA2) (.ref pA3) (.int (2 : Int32)) (.int (0 : Int32))) :: (pA2, .inr (.long, (oK64 (.long kA2) (.long kA3) (.long kA4) (.long kA5) (.long kA6) (.long kA7)), true)) :: (pA3, .inr (.object "java/lang/Object", (oE64 (.ref eA2) (.ref eA3) .null .null .null .null), true)) :: (pA0, oQ (.ref pA1) (.ref pA4) (.int (1 : Int32)) (.long kA1) (.ref eA1)) :: F)) ∨ (r = none ∧ M' = ((pA1, oRun (.ref pA2) (.ref pA3) (.int (3 : Int32)) (.int (0 : Int32))) :: (pA2, .inr (.long, (oK64 (.long kA2) (.long kA3) (.long kA0) (.long kA5) (.long kA6) (.long kA7)), true)) :: (pA3, .inr (.object "java/lang/Object", (oE64 (.ref eA2) (.ref eA3) (.ref eA0) .null .null .null), true)) :: (pA0, oQ (.ref pA1) (.ref pA4) (.int (1 : Int32)) (.long kA1) (.ref eA1)) :: (pA4, oHeap (.ref pA5) (.ref pA6) (.int (0 : Int32))) :: (pA5, .inr (.long, (oK64 (.long kA8) (.long kA9) (.long kA10) (.long kA11) (.long kA12) (.long kA13)), true)) :: (pA6, .inr (.object "java/lang/Object", (oE64 .null .null .null .null .null .null), true)) :: F))) := by
  refine Met.of_go pn_13 (Ls := #[.val (.ref pA0), .val (.long kA0), .second, .val (.ref eA0)]) (fun m => by first | rfl | (simp [entryFrame, mkF, argsToLocals, Value.category, maxLocals]; done)) ?_
  intro E C
  refine Go.aloadN C dc_prog_20_method_9_0 (q := 1) rfl rfl rfl ?_
  refine Go.getF C (host := "") (Or.inl (wd hw 28 rfl)) Via.refl (fun _ r => r.fld 0 0 rfl rfl) dc_prog_20_method_9_1 (q := 4) rfl ?_
  refine Go.getF C (host := "") (Or.inl (wd hw 48 rfl)) (Via.of (wd hw 49 rfl)) (fun _ r => r.fld 1 2 rfl rfl) dc_prog_20_method_9_4 (q := 7) rfl ?_
  refine Go.ifNo C dc_prog_20_method_9_7 (q := 10) rfl (XT.i0_eq_f (by decide)) ?_
  refine Go.lloadN C dc_prog_20_method_9_10 (q := 11) rfl rfl ?_
  refine Go.aloadN C dc_prog_20_method_9_11 (q := 12) rfl rfl rfl ?_
  refine Go.getF C (host := "") (Or.inl (wd hw 28 rfl)) Via.refl (fun _ r => r.fld 0 0 rfl rfl) dc_prog_20_method_9_12 (q := 15) rfl ?_
  refine Go.pick (M' := ((pA1, oRun (.ref pA2) (.ref pA3) (.int (2 : Int32)) (.int (0 : Int32))) :: (pA2, .inr (.long, (oK64 (.long kA2) (.long kA3) (.long kA4) (.long kA5) (.long kA6) (.long kA7)), true)) :: (pA3, .inr (.object "java/lang/Object", (oE64 (.ref eA2) (.ref eA3) .null .null .null .null), true)) :: (pA0, oQ (.ref pA1) (.ref pA4) (.int (1 : Int32)) (.long kA1) (.ref eA1)) :: (pA4, oHeap (.ref pA5) (.ref pA6) (.int (0 : Int32))) :: (pA5, .inr (.long, (oK64 (.long kA8) (.long kA9) (.long kA10) (.long kA11) (.long kA12) (.long kA13)), true)) :: (pA6, .inr (.object "java/lang/Object", (oE64 .null .null .null .null .null .null), true)) :: F)) 7 [1, 2, 3, 0, 4, 5, 6] (by decide) (by decide) rfl ?_
  refine Go.callPR C (y := yN15) (a := pA1) (as := []) (rest := [(.long kA0)]) (wd hw 110 rfl) (wd hw 111 rfl) (sel_priv (y := yN15) (wd hw 10 rfl) (wd hw 111 rfl) (wd hw 112 rfl) (by decide)) (wd hw 112 rfl) (wd hw 113 rfl) (wd hw 11 rfl) (fun _ r => r.exa 0 rfl) (u_SequenceQueue_Run_lastKey_142 l Z a0 hw _ pA1 pA2 pA3 eA2 eA3 kA2 kA3 kA4 kA5 kA6 kA7 hE_eA2 hE_eA3) rfl dc_prog_20_method_9_15 (q := 18) rfl (by decide) rfl (na := 0) (by decide +kernel) rfl (by decide) (W := 2) rfl (by decide) (by decide) (by decide) (k' := 0) (n' := 0) rfl rfl ?_
  rintro _ _ ⟨rfl, rfl⟩
  show Go _ _ _ _ _ _ _ _ _ _ [(.long kA3), (.long kA0)]
  refine Go.lcmpif C dc_prog_20_method_9_18 rfl dc_prog_20_method_9_19 (by decide) (q := 34) rfl (q' := 22) rfl (fun (h18_1 : kA0 < kA3) => ?_) (fun (h18_1 : ¬ kA0 < kA3) => ?_)
  · refine Go.aloadN C dc_prog_20_method_9_34 (q := 35) rfl rfl rfl ?_
    refine Go.getF C (host := "") (Or.inl (wd hw 39 rfl)) Via.refl (fun _ r => r.fld 3 1 rfl rfl) dc_prog_20_method_9_35 (q := 38) rfl ?_
    refine Go.lloadN C dc_prog_20_method_9_38 (q := 39) rfl rfl ?_
    refine Go.aloadN C dc_prog_20_method_9_39 (q := 40) rfl rfl rfl ?_
    refine Go.pick (M' := ((pA4, oHeap (.ref pA5) (.ref pA6) (.int (0 : Int32))) :: (pA5, .inr (.long, (oK64 (.long kA8) (.long kA9) (.long kA10) (.long kA11) (.long kA12) (.long kA13)), true)) :: (pA6, .inr (.object "java/lang/Object", (oE64 .null .null .null .null .null .null), true)) :: (pA1, oRun (.ref pA2) (.ref pA3) (.int (2 : Int32)) (.int (0 : Int32))) :: (pA2, .inr (.long, (oK64 (.long kA2) (.long kA3) (.long kA4) (.long kA5) (.long kA6) (.long kA7)), true)) :: (pA3, .inr (.object "java/lang/Object", (oE64 (.ref eA2) (.ref eA3) .null .null .null .null), true)) :: (pA0, oQ (.ref pA1) (.ref pA4) (.int (1 : Int32)) (.long kA1) (.ref eA1)) :: F)) 7 [4, 5, 6, 0, 1, 2, 3] (by decide) (by decide) rfl ?_
    refine Go.callPR C (y := yN17) (a := pA4) (as := [(.long kA0), (.ref eA0)]) (rest := []) (wd hw 122 rfl) (wd hw 123 rfl) (sel_priv (y := yN17) (wd hw 31 rfl) (wd hw 123 rfl) (wd hw 124 rfl) (by decide)) (wd hw 124 rfl) (wd hw 125 rfl) (wd hw 32 rfl) (fun _ r => r.exa 0 rfl) (u_SequenceQueue_Heap_add_44 l Z a0 hw _ pA4 pA5 pA6 eA0 kA0 kA8 kA9 kA10 kA11 kA12 kA13 hE_eA0) rfl dc_prog_20_method_9_40 (q := 43) rfl (by decide) rfl (na := 2) (by decide +kernel) rfl (by decide) (W := 0) rfl (by decide) (by decide) (by decide) (k' := 0) (n' := 0) rfl rfl ?_
    rintro _ _ ⟨rfl, rfl⟩
    show Go _ _ _ _ _ _ _ _ _ _ []
    refine Go.ret0 C rfl dc_prog_20_method_9_43 (by decide) (by decide) ?_
    exact Or.inl ⟨rfl, rfl⟩
  · refine Go.aloadN C dc_prog_20_method_9_22 (q := 23) rfl rfl rfl ?_
    refine Go.getF C (host := "") (Or.inl (wd hw 28 rfl)) Via.refl (fun _ r => r.fld 3 0 rfl rfl) dc_prog_20_method_9_23 (q := 26) rfl ?_
    refine Go.lloadN C dc_prog_20_method_9_26 (q := 27) rfl rfl ?_
    refine Go.aloadN C dc_prog_20_method_9_27 (q := 28) rfl rfl rfl ?_
    refine Go.callPR C (y := yN13) (a := pA1) (as := [(.long kA0), (.ref eA0)]) (rest := []) (wd hw 92 rfl) (wd hw 93 rfl) (sel_priv (y := yN13) (wd hw 10 rfl) (wd hw 93 rfl) (wd hw 94 rfl) (by decide)) (wd hw 94 rfl) (wd hw 95 rfl) (wd hw 11 rfl) (fun _ r => r.exa 0 rfl) (u_SequenceQueue_Run_add_146 l Z a0 hw _ pA1 pA2 pA3 eA0 eA2 eA3 kA0 kA2 kA3 kA4 kA5 kA6 kA7 hE_eA0 hE_eA2 hE_eA3) rfl dc_prog_20_method_9_28 (q := 31) rfl (by decide) rfl (na := 2) (by decide +kernel) rfl (by decide) (W := 0) rfl (by decide) (by decide) (by decide) (k' := 0) (n' := 0) rfl rfl ?_
    rintro _ _ ⟨rfl, rfl⟩
    show Go _ _ _ _ _ _ _ _ _ _ []
    refine Go.goto C dc_prog_20_method_9_31 (by decide) (q := 43) rfl ?_
    refine Go.ret0 C rfl dc_prog_20_method_9_43 (by decide) (by decide) ?_
    exact Or.inr (⟨rfl, rfl⟩)
set_option maxRecDepth 65536 in
set_option maxHeartbeats 40000000 in
theorem u_SequenceQueue_Run_slot_154 (l : Launch) (Z : State) (a0 : Array Value) (hw : ∀ d ∈ tables_1, d.before a0 Z = true) (F : List Ent) (pA0 pA1 pA2 eA0 eA1 : Addr) (kA0 kA1 kA2 kA3 kA4 kA5 : Int64) (hE_eA0 : Exa Z Z.heap eA0 "java/lang/Integer") (hE_eA1 : Exa Z Z.heap eA1 "java/lang/Integer") :
    Met l Z yN12 prog_23_method_6_code 3 (some .int) { frames := 0, cells := 0, slots := 0, locals := 0 } #[(.ref pA0), (.int (1 : Int32))] ((pA0, oRun (.ref pA1) (.ref pA2) (.int (3 : Int32)) (.int (0 : Int32))) :: (pA1, .inr (.long, (oK64 (.long kA0) (.long kA1) (.long kA2) (.long kA3) (.long kA4) (.long kA5)), true)) :: (pA2, .inr (.object "java/lang/Object", (oE64 .null (.ref eA0) (.ref eA1) .null .null .null), true)) :: F) (fun r M' => (r = (some (.int (1 : Int32))) ∧ M' = ((pA0, oRun (.ref pA1) (.ref pA2) (.int (3 : Int32)) (.int (0 : Int32))) :: (pA1, .inr (.long, (oK64 (.long kA0) (.long kA1) (.long kA2) (.long kA3) (.long kA4) (.long kA5)), true)) :: (pA2, .inr (.object "java/lang/Object", (oE64 .null (.ref eA0) (.ref eA1) .null .null .null), true)) :: F))) := by
  refine Met.of_go pn_11 (Ls := #[.val (.ref pA0), .val (.int (1 : Int32)), .unset]) (fun m => by first | rfl | (simp [entryFrame, mkF, argsToLocals, Value.category, maxLocals]; done)) ?_
  intro E C
  refine Go.aloadN C dc_prog_23_method_6_0 (q := 1) rfl rfl rfl ?_
  refine Go.getF C (host := "") (Or.inl (wd hw 65 rfl)) Via.refl (fun _ r => r.fld 0 3 rfl rfl) dc_prog_23_method_6_1 (q := 4) rfl ?_
  refine Go.iloadN C dc_prog_23_method_6_4 (q := 5) rfl rfl ?_
  refine Go.iadd C dc_prog_23_method_6_5 (q := 6) rfl ?_
  refine Go.castI (w := (1 : Int32)) (by decide) ?_
  refine Go.istoreN C dc_prog_23_method_6_6 (q := 7) rfl (Ls' := #[.val (.ref pA0), .val (.int (1 : Int32)), .val (.int (1 : Int32))]) rfl ?_
  refine Go.iloadN C dc_prog_23_method_6_7 (q := 8) rfl rfl ?_
  refine Go.aloadN C dc_prog_23_method_6_8 (q := 9) rfl rfl rfl ?_
  refine Go.getF C (host := "") (Or.inl (wd hw 107 rfl)) (Via.of (wd hw 108 rfl)) (fun _ r => r.fld 0 0 rfl rfl) dc_prog_23_method_6_9 (q := 12) rfl ?_
  refine Go.arraylength C (fun _ r => r.arr 1 rfl) (z := (64 : Int32)) rfl dc_prog_23_method_6_12 (q := 13) rfl ?_
  refine Go.icmpYes C dc_prog_23_method_6_13 (by decide) (q := 24) rfl (XT.ii_lt_t (by decide)) ?_
  refine Go.iloadN C dc_prog_23_method_6_24 (q := 25) rfl rfl ?_
  refine Go.retI C rfl dc_prog_23_method_6_25 (by decide) (by decide) ?_
  exact ⟨rfl, rfl⟩
set_option maxRecDepth 65536 in
set_option maxHeartbeats 40000000 in
theorem u_SequenceQueue_Part_giveBackRoom_156 (l : Launch) (Z : State) (a0 : Array Value) (hw : ∀ d ∈ tables_1, d.before a0 Z = true) (F : List Ent) (pA0 pA1 pA2 eA0 eA1 : Addr) (kA0 kA1 kA2 kA3 kA4 kA5 : Int64) (hE_eA0 : Exa Z Z.heap eA0 "java/lang/Integer") (hE_eA1 : Exa Z Z.heap eA1 "java/lang/Integer") :
    Met l Z yN18 prog_22_method_3_code 1 none { frames := 0, cells := 0, slots := 0, locals := 0 } #[(.ref pA0)] ((pA0, oRun (.ref pA1) (.ref pA2) (.int (2 : Int32)) (.int (1 : Int32))) :: (pA1, .inr (.long, (oK64 (.long kA0) (.long kA1) (.long kA2) (.long kA3) (.long kA4) (.long kA5)), true)) :: (pA2, .inr (.object "java/lang/Object", (oE64 .null (.ref eA0) (.ref eA1) .null .null .null), true)) :: F) (fun r M' => (r = none ∧ M' = ((pA0, oRun (.ref pA1) (.ref pA2) (.int (2 : Int32)) (.int (1 : Int32))) :: (pA1, .inr (.long, (oK64 (.long kA0) (.long kA1) (.long kA2) (.long kA3) (.long kA4) (.long kA5)), true)) :: (pA2, .inr (.object "java/lang/Object", (oE64 .null (.ref eA0) (.ref eA1) .null .null .null), true)) :: F))) := by
  refine Met.of_go pn_16 (Ls := #[.val (.ref pA0)]) (fun m => by first | rfl | (simp [entryFrame, mkF, argsToLocals, Value.category, maxLocals]; done)) ?_
  intro E C
  refine Go.aloadN C dc_prog_22_method_3_0 (q := 1) rfl rfl rfl ?_
  refine Go.getF C (host := "") (Or.inl (wd hw 22 rfl)) Via.refl (fun _ r => r.fld 0 0 rfl rfl) dc_prog_22_method_3_1 (q := 4) rfl ?_
  refine Go.arraylength C (fun _ r => r.arr 1 rfl) (z := (64 : Int32)) rfl dc_prog_22_method_3_4 (q := 5) rfl ?_
  refine Go.bipush C dc_prog_22_method_3_5 (q := 7) rfl (v := (64 : Int32)) (by decide) ?_
  refine Go.icmpYes C dc_prog_22_method_3_7 (by decide) (q := 40) rfl (XT.ii_le_t (by decide)) ?_
  refine Go.ret0 C rfl dc_prog_22_method_3_40 (by decide) (by decide) ?_
  exact ⟨rfl, rfl⟩
set_option maxRecDepth 65536 in
set_option maxHeartbeats 40000000 in
theorem u_SequenceQueue_Run_poll_153 (l : Launch) (Z : State) (a0 : Array Value) (hw : ∀ d ∈ tables_1, d.before a0 Z = true) (F : List Ent) (pA0 pA1 pA2 eA0 eA1 eA2 : Addr) (kA0 kA1 kA2 kA3 kA4 kA5 : Int64) (hE_eA0 : Exa Z Z.heap eA0 "java/lang/Integer") (hE_eA1 : Exa Z Z.heap eA1 "java/lang/Integer") (hE_eA2 : Exa Z Z.heap eA2 "java/lang/Integer") :
    Met l Z yN5 prog_23_method_4_code 2 (some (.object "java/lang/Object")) { frames := 1, cells := 0, slots := 0, locals := 15 } #[(.ref pA0)] ((pA0, oRun (.ref pA1) (.ref pA2) (.int (3 : Int32)) (.int (0 : Int32))) :: (pA1, .inr (.long, (oK64 (.long kA0) (.long kA1) (.long kA2) (.long kA3) (.long kA4) (.long kA5)), true)) :: (pA2, .inr (.object "java/lang/Object", (oE64 (.ref eA0) (.ref eA1) (.ref eA2) .null .null .null), true)) :: F) (fun r M' => (r = (some (.ref eA0)) ∧ M' = ((pA0, oRun (.ref pA1) (.ref pA2) (.int (2 : Int32)) (.int (1 : Int32))) :: (pA1, .inr (.long, (oK64 (.long kA0) (.long kA1) (.long kA2) (.long kA3) (.long kA4) (.long kA5)), true)) :: (pA2, .inr (.object "java/lang/Object", (oE64 .null (.ref eA1) (.ref eA2) .null .null .null), true)) :: F))) := by
  refine Met.of_go pn_5 (Ls := #[.val (.ref pA0), .unset]) (fun m => by first | rfl | (simp [entryFrame, mkF, argsToLocals, Value.category, maxLocals]; done)) ?_
  intro E C
  refine Go.aloadN C dc_prog_23_method_4_0 (q := 1) rfl rfl rfl ?_
  refine Go.getF C (host := "") (Or.inl (wd hw 63 rfl)) (Via.of (wd hw 64 rfl)) (fun _ r => r.fld 0 1 rfl rfl) dc_prog_23_method_4_1 (q := 4) rfl ?_
  refine Go.aloadN C dc_prog_23_method_4_4 (q := 5) rfl rfl rfl ?_
  refine Go.getF C (host := "") (Or.inl (wd hw 65 rfl)) Via.refl (fun _ r => r.fld 0 3 rfl rfl) dc_prog_23_method_4_5 (q := 8) rfl ?_
  refine Go.aaload C (fun _ r => r.arr 2 rfl) rfl (by decide) (v := (.ref eA0)) rfl dc_prog_23_method_4_8 (q := 9) rfl ?_
  refine Go.astoreN C dc_prog_23_method_4_9 (q := 10) rfl rfl (Ls' := #[.val (.ref pA0), .val (.ref eA0)]) rfl ?_
  refine Go.aloadN C dc_prog_23_method_4_10 (q := 11) rfl rfl rfl ?_
  refine Go.getF C (host := "") (Or.inl (wd hw 67 rfl)) (Via.of (wd hw 49 rfl)) (fun _ r => r.fld 0 2 rfl rfl) dc_prog_23_method_4_11 (q := 14) rfl ?_
  refine Go.ifNo C dc_prog_23_method_4_14 (q := 17) rfl (XT.i0_le_f (by decide)) ?_
  refine Go.aloadN C dc_prog_23_method_4_17 (q := 18) rfl rfl rfl ?_
  refine Go.getF C (host := "") (Or.inl (wd hw 63 rfl)) (Via.of (wd hw 64 rfl)) (fun _ r => r.fld 0 1 rfl rfl) dc_prog_23_method_4_18 (q := 21) rfl ?_
  refine Go.aloadN C dc_prog_23_method_4_21 (q := 22) rfl rfl rfl ?_
  refine Go.getF C (host := "") (Or.inl (wd hw 65 rfl)) Via.refl (fun _ r => r.fld 0 3 rfl rfl) dc_prog_23_method_4_22 (q := 25) rfl ?_
  refine Go.aconstNull C dc_prog_23_method_4_25 (q := 26) rfl ?_
  refine Go.aastore C (i := 2) rfl (by decide) (show (0 : Int32).toNatClampNeg < 64 from by decide) (fun _ _ => Or.inl rfl) dc_prog_23_method_4_26 (q := 27) rfl (M' := ((pA0, oRun (.ref pA1) (.ref pA2) (.int (3 : Int32)) (.int (0 : Int32))) :: (pA1, .inr (.long, (oK64 (.long kA0) (.long kA1) (.long kA2) (.long kA3) (.long kA4) (.long kA5)), true)) :: (pA2, .inr (.object "java/lang/Object", (oE64 .null (.ref eA1) (.ref eA2) .null .null .null), true)) :: F)) rfl ?_
  refine Go.aloadN C dc_prog_23_method_4_27 (q := 28) rfl rfl rfl ?_
  refine Go.aloadN C dc_prog_23_method_4_28 (q := 29) rfl rfl rfl ?_
  refine Go.iconst C dc_prog_23_method_4_29 (q := 30) rfl (v := (1 : Int32)) rfl ?_
  refine Go.callP C (y := yN12) (a := pA0) (as := [(.int (1 : Int32))]) (rest := [(.ref pA0)]) (wd hw 103 rfl) (wd hw 104 rfl) (sel_priv (y := yN12) (wd hw 10 rfl) (wd hw 104 rfl) (wd hw 105 rfl) (by decide)) (wd hw 105 rfl) (wd hw 106 rfl) (wd hw 11 rfl) (fun _ r => r.exa 0 rfl) (u_SequenceQueue_Run_slot_154 l Z a0 hw _ pA0 pA1 pA2 eA1 eA2 kA0 kA1 kA2 kA3 kA4 kA5 hE_eA1 hE_eA2) rfl dc_prog_23_method_4_30 (q := 33) rfl (by decide) rfl (na := 1) (by decide +kernel) rfl (by decide) (W := 1) rfl (by decide) (by decide) (by decide) (k' := 0) (n' := 0) rfl rfl ?_
  rintro _ _ ⟨rfl, rfl⟩
  show Go _ _ _ _ _ _ _ _ _ _ [(.int (1 : Int32)), (.ref pA0)]
  refine Go.putF C (host := "") (i := 0) (j := 3) (Or.inl (wd hw 65 rfl)) Via.refl rfl rfl (Or.inl (wd hw 66 rfl)) (wd hw 10 rfl) (ty := .int) (by decide) rfl rfl dc_prog_23_method_4_33 (q := 36) rfl (M' := ((pA0, oRun (.ref pA1) (.ref pA2) (.int (3 : Int32)) (.int (1 : Int32))) :: (pA1, .inr (.long, (oK64 (.long kA0) (.long kA1) (.long kA2) (.long kA3) (.long kA4) (.long kA5)), true)) :: (pA2, .inr (.object "java/lang/Object", (oE64 .null (.ref eA1) (.ref eA2) .null .null .null), true)) :: F)) rfl ?_
  refine Go.aloadN C dc_prog_23_method_4_36 (q := 37) rfl rfl rfl ?_
  refine Go.dup C dc_prog_23_method_4_37 (q := 38) rfl rfl ?_
  refine Go.getF C (host := "") (Or.inl (wd hw 67 rfl)) (Via.of (wd hw 49 rfl)) (fun _ r => r.fld 0 2 rfl rfl) dc_prog_23_method_4_38 (q := 41) rfl ?_
  refine Go.iconst C dc_prog_23_method_4_41 (q := 42) rfl (v := (1 : Int32)) rfl ?_
  refine Go.isub C dc_prog_23_method_4_42 (q := 43) rfl ?_
  refine Go.castI (w := (2 : Int32)) (by decide) ?_
  refine Go.putF C (host := "") (i := 0) (j := 2) (Or.inl (wd hw 67 rfl)) (Via.of (wd hw 49 rfl)) rfl rfl (Or.inl (wd hw 50 rfl)) (wd hw 10 rfl) (ty := .int) (by decide) rfl rfl dc_prog_23_method_4_43 (q := 46) rfl (M' := ((pA0, oRun (.ref pA1) (.ref pA2) (.int (2 : Int32)) (.int (1 : Int32))) :: (pA1, .inr (.long, (oK64 (.long kA0) (.long kA1) (.long kA2) (.long kA3) (.long kA4) (.long kA5)), true)) :: (pA2, .inr (.object "java/lang/Object", (oE64 .null (.ref eA1) (.ref eA2) .null .null .null), true)) :: F)) rfl ?_
  refine Go.aloadN C dc_prog_23_method_4_46 (q := 47) rfl rfl rfl ?_
  refine Go.callU C (y := yN21) (z := yN18) (owner := "com/example/ordered_dispatch/ordereddispatch/SequenceQueue$Part") (a := pA0) (as := []) (rest := []) (wd hw 116 rfl) (wd hw 117 rfl) (wd hw 118 rfl) (wd hw 120 rfl) (wd hw 119 rfl) (wd hw 121 rfl) (wd hw 18 rfl) (fun _ r => r.exa 0 rfl) (u_SequenceQueue_Part_giveBackRoom_156 l Z a0 hw _ pA0 pA1 pA2 eA1 eA2 kA0 kA1 kA2 kA3 kA4 kA5 hE_eA1 hE_eA2) rfl dc_prog_23_method_4_47 (q := 50) rfl (by decide) rfl (na := 0) (by decide +kernel) rfl (by decide) (W := 0) rfl (by decide) (by decide) (by decide) (k' := 0) (n' := 0) rfl rfl ?_
  rintro _ _ ⟨rfl, rfl⟩
  show Go _ _ _ _ _ _ _ _ _ _ []
  refine Go.aloadN C dc_prog_23_method_4_50 (q := 51) rfl rfl rfl ?_
  refine Go.retA C rfl rfl rfl dc_prog_23_method_4_51 (by decide) (by decide) ?_
  exact ⟨rfl, rfl⟩
set_option maxRecDepth 65536 in
set_option maxHeartbeats 40000000 in
theorem u_SequenceQueue_poll_140 (l : Launch) (Z : State) (a0 : Array Value) (hw : ∀ d ∈ tables_1, d.before a0 Z = true) (F : List Ent) (pA0 pA1 pA2 pA3 pA4 pA5 pA6 eA0 eA1 eA2 : Addr) (kA0 kA1 kA2 kA3 kA4 kA5 kA6 kA7 kA8 kA9 kA10 kA11 kA12 : Int64) (hE_eA0 : Exa Z Z.heap eA0 "java/lang/Integer") (hE_eA1 : Exa Z Z.heap eA1 "java/lang/Integer") (hE_eA2 : Exa Z Z.heap eA2 "java/lang/Integer") :
    Met l Z yN6 prog_20_method_3_code 3 (some (.object "java/lang/Object")) { frames := 3, cells := 0, slots := 0, locals := 45 } #[(.ref pA0)] ((pA0, oQ (.ref pA1) (.ref pA4) (.int (1 : Int32)) (.long kA0) (.ref eA0)) :: (pA1, oRun (.ref pA2) (.ref pA3) (.int (2 : Int32)) (.int (0 : Int32))) :: (pA2, .inr (.long, (oK64 (.long kA1) (.long kA2) (.long kA3) (.long kA4) (.long kA5) (.long kA6)), true)) :: (pA3, .inr (.object "java/lang/Object", (oE64 (.ref eA1) (.ref eA2) .null .null .null .null), true)) :: (pA4, oHeap (.ref pA5) (.ref pA6) (.int (0 : Int32))) :: (pA5, .inr (.long, (oK64 (.long kA7) (.long kA8) (.long kA9) (.long kA10) (.long kA11) (.long kA12)), true)) :: (pA6, .inr (.object "java/lang/Object", (oE64 .null .null .null .null .null .null), true)) :: F) (fun r M' => (r = (some (.ref eA0)) ∧ M' = ((pA4, oHeap (.ref pA5) (.ref pA6) (.int (0 : Int32))) :: (pA5, .inr (.long, (oK64 (.long kA0) (.long kA8) (.long kA9) (.long kA10) (.long kA11) (.long kA12)), true)) :: (pA6, .inr (.object "java/lang/Object", (oE64 .null .null .null .null .null .null), true)) :: (pA1, oRun (.ref pA2) (.ref pA3) (.int (2 : Int32)) (.int (0 : Int32))) :: (pA2, .inr (.long, (oK64 (.long kA1) (.long kA2) (.long kA3) (.long kA4) (.long kA5) (.long kA6)), true)) :: (pA3, .inr (.object "java/lang/Object", (oE64 (.ref eA1) (.ref eA2) .null .null .null .null), true)) :: (pA0, oQ (.ref pA1) (.ref pA4) (.int (0 : Int32)) (.long kA0) .null) :: F)) ∨ (r = (some (.ref eA1)) ∧ M' = ((pA1, oRun (.ref pA2) (.ref pA3) (.int (1 : Int32)) (.int (1 : Int32))) :: (pA2, .inr (.long, (oK64 (.long kA1) (.long kA2) (.long kA3) (.long kA4) (.long kA5) (.long kA6)), true)) :: (pA3, .inr (.object "java/lang/Object", (oE64 .null (.ref eA2) .null .null .null .null), true)) :: (pA4, oHeap (.ref pA5) (.ref pA6) (.int (1 : Int32))) :: (pA5, .inr (.long, (oK64 (.long kA0) (.long kA8) (.long kA9) (.long kA10) (.long kA11) (.long kA12)), true)) :: (pA6, .inr (.object "java/lang/Object", (oE64 (.ref eA0) .null .null .null .null .null), true)) :: (pA0, oQ (.ref pA1) (.ref pA4) (.int (0 : Int32)) (.long kA0) .null) :: F)) ∨ (r = (some (.ref eA1)) ∧ M' = ((pA1, oRun (.ref pA2) (.ref pA3) (.int (2 : Int32)) (.int (1 : Int32))) :: (pA2, .inr (.long, (oK64 (.long kA1) (.long kA2) (.long kA0) (.long kA4) (.long kA5) (.long kA6)), true)) :: (pA3, .inr (.object "java/lang/Object", (oE64 .null (.ref eA2) (.ref eA0) .null .null .null), true)) :: (pA0, oQ (.ref pA1) (.ref pA4) (.int (0 : Int32)) (.long kA0) .null) :: (pA4, oHeap (.ref pA5) (.ref pA6) (.int (0 : Int32))) :: (pA5, .inr (.long, (oK64 (.long kA7) (.long kA8) (.long kA9) (.long kA10) (.long kA11) (.long kA12)), true)) :: (pA6, .inr (.object "java/lang/Object", (oE64 .null .null .null .null .null .null), true)) :: F)) ∨ (r = (some (.ref eA0)) ∧ M' = ((pA0, oQ (.ref pA1) (.ref pA4) (.int (0 : Int32)) (.long kA0) .null) :: (pA1, oRun (.ref pA2) (.ref pA3) (.int (2 : Int32)) (.int (0 : Int32))) :: (pA2, .inr (.long, (oK64 (.long kA1) (.long kA2) (.long kA3) (.long kA4) (.long kA5) (.long kA6)), true)) :: (pA3, .inr (.object "java/lang/Object", (oE64 (.ref eA1) (.ref eA2) .null .null .null .null), true)) :: (pA4, oHeap (.ref pA5) (.ref pA6) (.int (0 : Int32))) :: (pA5, .inr (.long, (oK64 (.long kA7) (.long kA8) (.long kA9) (.long kA10) (.long kA11) (.long kA12)), true)) :: (pA6, .inr (.object "java/lang/Object", (oE64 .null .null .null .null .null .null), true)) :: F))) := by
  refine Met.of_go pn_6 (Ls := #[.val (.ref pA0), .unset, .unset]) (fun m => by first | rfl | (simp [entryFrame, mkF, argsToLocals, Value.category, maxLocals]; done)) ?_
  intro E C
  refine Go.aloadN C dc_prog_20_method_3_0 (q := 1) rfl rfl rfl ?_
  refine Go.getF C (host := "") (Or.inl (wd hw 46 rfl)) Via.refl (fun _ r => r.fld 0 2 rfl rfl) dc_prog_20_method_3_1 (q := 4) rfl ?_
  refine Go.ifNo C dc_prog_20_method_3_4 (q := 7) rfl (XT.i0_eq_f (by decide)) ?_
  refine Go.aloadN C dc_prog_20_method_3_7 (q := 8) rfl rfl rfl ?_
  refine Go.getF C (host := "") (Or.inl (wd hw 28 rfl)) Via.refl (fun _ r => r.fld 0 0 rfl rfl) dc_prog_20_method_3_8 (q := 11) rfl ?_
  refine Go.getF C (host := "") (Or.inl (wd hw 48 rfl)) (Via.of (wd hw 49 rfl)) (fun _ r => r.fld 1 2 rfl rfl) dc_prog_20_method_3_11 (q := 14) rfl ?_
  refine Go.ifNo C dc_prog_20_method_3_14 (q := 17) rfl (XT.i0_eq_f (by decide)) ?_
  refine Go.aloadN C dc_prog_20_method_3_17 (q := 18) rfl rfl rfl ?_
  refine Go.getF C (host := "") (Or.inl (wd hw 86 rfl)) Via.refl (fun _ r => r.fld 0 3 rfl rfl) dc_prog_20_method_3_18 (q := 21) rfl ?_
  refine Go.aloadN C dc_prog_20_method_3_21 (q := 22) rfl rfl rfl ?_
  refine Go.getF C (host := "") (Or.inl (wd hw 28 rfl)) Via.refl (fun _ r => r.fld 0 0 rfl rfl) dc_prog_20_method_3_22 (q := 25) rfl ?_
  refine Go.getF C (host := "") (Or.inl (wd hw 114 rfl)) (Via.of (wd hw 108 rfl)) (fun _ r => r.fld 1 0 rfl rfl) dc_prog_20_method_3_25 (q := 28) rfl ?_
  refine Go.aloadN C dc_prog_20_method_3_28 (q := 29) rfl rfl rfl ?_
  refine Go.getF C (host := "") (Or.inl (wd hw 28 rfl)) Via.refl (fun _ r => r.fld 0 0 rfl rfl) dc_prog_20_method_3_29 (q := 32) rfl ?_
  refine Go.getR C (wd hw 115 rfl) (fun _ r => r.fld 1 3 rfl rfl) dc_prog_20_method_3_32 (q := 35) rfl ?_
  refine Go.laload C (fun _ r => r.arr 2 rfl) (by decide) (v := (.long kA1)) rfl dc_prog_20_method_3_35 (q := 36) rfl ?_
  refine Go.lcmpif C dc_prog_20_method_3_36 rfl dc_prog_20_method_3_37 (by decide) (q := 75) rfl (q' := 40) rfl (fun (h36_1 : kA1 < kA0) => ?_) (fun (h36_1 : ¬ kA1 < kA0) => ?_)
  · refine Go.aloadN C dc_prog_20_method_3_75 (q := 76) rfl rfl rfl ?_
    refine Go.getF C (host := "") (Or.inl (wd hw 46 rfl)) Via.refl (fun _ r => r.fld 0 2 rfl rfl) dc_prog_20_method_3_76 (q := 79) rfl ?_
    refine Go.ifNo C dc_prog_20_method_3_79 (q := 82) rfl (XT.i0_eq_f (by decide)) ?_
    refine Go.aloadN C dc_prog_20_method_3_82 (q := 83) rfl rfl rfl ?_
    refine Go.aloadN C dc_prog_20_method_3_83 (q := 84) rfl rfl rfl ?_
    refine Go.getF C (host := "") (Or.inl (wd hw 86 rfl)) Via.refl (fun _ r => r.fld 0 3 rfl rfl) dc_prog_20_method_3_84 (q := 87) rfl ?_
    refine Go.aloadN C dc_prog_20_method_3_87 (q := 88) rfl rfl rfl ?_
    refine Go.getF C (host := "") (Or.inl (wd hw 68 rfl)) Via.refl (fun _ r => r.fld 0 4 rfl rfl) dc_prog_20_method_3_88 (q := 91) rfl ?_
    refine Go.callP C (y := yN14) (a := pA0) (as := [(.long kA0), (.ref eA0)]) (rest := []) (wd hw 88 rfl) (wd hw 89 rfl) (sel_priv (y := yN14) (wd hw 1 rfl) (wd hw 89 rfl) (wd hw 90 rfl) (by decide)) (wd hw 90 rfl) (wd hw 91 rfl) (wd hw 2 rfl) (fun _ r => r.exa 0 rfl) (u_SequenceQueue_place_141 l Z a0 hw _ pA0 pA1 pA2 pA3 pA4 pA5 pA6 eA0 eA0 eA1 eA2 kA0 kA0 kA1 kA2 kA3 kA4 kA5 kA6 kA7 kA8 kA9 kA10 kA11 kA12 hE_eA0 hE_eA0 hE_eA1 hE_eA2) rfl dc_prog_20_method_3_91 (q := 94) rfl (by decide) rfl (na := 2) (by decide +kernel) rfl (by decide) (W := 0) rfl (by decide) (by decide) (by decide) (k' := 0) (n' := 0) rfl rfl ?_
    rintro _ _ (⟨rfl, rfl⟩ | ⟨rfl, rfl⟩)
    · show Go _ _ _ _ _ _ _ _ _ _ []
      refine Go.aloadN C dc_prog_20_method_3_94 (q := 95) rfl rfl rfl ?_
      refine Go.getF C (host := "") (Or.inl (wd hw 39 rfl)) Via.refl (fun _ r => r.fld 6 1 rfl rfl) dc_prog_20_method_3_95 (q := 98) rfl ?_
      refine Go.getF C (host := "") (Or.inl (wd hw 51 rfl)) (Via.of (wd hw 52 rfl)) (fun _ r => r.fld 0 2 rfl rfl) dc_prog_20_method_3_98 (q := 101) rfl ?_
      refine Go.ifNo C dc_prog_20_method_3_101 (q := 104) rfl (XT.i0_eq_f (by decide)) ?_
      refine Go.aloadN C dc_prog_20_method_3_104 (q := 105) rfl rfl rfl ?_
      refine Go.getF C (host := "") (Or.inl (wd hw 28 rfl)) Via.refl (fun _ r => r.fld 6 0 rfl rfl) dc_prog_20_method_3_105 (q := 108) rfl ?_
      refine Go.getF C (host := "") (Or.inl (wd hw 48 rfl)) (Via.of (wd hw 49 rfl)) (fun _ r => r.fld 3 2 rfl rfl) dc_prog_20_method_3_108 (q := 111) rfl ?_
      refine Go.ifNo C dc_prog_20_method_3_111 (q := 114) rfl (XT.i0_le_f (by decide)) ?_
      refine Go.aloadN C dc_prog_20_method_3_114 (q := 115) rfl rfl rfl ?_
      refine Go.getF C (host := "") (Or.inl (wd hw 28 rfl)) Via.refl (fun _ r => r.fld 6 0 rfl rfl) dc_prog_20_method_3_115 (q := 118) rfl ?_
      refine Go.getF C (host := "") (Or.inl (wd hw 114 rfl)) (Via.of (wd hw 108 rfl)) (fun _ r => r.fld 3 0 rfl rfl) dc_prog_20_method_3_118 (q := 121) rfl ?_
      refine Go.aloadN C dc_prog_20_method_3_121 (q := 122) rfl rfl rfl ?_
      refine Go.getF C (host := "") (Or.inl (wd hw 28 rfl)) Via.refl (fun _ r => r.fld 6 0 rfl rfl) dc_prog_20_method_3_122 (q := 125) rfl ?_
      refine Go.getR C (wd hw 115 rfl) (fun _ r => r.fld 3 3 rfl rfl) dc_prog_20_method_3_125 (q := 128) rfl ?_
      refine Go.laload C (fun _ r => r.arr 4 rfl) (by decide) (v := (.long kA1)) rfl dc_prog_20_method_3_128 (q := 129) rfl ?_
      refine Go.aloadN C dc_prog_20_method_3_129 (q := 130) rfl rfl rfl ?_
      refine Go.getF C (host := "") (Or.inl (wd hw 39 rfl)) Via.refl (fun _ r => r.fld 6 1 rfl rfl) dc_prog_20_method_3_130 (q := 133) rfl ?_
      refine Go.getF C (host := "") (Or.inl (wd hw 134 rfl)) (Via.of (wd hw 131 rfl)) (fun _ r => r.fld 0 0 rfl rfl) dc_prog_20_method_3_133 (q := 136) rfl ?_
      refine Go.iconst C dc_prog_20_method_3_136 (q := 137) rfl (v := (0 : Int32)) rfl ?_
      refine Go.laload C (fun _ r => r.arr 1 rfl) (by decide) (v := (.long kA0)) rfl dc_prog_20_method_3_137 (q := 138) rfl ?_
      refine Go.lcmpif C dc_prog_20_method_3_138 rfl dc_prog_20_method_3_139 (by decide) (q := 153) rfl (q' := 142) rfl (fun (h138_2 : kA0 < kA1) => ?_) (fun (h138_2 : ¬ kA0 < kA1) => ?_)
      · refine Go.aloadN C dc_prog_20_method_3_153 (q := 154) rfl rfl rfl ?_
        refine Go.getF C (host := "") (Or.inl (wd hw 39 rfl)) Via.refl (fun _ r => r.fld 6 1 rfl rfl) dc_prog_20_method_3_154 (q := 157) rfl ?_
        refine Go.callPR C (y := yN20) (a := pA4) (as := []) (rest := []) (wd hw 135 rfl) (wd hw 136 rfl) (sel_priv (y := yN20) (wd hw 31 rfl) (wd hw 136 rfl) (wd hw 137 rfl) (by decide)) (wd hw 137 rfl) (wd hw 138 rfl) (wd hw 32 rfl) (fun _ r => r.exa 0 rfl) (u_SequenceQueue_Heap_poll_55 l Z a0 hw _ pA4 pA5 pA6 eA0 kA0 kA8 kA9 kA10 kA11 kA12 hE_eA0) rfl dc_prog_20_method_3_157 (q := 160) rfl (by decide) rfl (na := 0) (by decide +kernel) rfl (by decide) (W := 0) rfl (by decide) (by decide) (by decide) (k' := 0) (n' := 0) rfl rfl ?_
        rintro _ _ ⟨rfl, rfl⟩
        show Go _ _ _ _ _ _ _ _ _ _ [(.ref eA0)]
        refine Go.astoreN C dc_prog_20_method_3_160 (q := 161) rfl rfl (Ls' := #[.val (.ref pA0), .val (.ref eA0), .unset]) rfl ?_
        refine Go.aloadN C dc_prog_20_method_3_161 (q := 162) rfl rfl rfl ?_
        refine Go.iconst C dc_prog_20_method_3_162 (q := 163) rfl (v := (0 : Int32)) rfl ?_
        refine Go.putF C (host := "") (i := 6) (j := 2) (Or.inl (wd hw 46 rfl)) Via.refl rfl rfl (Or.inl (wd hw 47 rfl)) (wd hw 1 rfl) (ty := .boolean) (by decide) rfl rfl dc_prog_20_method_3_163 (q := 166) rfl (M' := ((pA4, oHeap (.ref pA5) (.ref pA6) (.int (0 : Int32))) :: (pA5, .inr (.long, (oK64 (.long kA0) (.long kA8) (.long kA9) (.long kA10) (.long kA11) (.long kA12)), true)) :: (pA6, .inr (.object "java/lang/Object", (oE64 .null .null .null .null .null .null), true)) :: (pA1, oRun (.ref pA2) (.ref pA3) (.int (2 : Int32)) (.int (0 : Int32))) :: (pA2, .inr (.long, (oK64 (.long kA1) (.long kA2) (.long kA3) (.long kA4) (.long kA5) (.long kA6)), true)) :: (pA3, .inr (.object "java/lang/Object", (oE64 (.ref eA1) (.ref eA2) .null .null .null .null), true)) :: (pA0, oQ (.ref pA1) (.ref pA4) (.int (0 : Int32)) (.long kA0) (.ref eA0)) :: F)) rfl ?_
        refine Go.aloadN C dc_prog_20_method_3_166 (q := 167) rfl rfl rfl ?_
        refine Go.aconstNull C dc_prog_20_method_3_167 (q := 168) rfl ?_
        refine Go.putF C (host := "") (i := 6) (j := 4) (Or.inl (wd hw 68 rfl)) Via.refl rfl rfl (Or.inl (wd hw 69 rfl)) (wd hw 1 rfl) (ty := (.object "java/lang/Object")) (by decide) rfl rfl dc_prog_20_method_3_168 (q := 171) rfl (M' := ((pA4, oHeap (.ref pA5) (.ref pA6) (.int (0 : Int32))) :: (pA5, .inr (.long, (oK64 (.long kA0) (.long kA8) (.long kA9) (.long kA10) (.long kA11) (.long kA12)), true)) :: (pA6, .inr (.object "java/lang/Object", (oE64 .null .null .null .null .null .null), true)) :: (pA1, oRun (.ref pA2) (.ref pA3) (.int (2 : Int32)) (.int (0 : Int32))) :: (pA2, .inr (.long, (oK64 (.long kA1) (.long kA2) (.long kA3) (.long kA4) (.long kA5) (.long kA6)), true)) :: (pA3, .inr (.object "java/lang/Object", (oE64 (.ref eA1) (.ref eA2) .null .null .null .null), true)) :: (pA0, oQ (.ref pA1) (.ref pA4) (.int (0 : Int32)) (.long kA0) .null) :: F)) rfl ?_
        refine Go.aloadN C dc_prog_20_method_3_171 (q := 172) rfl rfl rfl ?_
        refine Go.astoreN C dc_prog_20_method_3_172 (q := 173) rfl rfl (Ls' := #[.val (.ref pA0), .val (.ref eA0), .val (.ref eA0)]) rfl ?_
        refine Go.aloadN C dc_prog_20_method_3_173 (q := 174) rfl rfl rfl ?_
        refine Go.retA C rfl rfl rfl dc_prog_20_method_3_174 (by decide) (by decide) ?_
        exact Or.inl ⟨rfl, rfl⟩
      · refine Go.aloadN C dc_prog_20_method_3_142 (q := 143) rfl rfl rfl ?_
        refine Go.getF C (host := "") (Or.inl (wd hw 28 rfl)) Via.refl (fun _ r => r.fld 6 0 rfl rfl) dc_prog_20_method_3_143 (q := 146) rfl ?_
        refine Go.pick (M' := ((pA1, oRun (.ref pA2) (.ref pA3) (.int (2 : Int32)) (.int (0 : Int32))) :: (pA2, .inr (.long, (oK64 (.long kA1) (.long kA2) (.long kA3) (.long kA4) (.long kA5) (.long kA6)), true)) :: (pA3, .inr (.object "java/lang/Object", (oE64 (.ref eA1) (.ref eA2) .null .null .null .null), true)) :: (pA4, oHeap (.ref pA5) (.ref pA6) (.int (1 : Int32))) :: (pA5, .inr (.long, (oK64 (.long kA0) (.long kA8) (.long kA9) (.long kA10) (.long kA11) (.long kA12)), true)) :: (pA6, .inr (.object "java/lang/Object", (oE64 (.ref eA0) .null .null .null .null .null), true)) :: (pA0, oQ (.ref pA1) (.ref pA4) (.int (1 : Int32)) (.long kA0) (.ref eA0)) :: F)) 7 [3, 4, 5, 0, 1, 2, 6] (by decide) (by decide) rfl ?_
        refine Go.callPR C (y := yN5) (a := pA1) (as := []) (rest := []) (wd hw 59 rfl) (wd hw 60 rfl) (sel_priv (y := yN5) (wd hw 10 rfl) (wd hw 60 rfl) (wd hw 61 rfl) (by decide)) (wd hw 61 rfl) (wd hw 62 rfl) (wd hw 11 rfl) (fun _ r => r.exa 0 rfl) (u_SequenceQueue_Run_poll_65 l Z a0 hw _ pA1 pA2 pA3 eA1 eA2 kA1 kA2 kA3 kA4 kA5 kA6 hE_eA1 hE_eA2) rfl dc_prog_20_method_3_146 (q := 149) rfl (by decide) rfl (na := 0) (by decide +kernel) rfl (by decide) (W := 0) rfl (by decide) (by decide) (by decide) (k' := 0) (n' := 0) rfl rfl ?_
        rintro _ _ ⟨rfl, rfl⟩
        show Go _ _ _ _ _ _ _ _ _ _ [(.ref eA1)]
        refine Go.astoreN C dc_prog_20_method_3_149 (q := 150) rfl rfl (Ls' := #[.val (.ref pA0), .val (.ref eA1), .unset]) rfl ?_
        refine Go.goto C dc_prog_20_method_3_150 (by decide) (q := 161) rfl ?_
        refine Go.aloadN C dc_prog_20_method_3_161 (q := 162) rfl rfl rfl ?_
        refine Go.iconst C dc_prog_20_method_3_162 (q := 163) rfl (v := (0 : Int32)) rfl ?_
        refine Go.putF C (host := "") (i := 6) (j := 2) (Or.inl (wd hw 46 rfl)) Via.refl rfl rfl (Or.inl (wd hw 47 rfl)) (wd hw 1 rfl) (ty := .boolean) (by decide) rfl rfl dc_prog_20_method_3_163 (q := 166) rfl (M' := ((pA1, oRun (.ref pA2) (.ref pA3) (.int (1 : Int32)) (.int (1 : Int32))) :: (pA2, .inr (.long, (oK64 (.long kA1) (.long kA2) (.long kA3) (.long kA4) (.long kA5) (.long kA6)), true)) :: (pA3, .inr (.object "java/lang/Object", (oE64 .null (.ref eA2) .null .null .null .null), true)) :: (pA4, oHeap (.ref pA5) (.ref pA6) (.int (1 : Int32))) :: (pA5, .inr (.long, (oK64 (.long kA0) (.long kA8) (.long kA9) (.long kA10) (.long kA11) (.long kA12)), true)) :: (pA6, .inr (.object "java/lang/Object", (oE64 (.ref eA0) .null .null .null .null .null), true)) :: (pA0, oQ (.ref pA1) (.ref pA4) (.int (0 : Int32)) (.long kA0) (.ref eA0)) :: F)) rfl ?_
        refine Go.aloadN C dc_prog_20_method_3_166 (q := 167) rfl rfl rfl ?_
        refine Go.aconstNull C dc_prog_20_method_3_167 (q := 168) rfl ?_
        refine Go.putF C (host := "") (i := 6) (j := 4) (Or.inl (wd hw 68 rfl)) Via.refl rfl rfl (Or.inl (wd hw 69 rfl)) (wd hw 1 rfl) (ty := (.object "java/lang/Object")) (by decide) rfl rfl dc_prog_20_method_3_168 (q := 171) rfl (M' := ((pA1, oRun (.ref pA2) (.ref pA3) (.int (1 : Int32)) (.int (1 : Int32))) :: (pA2, .inr (.long, (oK64 (.long kA1) (.long kA2) (.long kA3) (.long kA4) (.long kA5) (.long kA6)), true)) :: (pA3, .inr (.object "java/lang/Object", (oE64 .null (.ref eA2) .null .null .null .null), true)) :: (pA4, oHeap (.ref pA5) (.ref pA6) (.int (1 : Int32))) :: (pA5, .inr (.long, (oK64 (.long kA0) (.long kA8) (.long kA9) (.long kA10) (.long kA11) (.long kA12)), true)) :: (pA6, .inr (.object "java/lang/Object", (oE64 (.ref eA0) .null .null .null .null .null), true)) :: (pA0, oQ (.ref pA1) (.ref pA4) (.int (0 : Int32)) (.long kA0) .null) :: F)) rfl ?_
        refine Go.aloadN C dc_prog_20_method_3_171 (q := 172) rfl rfl rfl ?_
        refine Go.astoreN C dc_prog_20_method_3_172 (q := 173) rfl rfl (Ls' := #[.val (.ref pA0), .val (.ref eA1), .val (.ref eA1)]) rfl ?_
        refine Go.aloadN C dc_prog_20_method_3_173 (q := 174) rfl rfl rfl ?_
        refine Go.retA C rfl rfl rfl dc_prog_20_method_3_174 (by decide) (by decide) ?_
        exact Or.inr (Or.inl ⟨rfl, rfl⟩)
    · show Go _ _ _ _ _ _ _ _ _ _ []
      refine Go.aloadN C dc_prog_20_method_3_94 (q := 95) rfl rfl rfl ?_
      refine Go.getF C (host := "") (Or.inl (wd hw 39 rfl)) Via.refl (fun _ r => r.fld 3 1 rfl rfl) dc_prog_20_method_3_95 (q := 98) rfl ?_
      refine Go.getF C (host := "") (Or.inl (wd hw 51 rfl)) (Via.of (wd hw 52 rfl)) (fun _ r => r.fld 4 2 rfl rfl) dc_prog_20_method_3_98 (q := 101) rfl ?_
      refine Go.ifYes C dc_prog_20_method_3_101 (by decide) (q := 142) rfl (XT.i0_eq_t (by decide)) ?_
      refine Go.aloadN C dc_prog_20_method_3_142 (q := 143) rfl rfl rfl ?_
      refine Go.getF C (host := "") (Or.inl (wd hw 28 rfl)) Via.refl (fun _ r => r.fld 3 0 rfl rfl) dc_prog_20_method_3_143 (q := 146) rfl ?_
      refine Go.callPR C (y := yN5) (a := pA1) (as := []) (rest := []) (wd hw 59 rfl) (wd hw 60 rfl) (sel_priv (y := yN5) (wd hw 10 rfl) (wd hw 60 rfl) (wd hw 61 rfl) (by decide)) (wd hw 61 rfl) (wd hw 62 rfl) (wd hw 11 rfl) (fun _ r => r.exa 0 rfl) (u_SequenceQueue_Run_poll_153 l Z a0 hw _ pA1 pA2 pA3 eA1 eA2 eA0 kA1 kA2 kA0 kA4 kA5 kA6 hE_eA1 hE_eA2 hE_eA0) rfl dc_prog_20_method_3_146 (q := 149) rfl (by decide) rfl (na := 0) (by decide +kernel) rfl (by decide) (W := 0) rfl (by decide) (by decide) (by decide) (k' := 0) (n' := 0) rfl rfl ?_
      rintro _ _ ⟨rfl, rfl⟩
      show Go _ _ _ _ _ _ _ _ _ _ [(.ref eA1)]
      refine Go.astoreN C dc_prog_20_method_3_149 (q := 150) rfl rfl (Ls' := #[.val (.ref pA0), .val (.ref eA1), .unset]) rfl ?_
      refine Go.goto C dc_prog_20_method_3_150 (by decide) (q := 161) rfl ?_
      refine Go.aloadN C dc_prog_20_method_3_161 (q := 162) rfl rfl rfl ?_
      refine Go.iconst C dc_prog_20_method_3_162 (q := 163) rfl (v := (0 : Int32)) rfl ?_
      refine Go.putF C (host := "") (i := 3) (j := 2) (Or.inl (wd hw 46 rfl)) Via.refl rfl rfl (Or.inl (wd hw 47 rfl)) (wd hw 1 rfl) (ty := .boolean) (by decide) rfl rfl dc_prog_20_method_3_163 (q := 166) rfl (M' := ((pA1, oRun (.ref pA2) (.ref pA3) (.int (2 : Int32)) (.int (1 : Int32))) :: (pA2, .inr (.long, (oK64 (.long kA1) (.long kA2) (.long kA0) (.long kA4) (.long kA5) (.long kA6)), true)) :: (pA3, .inr (.object "java/lang/Object", (oE64 .null (.ref eA2) (.ref eA0) .null .null .null), true)) :: (pA0, oQ (.ref pA1) (.ref pA4) (.int (0 : Int32)) (.long kA0) (.ref eA0)) :: (pA4, oHeap (.ref pA5) (.ref pA6) (.int (0 : Int32))) :: (pA5, .inr (.long, (oK64 (.long kA7) (.long kA8) (.long kA9) (.long kA10) (.long kA11) (.long kA12)), true)) :: (pA6, .inr (.object "java/lang/Object", (oE64 .null .null .null .null .null .null), true)) :: F)) rfl ?_
      refine Go.aloadN C dc_prog_20_method_3_166 (q := 167) rfl rfl rfl ?_
      refine Go.aconstNull C dc_prog_20_method_3_167 (q := 168) rfl ?_
      refine Go.putF C (host := "") (i := 3) (j := 4) (Or.inl (wd hw 68 rfl)) Via.refl rfl rfl (Or.inl (wd hw 69 rfl)) (wd hw 1 rfl) (ty := (.object "java/lang/Object")) (by decide) rfl rfl dc_prog_20_method_3_168 (q := 171) rfl (M' := ((pA1, oRun (.ref pA2) (.ref pA3) (.int (2 : Int32)) (.int (1 : Int32))) :: (pA2, .inr (.long, (oK64 (.long kA1) (.long kA2) (.long kA0) (.long kA4) (.long kA5) (.long kA6)), true)) :: (pA3, .inr (.object "java/lang/Object", (oE64 .null (.ref eA2) (.ref eA0) .null .null .null), true)) :: (pA0, oQ (.ref pA1) (.ref pA4) (.int (0 : Int32)) (.long kA0) .null) :: (pA4, oHeap (.ref pA5) (.ref pA6) (.int (0 : Int32))) :: (pA5, .inr (.long, (oK64 (.long kA7) (.long kA8) (.long kA9) (.long kA10) (.long kA11) (.long kA12)), true)) :: (pA6, .inr (.object "java/lang/Object", (oE64 .null .null .null .null .null .null), true)) :: F)) rfl ?_
      refine Go.aloadN C dc_prog_20_method_3_171 (q := 172) rfl rfl rfl ?_
      refine Go.astoreN C dc_prog_20_method_3_172 (q := 173) rfl rfl (Ls' := #[.val (.ref pA0), .val (.ref eA1), .val (.ref eA1)]) rfl ?_
      refine Go.aloadN C dc_prog_20_method_3_173 (q := 174) rfl rfl rfl ?_
      refine Go.retA C rfl rfl rfl dc_prog_20_method_3_174 (by decide) (by decide) ?_
      exact Or.inr (Or.inr (Or.inl ⟨rfl, rfl⟩))
  · refine Go.aloadN C dc_prog_20_method_3_40 (q := 41) rfl rfl rfl ?_
    refine Go.getF C (host := "") (Or.inl (wd hw 39 rfl)) Via.refl (fun _ r => r.fld 0 1 rfl rfl) dc_prog_20_method_3_41 (q := 44) rfl ?_
    refine Go.getF C (host := "") (Or.inl (wd hw 51 rfl)) (Via.of (wd hw 52 rfl)) (fun _ r => r.fld 4 2 rfl rfl) dc_prog_20_method_3_44 (q := 47) rfl ?_
    refine Go.ifYes C dc_prog_20_method_3_47 (by decide) (q := 67) rfl (XT.i0_eq_t (by decide)) ?_
    refine Go.aloadN C dc_prog_20_method_3_67 (q := 68) rfl rfl rfl ?_
    refine Go.getF C (host := "") (Or.inl (wd hw 68 rfl)) Via.refl (fun _ r => r.fld 0 4 rfl rfl) dc_prog_20_method_3_68 (q := 71) rfl ?_
    refine Go.astoreN C dc_prog_20_method_3_71 (q := 72) rfl rfl (Ls' := #[.val (.ref pA0), .val (.ref eA0), .unset]) rfl ?_
    refine Go.goto C dc_prog_20_method_3_72 (by decide) (q := 161) rfl ?_
    refine Go.aloadN C dc_prog_20_method_3_161 (q := 162) rfl rfl rfl ?_
    refine Go.iconst C dc_prog_20_method_3_162 (q := 163) rfl (v := (0 : Int32)) rfl ?_
    refine Go.putF C (host := "") (i := 0) (j := 2) (Or.inl (wd hw 46 rfl)) Via.refl rfl rfl (Or.inl (wd hw 47 rfl)) (wd hw 1 rfl) (ty := .boolean) (by decide) rfl rfl dc_prog_20_method_3_163 (q := 166) rfl (M' := ((pA0, oQ (.ref pA1) (.ref pA4) (.int (0 : Int32)) (.long kA0) (.ref eA0)) :: (pA1, oRun (.ref pA2) (.ref pA3) (.int (2 : Int32)) (.int (0 : Int32))) :: (pA2, .inr (.long, (oK64 (.long kA1) (.long kA2) (.long kA3) (.long kA4) (.long kA5) (.long kA6)), true)) :: (pA3, .inr (.object "java/lang/Object", (oE64 (.ref eA1) (.ref eA2) .null .null .null .null), true)) :: (pA4, oHeap (.ref pA5) (.ref pA6) (.int (0 : Int32))) :: (pA5, .inr (.long, (oK64 (.long kA7) (.long kA8) (.long kA9) (.long kA10) (.long kA11) (.long kA12)), true)) :: (pA6, .inr (.object "java/lang/Object", (oE64 .null .null .null .null .null .null), true)) :: F)) rfl ?_
    refine Go.aloadN C dc_prog_20_method_3_166 (q := 167) rfl rfl rfl ?_
    refine Go.aconstNull C dc_prog_20_method_3_167 (q := 168) rfl ?_
    refine Go.putF C (host := "") (i := 0) (j := 4) (Or.inl (wd hw 68 rfl)) Via.refl rfl rfl (Or.inl (wd hw 69 rfl)) (wd hw 1 rfl) (ty := (.object "java/lang/Object")) (by decide) rfl rfl dc_prog_20_method_3_168 (q := 171) rfl (M' := ((pA0, oQ (.ref pA1) (.ref pA4) (.int (0 : Int32)) (.long kA0) .null) :: (pA1, oRun (.ref pA2) (.ref pA3) (.int (2 : Int32)) (.int (0 : Int32))) :: (pA2, .inr (.long, (oK64 (.long kA1) (.long kA2) (.long kA3) (.long kA4) (.long kA5) (.long kA6)), true)) :: (pA3, .inr (.object "java/lang/Object", (oE64 (.ref eA1) (.ref eA2) .null .null .null .null), true)) :: (pA4, oHeap (.ref pA5) (.ref pA6) (.int (0 : Int32))) :: (pA5, .inr (.long, (oK64 (.long kA7) (.long kA8) (.long kA9) (.long kA10) (.long kA11) (.long kA12)), true)) :: (pA6, .inr (.object "java/lang/Object", (oE64 .null .null .null .null .null .null), true)) :: F)) rfl ?_
    refine Go.aloadN C dc_prog_20_method_3_171 (q := 172) rfl rfl rfl ?_
    refine Go.astoreN C dc_prog_20_method_3_172 (q := 173) rfl rfl (Ls' := #[.val (.ref pA0), .val (.ref eA0), .val (.ref eA0)]) rfl ?_
    refine Go.aloadN C dc_prog_20_method_3_173 (q := 174) rfl rfl rfl ?_
    refine Go.retA C rfl rfl rfl dc_prog_20_method_3_174 (by decide) (by decide) ?_
    exact Or.inr (Or.inr (Or.inr (⟨rfl, rfl⟩)))
set_option maxRecDepth 65536 in
set_option maxHeartbeats 40000000 in
theorem u_SequenceQueue_isEmpty_160 (l : Launch) (Z : State) (a0 : Array Value) (hw : ∀ d ∈ tables_1, d.before a0 Z = true) (F : List Ent) (pA0 pA1 pA2 pA3 pA4 pA5 pA6 eA0 eA1 : Addr) (kA0 kA1 kA2 kA3 kA4 kA5 kA6 kA7 kA8 kA9 kA10 kA11 kA12 : Int64) (hE_eA0 : Exa Z Z.heap eA0 "java/lang/Integer") (hE_eA1 : Exa Z Z.heap eA1 "java/lang/Integer") :
    Met l Z yN4 prog_20_method_4_code 1 (some .boolean) { frames := 0, cells := 0, slots := 0, locals := 0 } #[(.ref pA0)] ((pA0, oQ (.ref pA1) (.ref pA4) (.int (0 : Int32)) (.long kA0) .null) :: (pA1, oRun (.ref pA2) (.ref pA3) (.int (2 : Int32)) (.int (1 : Int32))) :: (pA2, .inr (.long, (oK64 (.long kA1) (.long kA2) (.long kA3) (.long kA4) (.long kA5) (.long kA6)), true)) :: (pA3, .inr (.object "java/lang/Object", (oE64 .null (.ref eA0) (.ref eA1) .null .null .null), true)) :: (pA4, oHeap (.ref pA5) (.ref pA6) (.int (0 : Int32))) :: (pA5, .inr (.long, (oK64 (.long kA7) (.long kA8) (.long kA9) (.long kA10) (.long kA11) (.long kA12)), true)) :: (pA6, .inr (.object "java/lang/Object", (oE64 .null .null .null .null .null .null), true)) :: F) (fun r M' => (r = (some (.int (0 : Int32))) ∧ M' = ((pA0, oQ (.ref pA1) (.ref pA4) (.int (0 : Int32)) (.long kA0) .null) :: (pA1, oRun (.ref pA2) (.ref pA3) (.int (2 : Int32)) (.int (1 : Int32))) :: (pA2, .inr (.long, (oK64 (.long kA1) (.long kA2) (.long kA3) (.long kA4) (.long kA5) (.long kA6)), true)) :: (pA3, .inr (.object "java/lang/Object", (oE64 .null (.ref eA0) (.ref eA1) .null .null .null), true)) :: (pA4, oHeap (.ref pA5) (.ref pA6) (.int (0 : Int32))) :: (pA5, .inr (.long, (oK64 (.long kA7) (.long kA8) (.long kA9) (.long kA10) (.long kA11) (.long kA12)), true)) :: (pA6, .inr (.object "java/lang/Object", (oE64 .null .null .null .null .null .null), true)) :: F))) := by
  refine Met.of_go pn_4 (Ls := #[.val (.ref pA0)]) (fun m => by first | rfl | (simp [entryFrame, mkF, argsToLocals, Value.category, maxLocals]; done)) ?_
  intro E C
  refine Go.aloadN C dc_prog_20_method_4_0 (q := 1) rfl rfl rfl ?_
  refine Go.getF C (host := "") (Or.inl (wd hw 46 rfl)) Via.refl (fun _ r => r.fld 0 2 rfl rfl) dc_prog_20_method_4_1 (q := 4) rfl ?_
  refine Go.ifNo C dc_prog_20_method_4_4 (q := 7) rfl (XT.i0_ne_f (by decide)) ?_
  refine Go.aloadN C dc_prog_20_method_4_7 (q := 8) rfl rfl rfl ?_
  refine Go.getF C (host := "") (Or.inl (wd hw 28 rfl)) Via.refl (fun _ r => r.fld 0 0 rfl rfl) dc_prog_20_method_4_8 (q := 11) rfl ?_
  refine Go.getF C (host := "") (Or.inl (wd hw 48 rfl)) (Via.of (wd hw 49 rfl)) (fun _ r => r.fld 1 2 rfl rfl) dc_prog_20_method_4_11 (q := 14) rfl ?_
  refine Go.ifYes C dc_prog_20_method_4_14 (by decide) (q := 31) rfl (XT.i0_ne_t (by decide)) ?_
  refine Go.iconst C dc_prog_20_method_4_31 (q := 32) rfl (v := (0 : Int32)) rfl ?_
  refine Go.retZ C rfl (by decide) dc_prog_20_method_4_32 (by decide) (by decide) ?_
  exact ⟨rfl, rfl⟩
set_option maxRecDepth 65536 in
set_option maxHeartbeats 40000000 in
theorem u_SequenceQueue_add_162 (l : Launch) (Z : State) (a0 : Array Value) (hw : ∀ d ∈ tables_1, d.before a0 Z = true) (F : List Ent) (pA0 pA1 pA2 pA3 pA4 pA5 pA6 eA0 eA1 eA2 eA3 : Addr) (kA0 kA1 kA2 kA3 kA4 kA5 kA6 kA7 kA8 kA9 kA10 kA11 kA12 kA13 : Int64) (hE_eA0 : Exa Z Z.heap eA0 "java/lang/Integer") (hE_eA1 : Exa Z Z.heap eA1 "java/lang/Integer") (hE_eA2 : Exa Z Z.heap eA2 "java/lang/Integer") (hE_eA3 : Exa Z Z.heap eA3 "java/lang/Integer") :
    Met l Z yN9 prog_20_method_2_code 4 none { frames := 3, cells := 0, slots := 0, locals := 45 } #[(.ref pA0), (.long kA0), (.ref eA0)] ((pA0, oQ (.ref pA1) (.ref pA4) (.int (1 : Int32)) (.long kA1) (.ref eA1)) :: (pA1, oRun (.ref pA2) (.ref pA3) (.int (2 : Int32)) (.int (0 : Int32))) :: (pA2, .inr (.long, (oK64 (.long kA2) (.long kA3) (.long kA4) (.long kA5) (.long kA6) (.long kA7)), true)) :: (pA3, .inr (.object "java/lang/Object", (oE64 (.ref eA2) (.ref eA3) .null .null .null .null), true)) :: (pA4, oHeap (.ref pA5) (.ref pA6) (.int (0 : Int32))) :: (pA5, .inr (.long, (oK64 (.long kA8) (.long kA9) (.long kA10) (.long kA11) (.long kA12) (.long kA13)), true)) :: (pA6, .inr (.object "java/lang/Object", (oE64 .null .null .null .null .null .null), true)) :: F) (fun r M' => (r = none ∧ M' = ((pA4, oHeap (.ref pA5) (.ref pA6) (.int (1 : Int32))) :: (pA5, .inr (.long, (oK64 (.long kA1) (.long kA9) (.long kA10) (.long kA11) (.long kA12) (.long kA13)), true)) :: (pA6, .inr (.object "java/lang/Object", (oE64 (.ref eA1) .null .null .null .null .null), true)) :: (pA1, oRun (.ref pA2) (.ref pA3) (.int (2 : Int32)) (.int (0 : Int32))) :: (pA2, .inr (.long, (oK64 (.long kA2) (.long kA3) (.long kA4) (.long kA5) (.long kA6) (.long kA7)), true)) :: (pA3, .inr (.object "java/lang/Object", (oE64 (.ref eA2) (.ref eA3) .null .null .null .null), true)) :: (pA0, oQ (.ref pA1) (.ref pA4) (.int (1 : Int32)) (.long kA0) (.ref eA0)) :: F)) ∨ (r = none ∧ M' = ((pA1, oRun (.ref pA2) (.ref pA3) (.int (3 : Int32)) (.int (0 : Int32))) :: (pA2, .inr (.long, (oK64 (.long kA2) (.long kA3) (.long kA1) (.long kA5) (.long kA6) (.long kA7)), true)) :: (pA3, .inr (.object "java/lang/Object", (oE64 (.ref eA2) (.ref eA3) (.ref eA1) .null .null .null), true)) :: (pA0, oQ (.ref pA1) (.ref pA4) (.int (1 : Int32)) (.long kA0) (.ref eA0)) :: (pA4, oHeap (.ref pA5) (.ref pA6) (.int (0 : Int32))) :: (pA5, .inr (.long, (oK64 (.long kA8) (.long kA9) (.long kA10) (.long kA11) (.long kA12) (.long kA13)), true)) :: (pA6, .inr (.object "java/lang/Object", (oE64 .null .null .null .null .null .null), true)) :: F))) := by
  refine Met.of_go pn_9 (Ls := #[.val (.ref pA0), .val (.long kA0), .second, .val (.ref eA0)]) (fun m => by first | rfl | (simp [entryFrame, mkF, argsToLocals, Value.category, maxLocals]; done)) ?_
  intro E C
  refine Go.aloadN C dc_prog_20_method_2_0 (q := 1) rfl rfl rfl ?_
  refine Go.getF C (host := "") (Or.inl (wd hw 46 rfl)) Via.refl (fun _ r => r.fld 0 2 rfl rfl) dc_prog_20_method_2_1 (q := 4) rfl ?_
  refine Go.ifNo C dc_prog_20_method_2_4 (q := 7) rfl (XT.i0_eq_f (by decide)) ?_
  refine Go.aloadN C dc_prog_20_method_2_7 (q := 8) rfl rfl rfl ?_
  refine Go.aloadN C dc_prog_20_method_2_8 (q := 9) rfl rfl rfl ?_
  refine Go.getF C (host := "") (Or.inl (wd hw 86 rfl)) Via.refl (fun _ r => r.fld 0 3 rfl rfl) dc_prog_20_method_2_9 (q := 12) rfl ?_
  refine Go.aloadN C dc_prog_20_method_2_12 (q := 13) rfl rfl rfl ?_
  refine Go.getF C (host := "") (Or.inl (wd hw 68 rfl)) Via.refl (fun _ r => r.fld 0 4 rfl rfl) dc_prog_20_method_2_13 (q := 16) rfl ?_
  refine Go.callP C (y := yN14) (a := pA0) (as := [(.long kA1), (.ref eA1)]) (rest := []) (wd hw 88 rfl) (wd hw 89 rfl) (sel_priv (y := yN14) (wd hw 1 rfl) (wd hw 89 rfl) (wd hw 90 rfl) (by decide)) (wd hw 90 rfl) (wd hw 91 rfl) (wd hw 2 rfl) (fun _ r => r.exa 0 rfl) (u_SequenceQueue_place_141 l Z a0 hw _ pA0 pA1 pA2 pA3 pA4 pA5 pA6 eA1 eA1 eA2 eA3 kA1 kA1 kA2 kA3 kA4 kA5 kA6 kA7 kA8 kA9 kA10 kA11 kA12 kA13 hE_eA1 hE_eA1 hE_eA2 hE_eA3) rfl dc_prog_20_method_2_16 (q := 19) rfl (by decide) rfl (na := 2) (by decide +kernel) rfl (by decide) (W := 0) rfl (by decide) (by decide) (by decide) (k' := 0) (n' := 0) rfl rfl ?_
  rintro _ _ (⟨rfl, rfl⟩ | ⟨rfl, rfl⟩)
  · show Go _ _ _ _ _ _ _ _ _ _ []
    refine Go.aloadN C dc_prog_20_method_2_19 (q := 20) rfl rfl rfl ?_
    refine Go.iconst C dc_prog_20_method_2_20 (q := 21) rfl (v := (1 : Int32)) rfl ?_
    refine Go.putF C (host := "") (i := 6) (j := 2) (Or.inl (wd hw 46 rfl)) Via.refl rfl rfl (Or.inl (wd hw 47 rfl)) (wd hw 1 rfl) (ty := .boolean) (by decide) rfl rfl dc_prog_20_method_2_21 (q := 24) rfl (M' := ((pA4, oHeap (.ref pA5) (.ref pA6) (.int (1 : Int32))) :: (pA5, .inr (.long, (oK64 (.long kA1) (.long kA9) (.long kA10) (.long kA11) (.long kA12) (.long kA13)), true)) :: (pA6, .inr (.object "java/lang/Object", (oE64 (.ref eA1) .null .null .null .null .null), true)) :: (pA1, oRun (.ref pA2) (.ref pA3) (.int (2 : Int32)) (.int (0 : Int32))) :: (pA2, .inr (.long, (oK64 (.long kA2) (.long kA3) (.long kA4) (.long kA5) (.long kA6) (.long kA7)), true)) :: (pA3, .inr (.object "java/lang/Object", (oE64 (.ref eA2) (.ref eA3) .null .null .null .null), true)) :: (pA0, oQ (.ref pA1) (.ref pA4) (.int (1 : Int32)) (.long kA1) (.ref eA1)) :: F)) rfl ?_
    refine Go.aloadN C dc_prog_20_method_2_24 (q := 25) rfl rfl rfl ?_
    refine Go.lloadN C dc_prog_20_method_2_25 (q := 26) rfl rfl ?_
    refine Go.putF C (host := "") (i := 6) (j := 3) (Or.inl (wd hw 86 rfl)) Via.refl rfl rfl (Or.inl (wd hw 87 rfl)) (wd hw 1 rfl) (ty := .long) (by decide) rfl rfl dc_prog_20_method_2_26 (q := 29) rfl (M' := ((pA4, oHeap (.ref pA5) (.ref pA6) (.int (1 : Int32))) :: (pA5, .inr (.long, (oK64 (.long kA1) (.long kA9) (.long kA10) (.long kA11) (.long kA12) (.long kA13)), true)) :: (pA6, .inr (.object "java/lang/Object", (oE64 (.ref eA1) .null .null .null .null .null), true)) :: (pA1, oRun (.ref pA2) (.ref pA3) (.int (2 : Int32)) (.int (0 : Int32))) :: (pA2, .inr (.long, (oK64 (.long kA2) (.long kA3) (.long kA4) (.long kA5) (.long kA6) (.long kA7)), true)) :: (pA3, .inr (.object "java/lang/Object", (oE64 (.ref eA2) (.ref eA3) .null .null .null .null), true)) :: (pA0, oQ (.ref pA1) (.ref pA4) (.int (1 : Int32)) (.long kA0) (.ref eA1)) :: F)) rfl ?_
    refine Go.aloadN C dc_prog_20_method_2_29 (q := 30) rfl rfl rfl ?_
    refine Go.aloadN C dc_prog_20_method_2_30 (q := 31) rfl rfl rfl ?_
    refine Go.putF C (host := "") (i := 6) (j := 4) (Or.inl (wd hw 68 rfl)) Via.refl rfl rfl (Or.inl (wd hw 69 rfl)) (wd hw 1 rfl) (ty := (.object "java/lang/Object")) (by decide) rfl rfl dc_prog_20_method_2_31 (q := 34) rfl (M' := ((pA4, oHeap (.ref pA5) (.ref pA6) (.int (1 : Int32))) :: (pA5, .inr (.long, (oK64 (.long kA1) (.long kA9) (.long kA10) (.long kA11) (.long kA12) (.long kA13)), true)) :: (pA6, .inr (.object "java/lang/Object", (oE64 (.ref eA1) .null .null .null .null .null), true)) :: (pA1, oRun (.ref pA2) (.ref pA3) (.int (2 : Int32)) (.int (0 : Int32))) :: (pA2, .inr (.long, (oK64 (.long kA2) (.long kA3) (.long kA4) (.long kA5) (.long kA6) (.long kA7)), true)) :: (pA3, .inr (.object "java/lang/Object", (oE64 (.ref eA2) (.ref eA3) .null .null .null .null), true)) :: (pA0, oQ (.ref pA1) (.ref pA4) (.int (1 : Int32)) (.long kA0) (.ref eA0)) :: F)) rfl ?_
    refine Go.ret0 C rfl dc_prog_20_method_2_34 (by decide) (by decide) ?_
    exact Or.inl ⟨rfl, rfl⟩
  · show Go _ _ _ _ _ _ _ _ _ _ []
    refine Go.aloadN C dc_prog_20_method_2_19 (q := 20) rfl rfl rfl ?_
    refine Go.iconst C dc_prog_20_method_2_20 (q := 21) rfl (v := (1 : Int32)) rfl ?_
    refine Go.putF C (host := "") (i := 3) (j := 2) (Or.inl (wd hw 46 rfl)) Via.refl rfl rfl (Or.inl (wd hw 47 rfl)) (wd hw 1 rfl) (ty := .boolean) (by decide) rfl rfl dc_prog_20_method_2_21 (q := 24) rfl (M' := ((pA1, oRun (.ref pA2) (.ref pA3) (.int (3 : Int32)) (.int (0 : Int32))) :: (pA2, .inr (.long, (oK64 (.long kA2) (.long kA3) (.long kA1) (.long kA5) (.long kA6) (.long kA7)), true)) :: (pA3, .inr (.object "java/lang/Object", (oE64 (.ref eA2) (.ref eA3) (.ref eA1) .null .null .null), true)) :: (pA0, oQ (.ref pA1) (.ref pA4) (.int (1 : Int32)) (.long kA1) (.ref eA1)) :: (pA4, oHeap (.ref pA5) (.ref pA6) (.int (0 : Int32))) :: (pA5, .inr (.long, (oK64 (.long kA8) (.long kA9) (.long kA10) (.long kA11) (.long kA12) (.long kA13)), true)) :: (pA6, .inr (.object "java/lang/Object", (oE64 .null .null .null .null .null .null), true)) :: F)) rfl ?_
    refine Go.aloadN C dc_prog_20_method_2_24 (q := 25) rfl rfl rfl ?_
    refine Go.lloadN C dc_prog_20_method_2_25 (q := 26) rfl rfl ?_
    refine Go.putF C (host := "") (i := 3) (j := 3) (Or.inl (wd hw 86 rfl)) Via.refl rfl rfl (Or.inl (wd hw 87 rfl)) (wd hw 1 rfl) (ty := .long) (by decide) rfl rfl dc_prog_20_method_2_26 (q := 29) rfl (M' := ((pA1, oRun (.ref pA2) (.ref pA3) (.int (3 : Int32)) (.int (0 : Int32))) :: (pA2, .inr (.long, (oK64 (.long kA2) (.long kA3) (.long kA1) (.long kA5) (.long kA6) (.long kA7)), true)) :: (pA3, .inr (.object "java/lang/Object", (oE64 (.ref eA2) (.ref eA3) (.ref eA1) .null .null .null), true)) :: (pA0, oQ (.ref pA1) (.ref pA4) (.int (1 : Int32)) (.long kA0) (.ref eA1)) :: (pA4, oHeap (.ref pA5) (.ref pA6) (.int (0 : Int32))) :: (pA5, .inr (.long, (oK64 (.long kA8) (.long kA9) (.long kA10) (.long kA11) (.long kA12) (.long kA13)), true)) :: (pA6, .inr (.object "java/lang/Object", (oE64 .null .null .null .null .null .null), true)) :: F)) rfl ?_
    refine Go.aloadN C dc_prog_20_method_2_29 (q := 30) rfl rfl rfl ?_
    refine Go.aloadN C dc_prog_20_method_2_30 (q := 31) rfl rfl rfl ?_
    refine Go.putF C (host := "") (i := 3) (j := 4) (Or.inl (wd hw 68 rfl)) Via.refl rfl rfl (Or.inl (wd hw 69 rfl)) (wd hw 1 rfl) (ty := (.object "java/lang/Object")) (by decide) rfl rfl dc_prog_20_method_2_31 (q := 34) rfl (M' := ((pA1, oRun (.ref pA2) (.ref pA3) (.int (3 : Int32)) (.int (0 : Int32))) :: (pA2, .inr (.long, (oK64 (.long kA2) (.long kA3) (.long kA1) (.long kA5) (.long kA6) (.long kA7)), true)) :: (pA3, .inr (.object "java/lang/Object", (oE64 (.ref eA2) (.ref eA3) (.ref eA1) .null .null .null), true)) :: (pA0, oQ (.ref pA1) (.ref pA4) (.int (1 : Int32)) (.long kA0) (.ref eA0)) :: (pA4, oHeap (.ref pA5) (.ref pA6) (.int (0 : Int32))) :: (pA5, .inr (.long, (oK64 (.long kA8) (.long kA9) (.long kA10) (.long kA11) (.long kA12) (.long kA13)), true)) :: (pA6, .inr (.object "java/lang/Object", (oE64 .null .null .null .null .null .null), true)) :: F)) rfl ?_
    refine Go.ret0 C rfl dc_prog_20_method_2_34 (by decide) (by decide) ?_
    exact Or.inr (⟨rfl, rfl⟩)
set_option maxRecDepth 65536 in
set_option maxHeartbeats 40000000 in
theorem u_SequenceQueue_isEmpty_164 (l : Launch) (Z : State) (a0 : Array Value) (hw : ∀ d ∈ tables_1, d.before a0 Z = true) (F : List Ent) (pA0 pA1 pA2 pA3 pA4 pA5 pA6 eA0 eA1 eA2 eA3 : Addr) (kA0 kA1 kA2 kA3 kA4 kA5 kA6 kA7 kA8 kA9 kA10 kA11 kA12 : Int64) (hE_eA0 : Exa Z Z.heap eA0 "java/lang/Integer") (hE_eA1 : Exa Z Z.heap eA1 "java/lang/Integer") (hE_eA2 : Exa Z Z.heap eA2 "java/lang/Integer") (hE_eA3 : Exa Z Z.heap eA3 "java/lang/Integer") :
    Met l Z yN4 prog_20_method_4_code 1 (some .boolean) { frames := 0, cells := 0, slots := 0, locals := 0 } #[(.ref pA0)] ((pA0, oQ (.ref pA1) (.ref pA4) (.int (1 : Int32)) (.long kA0) (.ref eA0)) :: (pA1, oRun (.ref pA2) (.ref pA3) (.int (3 : Int32)) (.int (0 : Int32))) :: (pA2, .inr (.long, (oK64 (.long kA1) (.long kA2) (.long kA3) (.long kA4) (.long kA5) (.long kA6)), true)) :: (pA3, .inr (.object "java/lang/Object", (oE64 (.ref eA1) (.ref eA2) (.ref eA3) .null .null .null), true)) :: (pA4, oHeap (.ref pA5) (.ref pA6) (.int (0 : Int32))) :: (pA5, .inr (.long, (oK64 (.long kA7) (.long kA8) (.long kA9) (.long kA10) (.long kA11) (.long kA12)), true)) :: (pA6, .inr (.object "java/lang/Object", (oE64 .null .null .null .null .null .null), true)) :: F) (fun r M' => (r = (some (.int (0 : Int32))) ∧ M' = ((pA0, oQ (.ref pA1) (.ref pA4) (.int (1 : Int32)) (.long kA0) (.ref eA0)) :: (pA1, oRun (.ref pA2) (.ref pA3) (.int (3 : Int32)) (.int (0 : Int32))) :: (pA2, .inr (.long, (oK64 (.long kA1) (.long kA2) (.long kA3) (.long kA4) (.long kA5) (.long kA6)), true)) :: (pA3, .inr (.object "java/lang/Object", (oE64 (.ref eA1) (.ref eA2) (.ref eA3) .null .null .null), true)) :: (pA4, oHeap (.ref pA5) (.ref pA6) (.int (0 : Int32))) :: (pA5, .inr (.long, (oK64 (.long kA7) (.long kA8) (.long kA9) (.long kA10) (.long kA11) (.long kA12)), true)) :: (pA6, .inr (.object "java/lang/Object", (oE64 .null .null .null .null .null .null), true)) :: F))) := by
  refine Met.of_go pn_4 (Ls := #[.val (.ref pA0)]) (fun m => by first | rfl | (simp [entryFrame, mkF, argsToLocals, Value.category, maxLocals]; done)) ?_
  intro E C
  refine Go.aloadN C dc_prog_20_method_4_0 (q := 1) rfl rfl rfl ?_
  refine Go.getF C (host := "") (Or.inl (wd hw 46 rfl)) Via.refl (fun _ r => r.fld 0 2 rfl rfl) dc_prog_20_method_4_1 (q := 4) rfl ?_
  refine Go.ifYes C dc_prog_20_method_4_4 (by decide) (q := 31) rfl (XT.i0_ne_t (by decide)) ?_
  refine Go.iconst C dc_prog_20_method_4_31 (q := 32) rfl (v := (0 : Int32)) rfl ?_
  refine Go.retZ C rfl (by decide) dc_prog_20_method_4_32 (by decide) (by decide) ?_
  exact ⟨rfl, rfl⟩
theorem pn_18 : plainFor x = true := by first | (apply plainFor_of_name; simp [plainName, overriddenIn]; done) | decide +kernel
set_option maxRecDepth 65536 in
set_option maxHeartbeats 40000000 in
theorem m_law (l : Launch) (Z : State) (a0 : Array Value) (hw : ∀ d ∈ tables_1, d.before a0 Z = true) (fl : Int32) (ka kb kc kd : Int64) (cb : Addr) (cs : List Value) (S_high : Sta Z Z.heap "java/lang/Integer$IntegerCache" "high" "I" (.int (127 : Int32))) (S_cache : Sta Z Z.heap "java/lang/Integer$IntegerCache" "cache" "[Ljava/lang/Integer;" (.ref cb)) (A_cache : ArrIs Z Z.heap cb (.object "java/lang/Integer") cs) (H_cache : ∀ j : Nat, j < 256 → ∃ b, cs[j]? = some (.ref b) ∧ Exa Z Z.heap b "java/lang/Integer" ∧ Fld Z Z.heap b "java/lang/Integer" "value" "I" (.int (j.toInt32 - 128))) :
    Met l Z x code maxLocals ret room_1 #[(.int fl), (.long ka), (.long kb), (.long kc), (.long kd)] ([]) (fun v _ => v = some (.int 1)) := by
  refine Met.of_go pn_18 (Ls := #[.val (.int fl), .val (.long ka), .second, .val (.long kb), .second, .val (.long kc), .second, .val (.long kd), .second, .unset, .unset, .unset]) (fun m => by first | rfl | (simp [entryFrame, mkF, argsToLocals, Value.category, maxLocals]; done)) ?_
  intro E C
  refine Go.new C (wd hw 0 rfl) (wd hw 1 rfl) (wd hw 2 rfl) [(("com/example/ordered_dispatch/ordereddispatch/SequenceQueue", "run", "Lcom/example/ordered_dispatch/ordereddispatch/SequenceQueue$Run;"), .null), (("com/example/ordered_dispatch/ordereddispatch/SequenceQueue", "heap", "Lcom/example/ordered_dispatch/ordereddispatch/SequenceQueue$Heap;"), .null), (("com/example/ordered_dispatch/ordereddispatch/SequenceQueue", "holding", "Z"), (.int (0 : Int32))), (("com/example/ordered_dispatch/ordereddispatch/SequenceQueue", "heldKey", "J"), (.long (0 : Int64))), (("com/example/ordered_dispatch/ordereddispatch/SequenceQueue", "heldElement", "Ljava/lang/Object;"), .null)] ⟨⟨Or.inr (wd hw 29 rfl), (.object "com/example/ordered_dispatch/ordereddispatch/SequenceQueue$Run"), by decide, rfl⟩, ⟨Or.inr (wd hw 40 rfl), (.object "com/example/ordered_dispatch/ordereddispatch/SequenceQueue$Heap"), by decide, rfl⟩, ⟨Or.inl (wd hw 47 rfl), .boolean, by decide, rfl⟩, ⟨Or.inl (wd hw 87 rfl), .long, by decide, rfl⟩, ⟨Or.inl (wd hw 69 rfl), (.object "java/lang/Object"), by decide, rfl⟩, trivial⟩ (by decide) at_0 (q := 3) rfl (by decide) (by decide) (k' := 1) (n' := 5) rfl rfl (fun o1 => ?_)
  refine Go.dup C at_3 (q := 4) rfl rfl ?_
  refine Go.callI C (y := yN3) (a := o1) (as := []) (rest := [(.ref o1)]) (wd hw 3 rfl) (wd hw 4 rfl) (wd hw 2 rfl) (wd hw 5 rfl) (u_SequenceQueue_init_0 l Z a0 hw _ o1 (0 : Int64)) rfl rfl at_4 (q := 7) rfl (by decide) rfl (na := 0) (by decide +kernel) rfl (by decide) (W := 1) rfl (by decide) (by decide) (by decide) (k' := 7) (n' := 268) rfl rfl ?_
  rintro _ _ ⟨o2, o3, o4, o5, o6, o7, rfl, rfl⟩
  show Go _ _ _ _ _ _ _ _ _ _ [(.ref o1)]
  refine Go.astore C at_7 (q := 9) rfl rfl (Ls' := #[.val (.int fl), .val (.long ka), .second, .val (.long kb), .second, .val (.long kc), .second, .val (.long kd), .second, .val (.ref o1), .unset, .unset]) rfl ?_
  refine Go.iconst C at_9 (q := 10) rfl (v := (0 : Int32)) rfl ?_
  refine Go.istore C at_10 (q := 12) rfl (Ls' := #[.val (.int fl), .val (.long ka), .second, .val (.long kb), .second, .val (.long kc), .second, .val (.long kd), .second, .val (.ref o1), .val (.int (0 : Int32)), .unset]) rfl ?_
  refine Go.aload C at_12 (q := 14) rfl rfl rfl ?_
  refine Go.pick (M' := ((o1, oQ (.ref o7) (.ref o4) (.int (0 : Int32)) (.long (0 : Int64)) .null) :: (o7, oRun (.ref o6) (.ref o5) (.int (0 : Int32)) (.int (0 : Int32))) :: (o6, .inr (.long, (oK64 (.long (0 : Int64)) (.long (0 : Int64)) (.long (0 : Int64)) (.long (0 : Int64)) (.long (0 : Int64)) (.long (0 : Int64))), true)) :: (o5, .inr (.object "java/lang/Object", (oE64 .null .null .null .null .null .null), true)) :: (o4, oHeap (.ref o3) (.ref o2) (.int (0 : Int32))) :: (o3, .inr (.long, (oK64 (.long (0 : Int64)) (.long (0 : Int64)) (.long (0 : Int64)) (.long (0 : Int64)) (.long (0 : Int64)) (.long (0 : Int64))), true)) :: (o2, .inr (.object "java/lang/Object", (oE64 .null .null .null .null .null .null), true)) :: [])) 7 [6, 5, 4, 3, 2, 1, 0] (by decide) (by decide) rfl ?_
  refine Go.callV C (y := yN4) (z := yN4) (a := o1) (as := []) (rest := []) (wd hw 41 rfl) (wd hw 42 rfl) (nf_sel (z := yN4) (wd hw 44 rfl)) (wd hw 44 rfl) (wd hw 43 rfl) (wd hw 45 rfl) (wd hw 2 rfl) (fun _ r => r.exa 0 rfl) (u_SequenceQueue_isEmpty_10 l Z a0 hw _ o1 o7 o6 o5 o4 o3 o2 (0 : Int64) (0 : Int64) (0 : Int64) (0 : Int64) (0 : Int64) (0 : Int64) (0 : Int64) (0 : Int64) (0 : Int64) (0 : Int64) (0 : Int64) (0 : Int64) (0 : Int64)) rfl at_14 (q := 17) rfl (by decide) rfl (na := 0) (by decide +kernel) rfl (by decide) (W := 0) rfl (by decide) (by decide) (by decide) (k' := 7) (n' := 268) rfl rfl ?_
  rintro _ _ ⟨rfl, rfl⟩
  show Go _ _ _ _ _ _ _ _ _ _ [(.int (1 : Int32))]
  refine Go.istore C at_17 (q := 19) rfl (Ls' := #[.val (.int fl), .val (.long ka), .second, .val (.long kb), .second, .val (.long kc), .second, .val (.long kd), .second, .val (.ref o1), .val (.int (0 : Int32)), .val (.int (1 : Int32))]) rfl ?_
  refine Go.iloadN C at_19 (q := 20) rfl rfl ?_
  refine Go.iconst C at_20 (q := 21) rfl (v := (1 : Int32)) rfl ?_
  refine Go.iand C at_21 (q := 22) rfl ?_
  refine Go.ifc C at_22 (by decide) (q := 44) rfl (q' := 25) rfl (fun (h22_1 : (fl &&& (1 : Int32)) = 0) => ?_) (fun (h22_1 : ¬ (fl &&& (1 : Int32)) = 0) => ?_)
  · refine Go.aload C at_44 (q := 46) rfl rfl rfl ?_
    refine Go.callV C (y := yN6) (z := yN6) (a := o1) (as := []) (rest := []) (wd hw 54 rfl) (wd hw 55 rfl) (nf_sel (z := yN6) (wd hw 57 rfl)) (wd hw 57 rfl) (wd hw 56 rfl) (wd hw 58 rfl) (wd hw 2 rfl) (fun _ r => r.exa 0 rfl) (u_SequenceQueue_poll_12 l Z a0 hw _ o1 o7 o6 o5 o4 o3 o2 (0 : Int64) (0 : Int64) (0 : Int64) (0 : Int64) (0 : Int64) (0 : Int64) (0 : Int64) (0 : Int64) (0 : Int64) (0 : Int64) (0 : Int64) (0 : Int64) (0 : Int64)) rfl at_46 (q := 49) rfl (by decide) rfl (na := 0) (by decide +kernel) rfl (by decide) (W := 0) rfl (by decide) (by decide) (by decide) (k' := 7) (n' := 268) rfl rfl ?_
    rintro _ _ ⟨rfl, rfl⟩
    show Go _ _ _ _ _ _ _ _ _ _ [.null]
    refine Go.pop C at_49 (q := 50) rfl rfl ?_
    refine Go.iconst C at_50 (q := 51) rfl (v := (0 : Int32)) rfl ?_
    refine Go.iload C at_51 (q := 53) rfl rfl ?_
    refine Go.iconst C at_53 (q := 54) rfl (v := (1 : Int32)) rfl ?_
    refine Go.isub C at_54 (q := 55) rfl ?_
    refine Go.castI (w := (-1 : Int32)) (by decide) ?_
    refine Go.callS C (y := yN7) (as := [(.int (0 : Int32)), (.int (-1 : Int32))]) (rest := []) (wd hw 70 rfl) (wd hw 71 rfl) (wd hw 72 rfl) (wd hw 73 rfl) (u_Math_max_16 l Z a0 hw _ ) rfl at_55 (q := 58) rfl (by decide) rfl (na := 2) (by decide +kernel) rfl (by decide) (W := 0) rfl (by decide) (by decide) (by decide) (k' := 7) (n' := 268) rfl rfl ?_
    rintro _ _ ⟨rfl, rfl⟩
    show Go _ _ _ _ _ _ _ _ _ _ [(.int (0 : Int32))]
    refine Go.istore C at_58 (q := 60) rfl (Ls' := #[.val (.int fl), .val (.long ka), .second, .val (.long kb), .second, .val (.long kc), .second, .val (.long kd), .second, .val (.ref o1), .val (.int (0 : Int32)), .val (.int (1 : Int32))]) rfl ?_
    refine Go.iload C at_60 (q := 62) rfl rfl ?_
    refine Go.aload C at_62 (q := 64) rfl rfl rfl ?_
    refine Go.pick (M' := ((o1, oQ (.ref o7) (.ref o4) (.int (0 : Int32)) (.long (0 : Int64)) .null) :: (o7, oRun (.ref o6) (.ref o5) (.int (0 : Int32)) (.int (0 : Int32))) :: (o6, .inr (.long, (oK64 (.long (0 : Int64)) (.long (0 : Int64)) (.long (0 : Int64)) (.long (0 : Int64)) (.long (0 : Int64)) (.long (0 : Int64))), true)) :: (o5, .inr (.object "java/lang/Object", (oE64 .null .null .null .null .null .null), true)) :: (o4, oHeap (.ref o3) (.ref o2) (.int (0 : Int32))) :: (o3, .inr (.long, (oK64 (.long (0 : Int64)) (.long (0 : Int64)) (.long (0 : Int64)) (.long (0 : Int64)) (.long (0 : Int64)) (.long (0 : Int64))), true)) :: (o2, .inr (.object "java/lang/Object", (oE64 .null .null .null .null .null .null), true)) :: [])) 7 [3, 0, 1, 2, 4, 5, 6] (by decide) (by decide) rfl ?_
    refine Go.callV C (y := yN4) (z := yN4) (a := o1) (as := []) (rest := [(.int (1 : Int32))]) (wd hw 41 rfl) (wd hw 42 rfl) (nf_sel (z := yN4) (wd hw 44 rfl)) (wd hw 44 rfl) (wd hw 43 rfl) (wd hw 45 rfl) (wd hw 2 rfl) (fun _ r => r.exa 0 rfl) (u_SequenceQueue_isEmpty_10 l Z a0 hw _ o1 o7 o6 o5 o4 o3 o2 (0 : Int64) (0 : Int64) (0 : Int64) (0 : Int64) (0 : Int64) (0 : Int64) (0 : Int64) (0 : Int64) (0 : Int64) (0 : Int64) (0 : Int64) (0 : Int64) (0 : Int64)) rfl at_64 (q := 67) rfl (by decide) rfl (na := 0) (by decide +kernel) rfl (by decide) (W := 1) rfl (by decide) (by decide) (by decide) (k' := 7) (n' := 268) rfl rfl ?_
    rintro _ _ ⟨rfl, rfl⟩
    show Go _ _ _ _ _ _ _ _ _ _ [(.int (1 : Int32)), (.int (1 : Int32))]
    refine Go.iload C at_67 (q := 69) rfl rfl ?_
    refine Go.ifNo C at_69 (q := 72) rfl (XT.i0_ne_f (by decide)) ?_
    refine Go.iconst C at_72 (q := 73) rfl (v := (1 : Int32)) rfl ?_
    refine Go.goto C at_73 (by decide) (q := 77) rfl ?_
    refine Go.icmpNo C at_77 (q := 80) rfl (XT.ii_ne_f (by decide)) ?_
    refine Go.iconst C at_80 (q := 81) rfl (v := (1 : Int32)) rfl ?_
    refine Go.goto C at_81 (by decide) (q := 85) rfl ?_
    refine Go.iand C at_85 (q := 86) rfl ?_
    refine Go.castI (w := (1 : Int32)) (by decide) ?_
    refine Go.istore C at_86 (q := 88) rfl (Ls' := #[.val (.int fl), .val (.long ka), .second, .val (.long kb), .second, .val (.long kc), .second, .val (.long kd), .second, .val (.ref o1), .val (.int (0 : Int32)), .val (.int (1 : Int32))]) rfl ?_
    refine Go.iloadN C at_88 (q := 89) rfl rfl ?_
    refine Go.iconst C at_89 (q := 90) rfl (v := (2 : Int32)) rfl ?_
    refine Go.iand C at_90 (q := 91) rfl ?_
    refine Go.ifc C at_91 (by decide) (q := 113) rfl (q' := 94) rfl (fun (h91_2 : (fl &&& (2 : Int32)) = 0) => ?_) (fun (h91_2 : ¬ (fl &&& (2 : Int32)) = 0) => ?_)
    · refine Go.aload C at_113 (q := 115) rfl rfl rfl ?_
      refine Go.callV C (y := yN6) (z := yN6) (a := o1) (as := []) (rest := []) (wd hw 54 rfl) (wd hw 55 rfl) (nf_sel (z := yN6) (wd hw 57 rfl)) (wd hw 57 rfl) (wd hw 56 rfl) (wd hw 58 rfl) (wd hw 2 rfl) (fun _ r => r.exa 0 rfl) (u_SequenceQueue_poll_12 l Z a0 hw _ o1 o7 o6 o5 o4 o3 o2 (0 : Int64) (0 : Int64) (0 : Int64) (0 : Int64) (0 : Int64) (0 : Int64) (0 : Int64) (0 : Int64) (0 : Int64) (0 : Int64) (0 : Int64) (0 : Int64) (0 : Int64)) rfl at_115 (q := 118) rfl (by decide) rfl (na := 0) (by decide +kernel) rfl (by decide) (W := 0) rfl (by decide) (by decide) (by decide) (k' := 7) (n' := 268) rfl rfl ?_
      rintro _ _ ⟨rfl, rfl⟩
      show Go _ _ _ _ _ _ _ _ _ _ [.null]
      refine Go.pop C at_118 (q := 119) rfl rfl ?_
      refine Go.iconst C at_119 (q := 120) rfl (v := (0 : Int32)) rfl ?_
      refine Go.iload C at_120 (q := 122) rfl rfl ?_
      refine Go.iconst C at_122 (q := 123) rfl (v := (1 : Int32)) rfl ?_
      refine Go.isub C at_123 (q := 124) rfl ?_
      refine Go.castI (w := (-1 : Int32)) (by decide) ?_
      refine Go.callS C (y := yN7) (as := [(.int (0 : Int32)), (.int (-1 : Int32))]) (rest := []) (wd hw 70 rfl) (wd hw 71 rfl) (wd hw 72 rfl) (wd hw 73 rfl) (u_Math_max_16 l Z a0 hw _ ) rfl at_124 (q := 127) rfl (by decide) rfl (na := 2) (by decide +kernel) rfl (by decide) (W := 0) rfl (by decide) (by decide) (by decide) (k' := 7) (n' := 268) rfl rfl ?_
      rintro _ _ ⟨rfl, rfl⟩
      show Go _ _ _ _ _ _ _ _ _ _ [(.int (0 : Int32))]
      refine Go.istore C at_127 (q := 129) rfl (Ls' := #[.val (.int fl), .val (.long ka), .second, .val (.long kb), .second, .val (.long kc), .second, .val (.long kd), .second, .val (.ref o1), .val (.int (0 : Int32)), .val (.int (1 : Int32))]) rfl ?_
      refine Go.iload C at_129 (q := 131) rfl rfl ?_
      refine Go.aload C at_131 (q := 133) rfl rfl rfl ?_
      refine Go.pick (M' := ((o1, oQ (.ref o7) (.ref o4) (.int (0 : Int32)) (.long (0 : Int64)) .null) :: (o7, oRun (.ref o6) (.ref o5) (.int (0 : Int32)) (.int (0 : Int32))) :: (o6, .inr (.long, (oK64 (.long (0 : Int64)) (.long (0 : Int64)) (.long (0 : Int64)) (.long (0 : Int64)) (.long (0 : Int64)) (.long (0 : Int64))), true)) :: (o5, .inr (.object "java/lang/Object", (oE64 .null .null .null .null .null .null), true)) :: (o4, oHeap (.ref o3) (.ref o2) (.int (0 : Int32))) :: (o3, .inr (.long, (oK64 (.long (0 : Int64)) (.long (0 : Int64)) (.long (0 : Int64)) (.long (0 : Int64)) (.long (0 : Int64)) (.long (0 : Int64))), true)) :: (o2, .inr (.object "java/lang/Object", (oE64 .null .null .null .null .null .null), true)) :: [])) 7 [3, 0, 1, 2, 4, 5, 6] (by decide) (by decide) rfl ?_
      refine Go.callV C (y := yN4) (z := yN4) (a := o1) (as := []) (rest := [(.int (1 : Int32))]) (wd hw 41 rfl) (wd hw 42 rfl) (nf_sel (z := yN4) (wd hw 44 rfl)) (wd hw 44 rfl) (wd hw 43 rfl) (wd hw 45 rfl) (wd hw 2 rfl) (fun _ r => r.exa 0 rfl) (u_SequenceQueue_isEmpty_10 l Z a0 hw _ o1 o7 o6 o5 o4 o3 o2 (0 : Int64) (0 : Int64) (0 : Int64) (0 : Int64) (0 : Int64) (0 : Int64) (0 : Int64) (0 : Int64) (0 : Int64) (0 : Int64) (0 : Int64) (0 : Int64) (0 : Int64)) rfl at_133 (q := 136) rfl (by decide) rfl (na := 0) (by decide +kernel) rfl (by decide) (W := 1) rfl (by decide) (by decide) (by decide) (k' := 7) (n' := 268) rfl rfl ?_
      rintro _ _ ⟨rfl, rfl⟩
      show Go _ _ _ _ _ _ _ _ _ _ [(.int (1 : Int32)), (.int (1 : Int32))]
      refine Go.iload C at_136 (q := 138) rfl rfl ?_
      refine Go.ifNo C at_138 (q := 141) rfl (XT.i0_ne_f (by decide)) ?_
      refine Go.iconst C at_141 (q := 142) rfl (v := (1 : Int32)) rfl ?_
      refine Go.goto C at_142 (by decide) (q := 146) rfl ?_
      refine Go.icmpNo C at_146 (q := 149) rfl (XT.ii_ne_f (by decide)) ?_
      refine Go.iconst C at_149 (q := 150) rfl (v := (1 : Int32)) rfl ?_
      refine Go.goto C at_150 (by decide) (q := 154) rfl ?_
      refine Go.iand C at_154 (q := 155) rfl ?_
      refine Go.castI (w := (1 : Int32)) (by decide) ?_
      refine Go.istore C at_155 (q := 157) rfl (Ls' := #[.val (.int fl), .val (.long ka), .second, .val (.long kb), .second, .val (.long kc), .second, .val (.long kd), .second, .val (.ref o1), .val (.int (0 : Int32)), .val (.int (1 : Int32))]) rfl ?_
      refine Go.iloadN C at_157 (q := 158) rfl rfl ?_
      refine Go.iconst C at_158 (q := 159) rfl (v := (4 : Int32)) rfl ?_
      refine Go.iand C at_159 (q := 160) rfl ?_
      refine Go.ifc C at_160 (by decide) (q := 183) rfl (q' := 163) rfl (fun (h160_3 : (fl &&& (4 : Int32)) = 0) => ?_) (fun (h160_3 : ¬ (fl &&& (4 : Int32)) = 0) => ?_)
      · refine Go.aload C at_183 (q := 185) rfl rfl rfl ?_
        refine Go.callV C (y := yN6) (z := yN6) (a := o1) (as := []) (rest := []) (wd hw 54 rfl) (wd hw 55 rfl) (nf_sel (z := yN6) (wd hw 57 rfl)) (wd hw 57 rfl) (wd hw 56 rfl) (wd hw 58 rfl) (wd hw 2 rfl) (fun _ r => r.exa 0 rfl) (u_SequenceQueue_poll_12 l Z a0 hw _ o1 o7 o6 o5 o4 o3 o2 (0 : Int64) (0 : Int64) (0 : Int64) (0 : Int64) (0 : Int64) (0 : Int64) (0 : Int64) (0 : Int64) (0 : Int64) (0 : Int64) (0 : Int64) (0 : Int64) (0 : Int64)) rfl at_185 (q := 188) rfl (by decide) rfl (na := 0) (by decide +kernel) rfl (by decide) (W := 0) rfl (by decide) (by decide) (by decide) (k' := 7) (n' := 268) rfl rfl ?_
        rintro _ _ ⟨rfl, rfl⟩
        show Go _ _ _ _ _ _ _ _ _ _ [.null]
        refine Go.pop C at_188 (q := 189) rfl rfl ?_
        refine Go.iconst C at_189 (q := 190) rfl (v := (0 : Int32)) rfl ?_
        refine Go.iload C at_190 (q := 192) rfl rfl ?_
        refine Go.iconst C at_192 (q := 193) rfl (v := (1 : Int32)) rfl ?_
        refine Go.isub C at_193 (q := 194) rfl ?_
        refine Go.castI (w := (-1 : Int32)) (by decide) ?_
        refine Go.callS C (y := yN7) (as := [(.int (0 : Int32)), (.int (-1 : Int32))]) (rest := []) (wd hw 70 rfl) (wd hw 71 rfl) (wd hw 72 rfl) (wd hw 73 rfl) (u_Math_max_16 l Z a0 hw _ ) rfl at_194 (q := 197) rfl (by decide) rfl (na := 2) (by decide +kernel) rfl (by decide) (W := 0) rfl (by decide) (by decide) (by decide) (k' := 7) (n' := 268) rfl rfl ?_
        rintro _ _ ⟨rfl, rfl⟩
        show Go _ _ _ _ _ _ _ _ _ _ [(.int (0 : Int32))]
        refine Go.istore C at_197 (q := 199) rfl (Ls' := #[.val (.int fl), .val (.long ka), .second, .val (.long kb), .second, .val (.long kc), .second, .val (.long kd), .second, .val (.ref o1), .val (.int (0 : Int32)), .val (.int (1 : Int32))]) rfl ?_
        refine Go.iload C at_199 (q := 201) rfl rfl ?_
        refine Go.aload C at_201 (q := 203) rfl rfl rfl ?_
        refine Go.pick (M' := ((o1, oQ (.ref o7) (.ref o4) (.int (0 : Int32)) (.long (0 : Int64)) .null) :: (o7, oRun (.ref o6) (.ref o5) (.int (0 : Int32)) (.int (0 : Int32))) :: (o6, .inr (.long, (oK64 (.long (0 : Int64)) (.long (0 : Int64)) (.long (0 : Int64)) (.long (0 : Int64)) (.long (0 : Int64)) (.long (0 : Int64))), true)) :: (o5, .inr (.object "java/lang/Object", (oE64 .null .null .null .null .null .null), true)) :: (o4, oHeap (.ref o3) (.ref o2) (.int (0 : Int32))) :: (o3, .inr (.long, (oK64 (.long (0 : Int64)) (.long (0 : Int64)) (.long (0 : Int64)) (.long (0 : Int64)) (.long (0 : Int64)) (.long (0 : Int64))), true)) :: (o2, .inr (.object "java/lang/Object", (oE64 .null .null .null .null .null .null), true)) :: [])) 7 [3, 0, 1, 2, 4, 5, 6] (by decide) (by decide) rfl ?_
        refine Go.callV C (y := yN4) (z := yN4) (a := o1) (as := []) (rest := [(.int (1 : Int32))]) (wd hw 41 rfl) (wd hw 42 rfl) (nf_sel (z := yN4) (wd hw 44 rfl)) (wd hw 44 rfl) (wd hw 43 rfl) (wd hw 45 rfl) (wd hw 2 rfl) (fun _ r => r.exa 0 rfl) (u_SequenceQueue_isEmpty_10 l Z a0 hw _ o1 o7 o6 o5 o4 o3 o2 (0 : Int64) (0 : Int64) (0 : Int64) (0 : Int64) (0 : Int64) (0 : Int64) (0 : Int64) (0 : Int64) (0 : Int64) (0 : Int64) (0 : Int64) (0 : Int64) (0 : Int64)) rfl at_203 (q := 206) rfl (by decide) rfl (na := 0) (by decide +kernel) rfl (by decide) (W := 1) rfl (by decide) (by decide) (by decide) (k' := 7) (n' := 268) rfl rfl ?_
        rintro _ _ ⟨rfl, rfl⟩
        show Go _ _ _ _ _ _ _ _ _ _ [(.int (1 : Int32)), (.int (1 : Int32))]
        refine Go.iload C at_206 (q := 208) rfl rfl ?_
        refine Go.ifNo C at_208 (q := 211) rfl (XT.i0_ne_f (by decide)) ?_
        refine Go.iconst C at_211 (q := 212) rfl (v := (1 : Int32)) rfl ?_
        refine Go.goto C at_212 (by decide) (q := 216) rfl ?_
        refine Go.icmpNo C at_216 (q := 219) rfl (XT.ii_ne_f (by decide)) ?_
        refine Go.iconst C at_219 (q := 220) rfl (v := (1 : Int32)) rfl ?_
        refine Go.goto C at_220 (by decide) (q := 224) rfl ?_
        refine Go.iand C at_224 (q := 225) rfl ?_
        refine Go.castI (w := (1 : Int32)) (by decide) ?_
        refine Go.istore C at_225 (q := 227) rfl (Ls' := #[.val (.int fl), .val (.long ka), .second, .val (.long kb), .second, .val (.long kc), .second, .val (.long kd), .second, .val (.ref o1), .val (.int (0 : Int32)), .val (.int (1 : Int32))]) rfl ?_
        refine Go.iloadN C at_227 (q := 228) rfl rfl ?_
        refine Go.bipush C at_228 (q := 230) rfl (v := (8 : Int32)) (by decide) ?_
        refine Go.iand C at_230 (q := 231) rfl ?_
        refine Go.ifc C at_231 (by decide) (q := 254) rfl (q' := 234) rfl (fun (h231_4 : (fl &&& (8 : Int32)) = 0) => ?_) (fun (h231_4 : ¬ (fl &&& (8 : Int32)) = 0) => ?_)
        · refine Go.aload C at_254 (q := 256) rfl rfl rfl ?_
          refine Go.callV C (y := yN6) (z := yN6) (a := o1) (as := []) (rest := []) (wd hw 54 rfl) (wd hw 55 rfl) (nf_sel (z := yN6) (wd hw 57 rfl)) (wd hw 57 rfl) (wd hw 56 rfl) (wd hw 58 rfl) (wd hw 2 rfl) (fun _ r => r.exa 0 rfl) (u_SequenceQueue_poll_12 l Z a0 hw _ o1 o7 o6 o5 o4 o3 o2 (0 : Int64) (0 : Int64) (0 : Int64) (0 : Int64) (0 : Int64) (0 : Int64) (0 : Int64) (0 : Int64) (0 : Int64) (0 : Int64) (0 : Int64) (0 : Int64) (0 : Int64)) rfl at_256 (q := 259) rfl (by decide) rfl (na := 0) (by decide +kernel) rfl (by decide) (W := 0) rfl (by decide) (by decide) (by decide) (k' := 7) (n' := 268) rfl rfl ?_
          rintro _ _ ⟨rfl, rfl⟩
          show Go _ _ _ _ _ _ _ _ _ _ [.null]
          refine Go.pop C at_259 (q := 260) rfl rfl ?_
          refine Go.iconst C at_260 (q := 261) rfl (v := (0 : Int32)) rfl ?_
          refine Go.iload C at_261 (q := 263) rfl rfl ?_
          refine Go.iconst C at_263 (q := 264) rfl (v := (1 : Int32)) rfl ?_
          refine Go.isub C at_264 (q := 265) rfl ?_
          refine Go.castI (w := (-1 : Int32)) (by decide) ?_
          refine Go.callS C (y := yN7) (as := [(.int (0 : Int32)), (.int (-1 : Int32))]) (rest := []) (wd hw 70 rfl) (wd hw 71 rfl) (wd hw 72 rfl) (wd hw 73 rfl) (u_Math_max_16 l Z a0 hw _ ) rfl at_265 (q := 268) rfl (by decide) rfl (na := 2) (by decide +kernel) rfl (by decide) (W := 0) rfl (by decide) (by decide) (by decide) (k' := 7) (n' := 268) rfl rfl ?_
          rintro _ _ ⟨rfl, rfl⟩
          show Go _ _ _ _ _ _ _ _ _ _ [(.int (0 : Int32))]
          refine Go.istore C at_268 (q := 270) rfl (Ls' := #[.val (.int fl), .val (.long ka), .second, .val (.long kb), .second, .val (.long kc), .second, .val (.long kd), .second, .val (.ref o1), .val (.int (0 : Int32)), .val (.int (1 : Int32))]) rfl ?_
          refine Go.iload C at_270 (q := 272) rfl rfl ?_
          refine Go.aload C at_272 (q := 274) rfl rfl rfl ?_
          refine Go.pick (M' := ((o1, oQ (.ref o7) (.ref o4) (.int (0 : Int32)) (.long (0 : Int64)) .null) :: (o7, oRun (.ref o6) (.ref o5) (.int (0 : Int32)) (.int (0 : Int32))) :: (o6, .inr (.long, (oK64 (.long (0 : Int64)) (.long (0 : Int64)) (.long (0 : Int64)) (.long (0 : Int64)) (.long (0 : Int64)) (.long (0 : Int64))), true)) :: (o5, .inr (.object "java/lang/Object", (oE64 .null .null .null .null .null .null), true)) :: (o4, oHeap (.ref o3) (.ref o2) (.int (0 : Int32))) :: (o3, .inr (.long, (oK64 (.long (0 : Int64)) (.long (0 : Int64)) (.long (0 : Int64)) (.long (0 : Int64)) (.long (0 : Int64)) (.long (0 : Int64))), true)) :: (o2, .inr (.object "java/lang/Object", (oE64 .null .null .null .null .null .null), true)) :: [])) 7 [3, 0, 1, 2, 4, 5, 6] (by decide) (by decide) rfl ?_
          refine Go.callV C (y := yN4) (z := yN4) (a := o1) (as := []) (rest := [(.int (1 : Int32))]) (wd hw 41 rfl) (wd hw 42 rfl) (nf_sel (z := yN4) (wd hw 44 rfl)) (wd hw 44 rfl) (wd hw 43 rfl) (wd hw 45 rfl) (wd hw 2 rfl) (fun _ r => r.exa 0 rfl) (u_SequenceQueue_isEmpty_10 l Z a0 hw _ o1 o7 o6 o5 o4 o3 o2 (0 : Int64) (0 : Int64) (0 : Int64) (0 : Int64) (0 : Int64) (0 : Int64) (0 : Int64) (0 : Int64) (0 : Int64) (0 : Int64) (0 : Int64) (0 : Int64) (0 : Int64)) rfl at_274 (q := 277) rfl (by decide) rfl (na := 0) (by decide +kernel) rfl (by decide) (W := 1) rfl (by decide) (by decide) (by decide) (k' := 7) (n' := 268) rfl rfl ?_
          rintro _ _ ⟨rfl, rfl⟩
          show Go _ _ _ _ _ _ _ _ _ _ [(.int (1 : Int32)), (.int (1 : Int32))]
          refine Go.iload C at_277 (q := 279) rfl rfl ?_
          refine Go.ifNo C at_279 (q := 282) rfl (XT.i0_ne_f (by decide)) ?_
          refine Go.iconst C at_282 (q := 283) rfl (v := (1 : Int32)) rfl ?_
          refine Go.goto C at_283 (by decide) (q := 287) rfl ?_
          refine Go.icmpNo C at_287 (q := 290) rfl (XT.ii_ne_f (by decide)) ?_
          refine Go.iconst C at_290 (q := 291) rfl (v := (1 : Int32)) rfl ?_
          refine Go.goto C at_291 (by decide) (q := 295) rfl ?_
          refine Go.iand C at_295 (q := 296) rfl ?_
          refine Go.castI (w := (1 : Int32)) (by decide) ?_
          refine Go.istore C at_296 (q := 298) rfl (Ls' := #[.val (.int fl), .val (.long ka), .second, .val (.long kb), .second, .val (.long kc), .second, .val (.long kd), .second, .val (.ref o1), .val (.int (0 : Int32)), .val (.int (1 : Int32))]) rfl ?_
          refine Go.iload C at_298 (q := 300) rfl rfl ?_
          refine Go.retZ C rfl (by decide) at_300 (by decide) (by decide) ?_
          exact rfl
        · refine Go.aload C at_234 (q := 236) rfl rfl rfl ?_
          refine Go.lload C at_236 (q := 238) rfl rfl ?_
          refine Go.iconst C at_238 (q := 239) rfl (v := (3 : Int32)) rfl ?_
          refine Go.callS C (y := yN8) (as := [(.int (3 : Int32))]) (rest := [(.long kd), (.ref o1)]) (wd hw 74 rfl) (wd hw 75 rfl) (wd hw 76 rfl) (wd hw 77 rfl) (m_valueOf3 l Z a0 hw _ cb cs S_high S_cache A_cache H_cache) rfl at_239 (q := 242) rfl (by decide) rfl (na := 1) (by decide +kernel) rfl (by decide) (W := 3) rfl (by decide) (by decide) (by decide) (k' := 7) (n' := 268) rfl rfl ?_
          rintro _ _ ⟨bx8, rfl, rfl, hE_bx8, hF_bx8⟩
          show Go _ _ _ _ _ _ _ _ _ _ [(.ref bx8), (.long kd), (.ref o1)]
          refine Go.callV C (y := yN9) (z := yN9) (a := o1) (as := [(.long kd), (.ref bx8)]) (rest := []) (wd hw 81 rfl) (wd hw 82 rfl) (nf_sel (z := yN9) (wd hw 84 rfl)) (wd hw 84 rfl) (wd hw 83 rfl) (wd hw 85 rfl) (wd hw 2 rfl) (fun _ r => r.exa 0 rfl) (u_SequenceQueue_add_18 l Z a0 hw _ o1 o7 o6 o5 o4 o3 o2 bx8 kd (0 : Int64) (0 : Int64) (0 : Int64) (0 : Int64) (0 : Int64) (0 : Int64) (0 : Int64) (0 : Int64) (0 : Int64) (0 : Int64) (0 : Int64) (0 : Int64) (0 : Int64) hE_bx8) rfl at_242 (q := 245) rfl (by decide) rfl (na := 2) (by decide +kernel) rfl (by decide) (W := 0) rfl (by decide) (by decide) (by decide) (k' := 7) (n' := 268) rfl rfl ?_
          rintro _ _ ⟨rfl, rfl⟩
          show Go _ _ _ _ _ _ _ _ _ _ []
          refine Go.iload C at_245 (q := 247) rfl rfl ?_
          refine Go.iconst C at_247 (q := 248) rfl (v := (1 : Int32)) rfl ?_
          refine Go.iadd C at_248 (q := 249) rfl ?_
          refine Go.castI (w := (1 : Int32)) (by decide) ?_
          refine Go.istore C at_249 (q := 251) rfl (Ls' := #[.val (.int fl), .val (.long ka), .second, .val (.long kb), .second, .val (.long kc), .second, .val (.long kd), .second, .val (.ref o1), .val (.int (1 : Int32)), .val (.int (1 : Int32))]) rfl ?_
          refine Go.goto C at_251 (by decide) (q := 270) rfl ?_
          refine Go.iload C at_270 (q := 272) rfl rfl ?_
          refine Go.aload C at_272 (q := 274) rfl rfl rfl ?_
          refine Go.callV C (y := yN4) (z := yN4) (a := o1) (as := []) (rest := [(.int (1 : Int32))]) (wd hw 41 rfl) (wd hw 42 rfl) (nf_sel (z := yN4) (wd hw 44 rfl)) (wd hw 44 rfl) (wd hw 43 rfl) (wd hw 45 rfl) (wd hw 2 rfl) (fun _ r => r.exa 0 rfl) (u_SequenceQueue_isEmpty_20 l Z a0 hw _ o1 o7 o6 o5 o4 o3 o2 bx8 kd (0 : Int64) (0 : Int64) (0 : Int64) (0 : Int64) (0 : Int64) (0 : Int64) (0 : Int64) (0 : Int64) (0 : Int64) (0 : Int64) (0 : Int64) (0 : Int64) hE_bx8) rfl at_274 (q := 277) rfl (by decide) rfl (na := 0) (by decide +kernel) rfl (by decide) (W := 1) rfl (by decide) (by decide) (by decide) (k' := 7) (n' := 268) rfl rfl ?_
          rintro _ _ ⟨rfl, rfl⟩
          show Go _ _ _ _ _ _ _ _ _ _ [(.int (0 : Int32)), (.int (1 : Int32))]
          refine Go.iload C at_277 (q := 279) rfl rfl ?_
          refine Go.ifYes C at_279 (by decide) (q := 286) rfl (XT.i0_ne_t (by decide)) ?_
          refine Go.iconst C at_286 (q := 287) rfl (v := (0 : Int32)) rfl ?_
          refine Go.icmpNo C at_287 (q := 290) rfl (XT.ii_ne_f (by decide)) ?_
          refine Go.iconst C at_290 (q := 291) rfl (v := (1 : Int32)) rfl ?_
          refine Go.goto C at_291 (by decide) (q := 295) rfl ?_
          refine Go.iand C at_295 (q := 296) rfl ?_
          refine Go.castI (w := (1 : Int32)) (by decide) ?_
          refine Go.istore C at_296 (q := 298) rfl (Ls' := #[.val (.int fl), .val (.long ka), .second, .val (.long kb), .second, .val (.long kc), .second, .val (.long kd), .second, .val (.ref o1), .val (.int (1 : Int32)), .val (.int (1 : Int32))]) rfl ?_
          refine Go.iload C at_298 (q := 300) rfl rfl ?_
          refine Go.retZ C rfl (by decide) at_300 (by decide) (by decide) ?_
          exact rfl
      · refine Go.aload C at_163 (q := 165) rfl rfl rfl ?_
        refine Go.lload C at_165 (q := 167) rfl rfl ?_
        refine Go.iconst C at_167 (q := 168) rfl (v := (2 : Int32)) rfl ?_
        refine Go.callS C (y := yN8) (as := [(.int (2 : Int32))]) (rest := [(.long kc), (.ref o1)]) (wd hw 74 rfl) (wd hw 75 rfl) (wd hw 76 rfl) (wd hw 77 rfl) (m_valueOf2 l Z a0 hw _ cb cs S_high S_cache A_cache H_cache) rfl at_168 (q := 171) rfl (by decide) rfl (na := 1) (by decide +kernel) rfl (by decide) (W := 3) rfl (by decide) (by decide) (by decide) (k' := 7) (n' := 268) rfl rfl ?_
        rintro _ _ ⟨bx9, rfl, rfl, hE_bx9, hF_bx9⟩
        show Go _ _ _ _ _ _ _ _ _ _ [(.ref bx9), (.long kc), (.ref o1)]
        refine Go.callV C (y := yN9) (z := yN9) (a := o1) (as := [(.long kc), (.ref bx9)]) (rest := []) (wd hw 81 rfl) (wd hw 82 rfl) (nf_sel (z := yN9) (wd hw 84 rfl)) (wd hw 84 rfl) (wd hw 83 rfl) (wd hw 85 rfl) (wd hw 2 rfl) (fun _ r => r.exa 0 rfl) (u_SequenceQueue_add_18 l Z a0 hw _ o1 o7 o6 o5 o4 o3 o2 bx9 kc (0 : Int64) (0 : Int64) (0 : Int64) (0 : Int64) (0 : Int64) (0 : Int64) (0 : Int64) (0 : Int64) (0 : Int64) (0 : Int64) (0 : Int64) (0 : Int64) (0 : Int64) hE_bx9) rfl at_171 (q := 174) rfl (by decide) rfl (na := 2) (by decide +kernel) rfl (by decide) (W := 0) rfl (by decide) (by decide) (by decide) (k' := 7) (n' := 268) rfl rfl ?_
        rintro _ _ ⟨rfl, rfl⟩
        show Go _ _ _ _ _ _ _ _ _ _ []
        refine Go.iload C at_174 (q := 176) rfl rfl ?_
        refine Go.iconst C at_176 (q := 177) rfl (v := (1 : Int32)) rfl ?_
        refine Go.iadd C at_177 (q := 178) rfl ?_
        refine Go.castI (w := (1 : Int32)) (by decide) ?_
        refine Go.istore C at_178 (q := 180) rfl (Ls' := #[.val (.int fl), .val (.long ka), .second, .val (.long kb), .second, .val (.long kc), .second, .val (.long kd), .second, .val (.ref o1), .val (.int (1 : Int32)), .val (.int (1 : Int32))]) rfl ?_
        refine Go.goto C at_180 (by decide) (q := 199) rfl ?_
        refine Go.iload C at_199 (q := 201) rfl rfl ?_
        refine Go.aload C at_201 (q := 203) rfl rfl rfl ?_
        refine Go.callV C (y := yN4) (z := yN4) (a := o1) (as := []) (rest := [(.int (1 : Int32))]) (wd hw 41 rfl) (wd hw 42 rfl) (nf_sel (z := yN4) (wd hw 44 rfl)) (wd hw 44 rfl) (wd hw 43 rfl) (wd hw 45 rfl) (wd hw 2 rfl) (fun _ r => r.exa 0 rfl) (u_SequenceQueue_isEmpty_20 l Z a0 hw _ o1 o7 o6 o5 o4 o3 o2 bx9 kc (0 : Int64) (0 : Int64) (0 : Int64) (0 : Int64) (0 : Int64) (0 : Int64) (0 : Int64) (0 : Int64) (0 : Int64) (0 : Int64) (0 : Int64) (0 : Int64) hE_bx9) rfl at_203 (q := 206) rfl (by decide) rfl (na := 0) (by decide +kernel) rfl (by decide) (W := 1) rfl (by decide) (by decide) (by decide) (k' := 7) (n' := 268) rfl rfl ?_
        rintro _ _ ⟨rfl, rfl⟩
        show Go _ _ _ _ _ _ _ _ _ _ [(.int (0 : Int32)), (.int (1 : Int32))]
        refine Go.iload C at_206 (q := 208) rfl rfl ?_
        refine Go.ifYes C at_208 (by decide) (q := 215) rfl (XT.i0_ne_t (by decide)) ?_
        refine Go.iconst C at_215 (q := 216) rfl (v := (0 : Int32)) rfl ?_
        refine Go.icmpNo C at_216 (q := 219) rfl (XT.ii_ne_f (by decide)) ?_
        refine Go.iconst C at_219 (q := 220) rfl (v := (1 : Int32)) rfl ?_
        refine Go.goto C at_220 (by decide) (q := 224) rfl ?_
        refine Go.iand C at_224 (q := 225) rfl ?_
        refine Go.castI (w := (1 : Int32)) (by decide) ?_
        refine Go.istore C at_225 (q := 227) rfl (Ls' := #[.val (.int fl), .val (.long ka), .second, .val (.long kb), .second, .val (.long kc), .second, .val (.long kd), .second, .val (.ref o1), .val (.int (1 : Int32)), .val (.int (1 : Int32))]) rfl ?_
        refine Go.iloadN C at_227 (q := 228) rfl rfl ?_
        refine Go.bipush C at_228 (q := 230) rfl (v := (8 : Int32)) (by decide) ?_
        refine Go.iand C at_230 (q := 231) rfl ?_
        refine Go.ifc C at_231 (by decide) (q := 254) rfl (q' := 234) rfl (fun (h231_5 : (fl &&& (8 : Int32)) = 0) => ?_) (fun (h231_5 : ¬ (fl &&& (8 : Int32)) = 0) => ?_)
        · refine Go.aload C at_254 (q := 256) rfl rfl rfl ?_
          refine Go.callV C (y := yN6) (z := yN6) (a := o1) (as := []) (rest := []) (wd hw 54 rfl) (wd hw 55 rfl) (nf_sel (z := yN6) (wd hw 57 rfl)) (wd hw 57 rfl) (wd hw 56 rfl) (wd hw 58 rfl) (wd hw 2 rfl) (fun _ r => r.exa 0 rfl) (u_SequenceQueue_poll_22 l Z a0 hw _ o1 o7 o6 o5 o4 o3 o2 bx9 kc (0 : Int64) (0 : Int64) (0 : Int64) (0 : Int64) (0 : Int64) (0 : Int64) (0 : Int64) (0 : Int64) (0 : Int64) (0 : Int64) (0 : Int64) (0 : Int64) hE_bx9) rfl at_256 (q := 259) rfl (by decide) rfl (na := 0) (by decide +kernel) rfl (by decide) (W := 0) rfl (by decide) (by decide) (by decide) (k' := 7) (n' := 268) rfl rfl ?_
          rintro _ _ ⟨rfl, rfl⟩
          show Go _ _ _ _ _ _ _ _ _ _ [(.ref bx9)]
          refine Go.pop C at_259 (q := 260) rfl rfl ?_
          refine Go.iconst C at_260 (q := 261) rfl (v := (0 : Int32)) rfl ?_
          refine Go.iload C at_261 (q := 263) rfl rfl ?_
          refine Go.iconst C at_263 (q := 264) rfl (v := (1 : Int32)) rfl ?_
          refine Go.isub C at_264 (q := 265) rfl ?_
          refine Go.castI (w := (0 : Int32)) (by decide) ?_
          refine Go.callS C (y := yN7) (as := [(.int (0 : Int32)), (.int (0 : Int32))]) (rest := []) (wd hw 70 rfl) (wd hw 71 rfl) (wd hw 72 rfl) (wd hw 73 rfl) (u_Math_max_24 l Z a0 hw _ ) rfl at_265 (q := 268) rfl (by decide) rfl (na := 2) (by decide +kernel) rfl (by decide) (W := 0) rfl (by decide) (by decide) (by decide) (k' := 7) (n' := 268) rfl rfl ?_
          rintro _ _ ⟨rfl, rfl⟩
          show Go _ _ _ _ _ _ _ _ _ _ [(.int (0 : Int32))]
          refine Go.istore C at_268 (q := 270) rfl (Ls' := #[.val (.int fl), .val (.long ka), .second, .val (.long kb), .second, .val (.long kc), .second, .val (.long kd), .second, .val (.ref o1), .val (.int (0 : Int32)), .val (.int (1 : Int32))]) rfl ?_
          refine Go.iload C at_270 (q := 272) rfl rfl ?_
          refine Go.aload C at_272 (q := 274) rfl rfl rfl ?_
          refine Go.callV C (y := yN4) (z := yN4) (a := o1) (as := []) (rest := [(.int (1 : Int32))]) (wd hw 41 rfl) (wd hw 42 rfl) (nf_sel (z := yN4) (wd hw 44 rfl)) (wd hw 44 rfl) (wd hw 43 rfl) (wd hw 45 rfl) (wd hw 2 rfl) (fun _ r => r.exa 0 rfl) (u_SequenceQueue_isEmpty_10 l Z a0 hw _ o1 o7 o6 o5 o4 o3 o2 kc (0 : Int64) (0 : Int64) (0 : Int64) (0 : Int64) (0 : Int64) (0 : Int64) (0 : Int64) (0 : Int64) (0 : Int64) (0 : Int64) (0 : Int64) (0 : Int64)) rfl at_274 (q := 277) rfl (by decide) rfl (na := 0) (by decide +kernel) rfl (by decide) (W := 1) rfl (by decide) (by decide) (by decide) (k' := 7) (n' := 268) rfl rfl ?_
          rintro _ _ ⟨rfl, rfl⟩
          show Go _ _ _ _ _ _ _ _ _ _ [(.int (1 : Int32)), (.int (1 : Int32))]
          refine Go.iload C at_277 (q := 279) rfl rfl ?_
          refine Go.ifNo C at_279 (q := 282) rfl (XT.i0_ne_f (by decide)) ?_
          refine Go.iconst C at_282 (q := 283) rfl (v := (1 : Int32)) rfl ?_
          refine Go.goto C at_283 (by decide) (q := 287) rfl ?_
          refine Go.icmpNo C at_287 (q := 290) rfl (XT.ii_ne_f (by decide)) ?_
          refine Go.iconst C at_290 (q := 291) rfl (v := (1 : Int32)) rfl ?_
          refine Go.goto C at_291 (by decide) (q := 295) rfl ?_
          refine Go.iand C at_295 (q := 296) rfl ?_
          refine Go.castI (w := (1 : Int32)) (by decide) ?_
          refine Go.istore C at_296 (q := 298) rfl (Ls' := #[.val (.int fl), .val (.long ka), .second, .val (.long kb), .second, .val (.long kc), .second, .val (.long kd), .second, .val (.ref o1), .val (.int (0 : Int32)), .val (.int (1 : Int32))]) rfl ?_
          refine Go.iload C at_298 (q := 300) rfl rfl ?_
          refine Go.retZ C rfl (by decide) at_300 (by decide) (by decide) ?_
          exact rfl
        · refine Go.aload C at_234 (q := 236) rfl rfl rfl ?_
          refine Go.lload C at_236 (q := 238) rfl rfl ?_
          refine Go.iconst C at_238 (q := 239) rfl (v := (3 : Int32)) rfl ?_
          refine Go.callS C (y := yN8) (as := [(.int (3 : Int32))]) (rest := [(.long kd), (.ref o1)]) (wd hw 74 rfl) (wd hw 75 rfl) (wd hw 76 rfl) (wd hw 77 rfl) (m_valueOf3 l Z a0 hw _ cb cs S_high S_cache A_cache H_cache) rfl at_239 (q := 242) rfl (by decide) rfl (na := 1) (by decide +kernel) rfl (by decide) (W := 3) rfl (by decide) (by decide) (by decide) (k' := 7) (n' := 268) rfl rfl ?_
          rintro _ _ ⟨bx10, rfl, rfl, hE_bx10, hF_bx10⟩
          show Go _ _ _ _ _ _ _ _ _ _ [(.ref bx10), (.long kd), (.ref o1)]
          refine Go.callV C (y := yN9) (z := yN9) (a := o1) (as := [(.long kd), (.ref bx10)]) (rest := []) (wd hw 81 rfl) (wd hw 82 rfl) (nf_sel (z := yN9) (wd hw 84 rfl)) (wd hw 84 rfl) (wd hw 83 rfl) (wd hw 85 rfl) (wd hw 2 rfl) (fun _ r => r.exa 0 rfl) (u_SequenceQueue_add_26 l Z a0 hw _ o1 o7 o6 o5 o4 o3 o2 bx10 bx9 kd kc (0 : Int64) (0 : Int64) (0 : Int64) (0 : Int64) (0 : Int64) (0 : Int64) (0 : Int64) (0 : Int64) (0 : Int64) (0 : Int64) (0 : Int64) (0 : Int64) hE_bx10 hE_bx9) rfl at_242 (q := 245) rfl (by decide) rfl (na := 2) (by decide +kernel) rfl (by decide) (W := 0) rfl (by decide) (by decide) (by decide) (k' := 7) (n' := 268) rfl rfl ?_
          rintro _ _ ⟨rfl, rfl⟩
          show Go _ _ _ _ _ _ _ _ _ _ []
          refine Go.iload C at_245 (q := 247) rfl rfl ?_
          refine Go.iconst C at_247 (q := 248) rfl (v := (1 : Int32)) rfl ?_
          refine Go.iadd C at_248 (q := 249) rfl ?_
          refine Go.castI (w := (2 : Int32)) (by decide) ?_
          refine Go.istore C at_249 (q := 251) rfl (Ls' := #[.val (.int fl), .val (.long ka), .second, .val (.long kb), .second, .val (.long kc), .second, .val (.long kd), .second, .val (.ref o1), .val (.int (2 : Int32)), .val (.int (1 : Int32))]) rfl ?_
          refine Go.goto C at_251 (by decide) (q := 270) rfl ?_
          refine Go.iload C at_270 (q := 272) rfl rfl ?_
          refine Go.aload C at_272 (q := 274) rfl rfl rfl ?_
          refine Go.pick (M' := ((o1, oQ (.ref o7) (.ref o4) (.int (1 : Int32)) (.long kd) (.ref bx10)) :: (o7, oRun (.ref o6) (.ref o5) (.int (1 : Int32)) (.int (0 : Int32))) :: (o6, .inr (.long, (oK64 (.long kc) (.long (0 : Int64)) (.long (0 : Int64)) (.long (0 : Int64)) (.long (0 : Int64)) (.long (0 : Int64))), true)) :: (o5, .inr (.object "java/lang/Object", (oE64 (.ref bx9) .null .null .null .null .null), true)) :: (o4, oHeap (.ref o3) (.ref o2) (.int (0 : Int32))) :: (o3, .inr (.long, (oK64 (.long (0 : Int64)) (.long (0 : Int64)) (.long (0 : Int64)) (.long (0 : Int64)) (.long (0 : Int64)) (.long (0 : Int64))), true)) :: (o2, .inr (.object "java/lang/Object", (oE64 .null .null .null .null .null .null), true)) :: [])) 7 [3, 0, 1, 2, 4, 5, 6] (by decide) (by decide) rfl ?_
          refine Go.callV C (y := yN4) (z := yN4) (a := o1) (as := []) (rest := [(.int (1 : Int32))]) (wd hw 41 rfl) (wd hw 42 rfl) (nf_sel (z := yN4) (wd hw 44 rfl)) (wd hw 44 rfl) (wd hw 43 rfl) (wd hw 45 rfl) (wd hw 2 rfl) (fun _ r => r.exa 0 rfl) (u_SequenceQueue_isEmpty_36 l Z a0 hw _ o1 o7 o6 o5 o4 o3 o2 bx10 bx9 kd kc (0 : Int64) (0 : Int64) (0 : Int64) (0 : Int64) (0 : Int64) (0 : Int64) (0 : Int64) (0 : Int64) (0 : Int64) (0 : Int64) (0 : Int64) hE_bx10 hE_bx9) rfl at_274 (q := 277) rfl (by decide) rfl (na := 0) (by decide +kernel) rfl (by decide) (W := 1) rfl (by decide) (by decide) (by decide) (k' := 7) (n' := 268) rfl rfl ?_
          rintro _ _ ⟨rfl, rfl⟩
          show Go _ _ _ _ _ _ _ _ _ _ [(.int (0 : Int32)), (.int (1 : Int32))]
          refine Go.iload C at_277 (q := 279) rfl rfl ?_
          refine Go.ifYes C at_279 (by decide) (q := 286) rfl (XT.i0_ne_t (by decide)) ?_
          refine Go.iconst C at_286 (q := 287) rfl (v := (0 : Int32)) rfl ?_
          refine Go.icmpNo C at_287 (q := 290) rfl (XT.ii_ne_f (by decide)) ?_
          refine Go.iconst C at_290 (q := 291) rfl (v := (1 : Int32)) rfl ?_
          refine Go.goto C at_291 (by decide) (q := 295) rfl ?_
          refine Go.iand C at_295 (q := 296) rfl ?_
          refine Go.castI (w := (1 : Int32)) (by decide) ?_
          refine Go.istore C at_296 (q := 298) rfl (Ls' := #[.val (.int fl), .val (.long ka), .second, .val (.long kb), .second, .val (.long kc), .second, .val (.long kd), .second, .val (.ref o1), .val (.int (2 : Int32)), .val (.int (1 : Int32))]) rfl ?_
          refine Go.iload C at_298 (q := 300) rfl rfl ?_
          refine Go.retZ C rfl (by decide) at_300 (by decide) (by decide) ?_
          exact rfl
    · refine Go.aload C at_94 (q := 96) rfl rfl rfl ?_
      refine Go.lloadN C at_96 (q := 97) rfl rfl ?_
      refine Go.iconst C at_97 (q := 98) rfl (v := (1 : Int32)) rfl ?_
      refine Go.callS C (y := yN8) (as := [(.int (1 : Int32))]) (rest := [(.long kb), (.ref o1)]) (wd hw 74 rfl) (wd hw 75 rfl) (wd hw 76 rfl) (wd hw 77 rfl) (m_valueOf1 l Z a0 hw _ cb cs S_high S_cache A_cache H_cache) rfl at_98 (q := 101) rfl (by decide) rfl (na := 1) (by decide +kernel) rfl (by decide) (W := 3) rfl (by decide) (by decide) (by decide) (k' := 7) (n' := 268) rfl rfl ?_
      rintro _ _ ⟨bx11, rfl, rfl, hE_bx11, hF_bx11⟩
      show Go _ _ _ _ _ _ _ _ _ _ [(.ref bx11), (.long kb), (.ref o1)]
      refine Go.callV C (y := yN9) (z := yN9) (a := o1) (as := [(.long kb), (.ref bx11)]) (rest := []) (wd hw 81 rfl) (wd hw 82 rfl) (nf_sel (z := yN9) (wd hw 84 rfl)) (wd hw 84 rfl) (wd hw 83 rfl) (wd hw 85 rfl) (wd hw 2 rfl) (fun _ r => r.exa 0 rfl) (u_SequenceQueue_add_18 l Z a0 hw _ o1 o7 o6 o5 o4 o3 o2 bx11 kb (0 : Int64) (0 : Int64) (0 : Int64) (0 : Int64) (0 : Int64) (0 : Int64) (0 : Int64) (0 : Int64) (0 : Int64) (0 : Int64) (0 : Int64) (0 : Int64) (0 : Int64) hE_bx11) rfl at_101 (q := 104) rfl (by decide) rfl (na := 2) (by decide +kernel) rfl (by decide) (W := 0) rfl (by decide) (by decide) (by decide) (k' := 7) (n' := 268) rfl rfl ?_
      rintro _ _ ⟨rfl, rfl⟩
      show Go _ _ _ _ _ _ _ _ _ _ []
      refine Go.iload C at_104 (q := 106) rfl rfl ?_
      refine Go.iconst C at_106 (q := 107) rfl (v := (1 : Int32)) rfl ?_
      refine Go.iadd C at_107 (q := 108) rfl ?_
      refine Go.castI (w := (1 : Int32)) (by decide) ?_
      refine Go.istore C at_108 (q := 110) rfl (Ls' := #[.val (.int fl), .val (.long ka), .second, .val (.long kb), .second, .val (.long kc), .second, .val (.long kd), .second, .val (.ref o1), .val (.int (1 : Int32)), .val (.int (1 : Int32))]) rfl ?_
      refine Go.goto C at_110 (by decide) (q := 129) rfl ?_
      refine Go.iload C at_129 (q := 131) rfl rfl ?_
      refine Go.aload C at_131 (q := 133) rfl rfl rfl ?_
      refine Go.callV C (y := yN4) (z := yN4) (a := o1) (as := []) (rest := [(.int (1 : Int32))]) (wd hw 41 rfl) (wd hw 42 rfl) (nf_sel (z := yN4) (wd hw 44 rfl)) (wd hw 44 rfl) (wd hw 43 rfl) (wd hw 45 rfl) (wd hw 2 rfl) (fun _ r => r.exa 0 rfl) (u_SequenceQueue_isEmpty_20 l Z a0 hw _ o1 o7 o6 o5 o4 o3 o2 bx11 kb (0 : Int64) (0 : Int64) (0 : Int64) (0 : Int64) (0 : Int64) (0 : Int64) (0 : Int64) (0 : Int64) (0 : Int64) (0 : Int64) (0 : Int64) (0 : Int64) hE_bx11) rfl at_133 (q := 136) rfl (by decide) rfl (na := 0) (by decide +kernel) rfl (by decide) (W := 1) rfl (by decide) (by decide) (by decide) (k' := 7) (n' := 268) rfl rfl ?_
      rintro _ _ ⟨rfl, rfl⟩
      show Go _ _ _ _ _ _ _ _ _ _ [(.int (0 : Int32)), (.int (1 : Int32))]
      refine Go.iload C at_136 (q := 138) rfl rfl ?_
      refine Go.ifYes C at_138 (by decide) (q := 145) rfl (XT.i0_ne_t (by decide)) ?_
      refine Go.iconst C at_145 (q := 146) rfl (v := (0 : Int32)) rfl ?_
      refine Go.icmpNo C at_146 (q := 149) rfl (XT.ii_ne_f (by decide)) ?_
      refine Go.iconst C at_149 (q := 150) rfl (v := (1 : Int32)) rfl ?_
      refine Go.goto C at_150 (by decide) (q := 154) rfl ?_
      refine Go.iand C at_154 (q := 155) rfl ?_
      refine Go.castI (w := (1 : Int32)) (by decide) ?_
      refine Go.istore C at_155 (q := 157) rfl (Ls' := #[.val (.int fl), .val (.long ka), .second, .val (.long kb), .second, .val (.long kc), .second, .val (.long kd), .second, .val (.ref o1), .val (.int (1 : Int32)), .val (.int (1 : Int32))]) rfl ?_
      refine Go.iloadN C at_157 (q := 158) rfl rfl ?_
      refine Go.iconst C at_158 (q := 159) rfl (v := (4 : Int32)) rfl ?_
      refine Go.iand C at_159 (q := 160) rfl ?_
      refine Go.ifc C at_160 (by decide) (q := 183) rfl (q' := 163) rfl (fun (h160_6 : (fl &&& (4 : Int32)) = 0) => ?_) (fun (h160_6 : ¬ (fl &&& (4 : Int32)) = 0) => ?_)
      · refine Go.aload C at_183 (q := 185) rfl rfl rfl ?_
        refine Go.callV C (y := yN6) (z := yN6) (a := o1) (as := []) (rest := []) (wd hw 54 rfl) (wd hw 55 rfl) (nf_sel (z := yN6) (wd hw 57 rfl)) (wd hw 57 rfl) (wd hw 56 rfl) (wd hw 58 rfl) (wd hw 2 rfl) (fun _ r => r.exa 0 rfl) (u_SequenceQueue_poll_22 l Z a0 hw _ o1 o7 o6 o5 o4 o3 o2 bx11 kb (0 : Int64) (0 : Int64) (0 : Int64) (0 : Int64) (0 : Int64) (0 : Int64) (0 : Int64) (0 : Int64) (0 : Int64) (0 : Int64) (0 : Int64) (0 : Int64) hE_bx11) rfl at_185 (q := 188) rfl (by decide) rfl (na := 0) (by decide +kernel) rfl (by decide) (W := 0) rfl (by decide) (by decide) (by decide) (k' := 7) (n' := 268) rfl rfl ?_
        rintro _ _ ⟨rfl, rfl⟩
        show Go _ _ _ _ _ _ _ _ _ _ [(.ref bx11)]
        refine Go.pop C at_188 (q := 189) rfl rfl ?_
        refine Go.iconst C at_189 (q := 190) rfl (v := (0 : Int32)) rfl ?_
        refine Go.iload C at_190 (q := 192) rfl rfl ?_
        refine Go.iconst C at_192 (q := 193) rfl (v := (1 : Int32)) rfl ?_
        refine Go.isub C at_193 (q := 194) rfl ?_
        refine Go.castI (w := (0 : Int32)) (by decide) ?_
        refine Go.callS C (y := yN7) (as := [(.int (0 : Int32)), (.int (0 : Int32))]) (rest := []) (wd hw 70 rfl) (wd hw 71 rfl) (wd hw 72 rfl) (wd hw 73 rfl) (u_Math_max_24 l Z a0 hw _ ) rfl at_194 (q := 197) rfl (by decide) rfl (na := 2) (by decide +kernel) rfl (by decide) (W := 0) rfl (by decide) (by decide) (by decide) (k' := 7) (n' := 268) rfl rfl ?_
        rintro _ _ ⟨rfl, rfl⟩
        show Go _ _ _ _ _ _ _ _ _ _ [(.int (0 : Int32))]
        refine Go.istore C at_197 (q := 199) rfl (Ls' := #[.val (.int fl), .val (.long ka), .second, .val (.long kb), .second, .val (.long kc), .second, .val (.long kd), .second, .val (.ref o1), .val (.int (0 : Int32)), .val (.int (1 : Int32))]) rfl ?_
        refine Go.iload C at_199 (q := 201) rfl rfl ?_
        refine Go.aload C at_201 (q := 203) rfl rfl rfl ?_
        refine Go.callV C (y := yN4) (z := yN4) (a := o1) (as := []) (rest := [(.int (1 : Int32))]) (wd hw 41 rfl) (wd hw 42 rfl) (nf_sel (z := yN4) (wd hw 44 rfl)) (wd hw 44 rfl) (wd hw 43 rfl) (wd hw 45 rfl) (wd hw 2 rfl) (fun _ r => r.exa 0 rfl) (u_SequenceQueue_isEmpty_10 l Z a0 hw _ o1 o7 o6 o5 o4 o3 o2 kb (0 : Int64) (0 : Int64) (0 : Int64) (0 : Int64) (0 : Int64) (0 : Int64) (0 : Int64) (0 : Int64) (0 : Int64) (0 : Int64) (0 : Int64) (0 : Int64)) rfl at_203 (q := 206) rfl (by decide) rfl (na := 0) (by decide +kernel) rfl (by decide) (W := 1) rfl (by decide) (by decide) (by decide) (k' := 7) (n' := 268) rfl rfl ?_
        rintro _ _ ⟨rfl, rfl⟩
        show Go _ _ _ _ _ _ _ _ _ _ [(.int (1 : Int32)), (.int (1 : Int32))]
        refine Go.iload C at_206 (q := 208) rfl rfl ?_
        refine Go.ifNo C at_208 (q := 211) rfl (XT.i0_ne_f (by decide)) ?_
        refine Go.iconst C at_211 (q := 212) rfl (v := (1 : Int32)) rfl ?_
        refine Go.goto C at_212 (by decide) (q := 216) rfl ?_
        refine Go.icmpNo C at_216 (q := 219) rfl (XT.ii_ne_f (by decide)) ?_
        refine Go.iconst C at_219 (q := 220) rfl (v := (1 : Int32)) rfl ?_
        refine Go.goto C at_220 (by decide) (q := 224) rfl ?_
        refine Go.iand C at_224 (q := 225) rfl ?_
        refine Go.castI (w := (1 : Int32)) (by decide) ?_
        refine Go.istore C at_225 (q := 227) rfl (Ls' := #[.val (.int fl), .val (.long ka), .second, .val (.long kb), .second, .val (.long kc), .second, .val (.long kd), .second, .val (.ref o1), .val (.int (0 : Int32)), .val (.int (1 : Int32))]) rfl ?_
        refine Go.iloadN C at_227 (q := 228) rfl rfl ?_
        refine Go.bipush C at_228 (q := 230) rfl (v := (8 : Int32)) (by decide) ?_
        refine Go.iand C at_230 (q := 231) rfl ?_
        refine Go.ifc C at_231 (by decide) (q := 254) rfl (q' := 234) rfl (fun (h231_7 : (fl &&& (8 : Int32)) = 0) => ?_) (fun (h231_7 : ¬ (fl &&& (8 : Int32)) = 0) => ?_)
        · refine Go.aload C at_254 (q := 256) rfl rfl rfl ?_
          refine Go.callV C (y := yN6) (z := yN6) (a := o1) (as := []) (rest := []) (wd hw 54 rfl) (wd hw 55 rfl) (nf_sel (z := yN6) (wd hw 57 rfl)) (wd hw 57 rfl) (wd hw 56 rfl) (wd hw 58 rfl) (wd hw 2 rfl) (fun _ r => r.exa 0 rfl) (u_SequenceQueue_poll_12 l Z a0 hw _ o1 o7 o6 o5 o4 o3 o2 kb (0 : Int64) (0 : Int64) (0 : Int64) (0 : Int64) (0 : Int64) (0 : Int64) (0 : Int64) (0 : Int64) (0 : Int64) (0 : Int64) (0 : Int64) (0 : Int64)) rfl at_256 (q := 259) rfl (by decide) rfl (na := 0) (by decide +kernel) rfl (by decide) (W := 0) rfl (by decide) (by decide) (by decide) (k' := 7) (n' := 268) rfl rfl ?_
          rintro _ _ ⟨rfl, rfl⟩
          show Go _ _ _ _ _ _ _ _ _ _ [.null]
          refine Go.pop C at_259 (q := 260) rfl rfl ?_
          refine Go.iconst C at_260 (q := 261) rfl (v := (0 : Int32)) rfl ?_
          refine Go.iload C at_261 (q := 263) rfl rfl ?_
          refine Go.iconst C at_263 (q := 264) rfl (v := (1 : Int32)) rfl ?_
          refine Go.isub C at_264 (q := 265) rfl ?_
          refine Go.castI (w := (-1 : Int32)) (by decide) ?_
          refine Go.callS C (y := yN7) (as := [(.int (0 : Int32)), (.int (-1 : Int32))]) (rest := []) (wd hw 70 rfl) (wd hw 71 rfl) (wd hw 72 rfl) (wd hw 73 rfl) (u_Math_max_16 l Z a0 hw _ ) rfl at_265 (q := 268) rfl (by decide) rfl (na := 2) (by decide +kernel) rfl (by decide) (W := 0) rfl (by decide) (by decide) (by decide) (k' := 7) (n' := 268) rfl rfl ?_
          rintro _ _ ⟨rfl, rfl⟩
          show Go _ _ _ _ _ _ _ _ _ _ [(.int (0 : Int32))]
          refine Go.istore C at_268 (q := 270) rfl (Ls' := #[.val (.int fl), .val (.long ka), .second, .val (.long kb), .second, .val (.long kc), .second, .val (.long kd), .second, .val (.ref o1), .val (.int (0 : Int32)), .val (.int (1 : Int32))]) rfl ?_
          refine Go.iload C at_270 (q := 272) rfl rfl ?_
          refine Go.aload C at_272 (q := 274) rfl rfl rfl ?_
          refine Go.pick (M' := ((o1, oQ (.ref o7) (.ref o4) (.int (0 : Int32)) (.long kb) .null) :: (o7, oRun (.ref o6) (.ref o5) (.int (0 : Int32)) (.int (0 : Int32))) :: (o6, .inr (.long, (oK64 (.long (0 : Int64)) (.long (0 : Int64)) (.long (0 : Int64)) (.long (0 : Int64)) (.long (0 : Int64)) (.long (0 : Int64))), true)) :: (o5, .inr (.object "java/lang/Object", (oE64 .null .null .null .null .null .null), true)) :: (o4, oHeap (.ref o3) (.ref o2) (.int (0 : Int32))) :: (o3, .inr (.long, (oK64 (.long (0 : Int64)) (.long (0 : Int64)) (.long (0 : Int64)) (.long (0 : Int64)) (.long (0 : Int64)) (.long (0 : Int64))), true)) :: (o2, .inr (.object "java/lang/Object", (oE64 .null .null .null .null .null .null), true)) :: [])) 7 [3, 0, 1, 2, 4, 5, 6] (by decide) (by decide) rfl ?_
          refine Go.callV C (y := yN4) (z := yN4) (a := o1) (as := []) (rest := [(.int (1 : Int32))]) (wd hw 41 rfl) (wd hw 42 rfl) (nf_sel (z := yN4) (wd hw 44 rfl)) (wd hw 44 rfl) (wd hw 43 rfl) (wd hw 45 rfl) (wd hw 2 rfl) (fun _ r => r.exa 0 rfl) (u_SequenceQueue_isEmpty_10 l Z a0 hw _ o1 o7 o6 o5 o4 o3 o2 kb (0 : Int64) (0 : Int64) (0 : Int64) (0 : Int64) (0 : Int64) (0 : Int64) (0 : Int64) (0 : Int64) (0 : Int64) (0 : Int64) (0 : Int64) (0 : Int64)) rfl at_274 (q := 277) rfl (by decide) rfl (na := 0) (by decide +kernel) rfl (by decide) (W := 1) rfl (by decide) (by decide) (by decide) (k' := 7) (n' := 268) rfl rfl ?_
          rintro _ _ ⟨rfl, rfl⟩
          show Go _ _ _ _ _ _ _ _ _ _ [(.int (1 : Int32)), (.int (1 : Int32))]
          refine Go.iload C at_277 (q := 279) rfl rfl ?_
          refine Go.ifNo C at_279 (q := 282) rfl (XT.i0_ne_f (by decide)) ?_
          refine Go.iconst C at_282 (q := 283) rfl (v := (1 : Int32)) rfl ?_
          refine Go.goto C at_283 (by decide) (q := 287) rfl ?_
          refine Go.icmpNo C at_287 (q := 290) rfl (XT.ii_ne_f (by decide)) ?_
          refine Go.iconst C at_290 (q := 291) rfl (v := (1 : Int32)) rfl ?_
          refine Go.goto C at_291 (by decide) (q := 295) rfl ?_
          refine Go.iand C at_295 (q := 296) rfl ?_
          refine Go.castI (w := (1 : Int32)) (by decide) ?_
          refine Go.istore C at_296 (q := 298) rfl (Ls' := #[.val (.int fl), .val (.long ka), .second, .val (.long kb), .second, .val (.long kc), .second, .val (.long kd), .second, .val (.ref o1), .val (.int (0 : Int32)), .val (.int (1 : Int32))]) rfl ?_
          refine Go.iload C at_298 (q := 300) rfl rfl ?_
          refine Go.retZ C rfl (by decide) at_300 (by decide) (by decide) ?_
          exact rfl
        · refine Go.aload C at_234 (q := 236) rfl rfl rfl ?_
          refine Go.lload C at_236 (q := 238) rfl rfl ?_
          refine Go.iconst C at_238 (q := 239) rfl (v := (3 : Int32)) rfl ?_
          refine Go.callS C (y := yN8) (as := [(.int (3 : Int32))]) (rest := [(.long kd), (.ref o1)]) (wd hw 74 rfl) (wd hw 75 rfl) (wd hw 76 rfl) (wd hw 77 rfl) (m_valueOf3 l Z a0 hw _ cb cs S_high S_cache A_cache H_cache) rfl at_239 (q := 242) rfl (by decide) rfl (na := 1) (by decide +kernel) rfl (by decide) (W := 3) rfl (by decide) (by decide) (by decide) (k' := 7) (n' := 268) rfl rfl ?_
          rintro _ _ ⟨bx12, rfl, rfl, hE_bx12, hF_bx12⟩
          show Go _ _ _ _ _ _ _ _ _ _ [(.ref bx12), (.long kd), (.ref o1)]
          refine Go.callV C (y := yN9) (z := yN9) (a := o1) (as := [(.long kd), (.ref bx12)]) (rest := []) (wd hw 81 rfl) (wd hw 82 rfl) (nf_sel (z := yN9) (wd hw 84 rfl)) (wd hw 84 rfl) (wd hw 83 rfl) (wd hw 85 rfl) (wd hw 2 rfl) (fun _ r => r.exa 0 rfl) (u_SequenceQueue_add_18 l Z a0 hw _ o1 o7 o6 o5 o4 o3 o2 bx12 kd kb (0 : Int64) (0 : Int64) (0 : Int64) (0 : Int64) (0 : Int64) (0 : Int64) (0 : Int64) (0 : Int64) (0 : Int64) (0 : Int64) (0 : Int64) (0 : Int64) hE_bx12) rfl at_242 (q := 245) rfl (by decide) rfl (na := 2) (by decide +kernel) rfl (by decide) (W := 0) rfl (by decide) (by decide) (by decide) (k' := 7) (n' := 268) rfl rfl ?_
          rintro _ _ ⟨rfl, rfl⟩
          show Go _ _ _ _ _ _ _ _ _ _ []
          refine Go.iload C at_245 (q := 247) rfl rfl ?_
          refine Go.iconst C at_247 (q := 248) rfl (v := (1 : Int32)) rfl ?_
          refine Go.iadd C at_248 (q := 249) rfl ?_
          refine Go.castI (w := (1 : Int32)) (by decide) ?_
          refine Go.istore C at_249 (q := 251) rfl (Ls' := #[.val (.int fl), .val (.long ka), .second, .val (.long kb), .second, .val (.long kc), .second, .val (.long kd), .second, .val (.ref o1), .val (.int (1 : Int32)), .val (.int (1 : Int32))]) rfl ?_
          refine Go.goto C at_251 (by decide) (q := 270) rfl ?_
          refine Go.iload C at_270 (q := 272) rfl rfl ?_
          refine Go.aload C at_272 (q := 274) rfl rfl rfl ?_
          refine Go.callV C (y := yN4) (z := yN4) (a := o1) (as := []) (rest := [(.int (1 : Int32))]) (wd hw 41 rfl) (wd hw 42 rfl) (nf_sel (z := yN4) (wd hw 44 rfl)) (wd hw 44 rfl) (wd hw 43 rfl) (wd hw 45 rfl) (wd hw 2 rfl) (fun _ r => r.exa 0 rfl) (u_SequenceQueue_isEmpty_20 l Z a0 hw _ o1 o7 o6 o5 o4 o3 o2 bx12 kd (0 : Int64) (0 : Int64) (0 : Int64) (0 : Int64) (0 : Int64) (0 : Int64) (0 : Int64) (0 : Int64) (0 : Int64) (0 : Int64) (0 : Int64) (0 : Int64) hE_bx12) rfl at_274 (q := 277) rfl (by decide) rfl (na := 0) (by decide +kernel) rfl (by decide) (W := 1) rfl (by decide) (by decide) (by decide) (k' := 7) (n' := 268) rfl rfl ?_
          rintro _ _ ⟨rfl, rfl⟩
          show Go _ _ _ _ _ _ _ _ _ _ [(.int (0 : Int32)), (.int (1 : Int32))]
          refine Go.iload C at_277 (q := 279) rfl rfl ?_
          refine Go.ifYes C at_279 (by decide) (q := 286) rfl (XT.i0_ne_t (by decide)) ?_
          refine Go.iconst C at_286 (q := 287) rfl (v := (0 : Int32)) rfl ?_
          refine Go.icmpNo C at_287 (q := 290) rfl (XT.ii_ne_f (by decide)) ?_
          refine Go.iconst C at_290 (q := 291) rfl (v := (1 : Int32)) rfl ?_
          refine Go.goto C at_291 (by decide) (q := 295) rfl ?_
          refine Go.iand C at_295 (q := 296) rfl ?_
          refine Go.castI (w := (1 : Int32)) (by decide) ?_
          refine Go.istore C at_296 (q := 298) rfl (Ls' := #[.val (.int fl), .val (.long ka), .second, .val (.long kb), .second, .val (.long kc), .second, .val (.long kd), .second, .val (.ref o1), .val (.int (1 : Int32)), .val (.int (1 : Int32))]) rfl ?_
          refine Go.iload C at_298 (q := 300) rfl rfl ?_
          refine Go.retZ C rfl (by decide) at_300 (by decide) (by decide) ?_
          exact rfl
      · refine Go.aload C at_163 (q := 165) rfl rfl rfl ?_
        refine Go.lload C at_165 (q := 167) rfl rfl ?_
        refine Go.iconst C at_167 (q := 168) rfl (v := (2 : Int32)) rfl ?_
        refine Go.callS C (y := yN8) (as := [(.int (2 : Int32))]) (rest := [(.long kc), (.ref o1)]) (wd hw 74 rfl) (wd hw 75 rfl) (wd hw 76 rfl) (wd hw 77 rfl) (m_valueOf2 l Z a0 hw _ cb cs S_high S_cache A_cache H_cache) rfl at_168 (q := 171) rfl (by decide) rfl (na := 1) (by decide +kernel) rfl (by decide) (W := 3) rfl (by decide) (by decide) (by decide) (k' := 7) (n' := 268) rfl rfl ?_
        rintro _ _ ⟨bx13, rfl, rfl, hE_bx13, hF_bx13⟩
        show Go _ _ _ _ _ _ _ _ _ _ [(.ref bx13), (.long kc), (.ref o1)]
        refine Go.callV C (y := yN9) (z := yN9) (a := o1) (as := [(.long kc), (.ref bx13)]) (rest := []) (wd hw 81 rfl) (wd hw 82 rfl) (nf_sel (z := yN9) (wd hw 84 rfl)) (wd hw 84 rfl) (wd hw 83 rfl) (wd hw 85 rfl) (wd hw 2 rfl) (fun _ r => r.exa 0 rfl) (u_SequenceQueue_add_26 l Z a0 hw _ o1 o7 o6 o5 o4 o3 o2 bx13 bx11 kc kb (0 : Int64) (0 : Int64) (0 : Int64) (0 : Int64) (0 : Int64) (0 : Int64) (0 : Int64) (0 : Int64) (0 : Int64) (0 : Int64) (0 : Int64) (0 : Int64) hE_bx13 hE_bx11) rfl at_171 (q := 174) rfl (by decide) rfl (na := 2) (by decide +kernel) rfl (by decide) (W := 0) rfl (by decide) (by decide) (by decide) (k' := 7) (n' := 268) rfl rfl ?_
        rintro _ _ ⟨rfl, rfl⟩
        show Go _ _ _ _ _ _ _ _ _ _ []
        refine Go.iload C at_174 (q := 176) rfl rfl ?_
        refine Go.iconst C at_176 (q := 177) rfl (v := (1 : Int32)) rfl ?_
        refine Go.iadd C at_177 (q := 178) rfl ?_
        refine Go.castI (w := (2 : Int32)) (by decide) ?_
        refine Go.istore C at_178 (q := 180) rfl (Ls' := #[.val (.int fl), .val (.long ka), .second, .val (.long kb), .second, .val (.long kc), .second, .val (.long kd), .second, .val (.ref o1), .val (.int (2 : Int32)), .val (.int (1 : Int32))]) rfl ?_
        refine Go.goto C at_180 (by decide) (q := 199) rfl ?_
        refine Go.iload C at_199 (q := 201) rfl rfl ?_
        refine Go.aload C at_201 (q := 203) rfl rfl rfl ?_
        refine Go.pick (M' := ((o1, oQ (.ref o7) (.ref o4) (.int (1 : Int32)) (.long kc) (.ref bx13)) :: (o7, oRun (.ref o6) (.ref o5) (.int (1 : Int32)) (.int (0 : Int32))) :: (o6, .inr (.long, (oK64 (.long kb) (.long (0 : Int64)) (.long (0 : Int64)) (.long (0 : Int64)) (.long (0 : Int64)) (.long (0 : Int64))), true)) :: (o5, .inr (.object "java/lang/Object", (oE64 (.ref bx11) .null .null .null .null .null), true)) :: (o4, oHeap (.ref o3) (.ref o2) (.int (0 : Int32))) :: (o3, .inr (.long, (oK64 (.long (0 : Int64)) (.long (0 : Int64)) (.long (0 : Int64)) (.long (0 : Int64)) (.long (0 : Int64)) (.long (0 : Int64))), true)) :: (o2, .inr (.object "java/lang/Object", (oE64 .null .null .null .null .null .null), true)) :: [])) 7 [3, 0, 1, 2, 4, 5, 6] (by decide) (by decide) rfl ?_
        refine Go.callV C (y := yN4) (z := yN4) (a := o1) (as := []) (rest := [(.int (1 : Int32))]) (wd hw 41 rfl) (wd hw 42 rfl) (nf_sel (z := yN4) (wd hw 44 rfl)) (wd hw 44 rfl) (wd hw 43 rfl) (wd hw 45 rfl) (wd hw 2 rfl) (fun _ r => r.exa 0 rfl) (u_SequenceQueue_isEmpty_36 l Z a0 hw _ o1 o7 o6 o5 o4 o3 o2 bx13 bx11 kc kb (0 : Int64) (0 : Int64) (0 : Int64) (0 : Int64) (0 : Int64) (0 : Int64) (0 : Int64) (0 : Int64) (0 : Int64) (0 : Int64) (0 : Int64) hE_bx13 hE_bx11) rfl at_203 (q := 206) rfl (by decide) rfl (na := 0) (by decide +kernel) rfl (by decide) (W := 1) rfl (by decide) (by decide) (by decide) (k' := 7) (n' := 268) rfl rfl ?_
        rintro _ _ ⟨rfl, rfl⟩
        show Go _ _ _ _ _ _ _ _ _ _ [(.int (0 : Int32)), (.int (1 : Int32))]
        refine Go.iload C at_206 (q := 208) rfl rfl ?_
        refine Go.ifYes C at_208 (by decide) (q := 215) rfl (XT.i0_ne_t (by decide)) ?_
        refine Go.iconst C at_215 (q := 216) rfl (v := (0 : Int32)) rfl ?_
        refine Go.icmpNo C at_216 (q := 219) rfl (XT.ii_ne_f (by decide)) ?_
        refine Go.iconst C at_219 (q := 220) rfl (v := (1 : Int32)) rfl ?_
        refine Go.goto C at_220 (by decide) (q := 224) rfl ?_
        refine Go.iand C at_224 (q := 225) rfl ?_
        refine Go.castI (w := (1 : Int32)) (by decide) ?_
        refine Go.istore C at_225 (q := 227) rfl (Ls' := #[.val (.int fl), .val (.long ka), .second, .val (.long kb), .second, .val (.long kc), .second, .val (.long kd), .second, .val (.ref o1), .val (.int (2 : Int32)), .val (.int (1 : Int32))]) rfl ?_
        refine Go.iloadN C at_227 (q := 228) rfl rfl ?_
        refine Go.bipush C at_228 (q := 230) rfl (v := (8 : Int32)) (by decide) ?_
        refine Go.iand C at_230 (q := 231) rfl ?_
        refine Go.ifc C at_231 (by decide) (q := 254) rfl (q' := 234) rfl (fun (h231_8 : (fl &&& (8 : Int32)) = 0) => ?_) (fun (h231_8 : ¬ (fl &&& (8 : Int32)) = 0) => ?_)
        · refine Go.aload C at_254 (q := 256) rfl rfl rfl ?_
          refine Go.callV C (y := yN6) (z := yN6) (a := o1) (as := []) (rest := []) (wd hw 54 rfl) (wd hw 55 rfl) (nf_sel (z := yN6) (wd hw 57 rfl)) (wd hw 57 rfl) (wd hw 56 rfl) (wd hw 58 rfl) (wd hw 2 rfl) (fun _ r => r.exa 0 rfl) (u_SequenceQueue_poll_38 l Z a0 hw _ o1 o7 o6 o5 o4 o3 o2 bx13 bx11 kc kb (0 : Int64) (0 : Int64) (0 : Int64) (0 : Int64) (0 : Int64) (0 : Int64) (0 : Int64) (0 : Int64) (0 : Int64) (0 : Int64) (0 : Int64) hE_bx13 hE_bx11) rfl at_256 (q := 259) rfl (by decide) rfl (na := 0) (by decide +kernel) rfl (by decide) (W := 0) rfl (by decide) (by decide) (by decide) (k' := 7) (n' := 268) rfl rfl ?_
          rintro _ _ (⟨rfl, rfl⟩ | ⟨rfl, rfl⟩ | ⟨rfl, rfl⟩ | ⟨rfl, rfl⟩)
          · show Go _ _ _ _ _ _ _ _ _ _ [(.ref bx13)]
            refine Go.pop C at_259 (q := 260) rfl rfl ?_
            refine Go.iconst C at_260 (q := 261) rfl (v := (0 : Int32)) rfl ?_
            refine Go.iload C at_261 (q := 263) rfl rfl ?_
            refine Go.iconst C at_263 (q := 264) rfl (v := (1 : Int32)) rfl ?_
            refine Go.isub C at_264 (q := 265) rfl ?_
            refine Go.castI (w := (1 : Int32)) (by decide) ?_
            refine Go.callS C (y := yN7) (as := [(.int (0 : Int32)), (.int (1 : Int32))]) (rest := []) (wd hw 70 rfl) (wd hw 71 rfl) (wd hw 72 rfl) (wd hw 73 rfl) (u_Math_max_72 l Z a0 hw _ ) rfl at_265 (q := 268) rfl (by decide) rfl (na := 2) (by decide +kernel) rfl (by decide) (W := 0) rfl (by decide) (by decide) (by decide) (k' := 7) (n' := 268) rfl rfl ?_
            rintro _ _ ⟨rfl, rfl⟩
            show Go _ _ _ _ _ _ _ _ _ _ [(.int (1 : Int32))]
            refine Go.istore C at_268 (q := 270) rfl (Ls' := #[.val (.int fl), .val (.long ka), .second, .val (.long kb), .second, .val (.long kc), .second, .val (.long kd), .second, .val (.ref o1), .val (.int (1 : Int32)), .val (.int (1 : Int32))]) rfl ?_
            refine Go.iload C at_270 (q := 272) rfl rfl ?_
            refine Go.aload C at_272 (q := 274) rfl rfl rfl ?_
            refine Go.pick (M' := ((o1, oQ (.ref o7) (.ref o4) (.int (0 : Int32)) (.long kc) .null) :: (o7, oRun (.ref o6) (.ref o5) (.int (1 : Int32)) (.int (0 : Int32))) :: (o6, .inr (.long, (oK64 (.long kb) (.long (0 : Int64)) (.long (0 : Int64)) (.long (0 : Int64)) (.long (0 : Int64)) (.long (0 : Int64))), true)) :: (o5, .inr (.object "java/lang/Object", (oE64 (.ref bx11) .null .null .null .null .null), true)) :: (o4, oHeap (.ref o3) (.ref o2) (.int (0 : Int32))) :: (o3, .inr (.long, (oK64 (.long kc) (.long (0 : Int64)) (.long (0 : Int64)) (.long (0 : Int64)) (.long (0 : Int64)) (.long (0 : Int64))), true)) :: (o2, .inr (.object "java/lang/Object", (oE64 .null .null .null .null .null .null), true)) :: [])) 7 [6, 3, 4, 5, 0, 1, 2] (by decide) (by decide) rfl ?_
            refine Go.callV C (y := yN4) (z := yN4) (a := o1) (as := []) (rest := [(.int (1 : Int32))]) (wd hw 41 rfl) (wd hw 42 rfl) (nf_sel (z := yN4) (wd hw 44 rfl)) (wd hw 44 rfl) (wd hw 43 rfl) (wd hw 45 rfl) (wd hw 2 rfl) (fun _ r => r.exa 0 rfl) (u_SequenceQueue_isEmpty_74 l Z a0 hw _ o1 o7 o6 o5 o4 o3 o2 bx11 kc kb (0 : Int64) (0 : Int64) (0 : Int64) (0 : Int64) (0 : Int64) kc (0 : Int64) (0 : Int64) (0 : Int64) (0 : Int64) (0 : Int64) hE_bx11) rfl at_274 (q := 277) rfl (by decide) rfl (na := 0) (by decide +kernel) rfl (by decide) (W := 1) rfl (by decide) (by decide) (by decide) (k' := 7) (n' := 268) rfl rfl ?_
            rintro _ _ ⟨rfl, rfl⟩
            show Go _ _ _ _ _ _ _ _ _ _ [(.int (0 : Int32)), (.int (1 : Int32))]
            refine Go.iload C at_277 (q := 279) rfl rfl ?_
            refine Go.ifYes C at_279 (by decide) (q := 286) rfl (XT.i0_ne_t (by decide)) ?_
            refine Go.iconst C at_286 (q := 287) rfl (v := (0 : Int32)) rfl ?_
            refine Go.icmpNo C at_287 (q := 290) rfl (XT.ii_ne_f (by decide)) ?_
            refine Go.iconst C at_290 (q := 291) rfl (v := (1 : Int32)) rfl ?_
            refine Go.goto C at_291 (by decide) (q := 295) rfl ?_
            refine Go.iand C at_295 (q := 296) rfl ?_
            refine Go.castI (w := (1 : Int32)) (by decide) ?_
            refine Go.istore C at_296 (q := 298) rfl (Ls' := #[.val (.int fl), .val (.long ka), .second, .val (.long kb), .second, .val (.long kc), .second, .val (.long kd), .second, .val (.ref o1), .val (.int (1 : Int32)), .val (.int (1 : Int32))]) rfl ?_
            refine Go.iload C at_298 (q := 300) rfl rfl ?_
            refine Go.retZ C rfl (by decide) at_300 (by decide) (by decide) ?_
            exact rfl
          · show Go _ _ _ _ _ _ _ _ _ _ [(.ref bx11)]
            refine Go.pop C at_259 (q := 260) rfl rfl ?_
            refine Go.iconst C at_260 (q := 261) rfl (v := (0 : Int32)) rfl ?_
            refine Go.iload C at_261 (q := 263) rfl rfl ?_
            refine Go.iconst C at_263 (q := 264) rfl (v := (1 : Int32)) rfl ?_
            refine Go.isub C at_264 (q := 265) rfl ?_
            refine Go.castI (w := (1 : Int32)) (by decide) ?_
            refine Go.callS C (y := yN7) (as := [(.int (0 : Int32)), (.int (1 : Int32))]) (rest := []) (wd hw 70 rfl) (wd hw 71 rfl) (wd hw 72 rfl) (wd hw 73 rfl) (u_Math_max_72 l Z a0 hw _ ) rfl at_265 (q := 268) rfl (by decide) rfl (na := 2) (by decide +kernel) rfl (by decide) (W := 0) rfl (by decide) (by decide) (by decide) (k' := 7) (n' := 268) rfl rfl ?_
            rintro _ _ ⟨rfl, rfl⟩
            show Go _ _ _ _ _ _ _ _ _ _ [(.int (1 : Int32))]
            refine Go.istore C at_268 (q := 270) rfl (Ls' := #[.val (.int fl), .val (.long ka), .second, .val (.long kb), .second, .val (.long kc), .second, .val (.long kd), .second, .val (.ref o1), .val (.int (1 : Int32)), .val (.int (1 : Int32))]) rfl ?_
            refine Go.iload C at_270 (q := 272) rfl rfl ?_
            refine Go.aload C at_272 (q := 274) rfl rfl rfl ?_
            refine Go.pick (M' := ((o1, oQ (.ref o7) (.ref o4) (.int (0 : Int32)) (.long kc) .null) :: (o7, oRun (.ref o6) (.ref o5) (.int (0 : Int32)) (.int (1 : Int32))) :: (o6, .inr (.long, (oK64 (.long kb) (.long (0 : Int64)) (.long (0 : Int64)) (.long (0 : Int64)) (.long (0 : Int64)) (.long (0 : Int64))), true)) :: (o5, .inr (.object "java/lang/Object", (oE64 .null .null .null .null .null .null), true)) :: (o4, oHeap (.ref o3) (.ref o2) (.int (1 : Int32))) :: (o3, .inr (.long, (oK64 (.long kc) (.long (0 : Int64)) (.long (0 : Int64)) (.long (0 : Int64)) (.long (0 : Int64)) (.long (0 : Int64))), true)) :: (o2, .inr (.object "java/lang/Object", (oE64 (.ref bx13) .null .null .null .null .null), true)) :: [])) 7 [6, 0, 1, 2, 3, 4, 5] (by decide) (by decide) rfl ?_
            refine Go.callV C (y := yN4) (z := yN4) (a := o1) (as := []) (rest := [(.int (1 : Int32))]) (wd hw 41 rfl) (wd hw 42 rfl) (nf_sel (z := yN4) (wd hw 44 rfl)) (wd hw 44 rfl) (wd hw 43 rfl) (wd hw 45 rfl) (wd hw 2 rfl) (fun _ r => r.exa 0 rfl) (u_SequenceQueue_isEmpty_76 l Z a0 hw _ o1 o7 o6 o5 o4 o3 o2 bx13 kc kb (0 : Int64) (0 : Int64) (0 : Int64) (0 : Int64) (0 : Int64) kc (0 : Int64) (0 : Int64) (0 : Int64) (0 : Int64) (0 : Int64) hE_bx13) rfl at_274 (q := 277) rfl (by decide) rfl (na := 0) (by decide +kernel) rfl (by decide) (W := 1) rfl (by decide) (by decide) (by decide) (k' := 7) (n' := 268) rfl rfl ?_
            rintro _ _ ⟨rfl, rfl⟩
            show Go _ _ _ _ _ _ _ _ _ _ [(.int (0 : Int32)), (.int (1 : Int32))]
            refine Go.iload C at_277 (q := 279) rfl rfl ?_
            refine Go.ifYes C at_279 (by decide) (q := 286) rfl (XT.i0_ne_t (by decide)) ?_
            refine Go.iconst C at_286 (q := 287) rfl (v := (0 : Int32)) rfl ?_
            refine Go.icmpNo C at_287 (q := 290) rfl (XT.ii_ne_f (by decide)) ?_
            refine Go.iconst C at_290 (q := 291) rfl (v := (1 : Int32)) rfl ?_
            refine Go.goto C at_291 (by decide) (q := 295) rfl ?_
            refine Go.iand C at_295 (q := 296) rfl ?_
            refine Go.castI (w := (1 : Int32)) (by decide) ?_
            refine Go.istore C at_296 (q := 298) rfl (Ls' := #[.val (.int fl), .val (.long ka), .second, .val (.long kb), .second, .val (.long kc), .second, .val (.long kd), .second, .val (.ref o1), .val (.int (1 : Int32)), .val (.int (1 : Int32))]) rfl ?_
            refine Go.iload C at_298 (q := 300) rfl rfl ?_
            refine Go.retZ C rfl (by decide) at_300 (by decide) (by decide) ?_
            exact rfl
          · show Go _ _ _ _ _ _ _ _ _ _ [(.ref bx11)]
            refine Go.pop C at_259 (q := 260) rfl rfl ?_
            refine Go.iconst C at_260 (q := 261) rfl (v := (0 : Int32)) rfl ?_
            refine Go.iload C at_261 (q := 263) rfl rfl ?_
            refine Go.iconst C at_263 (q := 264) rfl (v := (1 : Int32)) rfl ?_
            refine Go.isub C at_264 (q := 265) rfl ?_
            refine Go.castI (w := (1 : Int32)) (by decide) ?_
            refine Go.callS C (y := yN7) (as := [(.int (0 : Int32)), (.int (1 : Int32))]) (rest := []) (wd hw 70 rfl) (wd hw 71 rfl) (wd hw 72 rfl) (wd hw 73 rfl) (u_Math_max_72 l Z a0 hw _ ) rfl at_265 (q := 268) rfl (by decide) rfl (na := 2) (by decide +kernel) rfl (by decide) (W := 0) rfl (by decide) (by decide) (by decide) (k' := 7) (n' := 268) rfl rfl ?_
            rintro _ _ ⟨rfl, rfl⟩
            show Go _ _ _ _ _ _ _ _ _ _ [(.int (1 : Int32))]
            refine Go.istore C at_268 (q := 270) rfl (Ls' := #[.val (.int fl), .val (.long ka), .second, .val (.long kb), .second, .val (.long kc), .second, .val (.long kd), .second, .val (.ref o1), .val (.int (1 : Int32)), .val (.int (1 : Int32))]) rfl ?_
            refine Go.iload C at_270 (q := 272) rfl rfl ?_
            refine Go.aload C at_272 (q := 274) rfl rfl rfl ?_
            refine Go.pick (M' := ((o1, oQ (.ref o7) (.ref o4) (.int (0 : Int32)) (.long kc) .null) :: (o7, oRun (.ref o6) (.ref o5) (.int (1 : Int32)) (.int (1 : Int32))) :: (o6, .inr (.long, (oK64 (.long kb) (.long kc) (.long (0 : Int64)) (.long (0 : Int64)) (.long (0 : Int64)) (.long (0 : Int64))), true)) :: (o5, .inr (.object "java/lang/Object", (oE64 .null (.ref bx13) .null .null .null .null), true)) :: (o4, oHeap (.ref o3) (.ref o2) (.int (0 : Int32))) :: (o3, .inr (.long, (oK64 (.long (0 : Int64)) (.long (0 : Int64)) (.long (0 : Int64)) (.long (0 : Int64)) (.long (0 : Int64)) (.long (0 : Int64))), true)) :: (o2, .inr (.object "java/lang/Object", (oE64 .null .null .null .null .null .null), true)) :: [])) 7 [3, 0, 1, 2, 4, 5, 6] (by decide) (by decide) rfl ?_
            refine Go.callV C (y := yN4) (z := yN4) (a := o1) (as := []) (rest := [(.int (1 : Int32))]) (wd hw 41 rfl) (wd hw 42 rfl) (nf_sel (z := yN4) (wd hw 44 rfl)) (wd hw 44 rfl) (wd hw 43 rfl) (wd hw 45 rfl) (wd hw 2 rfl) (fun _ r => r.exa 0 rfl) (u_SequenceQueue_isEmpty_78 l Z a0 hw _ o1 o7 o6 o5 o4 o3 o2 bx13 kc kb kc (0 : Int64) (0 : Int64) (0 : Int64) (0 : Int64) (0 : Int64) (0 : Int64) (0 : Int64) (0 : Int64) (0 : Int64) (0 : Int64) hE_bx13) rfl at_274 (q := 277) rfl (by decide) rfl (na := 0) (by decide +kernel) rfl (by decide) (W := 1) rfl (by decide) (by decide) (by decide) (k' := 7) (n' := 268) rfl rfl ?_
            rintro _ _ ⟨rfl, rfl⟩
            show Go _ _ _ _ _ _ _ _ _ _ [(.int (0 : Int32)), (.int (1 : Int32))]
            refine Go.iload C at_277 (q := 279) rfl rfl ?_
            refine Go.ifYes C at_279 (by decide) (q := 286) rfl (XT.i0_ne_t (by decide)) ?_
            refine Go.iconst C at_286 (q := 287) rfl (v := (0 : Int32)) rfl ?_
            refine Go.icmpNo C at_287 (q := 290) rfl (XT.ii_ne_f (by decide)) ?_
            refine Go.iconst C at_290 (q := 291) rfl (v := (1 : Int32)) rfl ?_
            refine Go.goto C at_291 (by decide) (q := 295) rfl ?_
            refine Go.iand C at_295 (q := 296) rfl ?_
            refine Go.castI (w := (1 : Int32)) (by decide) ?_
            refine Go.istore C at_296 (q := 298) rfl (Ls' := #[.val (.int fl), .val (.long ka), .second, .val (.long kb), .second, .val (.long kc), .second, .val (.long kd), .second, .val (.ref o1), .val (.int (1 : Int32)), .val (.int (1 : Int32))]) rfl ?_
            refine Go.iload C at_298 (q := 300) rfl rfl ?_
            refine Go.retZ C rfl (by decide) at_300 (by decide) (by decide) ?_
            exact rfl
          · show Go _ _ _ _ _ _ _ _ _ _ [(.ref bx13)]
            refine Go.pop C at_259 (q := 260) rfl rfl ?_
            refine Go.iconst C at_260 (q := 261) rfl (v := (0 : Int32)) rfl ?_
            refine Go.iload C at_261 (q := 263) rfl rfl ?_
            refine Go.iconst C at_263 (q := 264) rfl (v := (1 : Int32)) rfl ?_
            refine Go.isub C at_264 (q := 265) rfl ?_
            refine Go.castI (w := (1 : Int32)) (by decide) ?_
            refine Go.callS C (y := yN7) (as := [(.int (0 : Int32)), (.int (1 : Int32))]) (rest := []) (wd hw 70 rfl) (wd hw 71 rfl) (wd hw 72 rfl) (wd hw 73 rfl) (u_Math_max_72 l Z a0 hw _ ) rfl at_265 (q := 268) rfl (by decide) rfl (na := 2) (by decide +kernel) rfl (by decide) (W := 0) rfl (by decide) (by decide) (by decide) (k' := 7) (n' := 268) rfl rfl ?_
            rintro _ _ ⟨rfl, rfl⟩
            show Go _ _ _ _ _ _ _ _ _ _ [(.int (1 : Int32))]
            refine Go.istore C at_268 (q := 270) rfl (Ls' := #[.val (.int fl), .val (.long ka), .second, .val (.long kb), .second, .val (.long kc), .second, .val (.long kd), .second, .val (.ref o1), .val (.int (1 : Int32)), .val (.int (1 : Int32))]) rfl ?_
            refine Go.iload C at_270 (q := 272) rfl rfl ?_
            refine Go.aload C at_272 (q := 274) rfl rfl rfl ?_
            refine Go.callV C (y := yN4) (z := yN4) (a := o1) (as := []) (rest := [(.int (1 : Int32))]) (wd hw 41 rfl) (wd hw 42 rfl) (nf_sel (z := yN4) (wd hw 44 rfl)) (wd hw 44 rfl) (wd hw 43 rfl) (wd hw 45 rfl) (wd hw 2 rfl) (fun _ r => r.exa 0 rfl) (u_SequenceQueue_isEmpty_74 l Z a0 hw _ o1 o7 o6 o5 o4 o3 o2 bx11 kc kb (0 : Int64) (0 : Int64) (0 : Int64) (0 : Int64) (0 : Int64) (0 : Int64) (0 : Int64) (0 : Int64) (0 : Int64) (0 : Int64) (0 : Int64) hE_bx11) rfl at_274 (q := 277) rfl (by decide) rfl (na := 0) (by decide +kernel) rfl (by decide) (W := 1) rfl (by decide) (by decide) (by decide) (k' := 7) (n' := 268) rfl rfl ?_
            rintro _ _ ⟨rfl, rfl⟩
            show Go _ _ _ _ _ _ _ _ _ _ [(.int (0 : Int32)), (.int (1 : Int32))]
            refine Go.iload C at_277 (q := 279) rfl rfl ?_
            refine Go.ifYes C at_279 (by decide) (q := 286) rfl (XT.i0_ne_t (by decide)) ?_
            refine Go.iconst C at_286 (q := 287) rfl (v := (0 : Int32)) rfl ?_
            refine Go.icmpNo C at_287 (q := 290) rfl (XT.ii_ne_f (by decide)) ?_
            refine Go.iconst C at_290 (q := 291) rfl (v := (1 : Int32)) rfl ?_
            refine Go.goto C at_291 (by decide) (q := 295) rfl ?_
            refine Go.iand C at_295 (q := 296) rfl ?_
            refine Go.castI (w := (1 : Int32)) (by decide) ?_
            refine Go.istore C at_296 (q := 298) rfl (Ls' := #[.val (.int fl), .val (.long ka), .second, .val (.long kb), .second, .val (.long kc), .second, .val (.long kd), .second, .val (.ref o1), .val (.int (1 : Int32)), .val (.int (1 : Int32))]) rfl ?_
            refine Go.iload C at_298 (q := 300) rfl rfl ?_
            refine Go.retZ C rfl (by decide) at_300 (by decide) (by decide) ?_
            exact rfl
        · refine Go.aload C at_234 (q := 236) rfl rfl rfl ?_
          refine Go.lload C at_236 (q := 238) rfl rfl ?_
          refine Go.iconst C at_238 (q := 239) rfl (v := (3 : Int32)) rfl ?_
          refine Go.callS C (y := yN8) (as := [(.int (3 : Int32))]) (rest := [(.long kd), (.ref o1)]) (wd hw 74 rfl) (wd hw 75 rfl) (wd hw 76 rfl) (wd hw 77 rfl) (m_valueOf3 l Z a0 hw _ cb cs S_high S_cache A_cache H_cache) rfl at_239 (q := 242) rfl (by decide) rfl (na := 1) (by decide +kernel) rfl (by decide) (W := 3) rfl (by decide) (by decide) (by decide) (k' := 7) (n' := 268) rfl rfl ?_
          rintro _ _ ⟨bx14, rfl, rfl, hE_bx14, hF_bx14⟩
          show Go _ _ _ _ _ _ _ _ _ _ [(.ref bx14), (.long kd), (.ref o1)]
          refine Go.callV C (y := yN9) (z := yN9) (a := o1) (as := [(.long kd), (.ref bx14)]) (rest := []) (wd hw 81 rfl) (wd hw 82 rfl) (nf_sel (z := yN9) (wd hw 84 rfl)) (wd hw 84 rfl) (wd hw 83 rfl) (wd hw 85 rfl) (wd hw 2 rfl) (fun _ r => r.exa 0 rfl) (u_SequenceQueue_add_80 l Z a0 hw _ o1 o7 o6 o5 o4 o3 o2 bx14 bx13 bx11 kd kc kb (0 : Int64) (0 : Int64) (0 : Int64) (0 : Int64) (0 : Int64) (0 : Int64) (0 : Int64) (0 : Int64) (0 : Int64) (0 : Int64) (0 : Int64) hE_bx14 hE_bx13 hE_bx11) rfl at_242 (q := 245) rfl (by decide) rfl (na := 2) (by decide +kernel) rfl (by decide) (W := 0) rfl (by decide) (by decide) (by decide) (k' := 7) (n' := 268) rfl rfl ?_
          rintro _ _ (⟨rfl, rfl⟩ | ⟨rfl, rfl⟩)
          · show Go _ _ _ _ _ _ _ _ _ _ []
            refine Go.iload C at_245 (q := 247) rfl rfl ?_
            refine Go.iconst C at_247 (q := 248) rfl (v := (1 : Int32)) rfl ?_
            refine Go.iadd C at_248 (q := 249) rfl ?_
            refine Go.castI (w := (3 : Int32)) (by decide) ?_
            refine Go.istore C at_249 (q := 251) rfl (Ls' := #[.val (.int fl), .val (.long ka), .second, .val (.long kb), .second, .val (.long kc), .second, .val (.long kd), .second, .val (.ref o1), .val (.int (3 : Int32)), .val (.int (1 : Int32))]) rfl ?_
            refine Go.goto C at_251 (by decide) (q := 270) rfl ?_
            refine Go.iload C at_270 (q := 272) rfl rfl ?_
            refine Go.aload C at_272 (q := 274) rfl rfl rfl ?_
            refine Go.pick (M' := ((o1, oQ (.ref o7) (.ref o4) (.int (1 : Int32)) (.long kd) (.ref bx14)) :: (o7, oRun (.ref o6) (.ref o5) (.int (1 : Int32)) (.int (0 : Int32))) :: (o6, .inr (.long, (oK64 (.long kb) (.long (0 : Int64)) (.long (0 : Int64)) (.long (0 : Int64)) (.long (0 : Int64)) (.long (0 : Int64))), true)) :: (o5, .inr (.object "java/lang/Object", (oE64 (.ref bx11) .null .null .null .null .null), true)) :: (o4, oHeap (.ref o3) (.ref o2) (.int (1 : Int32))) :: (o3, .inr (.long, (oK64 (.long kc) (.long (0 : Int64)) (.long (0 : Int64)) (.long (0 : Int64)) (.long (0 : Int64)) (.long (0 : Int64))), true)) :: (o2, .inr (.object "java/lang/Object", (oE64 (.ref bx13) .null .null .null .null .null), true)) :: [])) 7 [6, 3, 4, 5, 0, 1, 2] (by decide) (by decide) rfl ?_
            refine Go.callV C (y := yN4) (z := yN4) (a := o1) (as := []) (rest := [(.int (1 : Int32))]) (wd hw 41 rfl) (wd hw 42 rfl) (nf_sel (z := yN4) (wd hw 44 rfl)) (wd hw 44 rfl) (wd hw 43 rfl) (wd hw 45 rfl) (wd hw 2 rfl) (fun _ r => r.exa 0 rfl) (u_SequenceQueue_isEmpty_82 l Z a0 hw _ o1 o7 o6 o5 o4 o3 o2 bx14 bx11 bx13 kd kb (0 : Int64) (0 : Int64) (0 : Int64) (0 : Int64) (0 : Int64) kc (0 : Int64) (0 : Int64) (0 : Int64) (0 : Int64) (0 : Int64) hE_bx14 hE_bx11 hE_bx13) rfl at_274 (q := 277) rfl (by decide) rfl (na := 0) (by decide +kernel) rfl (by decide) (W := 1) rfl (by decide) (by decide) (by decide) (k' := 7) (n' := 268) rfl rfl ?_
            rintro _ _ ⟨rfl, rfl⟩
            show Go _ _ _ _ _ _ _ _ _ _ [(.int (0 : Int32)), (.int (1 : Int32))]
            refine Go.iload C at_277 (q := 279) rfl rfl ?_
            refine Go.ifYes C at_279 (by decide) (q := 286) rfl (XT.i0_ne_t (by decide)) ?_
            refine Go.iconst C at_286 (q := 287) rfl (v := (0 : Int32)) rfl ?_
            refine Go.icmpNo C at_287 (q := 290) rfl (XT.ii_ne_f (by decide)) ?_
            refine Go.iconst C at_290 (q := 291) rfl (v := (1 : Int32)) rfl ?_
            refine Go.goto C at_291 (by decide) (q := 295) rfl ?_
            refine Go.iand C at_295 (q := 296) rfl ?_
            refine Go.castI (w := (1 : Int32)) (by decide) ?_
            refine Go.istore C at_296 (q := 298) rfl (Ls' := #[.val (.int fl), .val (.long ka), .second, .val (.long kb), .second, .val (.long kc), .second, .val (.long kd), .second, .val (.ref o1), .val (.int (3 : Int32)), .val (.int (1 : Int32))]) rfl ?_
            refine Go.iload C at_298 (q := 300) rfl rfl ?_
            refine Go.retZ C rfl (by decide) at_300 (by decide) (by decide) ?_
            exact rfl
          · show Go _ _ _ _ _ _ _ _ _ _ []
            refine Go.iload C at_245 (q := 247) rfl rfl ?_
            refine Go.iconst C at_247 (q := 248) rfl (v := (1 : Int32)) rfl ?_
            refine Go.iadd C at_248 (q := 249) rfl ?_
            refine Go.castI (w := (3 : Int32)) (by decide) ?_
            refine Go.istore C at_249 (q := 251) rfl (Ls' := #[.val (.int fl), .val (.long ka), .second, .val (.long kb), .second, .val (.long kc), .second, .val (.long kd), .second, .val (.ref o1), .val (.int (3 : Int32)), .val (.int (1 : Int32))]) rfl ?_
            refine Go.goto C at_251 (by decide) (q := 270) rfl ?_
            refine Go.iload C at_270 (q := 272) rfl rfl ?_
            refine Go.aload C at_272 (q := 274) rfl rfl rfl ?_
            refine Go.pick (M' := ((o1, oQ (.ref o7) (.ref o4) (.int (1 : Int32)) (.long kd) (.ref bx14)) :: (o7, oRun (.ref o6) (.ref o5) (.int (2 : Int32)) (.int (0 : Int32))) :: (o6, .inr (.long, (oK64 (.long kb) (.long kc) (.long (0 : Int64)) (.long (0 : Int64)) (.long (0 : Int64)) (.long (0 : Int64))), true)) :: (o5, .inr (.object "java/lang/Object", (oE64 (.ref bx11) (.ref bx13) .null .null .null .null), true)) :: (o4, oHeap (.ref o3) (.ref o2) (.int (0 : Int32))) :: (o3, .inr (.long, (oK64 (.long (0 : Int64)) (.long (0 : Int64)) (.long (0 : Int64)) (.long (0 : Int64)) (.long (0 : Int64)) (.long (0 : Int64))), true)) :: (o2, .inr (.object "java/lang/Object", (oE64 .null .null .null .null .null .null), true)) :: [])) 7 [3, 0, 1, 2, 4, 5, 6] (by decide) (by decide) rfl ?_
            refine Go.callV C (y := yN4) (z := yN4) (a := o1) (as := []) (rest := [(.int (1 : Int32))]) (wd hw 41 rfl) (wd hw 42 rfl) (nf_sel (z := yN4) (wd hw 44 rfl)) (wd hw 44 rfl) (wd hw 43 rfl) (wd hw 45 rfl) (wd hw 2 rfl) (fun _ r => r.exa 0 rfl) (u_SequenceQueue_isEmpty_84 l Z a0 hw _ o1 o7 o6 o5 o4 o3 o2 bx14 bx11 bx13 kd kb kc (0 : Int64) (0 : Int64) (0 : Int64) (0 : Int64) (0 : Int64) (0 : Int64) (0 : Int64) (0 : Int64) (0 : Int64) (0 : Int64) hE_bx14 hE_bx11 hE_bx13) rfl at_274 (q := 277) rfl (by decide) rfl (na := 0) (by decide +kernel) rfl (by decide) (W := 1) rfl (by decide) (by decide) (by decide) (k' := 7) (n' := 268) rfl rfl ?_
            rintro _ _ ⟨rfl, rfl⟩
            show Go _ _ _ _ _ _ _ _ _ _ [(.int (0 : Int32)), (.int (1 : Int32))]
            refine Go.iload C at_277 (q := 279) rfl rfl ?_
            refine Go.ifYes C at_279 (by decide) (q := 286) rfl (XT.i0_ne_t (by decide)) ?_
            refine Go.iconst C at_286 (q := 287) rfl (v := (0 : Int32)) rfl ?_
            refine Go.icmpNo C at_287 (q := 290) rfl (XT.ii_ne_f (by decide)) ?_
            refine Go.iconst C at_290 (q := 291) rfl (v := (1 : Int32)) rfl ?_
            refine Go.goto C at_291 (by decide) (q := 295) rfl ?_
            refine Go.iand C at_295 (q := 296) rfl ?_
            refine Go.castI (w := (1 : Int32)) (by decide) ?_
            refine Go.istore C at_296 (q := 298) rfl (Ls' := #[.val (.int fl), .val (.long ka), .second, .val (.long kb), .second, .val (.long kc), .second, .val (.long kd), .second, .val (.ref o1), .val (.int (3 : Int32)), .val (.int (1 : Int32))]) rfl ?_
            refine Go.iload C at_298 (q := 300) rfl rfl ?_
            refine Go.retZ C rfl (by decide) at_300 (by decide) (by decide) ?_
            exact rfl
  · refine Go.aload C at_25 (q := 27) rfl rfl rfl ?_
    refine Go.lloadN C at_27 (q := 28) rfl rfl ?_
    refine Go.iconst C at_28 (q := 29) rfl (v := (0 : Int32)) rfl ?_
    refine Go.callS C (y := yN8) (as := [(.int (0 : Int32))]) (rest := [(.long ka), (.ref o1)]) (wd hw 74 rfl) (wd hw 75 rfl) (wd hw 76 rfl) (wd hw 77 rfl) (m_valueOf0 l Z a0 hw _ cb cs S_high S_cache A_cache H_cache) rfl at_29 (q := 32) rfl (by decide) rfl (na := 1) (by decide +kernel) rfl (by decide) (W := 3) rfl (by decide) (by decide) (by decide) (k' := 7) (n' := 268) rfl rfl ?_
    rintro _ _ ⟨bx15, rfl, rfl, hE_bx15, hF_bx15⟩
    show Go _ _ _ _ _ _ _ _ _ _ [(.ref bx15), (.long ka), (.ref o1)]
    refine Go.callV C (y := yN9) (z := yN9) (a := o1) (as := [(.long ka), (.ref bx15)]) (rest := []) (wd hw 81 rfl) (wd hw 82 rfl) (nf_sel (z := yN9) (wd hw 84 rfl)) (wd hw 84 rfl) (wd hw 83 rfl) (wd hw 85 rfl) (wd hw 2 rfl) (fun _ r => r.exa 0 rfl) (u_SequenceQueue_add_18 l Z a0 hw _ o1 o7 o6 o5 o4 o3 o2 bx15 ka (0 : Int64) (0 : Int64) (0 : Int64) (0 : Int64) (0 : Int64) (0 : Int64) (0 : Int64) (0 : Int64) (0 : Int64) (0 : Int64) (0 : Int64) (0 : Int64) (0 : Int64) hE_bx15) rfl at_32 (q := 35) rfl (by decide) rfl (na := 2) (by decide +kernel) rfl (by decide) (W := 0) rfl (by decide) (by decide) (by decide) (k' := 7) (n' := 268) rfl rfl ?_
    rintro _ _ ⟨rfl, rfl⟩
    show Go _ _ _ _ _ _ _ _ _ _ []
    refine Go.iload C at_35 (q := 37) rfl rfl ?_
    refine Go.iconst C at_37 (q := 38) rfl (v := (1 : Int32)) rfl ?_
    refine Go.iadd C at_38 (q := 39) rfl ?_
    refine Go.castI (w := (1 : Int32)) (by decide) ?_
    refine Go.istore C at_39 (q := 41) rfl (Ls' := #[.val (.int fl), .val (.long ka), .second, .val (.long kb), .second, .val (.long kc), .second, .val (.long kd), .second, .val (.ref o1), .val (.int (1 : Int32)), .val (.int (1 : Int32))]) rfl ?_
    refine Go.goto C at_41 (by decide) (q := 60) rfl ?_
    refine Go.iload C at_60 (q := 62) rfl rfl ?_
    refine Go.aload C at_62 (q := 64) rfl rfl rfl ?_
    refine Go.callV C (y := yN4) (z := yN4) (a := o1) (as := []) (rest := [(.int (1 : Int32))]) (wd hw 41 rfl) (wd hw 42 rfl) (nf_sel (z := yN4) (wd hw 44 rfl)) (wd hw 44 rfl) (wd hw 43 rfl) (wd hw 45 rfl) (wd hw 2 rfl) (fun _ r => r.exa 0 rfl) (u_SequenceQueue_isEmpty_20 l Z a0 hw _ o1 o7 o6 o5 o4 o3 o2 bx15 ka (0 : Int64) (0 : Int64) (0 : Int64) (0 : Int64) (0 : Int64) (0 : Int64) (0 : Int64) (0 : Int64) (0 : Int64) (0 : Int64) (0 : Int64) (0 : Int64) hE_bx15) rfl at_64 (q := 67) rfl (by decide) rfl (na := 0) (by decide +kernel) rfl (by decide) (W := 1) rfl (by decide) (by decide) (by decide) (k' := 7) (n' := 268) rfl rfl ?_
    rintro _ _ ⟨rfl, rfl⟩
    show Go _ _ _ _ _ _ _ _ _ _ [(.int (0 : Int32)), (.int (1 : Int32))]
    refine Go.iload C at_67 (q := 69) rfl rfl ?_
    refine Go.ifYes C at_69 (by decide) (q := 76) rfl (XT.i0_ne_t (by decide)) ?_
    refine Go.iconst C at_76 (q := 77) rfl (v := (0 : Int32)) rfl ?_
    refine Go.icmpNo C at_77 (q := 80) rfl (XT.ii_ne_f (by decide)) ?_
    refine Go.iconst C at_80 (q := 81) rfl (v := (1 : Int32)) rfl ?_
    refine Go.goto C at_81 (by decide) (q := 85) rfl ?_
    refine Go.iand C at_85 (q := 86) rfl ?_
    refine Go.castI (w := (1 : Int32)) (by decide) ?_
    refine Go.istore C at_86 (q := 88) rfl (Ls' := #[.val (.int fl), .val (.long ka), .second, .val (.long kb), .second, .val (.long kc), .second, .val (.long kd), .second, .val (.ref o1), .val (.int (1 : Int32)), .val (.int (1 : Int32))]) rfl ?_
    refine Go.iloadN C at_88 (q := 89) rfl rfl ?_
    refine Go.iconst C at_89 (q := 90) rfl (v := (2 : Int32)) rfl ?_
    refine Go.iand C at_90 (q := 91) rfl ?_
    refine Go.ifc C at_91 (by decide) (q := 113) rfl (q' := 94) rfl (fun (h91_9 : (fl &&& (2 : Int32)) = 0) => ?_) (fun (h91_9 : ¬ (fl &&& (2 : Int32)) = 0) => ?_)
    · refine Go.aload C at_113 (q := 115) rfl rfl rfl ?_
      refine Go.callV C (y := yN6) (z := yN6) (a := o1) (as := []) (rest := []) (wd hw 54 rfl) (wd hw 55 rfl) (nf_sel (z := yN6) (wd hw 57 rfl)) (wd hw 57 rfl) (wd hw 56 rfl) (wd hw 58 rfl) (wd hw 2 rfl) (fun _ r => r.exa 0 rfl) (u_SequenceQueue_poll_22 l Z a0 hw _ o1 o7 o6 o5 o4 o3 o2 bx15 ka (0 : Int64) (0 : Int64) (0 : Int64) (0 : Int64) (0 : Int64) (0 : Int64) (0 : Int64) (0 : Int64) (0 : Int64) (0 : Int64) (0 : Int64) (0 : Int64) hE_bx15) rfl at_115 (q := 118) rfl (by decide) rfl (na := 0) (by decide +kernel) rfl (by decide) (W := 0) rfl (by decide) (by decide) (by decide) (k' := 7) (n' := 268) rfl rfl ?_
      rintro _ _ ⟨rfl, rfl⟩
      show Go _ _ _ _ _ _ _ _ _ _ [(.ref bx15)]
      refine Go.pop C at_118 (q := 119) rfl rfl ?_
      refine Go.iconst C at_119 (q := 120) rfl (v := (0 : Int32)) rfl ?_
      refine Go.iload C at_120 (q := 122) rfl rfl ?_
      refine Go.iconst C at_122 (q := 123) rfl (v := (1 : Int32)) rfl ?_
      refine Go.isub C at_123 (q := 124) rfl ?_
      refine Go.castI (w := (0 : Int32)) (by decide) ?_
      refine Go.callS C (y := yN7) (as := [(.int (0 : Int32)), (.int (0 : Int32))]) (rest := []) (wd hw 70 rfl) (wd hw 71 rfl) (wd hw 72 rfl) (wd hw 73 rfl) (u_Math_max_24 l Z a0 hw _ ) rfl at_124 (q := 127) rfl (by decide) rfl (na := 2) (by decide +kernel) rfl (by decide) (W := 0) rfl (by decide) (by decide) (by decide) (k' := 7) (n' := 268) rfl rfl ?_
      rintro _ _ ⟨rfl, rfl⟩
      show Go _ _ _ _ _ _ _ _ _ _ [(.int (0 : Int32))]
      refine Go.istore C at_127 (q := 129) rfl (Ls' := #[.val (.int fl), .val (.long ka), .second, .val (.long kb), .second, .val (.long kc), .second, .val (.long kd), .second, .val (.ref o1), .val (.int (0 : Int32)), .val (.int (1 : Int32))]) rfl ?_
      refine Go.iload C at_129 (q := 131) rfl rfl ?_
      refine Go.aload C at_131 (q := 133) rfl rfl rfl ?_
      refine Go.callV C (y := yN4) (z := yN4) (a := o1) (as := []) (rest := [(.int (1 : Int32))]) (wd hw 41 rfl) (wd hw 42 rfl) (nf_sel (z := yN4) (wd hw 44 rfl)) (wd hw 44 rfl) (wd hw 43 rfl) (wd hw 45 rfl) (wd hw 2 rfl) (fun _ r => r.exa 0 rfl) (u_SequenceQueue_isEmpty_10 l Z a0 hw _ o1 o7 o6 o5 o4 o3 o2 ka (0 : Int64) (0 : Int64) (0 : Int64) (0 : Int64) (0 : Int64) (0 : Int64) (0 : Int64) (0 : Int64) (0 : Int64) (0 : Int64) (0 : Int64) (0 : Int64)) rfl at_133 (q := 136) rfl (by decide) rfl (na := 0) (by decide +kernel) rfl (by decide) (W := 1) rfl (by decide) (by decide) (by decide) (k' := 7) (n' := 268) rfl rfl ?_
      rintro _ _ ⟨rfl, rfl⟩
      show Go _ _ _ _ _ _ _ _ _ _ [(.int (1 : Int32)), (.int (1 : Int32))]
      refine Go.iload C at_136 (q := 138) rfl rfl ?_
      refine Go.ifNo C at_138 (q := 141) rfl (XT.i0_ne_f (by decide)) ?_
      refine Go.iconst C at_141 (q := 142) rfl (v := (1 : Int32)) rfl ?_
      refine Go.goto C at_142 (by decide) (q := 146) rfl ?_
      refine Go.icmpNo C at_146 (q := 149) rfl (XT.ii_ne_f (by decide)) ?_
      refine Go.iconst C at_149 (q := 150) rfl (v := (1 : Int32)) rfl ?_
      refine Go.goto C at_150 (by decide) (q := 154) rfl ?_
      refine Go.iand C at_154 (q := 155) rfl ?_
      refine Go.castI (w := (1 : Int32)) (by decide) ?_
      refine Go.istore C at_155 (q := 157) rfl (Ls' := #[.val (.int fl), .val (.long ka), .second, .val (.long kb), .second, .val (.long kc), .second, .val (.long kd), .second, .val (.ref o1), .val (.int (0 : Int32)), .val (.int (1 : Int32))]) rfl ?_
      refine Go.iloadN C at_157 (q := 158) rfl rfl ?_
      refine Go.iconst C at_158 (q := 159) rfl (v := (4 : Int32)) rfl ?_
      refine Go.iand C at_159 (q := 160) rfl ?_
      refine Go.ifc C at_160 (by decide) (q := 183) rfl (q' := 163) rfl (fun (h160_10 : (fl &&& (4 : Int32)) = 0) => ?_) (fun (h160_10 : ¬ (fl &&& (4 : Int32)) = 0) => ?_)
      · refine Go.aload C at_183 (q := 185) rfl rfl rfl ?_
        refine Go.callV C (y := yN6) (z := yN6) (a := o1) (as := []) (rest := []) (wd hw 54 rfl) (wd hw 55 rfl) (nf_sel (z := yN6) (wd hw 57 rfl)) (wd hw 57 rfl) (wd hw 56 rfl) (wd hw 58 rfl) (wd hw 2 rfl) (fun _ r => r.exa 0 rfl) (u_SequenceQueue_poll_12 l Z a0 hw _ o1 o7 o6 o5 o4 o3 o2 ka (0 : Int64) (0 : Int64) (0 : Int64) (0 : Int64) (0 : Int64) (0 : Int64) (0 : Int64) (0 : Int64) (0 : Int64) (0 : Int64) (0 : Int64) (0 : Int64)) rfl at_185 (q := 188) rfl (by decide) rfl (na := 0) (by decide +kernel) rfl (by decide) (W := 0) rfl (by decide) (by decide) (by decide) (k' := 7) (n' := 268) rfl rfl ?_
        rintro _ _ ⟨rfl, rfl⟩
        show Go _ _ _ _ _ _ _ _ _ _ [.null]
        refine Go.pop C at_188 (q := 189) rfl rfl ?_
        refine Go.iconst C at_189 (q := 190) rfl (v := (0 : Int32)) rfl ?_
        refine Go.iload C at_190 (q := 192) rfl rfl ?_
        refine Go.iconst C at_192 (q := 193) rfl (v := (1 : Int32)) rfl ?_
        refine Go.isub C at_193 (q := 194) rfl ?_
        refine Go.castI (w := (-1 : Int32)) (by decide) ?_
        refine Go.callS C (y := yN7) (as := [(.int (0 : Int32)), (.int (-1 : Int32))]) (rest := []) (wd hw 70 rfl) (wd hw 71 rfl) (wd hw 72 rfl) (wd hw 73 rfl) (u_Math_max_16 l Z a0 hw _ ) rfl at_194 (q := 197) rfl (by decide) rfl (na := 2) (by decide +kernel) rfl (by decide) (W := 0) rfl (by decide) (by decide) (by decide) (k' := 7) (n' := 268) rfl rfl ?_
        rintro _ _ ⟨rfl, rfl⟩
        show Go _ _ _ _ _ _ _ _ _ _ [(.int (0 : Int32))]
        refine Go.istore C at_197 (q := 199) rfl (Ls' := #[.val (.int fl), .val (.long ka), .second, .val (.long kb), .second, .val (.long kc), .second, .val (.long kd), .second, .val (.ref o1), .val (.int (0 : Int32)), .val (.int (1 : Int32))]) rfl ?_
        refine Go.iload C at_199 (q := 201) rfl rfl ?_
        refine Go.aload C at_201 (q := 203) rfl rfl rfl ?_
        refine Go.pick (M' := ((o1, oQ (.ref o7) (.ref o4) (.int (0 : Int32)) (.long ka) .null) :: (o7, oRun (.ref o6) (.ref o5) (.int (0 : Int32)) (.int (0 : Int32))) :: (o6, .inr (.long, (oK64 (.long (0 : Int64)) (.long (0 : Int64)) (.long (0 : Int64)) (.long (0 : Int64)) (.long (0 : Int64)) (.long (0 : Int64))), true)) :: (o5, .inr (.object "java/lang/Object", (oE64 .null .null .null .null .null .null), true)) :: (o4, oHeap (.ref o3) (.ref o2) (.int (0 : Int32))) :: (o3, .inr (.long, (oK64 (.long (0 : Int64)) (.long (0 : Int64)) (.long (0 : Int64)) (.long (0 : Int64)) (.long (0 : Int64)) (.long (0 : Int64))), true)) :: (o2, .inr (.object "java/lang/Object", (oE64 .null .null .null .null .null .null), true)) :: [])) 7 [3, 0, 1, 2, 4, 5, 6] (by decide) (by decide) rfl ?_
        refine Go.callV C (y := yN4) (z := yN4) (a := o1) (as := []) (rest := [(.int (1 : Int32))]) (wd hw 41 rfl) (wd hw 42 rfl) (nf_sel (z := yN4) (wd hw 44 rfl)) (wd hw 44 rfl) (wd hw 43 rfl) (wd hw 45 rfl) (wd hw 2 rfl) (fun _ r => r.exa 0 rfl) (u_SequenceQueue_isEmpty_10 l Z a0 hw _ o1 o7 o6 o5 o4 o3 o2 ka (0 : Int64) (0 : Int64) (0 : Int64) (0 : Int64) (0 : Int64) (0 : Int64) (0 : Int64) (0 : Int64) (0 : Int64) (0 : Int64) (0 : Int64) (0 : Int64)) rfl at_203 (q := 206) rfl (by decide) rfl (na := 0) (by decide +kernel) rfl (by decide) (W := 1) rfl (by decide) (by decide) (by decide) (k' := 7) (n' := 268) rfl rfl ?_
        rintro _ _ ⟨rfl, rfl⟩
        show Go _ _ _ _ _ _ _ _ _ _ [(.int (1 : Int32)), (.int (1 : Int32))]
        refine Go.iload C at_206 (q := 208) rfl rfl ?_
        refine Go.ifNo C at_208 (q := 211) rfl (XT.i0_ne_f (by decide)) ?_
        refine Go.iconst C at_211 (q := 212) rfl (v := (1 : Int32)) rfl ?_
        refine Go.goto C at_212 (by decide) (q := 216) rfl ?_
        refine Go.icmpNo C at_216 (q := 219) rfl (XT.ii_ne_f (by decide)) ?_
        refine Go.iconst C at_219 (q := 220) rfl (v := (1 : Int32)) rfl ?_
        refine Go.goto C at_220 (by decide) (q := 224) rfl ?_
        refine Go.iand C at_224 (q := 225) rfl ?_
        refine Go.castI (w := (1 : Int32)) (by decide) ?_
        refine Go.istore C at_225 (q := 227) rfl (Ls' := #[.val (.int fl), .val (.long ka), .second, .val (.long kb), .second, .val (.long kc), .second, .val (.long kd), .second, .val (.ref o1), .val (.int (0 : Int32)), .val (.int (1 : Int32))]) rfl ?_
        refine Go.iloadN C at_227 (q := 228) rfl rfl ?_
        refine Go.bipush C at_228 (q := 230) rfl (v := (8 : Int32)) (by decide) ?_
        refine Go.iand C at_230 (q := 231) rfl ?_
        refine Go.ifc C at_231 (by decide) (q := 254) rfl (q' := 234) rfl (fun (h231_11 : (fl &&& (8 : Int32)) = 0) => ?_) (fun (h231_11 : ¬ (fl &&& (8 : Int32)) = 0) => ?_)
        · refine Go.aload C at_254 (q := 256) rfl rfl rfl ?_
          refine Go.callV C (y := yN6) (z := yN6) (a := o1) (as := []) (rest := []) (wd hw 54 rfl) (wd hw 55 rfl) (nf_sel (z := yN6) (wd hw 57 rfl)) (wd hw 57 rfl) (wd hw 56 rfl) (wd hw 58 rfl) (wd hw 2 rfl) (fun _ r => r.exa 0 rfl) (u_SequenceQueue_poll_12 l Z a0 hw _ o1 o7 o6 o5 o4 o3 o2 ka (0 : Int64) (0 : Int64) (0 : Int64) (0 : Int64) (0 : Int64) (0 : Int64) (0 : Int64) (0 : Int64) (0 : Int64) (0 : Int64) (0 : Int64) (0 : Int64)) rfl at_256 (q := 259) rfl (by decide) rfl (na := 0) (by decide +kernel) rfl (by decide) (W := 0) rfl (by decide) (by decide) (by decide) (k' := 7) (n' := 268) rfl rfl ?_
          rintro _ _ ⟨rfl, rfl⟩
          show Go _ _ _ _ _ _ _ _ _ _ [.null]
          refine Go.pop C at_259 (q := 260) rfl rfl ?_
          refine Go.iconst C at_260 (q := 261) rfl (v := (0 : Int32)) rfl ?_
          refine Go.iload C at_261 (q := 263) rfl rfl ?_
          refine Go.iconst C at_263 (q := 264) rfl (v := (1 : Int32)) rfl ?_
          refine Go.isub C at_264 (q := 265) rfl ?_
          refine Go.castI (w := (-1 : Int32)) (by decide) ?_
          refine Go.callS C (y := yN7) (as := [(.int (0 : Int32)), (.int (-1 : Int32))]) (rest := []) (wd hw 70 rfl) (wd hw 71 rfl) (wd hw 72 rfl) (wd hw 73 rfl) (u_Math_max_16 l Z a0 hw _ ) rfl at_265 (q := 268) rfl (by decide) rfl (na := 2) (by decide +kernel) rfl (by decide) (W := 0) rfl (by decide) (by decide) (by decide) (k' := 7) (n' := 268) rfl rfl ?_
          rintro _ _ ⟨rfl, rfl⟩
          show Go _ _ _ _ _ _ _ _ _ _ [(.int (0 : Int32))]
          refine Go.istore C at_268 (q := 270) rfl (Ls' := #[.val (.int fl), .val (.long ka), .second, .val (.long kb), .second, .val (.long kc), .second, .val (.long kd), .second, .val (.ref o1), .val (.int (0 : Int32)), .val (.int (1 : Int32))]) rfl ?_
          refine Go.iload C at_270 (q := 272) rfl rfl ?_
          refine Go.aload C at_272 (q := 274) rfl rfl rfl ?_
          refine Go.pick (M' := ((o1, oQ (.ref o7) (.ref o4) (.int (0 : Int32)) (.long ka) .null) :: (o7, oRun (.ref o6) (.ref o5) (.int (0 : Int32)) (.int (0 : Int32))) :: (o6, .inr (.long, (oK64 (.long (0 : Int64)) (.long (0 : Int64)) (.long (0 : Int64)) (.long (0 : Int64)) (.long (0 : Int64)) (.long (0 : Int64))), true)) :: (o5, .inr (.object "java/lang/Object", (oE64 .null .null .null .null .null .null), true)) :: (o4, oHeap (.ref o3) (.ref o2) (.int (0 : Int32))) :: (o3, .inr (.long, (oK64 (.long (0 : Int64)) (.long (0 : Int64)) (.long (0 : Int64)) (.long (0 : Int64)) (.long (0 : Int64)) (.long (0 : Int64))), true)) :: (o2, .inr (.object "java/lang/Object", (oE64 .null .null .null .null .null .null), true)) :: [])) 7 [3, 0, 1, 2, 4, 5, 6] (by decide) (by decide) rfl ?_
          refine Go.callV C (y := yN4) (z := yN4) (a := o1) (as := []) (rest := [(.int (1 : Int32))]) (wd hw 41 rfl) (wd hw 42 rfl) (nf_sel (z := yN4) (wd hw 44 rfl)) (wd hw 44 rfl) (wd hw 43 rfl) (wd hw 45 rfl) (wd hw 2 rfl) (fun _ r => r.exa 0 rfl) (u_SequenceQueue_isEmpty_10 l Z a0 hw _ o1 o7 o6 o5 o4 o3 o2 ka (0 : Int64) (0 : Int64) (0 : Int64) (0 : Int64) (0 : Int64) (0 : Int64) (0 : Int64) (0 : Int64) (0 : Int64) (0 : Int64) (0 : Int64) (0 : Int64)) rfl at_274 (q := 277) rfl (by decide) rfl (na := 0) (by decide +kernel) rfl (by decide) (W := 1) rfl (by decide) (by decide) (by decide) (k' := 7) (n' := 268) rfl rfl ?_
          rintro _ _ ⟨rfl, rfl⟩
          show Go _ _ _ _ _ _ _ _ _ _ [(.int (1 : Int32)), (.int (1 : Int32))]
          refine Go.iload C at_277 (q := 279) rfl rfl ?_
          refine Go.ifNo C at_279 (q := 282) rfl (XT.i0_ne_f (by decide)) ?_
          refine Go.iconst C at_282 (q := 283) rfl (v := (1 : Int32)) rfl ?_
          refine Go.goto C at_283 (by decide) (q := 287) rfl ?_
          refine Go.icmpNo C at_287 (q := 290) rfl (XT.ii_ne_f (by decide)) ?_
          refine Go.iconst C at_290 (q := 291) rfl (v := (1 : Int32)) rfl ?_
          refine Go.goto C at_291 (by decide) (q := 295) rfl ?_
          refine Go.iand C at_295 (q := 296) rfl ?_
          refine Go.castI (w := (1 : Int32)) (by decide) ?_
          refine Go.istore C at_296 (q := 298) rfl (Ls' := #[.val (.int fl), .val (.long ka), .second, .val (.long kb), .second, .val (.long kc), .second, .val (.long kd), .second, .val (.ref o1), .val (.int (0 : Int32)), .val (.int (1 : Int32))]) rfl ?_
          refine Go.iload C at_298 (q := 300) rfl rfl ?_
          refine Go.retZ C rfl (by decide) at_300 (by decide) (by decide) ?_
          exact rfl
        · refine Go.aload C at_234 (q := 236) rfl rfl rfl ?_
          refine Go.lload C at_236 (q := 238) rfl rfl ?_
          refine Go.iconst C at_238 (q := 239) rfl (v := (3 : Int32)) rfl ?_
          refine Go.callS C (y := yN8) (as := [(.int (3 : Int32))]) (rest := [(.long kd), (.ref o1)]) (wd hw 74 rfl) (wd hw 75 rfl) (wd hw 76 rfl) (wd hw 77 rfl) (m_valueOf3 l Z a0 hw _ cb cs S_high S_cache A_cache H_cache) rfl at_239 (q := 242) rfl (by decide) rfl (na := 1) (by decide +kernel) rfl (by decide) (W := 3) rfl (by decide) (by decide) (by decide) (k' := 7) (n' := 268) rfl rfl ?_
          rintro _ _ ⟨bx16, rfl, rfl, hE_bx16, hF_bx16⟩
          show Go _ _ _ _ _ _ _ _ _ _ [(.ref bx16), (.long kd), (.ref o1)]
          refine Go.callV C (y := yN9) (z := yN9) (a := o1) (as := [(.long kd), (.ref bx16)]) (rest := []) (wd hw 81 rfl) (wd hw 82 rfl) (nf_sel (z := yN9) (wd hw 84 rfl)) (wd hw 84 rfl) (wd hw 83 rfl) (wd hw 85 rfl) (wd hw 2 rfl) (fun _ r => r.exa 0 rfl) (u_SequenceQueue_add_18 l Z a0 hw _ o1 o7 o6 o5 o4 o3 o2 bx16 kd ka (0 : Int64) (0 : Int64) (0 : Int64) (0 : Int64) (0 : Int64) (0 : Int64) (0 : Int64) (0 : Int64) (0 : Int64) (0 : Int64) (0 : Int64) (0 : Int64) hE_bx16) rfl at_242 (q := 245) rfl (by decide) rfl (na := 2) (by decide +kernel) rfl (by decide) (W := 0) rfl (by decide) (by decide) (by decide) (k' := 7) (n' := 268) rfl rfl ?_
          rintro _ _ ⟨rfl, rfl⟩
          show Go _ _ _ _ _ _ _ _ _ _ []
          refine Go.iload C at_245 (q := 247) rfl rfl ?_
          refine Go.iconst C at_247 (q := 248) rfl (v := (1 : Int32)) rfl ?_
          refine Go.iadd C at_248 (q := 249) rfl ?_
          refine Go.castI (w := (1 : Int32)) (by decide) ?_
          refine Go.istore C at_249 (q := 251) rfl (Ls' := #[.val (.int fl), .val (.long ka), .second, .val (.long kb), .second, .val (.long kc), .second, .val (.long kd), .second, .val (.ref o1), .val (.int (1 : Int32)), .val (.int (1 : Int32))]) rfl ?_
          refine Go.goto C at_251 (by decide) (q := 270) rfl ?_
          refine Go.iload C at_270 (q := 272) rfl rfl ?_
          refine Go.aload C at_272 (q := 274) rfl rfl rfl ?_
          refine Go.callV C (y := yN4) (z := yN4) (a := o1) (as := []) (rest := [(.int (1 : Int32))]) (wd hw 41 rfl) (wd hw 42 rfl) (nf_sel (z := yN4) (wd hw 44 rfl)) (wd hw 44 rfl) (wd hw 43 rfl) (wd hw 45 rfl) (wd hw 2 rfl) (fun _ r => r.exa 0 rfl) (u_SequenceQueue_isEmpty_20 l Z a0 hw _ o1 o7 o6 o5 o4 o3 o2 bx16 kd (0 : Int64) (0 : Int64) (0 : Int64) (0 : Int64) (0 : Int64) (0 : Int64) (0 : Int64) (0 : Int64) (0 : Int64) (0 : Int64) (0 : Int64) (0 : Int64) hE_bx16) rfl at_274 (q := 277) rfl (by decide) rfl (na := 0) (by decide +kernel) rfl (by decide) (W := 1) rfl (by decide) (by decide) (by decide) (k' := 7) (n' := 268) rfl rfl ?_
          rintro _ _ ⟨rfl, rfl⟩
          show Go _ _ _ _ _ _ _ _ _ _ [(.int (0 : Int32)), (.int (1 : Int32))]
          refine Go.iload C at_277 (q := 279) rfl rfl ?_
          refine Go.ifYes C at_279 (by decide) (q := 286) rfl (XT.i0_ne_t (by decide)) ?_
          refine Go.iconst C at_286 (q := 287) rfl (v := (0 : Int32)) rfl ?_
          refine Go.icmpNo C at_287 (q := 290) rfl (XT.ii_ne_f (by decide)) ?_
          refine Go.iconst C at_290 (q := 291) rfl (v := (1 : Int32)) rfl ?_
          refine Go.goto C at_291 (by decide) (q := 295) rfl ?_
          refine Go.iand C at_295 (q := 296) rfl ?_
          refine Go.castI (w := (1 : Int32)) (by decide) ?_
          refine Go.istore C at_296 (q := 298) rfl (Ls' := #[.val (.int fl), .val (.long ka), .second, .val (.long kb), .second, .val (.long kc), .second, .val (.long kd), .second, .val (.ref o1), .val (.int (1 : Int32)), .val (.int (1 : Int32))]) rfl ?_
          refine Go.iload C at_298 (q := 300) rfl rfl ?_
          refine Go.retZ C rfl (by decide) at_300 (by decide) (by decide) ?_
          exact rfl
      · refine Go.aload C at_163 (q := 165) rfl rfl rfl ?_
        refine Go.lload C at_165 (q := 167) rfl rfl ?_
        refine Go.iconst C at_167 (q := 168) rfl (v := (2 : Int32)) rfl ?_
        refine Go.callS C (y := yN8) (as := [(.int (2 : Int32))]) (rest := [(.long kc), (.ref o1)]) (wd hw 74 rfl) (wd hw 75 rfl) (wd hw 76 rfl) (wd hw 77 rfl) (m_valueOf2 l Z a0 hw _ cb cs S_high S_cache A_cache H_cache) rfl at_168 (q := 171) rfl (by decide) rfl (na := 1) (by decide +kernel) rfl (by decide) (W := 3) rfl (by decide) (by decide) (by decide) (k' := 7) (n' := 268) rfl rfl ?_
        rintro _ _ ⟨bx17, rfl, rfl, hE_bx17, hF_bx17⟩
        show Go _ _ _ _ _ _ _ _ _ _ [(.ref bx17), (.long kc), (.ref o1)]
        refine Go.callV C (y := yN9) (z := yN9) (a := o1) (as := [(.long kc), (.ref bx17)]) (rest := []) (wd hw 81 rfl) (wd hw 82 rfl) (nf_sel (z := yN9) (wd hw 84 rfl)) (wd hw 84 rfl) (wd hw 83 rfl) (wd hw 85 rfl) (wd hw 2 rfl) (fun _ r => r.exa 0 rfl) (u_SequenceQueue_add_18 l Z a0 hw _ o1 o7 o6 o5 o4 o3 o2 bx17 kc ka (0 : Int64) (0 : Int64) (0 : Int64) (0 : Int64) (0 : Int64) (0 : Int64) (0 : Int64) (0 : Int64) (0 : Int64) (0 : Int64) (0 : Int64) (0 : Int64) hE_bx17) rfl at_171 (q := 174) rfl (by decide) rfl (na := 2) (by decide +kernel) rfl (by decide) (W := 0) rfl (by decide) (by decide) (by decide) (k' := 7) (n' := 268) rfl rfl ?_
        rintro _ _ ⟨rfl, rfl⟩
        show Go _ _ _ _ _ _ _ _ _ _ []
        refine Go.iload C at_174 (q := 176) rfl rfl ?_
        refine Go.iconst C at_176 (q := 177) rfl (v := (1 : Int32)) rfl ?_
        refine Go.iadd C at_177 (q := 178) rfl ?_
        refine Go.castI (w := (1 : Int32)) (by decide) ?_
        refine Go.istore C at_178 (q := 180) rfl (Ls' := #[.val (.int fl), .val (.long ka), .second, .val (.long kb), .second, .val (.long kc), .second, .val (.long kd), .second, .val (.ref o1), .val (.int (1 : Int32)), .val (.int (1 : Int32))]) rfl ?_
        refine Go.goto C at_180 (by decide) (q := 199) rfl ?_
        refine Go.iload C at_199 (q := 201) rfl rfl ?_
        refine Go.aload C at_201 (q := 203) rfl rfl rfl ?_
        refine Go.callV C (y := yN4) (z := yN4) (a := o1) (as := []) (rest := [(.int (1 : Int32))]) (wd hw 41 rfl) (wd hw 42 rfl) (nf_sel (z := yN4) (wd hw 44 rfl)) (wd hw 44 rfl) (wd hw 43 rfl) (wd hw 45 rfl) (wd hw 2 rfl) (fun _ r => r.exa 0 rfl) (u_SequenceQueue_isEmpty_20 l Z a0 hw _ o1 o7 o6 o5 o4 o3 o2 bx17 kc (0 : Int64) (0 : Int64) (0 : Int64) (0 : Int64) (0 : Int64) (0 : Int64) (0 : Int64) (0 : Int64) (0 : Int64) (0 : Int64) (0 : Int64) (0 : Int64) hE_bx17) rfl at_203 (q := 206) rfl (by decide) rfl (na := 0) (by decide +kernel) rfl (by decide) (W := 1) rfl (by decide) (by decide) (by decide) (k' := 7) (n' := 268) rfl rfl ?_
        rintro _ _ ⟨rfl, rfl⟩
        show Go _ _ _ _ _ _ _ _ _ _ [(.int (0 : Int32)), (.int (1 : Int32))]
        refine Go.iload C at_206 (q := 208) rfl rfl ?_
        refine Go.ifYes C at_208 (by decide) (q := 215) rfl (XT.i0_ne_t (by decide)) ?_
        refine Go.iconst C at_215 (q := 216) rfl (v := (0 : Int32)) rfl ?_
        refine Go.icmpNo C at_216 (q := 219) rfl (XT.ii_ne_f (by decide)) ?_
        refine Go.iconst C at_219 (q := 220) rfl (v := (1 : Int32)) rfl ?_
        refine Go.goto C at_220 (by decide) (q := 224) rfl ?_
        refine Go.iand C at_224 (q := 225) rfl ?_
        refine Go.castI (w := (1 : Int32)) (by decide) ?_
        refine Go.istore C at_225 (q := 227) rfl (Ls' := #[.val (.int fl), .val (.long ka), .second, .val (.long kb), .second, .val (.long kc), .second, .val (.long kd), .second, .val (.ref o1), .val (.int (1 : Int32)), .val (.int (1 : Int32))]) rfl ?_
        refine Go.iloadN C at_227 (q := 228) rfl rfl ?_
        refine Go.bipush C at_228 (q := 230) rfl (v := (8 : Int32)) (by decide) ?_
        refine Go.iand C at_230 (q := 231) rfl ?_
        refine Go.ifc C at_231 (by decide) (q := 254) rfl (q' := 234) rfl (fun (h231_12 : (fl &&& (8 : Int32)) = 0) => ?_) (fun (h231_12 : ¬ (fl &&& (8 : Int32)) = 0) => ?_)
        · refine Go.aload C at_254 (q := 256) rfl rfl rfl ?_
          refine Go.callV C (y := yN6) (z := yN6) (a := o1) (as := []) (rest := []) (wd hw 54 rfl) (wd hw 55 rfl) (nf_sel (z := yN6) (wd hw 57 rfl)) (wd hw 57 rfl) (wd hw 56 rfl) (wd hw 58 rfl) (wd hw 2 rfl) (fun _ r => r.exa 0 rfl) (u_SequenceQueue_poll_22 l Z a0 hw _ o1 o7 o6 o5 o4 o3 o2 bx17 kc (0 : Int64) (0 : Int64) (0 : Int64) (0 : Int64) (0 : Int64) (0 : Int64) (0 : Int64) (0 : Int64) (0 : Int64) (0 : Int64) (0 : Int64) (0 : Int64) hE_bx17) rfl at_256 (q := 259) rfl (by decide) rfl (na := 0) (by decide +kernel) rfl (by decide) (W := 0) rfl (by decide) (by decide) (by decide) (k' := 7) (n' := 268) rfl rfl ?_
          rintro _ _ ⟨rfl, rfl⟩
          show Go _ _ _ _ _ _ _ _ _ _ [(.ref bx17)]
          refine Go.pop C at_259 (q := 260) rfl rfl ?_
          refine Go.iconst C at_260 (q := 261) rfl (v := (0 : Int32)) rfl ?_
          refine Go.iload C at_261 (q := 263) rfl rfl ?_
          refine Go.iconst C at_263 (q := 264) rfl (v := (1 : Int32)) rfl ?_
          refine Go.isub C at_264 (q := 265) rfl ?_
          refine Go.castI (w := (0 : Int32)) (by decide) ?_
          refine Go.callS C (y := yN7) (as := [(.int (0 : Int32)), (.int (0 : Int32))]) (rest := []) (wd hw 70 rfl) (wd hw 71 rfl) (wd hw 72 rfl) (wd hw 73 rfl) (u_Math_max_24 l Z a0 hw _ ) rfl at_265 (q := 268) rfl (by decide) rfl (na := 2) (by decide +kernel) rfl (by decide) (W := 0) rfl (by decide) (by decide) (by decide) (k' := 7) (n' := 268) rfl rfl ?_
          rintro _ _ ⟨rfl, rfl⟩
          show Go _ _ _ _ _ _ _ _ _ _ [(.int (0 : Int32))]
          refine Go.istore C at_268 (q := 270) rfl (Ls' := #[.val (.int fl), .val (.long ka), .second, .val (.long kb), .second, .val (.long kc), .second, .val (.long kd), .second, .val (.ref o1), .val (.int (0 : Int32)), .val (.int (1 : Int32))]) rfl ?_
          refine Go.iload C at_270 (q := 272) rfl rfl ?_
          refine Go.aload C at_272 (q := 274) rfl rfl rfl ?_
          refine Go.callV C (y := yN4) (z := yN4) (a := o1) (as := []) (rest := [(.int (1 : Int32))]) (wd hw 41 rfl) (wd hw 42 rfl) (nf_sel (z := yN4) (wd hw 44 rfl)) (wd hw 44 rfl) (wd hw 43 rfl) (wd hw 45 rfl) (wd hw 2 rfl) (fun _ r => r.exa 0 rfl) (u_SequenceQueue_isEmpty_10 l Z a0 hw _ o1 o7 o6 o5 o4 o3 o2 kc (0 : Int64) (0 : Int64) (0 : Int64) (0 : Int64) (0 : Int64) (0 : Int64) (0 : Int64) (0 : Int64) (0 : Int64) (0 : Int64) (0 : Int64) (0 : Int64)) rfl at_274 (q := 277) rfl (by decide) rfl (na := 0) (by decide +kernel) rfl (by decide) (W := 1) rfl (by decide) (by decide) (by decide) (k' := 7) (n' := 268) rfl rfl ?_
          rintro _ _ ⟨rfl, rfl⟩
          show Go _ _ _ _ _ _ _ _ _ _ [(.int (1 : Int32)), (.int (1 : Int32))]
          refine Go.iload C at_277 (q := 279) rfl rfl ?_
          refine Go.ifNo C at_279 (q := 282) rfl (XT.i0_ne_f (by decide)) ?_
          refine Go.iconst C at_282 (q := 283) rfl (v := (1 : Int32)) rfl ?_
          refine Go.goto C at_283 (by decide) (q := 287) rfl ?_
          refine Go.icmpNo C at_287 (q := 290) rfl (XT.ii_ne_f (by decide)) ?_
          refine Go.iconst C at_290 (q := 291) rfl (v := (1 : Int32)) rfl ?_
          refine Go.goto C at_291 (by decide) (q := 295) rfl ?_
          refine Go.iand C at_295 (q := 296) rfl ?_
          refine Go.castI (w := (1 : Int32)) (by decide) ?_
          refine Go.istore C at_296 (q := 298) rfl (Ls' := #[.val (.int fl), .val (.long ka), .second, .val (.long kb), .second, .val (.long kc), .second, .val (.long kd), .second, .val (.ref o1), .val (.int (0 : Int32)), .val (.int (1 : Int32))]) rfl ?_
          refine Go.iload C at_298 (q := 300) rfl rfl ?_
          refine Go.retZ C rfl (by decide) at_300 (by decide) (by decide) ?_
          exact rfl
        · refine Go.aload C at_234 (q := 236) rfl rfl rfl ?_
          refine Go.lload C at_236 (q := 238) rfl rfl ?_
          refine Go.iconst C at_238 (q := 239) rfl (v := (3 : Int32)) rfl ?_
          refine Go.callS C (y := yN8) (as := [(.int (3 : Int32))]) (rest := [(.long kd), (.ref o1)]) (wd hw 74 rfl) (wd hw 75 rfl) (wd hw 76 rfl) (wd hw 77 rfl) (m_valueOf3 l Z a0 hw _ cb cs S_high S_cache A_cache H_cache) rfl at_239 (q := 242) rfl (by decide) rfl (na := 1) (by decide +kernel) rfl (by decide) (W := 3) rfl (by decide) (by decide) (by decide) (k' := 7) (n' := 268) rfl rfl ?_
          rintro _ _ ⟨bx18, rfl, rfl, hE_bx18, hF_bx18⟩
          show Go _ _ _ _ _ _ _ _ _ _ [(.ref bx18), (.long kd), (.ref o1)]
          refine Go.callV C (y := yN9) (z := yN9) (a := o1) (as := [(.long kd), (.ref bx18)]) (rest := []) (wd hw 81 rfl) (wd hw 82 rfl) (nf_sel (z := yN9) (wd hw 84 rfl)) (wd hw 84 rfl) (wd hw 83 rfl) (wd hw 85 rfl) (wd hw 2 rfl) (fun _ r => r.exa 0 rfl) (u_SequenceQueue_add_26 l Z a0 hw _ o1 o7 o6 o5 o4 o3 o2 bx18 bx17 kd kc (0 : Int64) (0 : Int64) (0 : Int64) (0 : Int64) (0 : Int64) (0 : Int64) (0 : Int64) (0 : Int64) (0 : Int64) (0 : Int64) (0 : Int64) (0 : Int64) hE_bx18 hE_bx17) rfl at_242 (q := 245) rfl (by decide) rfl (na := 2) (by decide +kernel) rfl (by decide) (W := 0) rfl (by decide) (by decide) (by decide) (k' := 7) (n' := 268) rfl rfl ?_
          rintro _ _ ⟨rfl, rfl⟩
          show Go _ _ _ _ _ _ _ _ _ _ []
          refine Go.iload C at_245 (q := 247) rfl rfl ?_
          refine Go.iconst C at_247 (q := 248) rfl (v := (1 : Int32)) rfl ?_
          refine Go.iadd C at_248 (q := 249) rfl ?_
          refine Go.castI (w := (2 : Int32)) (by decide) ?_
          refine Go.istore C at_249 (q := 251) rfl (Ls' := #[.val (.int fl), .val (.long ka), .second, .val (.long kb), .second, .val (.long kc), .second, .val (.long kd), .second, .val (.ref o1), .val (.int (2 : Int32)), .val (.int (1 : Int32))]) rfl ?_
          refine Go.goto C at_251 (by decide) (q := 270) rfl ?_
          refine Go.iload C at_270 (q := 272) rfl rfl ?_
          refine Go.aload C at_272 (q := 274) rfl rfl rfl ?_
          refine Go.pick (M' := ((o1, oQ (.ref o7) (.ref o4) (.int (1 : Int32)) (.long kd) (.ref bx18)) :: (o7, oRun (.ref o6) (.ref o5) (.int (1 : Int32)) (.int (0 : Int32))) :: (o6, .inr (.long, (oK64 (.long kc) (.long (0 : Int64)) (.long (0 : Int64)) (.long (0 : Int64)) (.long (0 : Int64)) (.long (0 : Int64))), true)) :: (o5, .inr (.object "java/lang/Object", (oE64 (.ref bx17) .null .null .null .null .null), true)) :: (o4, oHeap (.ref o3) (.ref o2) (.int (0 : Int32))) :: (o3, .inr (.long, (oK64 (.long (0 : Int64)) (.long (0 : Int64)) (.long (0 : Int64)) (.long (0 : Int64)) (.long (0 : Int64)) (.long (0 : Int64))), true)) :: (o2, .inr (.object "java/lang/Object", (oE64 .null .null .null .null .null .null), true)) :: [])) 7 [3, 0, 1, 2, 4, 5, 6] (by decide) (by decide) rfl ?_
          refine Go.callV C (y := yN4) (z := yN4) (a := o1) (as := []) (rest := [(.int (1 : Int32))]) (wd hw 41 rfl) (wd hw 42 rfl) (nf_sel (z := yN4) (wd hw 44 rfl)) (wd hw 44 rfl) (wd hw 43 rfl) (wd hw 45 rfl) (wd hw 2 rfl) (fun _ r => r.exa 0 rfl) (u_SequenceQueue_isEmpty_36 l Z a0 hw _ o1 o7 o6 o5 o4 o3 o2 bx18 bx17 kd kc (0 : Int64) (0 : Int64) (0 : Int64) (0 : Int64) (0 : Int64) (0 : Int64) (0 : Int64) (0 : Int64) (0 : Int64) (0 : Int64) (0 : Int64) hE_bx18 hE_bx17) rfl at_274 (q := 277) rfl (by decide) rfl (na := 0) (by decide +kernel) rfl (by decide) (W := 1) rfl (by decide) (by decide) (by decide) (k' := 7) (n' := 268) rfl rfl ?_
          rintro _ _ ⟨rfl, rfl⟩
          show Go _ _ _ _ _ _ _ _ _ _ [(.int (0 : Int32)), (.int (1 : Int32))]
          refine Go.iload C at_277 (q := 279) rfl rfl ?_
          refine Go.ifYes C at_279 (by decide) (q := 286) rfl (XT.i0_ne_t (by decide)) ?_
          refine Go.iconst C at_286 (q := 287) rfl (v := (0 : Int32)) rfl ?_
          refine Go.icmpNo C at_287 (q := 290) rfl (XT.ii_ne_f (by decide)) ?_
          refine Go.iconst C at_290 (q := 291) rfl (v := (1 : Int32)) rfl ?_
          refine Go.goto C at_291 (by decide) (q := 295) rfl ?_
          refine Go.iand C at_295 (q := 296) rfl ?_
          refine Go.castI (w := (1 : Int32)) (by decide) ?_
          refine Go.istore C at_296 (q := 298) rfl (Ls' := #[.val (.int fl), .val (.long ka), .second, .val (.long kb), .second, .val (.long kc), .second, .val (.long kd), .second, .val (.ref o1), .val (.int (2 : Int32)), .val (.int (1 : Int32))]) rfl ?_
          refine Go.iload C at_298 (q := 300) rfl rfl ?_
          refine Go.retZ C rfl (by decide) at_300 (by decide) (by decide) ?_
          exact rfl
    · refine Go.aload C at_94 (q := 96) rfl rfl rfl ?_
      refine Go.lloadN C at_96 (q := 97) rfl rfl ?_
      refine Go.iconst C at_97 (q := 98) rfl (v := (1 : Int32)) rfl ?_
      refine Go.callS C (y := yN8) (as := [(.int (1 : Int32))]) (rest := [(.long kb), (.ref o1)]) (wd hw 74 rfl) (wd hw 75 rfl) (wd hw 76 rfl) (wd hw 77 rfl) (m_valueOf1 l Z a0 hw _ cb cs S_high S_cache A_cache H_cache) rfl at_98 (q := 101) rfl (by decide) rfl (na := 1) (by decide +kernel) rfl (by decide) (W := 3) rfl (by decide) (by decide) (by decide) (k' := 7) (n' := 268) rfl rfl ?_
      rintro _ _ ⟨bx19, rfl, rfl, hE_bx19, hF_bx19⟩
      show Go _ _ _ _ _ _ _ _ _ _ [(.ref bx19), (.long kb), (.ref o1)]
      refine Go.callV C (y := yN9) (z := yN9) (a := o1) (as := [(.long kb), (.ref bx19)]) (rest := []) (wd hw 81 rfl) (wd hw 82 rfl) (nf_sel (z := yN9) (wd hw 84 rfl)) (wd hw 84 rfl) (wd hw 83 rfl) (wd hw 85 rfl) (wd hw 2 rfl) (fun _ r => r.exa 0 rfl) (u_SequenceQueue_add_26 l Z a0 hw _ o1 o7 o6 o5 o4 o3 o2 bx19 bx15 kb ka (0 : Int64) (0 : Int64) (0 : Int64) (0 : Int64) (0 : Int64) (0 : Int64) (0 : Int64) (0 : Int64) (0 : Int64) (0 : Int64) (0 : Int64) (0 : Int64) hE_bx19 hE_bx15) rfl at_101 (q := 104) rfl (by decide) rfl (na := 2) (by decide +kernel) rfl (by decide) (W := 0) rfl (by decide) (by decide) (by decide) (k' := 7) (n' := 268) rfl rfl ?_
      rintro _ _ ⟨rfl, rfl⟩
      show Go _ _ _ _ _ _ _ _ _ _ []
      refine Go.iload C at_104 (q := 106) rfl rfl ?_
      refine Go.iconst C at_106 (q := 107) rfl (v := (1 : Int32)) rfl ?_
      refine Go.iadd C at_107 (q := 108) rfl ?_
      refine Go.castI (w := (2 : Int32)) (by decide) ?_
      refine Go.istore C at_108 (q := 110) rfl (Ls' := #[.val (.int fl), .val (.long ka), .second, .val (.long kb), .second, .val (.long kc), .second, .val (.long kd), .second, .val (.ref o1), .val (.int (2 : Int32)), .val (.int (1 : Int32))]) rfl ?_
      refine Go.goto C at_110 (by decide) (q := 129) rfl ?_
      refine Go.iload C at_129 (q := 131) rfl rfl ?_
      refine Go.aload C at_131 (q := 133) rfl rfl rfl ?_
      refine Go.pick (M' := ((o1, oQ (.ref o7) (.ref o4) (.int (1 : Int32)) (.long kb) (.ref bx19)) :: (o7, oRun (.ref o6) (.ref o5) (.int (1 : Int32)) (.int (0 : Int32))) :: (o6, .inr (.long, (oK64 (.long ka) (.long (0 : Int64)) (.long (0 : Int64)) (.long (0 : Int64)) (.long (0 : Int64)) (.long (0 : Int64))), true)) :: (o5, .inr (.object "java/lang/Object", (oE64 (.ref bx15) .null .null .null .null .null), true)) :: (o4, oHeap (.ref o3) (.ref o2) (.int (0 : Int32))) :: (o3, .inr (.long, (oK64 (.long (0 : Int64)) (.long (0 : Int64)) (.long (0 : Int64)) (.long (0 : Int64)) (.long (0 : Int64)) (.long (0 : Int64))), true)) :: (o2, .inr (.object "java/lang/Object", (oE64 .null .null .null .null .null .null), true)) :: [])) 7 [3, 0, 1, 2, 4, 5, 6] (by decide) (by decide) rfl ?_
      refine Go.callV C (y := yN4) (z := yN4) (a := o1) (as := []) (rest := [(.int (1 : Int32))]) (wd hw 41 rfl) (wd hw 42 rfl) (nf_sel (z := yN4) (wd hw 44 rfl)) (wd hw 44 rfl) (wd hw 43 rfl) (wd hw 45 rfl) (wd hw 2 rfl) (fun _ r => r.exa 0 rfl) (u_SequenceQueue_isEmpty_36 l Z a0 hw _ o1 o7 o6 o5 o4 o3 o2 bx19 bx15 kb ka (0 : Int64) (0 : Int64) (0 : Int64) (0 : Int64) (0 : Int64) (0 : Int64) (0 : Int64) (0 : Int64) (0 : Int64) (0 : Int64) (0 : Int64) hE_bx19 hE_bx15) rfl at_133 (q := 136) rfl (by decide) rfl (na := 0) (by decide +kernel) rfl (by decide) (W := 1) rfl (by decide) (by decide) (by decide) (k' := 7) (n' := 268) rfl rfl ?_
      rintro _ _ ⟨rfl, rfl⟩
      show Go _ _ _ _ _ _ _ _ _ _ [(.int (0 : Int32)), (.int (1 : Int32))]
      refine Go.iload C at_136 (q := 138) rfl rfl ?_
      refine Go.ifYes C at_138 (by decide) (q := 145) rfl (XT.i0_ne_t (by decide)) ?_
      refine Go.iconst C at_145 (q := 146) rfl (v := (0 : Int32)) rfl ?_
      refine Go.icmpNo C at_146 (q := 149) rfl (XT.ii_ne_f (by decide)) ?_
      refine Go.iconst C at_149 (q := 150) rfl (v := (1 : Int32)) rfl ?_
      refine Go.goto C at_150 (by decide) (q := 154) rfl ?_
      refine Go.iand C at_154 (q := 155) rfl ?_
      refine Go.castI (w := (1 : Int32)) (by decide) ?_
      refine Go.istore C at_155 (q := 157) rfl (Ls' := #[.val (.int fl), .val (.long ka), .second, .val (.long kb), .second, .val (.long kc), .second, .val (.long kd), .second, .val (.ref o1), .val (.int (2 : Int32)), .val (.int (1 : Int32))]) rfl ?_
      refine Go.iloadN C at_157 (q := 158) rfl rfl ?_
      refine Go.iconst C at_158 (q := 159) rfl (v := (4 : Int32)) rfl ?_
      refine Go.iand C at_159 (q := 160) rfl ?_
      refine Go.ifc C at_160 (by decide) (q := 183) rfl (q' := 163) rfl (fun (h160_13 : (fl &&& (4 : Int32)) = 0) => ?_) (fun (h160_13 : ¬ (fl &&& (4 : Int32)) = 0) => ?_)
      · refine Go.aload C at_183 (q := 185) rfl rfl rfl ?_
        refine Go.callV C (y := yN6) (z := yN6) (a := o1) (as := []) (rest := []) (wd hw 54 rfl) (wd hw 55 rfl) (nf_sel (z := yN6) (wd hw 57 rfl)) (wd hw 57 rfl) (wd hw 56 rfl) (wd hw 58 rfl) (wd hw 2 rfl) (fun _ r => r.exa 0 rfl) (u_SequenceQueue_poll_38 l Z a0 hw _ o1 o7 o6 o5 o4 o3 o2 bx19 bx15 kb ka (0 : Int64) (0 : Int64) (0 : Int64) (0 : Int64) (0 : Int64) (0 : Int64) (0 : Int64) (0 : Int64) (0 : Int64) (0 : Int64) (0 : Int64) hE_bx19 hE_bx15) rfl at_185 (q := 188) rfl (by decide) rfl (na := 0) (by decide +kernel) rfl (by decide) (W := 0) rfl (by decide) (by decide) (by decide) (k' := 7) (n' := 268) rfl rfl ?_
        rintro _ _ (⟨rfl, rfl⟩ | ⟨rfl, rfl⟩ | ⟨rfl, rfl⟩ | ⟨rfl, rfl⟩)
        · show Go _ _ _ _ _ _ _ _ _ _ [(.ref bx19)]
          refine Go.pop C at_188 (q := 189) rfl rfl ?_
          refine Go.iconst C at_189 (q := 190) rfl (v := (0 : Int32)) rfl ?_
          refine Go.iload C at_190 (q := 192) rfl rfl ?_
          refine Go.iconst C at_192 (q := 193) rfl (v := (1 : Int32)) rfl ?_
          refine Go.isub C at_193 (q := 194) rfl ?_
          refine Go.castI (w := (1 : Int32)) (by decide) ?_
          refine Go.callS C (y := yN7) (as := [(.int (0 : Int32)), (.int (1 : Int32))]) (rest := []) (wd hw 70 rfl) (wd hw 71 rfl) (wd hw 72 rfl) (wd hw 73 rfl) (u_Math_max_72 l Z a0 hw _ ) rfl at_194 (q := 197) rfl (by decide) rfl (na := 2) (by decide +kernel) rfl (by decide) (W := 0) rfl (by decide) (by decide) (by decide) (k' := 7) (n' := 268) rfl rfl ?_
          rintro _ _ ⟨rfl, rfl⟩
          show Go _ _ _ _ _ _ _ _ _ _ [(.int (1 : Int32))]
          refine Go.istore C at_197 (q := 199) rfl (Ls' := #[.val (.int fl), .val (.long ka), .second, .val (.long kb), .second, .val (.long kc), .second, .val (.long kd), .second, .val (.ref o1), .val (.int (1 : Int32)), .val (.int (1 : Int32))]) rfl ?_
          refine Go.iload C at_199 (q := 201) rfl rfl ?_
          refine Go.aload C at_201 (q := 203) rfl rfl rfl ?_
          refine Go.pick (M' := ((o1, oQ (.ref o7) (.ref o4) (.int (0 : Int32)) (.long kb) .null) :: (o7, oRun (.ref o6) (.ref o5) (.int (1 : Int32)) (.int (0 : Int32))) :: (o6, .inr (.long, (oK64 (.long ka) (.long (0 : Int64)) (.long (0 : Int64)) (.long (0 : Int64)) (.long (0 : Int64)) (.long (0 : Int64))), true)) :: (o5, .inr (.object "java/lang/Object", (oE64 (.ref bx15) .null .null .null .null .null), true)) :: (o4, oHeap (.ref o3) (.ref o2) (.int (0 : Int32))) :: (o3, .inr (.long, (oK64 (.long kb) (.long (0 : Int64)) (.long (0 : Int64)) (.long (0 : Int64)) (.long (0 : Int64)) (.long (0 : Int64))), true)) :: (o2, .inr (.object "java/lang/Object", (oE64 .null .null .null .null .null .null), true)) :: [])) 7 [6, 3, 4, 5, 0, 1, 2] (by decide) (by decide) rfl ?_
          refine Go.callV C (y := yN4) (z := yN4) (a := o1) (as := []) (rest := [(.int (1 : Int32))]) (wd hw 41 rfl) (wd hw 42 rfl) (nf_sel (z := yN4) (wd hw 44 rfl)) (wd hw 44 rfl) (wd hw 43 rfl) (wd hw 45 rfl) (wd hw 2 rfl) (fun _ r => r.exa 0 rfl) (u_SequenceQueue_isEmpty_74 l Z a0 hw _ o1 o7 o6 o5 o4 o3 o2 bx15 kb ka (0 : Int64) (0 : Int64) (0 : Int64) (0 : Int64) (0 : Int64) kb (0 : Int64) (0 : Int64) (0 : Int64) (0 : Int64) (0 : Int64) hE_bx15) rfl at_203 (q := 206) rfl (by decide) rfl (na := 0) (by decide +kernel) rfl (by decide) (W := 1) rfl (by decide) (by decide) (by decide) (k' := 7) (n' := 268) rfl rfl ?_
          rintro _ _ ⟨rfl, rfl⟩
          show Go _ _ _ _ _ _ _ _ _ _ [(.int (0 : Int32)), (.int (1 : Int32))]
          refine Go.iload C at_206 (q := 208) rfl rfl ?_
          refine Go.ifYes C at_208 (by decide) (q := 215) rfl (XT.i0_ne_t (by decide)) ?_
          refine Go.iconst C at_215 (q := 216) rfl (v := (0 : Int32)) rfl ?_
          refine Go.icmpNo C at_216 (q := 219) rfl (XT.ii_ne_f (by decide)) ?_
          refine Go.iconst C at_219 (q := 220) rfl (v := (1 : Int32)) rfl ?_
          refine Go.goto C at_220 (by decide) (q := 224) rfl ?_
          refine Go.iand C at_224 (q := 225) rfl ?_
          refine Go.castI (w := (1 : Int32)) (by decide) ?_
          refine Go.istore C at_225 (q := 227) rfl (Ls' := #[.val (.int fl), .val (.long ka), .second, .val (.long kb), .second, .val (.long kc), .second, .val (.long kd), .second, .val (.ref o1), .val (.int (1 : Int32)), .val (.int (1 : Int32))]) rfl ?_
          refine Go.iloadN C at_227 (q := 228) rfl rfl ?_
          refine Go.bipush C at_228 (q := 230) rfl (v := (8 : Int32)) (by decide) ?_
          refine Go.iand C at_230 (q := 231) rfl ?_
          refine Go.ifc C at_231 (by decide) (q := 254) rfl (q' := 234) rfl (fun (h231_14 : (fl &&& (8 : Int32)) = 0) => ?_) (fun (h231_14 : ¬ (fl &&& (8 : Int32)) = 0) => ?_)
          · refine Go.aload C at_254 (q := 256) rfl rfl rfl ?_
            refine Go.callV C (y := yN6) (z := yN6) (a := o1) (as := []) (rest := []) (wd hw 54 rfl) (wd hw 55 rfl) (nf_sel (z := yN6) (wd hw 57 rfl)) (wd hw 57 rfl) (wd hw 56 rfl) (wd hw 58 rfl) (wd hw 2 rfl) (fun _ r => r.exa 0 rfl) (u_SequenceQueue_poll_86 l Z a0 hw _ o1 o7 o6 o5 o4 o3 o2 bx15 kb ka (0 : Int64) (0 : Int64) (0 : Int64) (0 : Int64) (0 : Int64) kb (0 : Int64) (0 : Int64) (0 : Int64) (0 : Int64) (0 : Int64) hE_bx15) rfl at_256 (q := 259) rfl (by decide) rfl (na := 0) (by decide +kernel) rfl (by decide) (W := 0) rfl (by decide) (by decide) (by decide) (k' := 7) (n' := 268) rfl rfl ?_
            rintro _ _ ⟨rfl, rfl⟩
            show Go _ _ _ _ _ _ _ _ _ _ [(.ref bx15)]
            refine Go.pop C at_259 (q := 260) rfl rfl ?_
            refine Go.iconst C at_260 (q := 261) rfl (v := (0 : Int32)) rfl ?_
            refine Go.iload C at_261 (q := 263) rfl rfl ?_
            refine Go.iconst C at_263 (q := 264) rfl (v := (1 : Int32)) rfl ?_
            refine Go.isub C at_264 (q := 265) rfl ?_
            refine Go.castI (w := (0 : Int32)) (by decide) ?_
            refine Go.callS C (y := yN7) (as := [(.int (0 : Int32)), (.int (0 : Int32))]) (rest := []) (wd hw 70 rfl) (wd hw 71 rfl) (wd hw 72 rfl) (wd hw 73 rfl) (u_Math_max_24 l Z a0 hw _ ) rfl at_265 (q := 268) rfl (by decide) rfl (na := 2) (by decide +kernel) rfl (by decide) (W := 0) rfl (by decide) (by decide) (by decide) (k' := 7) (n' := 268) rfl rfl ?_
            rintro _ _ ⟨rfl, rfl⟩
            show Go _ _ _ _ _ _ _ _ _ _ [(.int (0 : Int32))]
            refine Go.istore C at_268 (q := 270) rfl (Ls' := #[.val (.int fl), .val (.long ka), .second, .val (.long kb), .second, .val (.long kc), .second, .val (.long kd), .second, .val (.ref o1), .val (.int (0 : Int32)), .val (.int (1 : Int32))]) rfl ?_
            refine Go.iload C at_270 (q := 272) rfl rfl ?_
            refine Go.aload C at_272 (q := 274) rfl rfl rfl ?_
            refine Go.pick (M' := ((o1, oQ (.ref o7) (.ref o4) (.int (0 : Int32)) (.long kb) .null) :: (o7, oRun (.ref o6) (.ref o5) (.int (0 : Int32)) (.int (1 : Int32))) :: (o6, .inr (.long, (oK64 (.long ka) (.long (0 : Int64)) (.long (0 : Int64)) (.long (0 : Int64)) (.long (0 : Int64)) (.long (0 : Int64))), true)) :: (o5, .inr (.object "java/lang/Object", (oE64 .null .null .null .null .null .null), true)) :: (o4, oHeap (.ref o3) (.ref o2) (.int (0 : Int32))) :: (o3, .inr (.long, (oK64 (.long kb) (.long (0 : Int64)) (.long (0 : Int64)) (.long (0 : Int64)) (.long (0 : Int64)) (.long (0 : Int64))), true)) :: (o2, .inr (.object "java/lang/Object", (oE64 .null .null .null .null .null .null), true)) :: [])) 7 [3, 0, 1, 2, 4, 5, 6] (by decide) (by decide) rfl ?_
            refine Go.callV C (y := yN4) (z := yN4) (a := o1) (as := []) (rest := [(.int (1 : Int32))]) (wd hw 41 rfl) (wd hw 42 rfl) (nf_sel (z := yN4) (wd hw 44 rfl)) (wd hw 44 rfl) (wd hw 43 rfl) (wd hw 45 rfl) (wd hw 2 rfl) (fun _ r => r.exa 0 rfl) (u_SequenceQueue_isEmpty_88 l Z a0 hw _ o1 o7 o6 o5 o4 o3 o2 kb ka (0 : Int64) (0 : Int64) (0 : Int64) (0 : Int64) (0 : Int64) kb (0 : Int64) (0 : Int64) (0 : Int64) (0 : Int64) (0 : Int64)) rfl at_274 (q := 277) rfl (by decide) rfl (na := 0) (by decide +kernel) rfl (by decide) (W := 1) rfl (by decide) (by decide) (by decide) (k' := 7) (n' := 268) rfl rfl ?_
            rintro _ _ ⟨rfl, rfl⟩
            show Go _ _ _ _ _ _ _ _ _ _ [(.int (1 : Int32)), (.int (1 : Int32))]
            refine Go.iload C at_277 (q := 279) rfl rfl ?_
            refine Go.ifNo C at_279 (q := 282) rfl (XT.i0_ne_f (by decide)) ?_
            refine Go.iconst C at_282 (q := 283) rfl (v := (1 : Int32)) rfl ?_
            refine Go.goto C at_283 (by decide) (q := 287) rfl ?_
            refine Go.icmpNo C at_287 (q := 290) rfl (XT.ii_ne_f (by decide)) ?_
            refine Go.iconst C at_290 (q := 291) rfl (v := (1 : Int32)) rfl ?_
            refine Go.goto C at_291 (by decide) (q := 295) rfl ?_
            refine Go.iand C at_295 (q := 296) rfl ?_
            refine Go.castI (w := (1 : Int32)) (by decide) ?_
            refine Go.istore C at_296 (q := 298) rfl (Ls' := #[.val (.int fl), .val (.long ka), .second, .val (.long kb), .second, .val (.long kc), .second, .val (.long kd), .second, .val (.ref o1), .val (.int (0 : Int32)), .val (.int (1 : Int32))]) rfl ?_
            refine Go.iload C at_298 (q := 300) rfl rfl ?_
            refine Go.retZ C rfl (by decide) at_300 (by decide) (by decide) ?_
            exact rfl
          · refine Go.aload C at_234 (q := 236) rfl rfl rfl ?_
            refine Go.lload C at_236 (q := 238) rfl rfl ?_
            refine Go.iconst C at_238 (q := 239) rfl (v := (3 : Int32)) rfl ?_
            refine Go.callS C (y := yN8) (as := [(.int (3 : Int32))]) (rest := [(.long kd), (.ref o1)]) (wd hw 74 rfl) (wd hw 75 rfl) (wd hw 76 rfl) (wd hw 77 rfl) (m_valueOf3 l Z a0 hw _ cb cs S_high S_cache A_cache H_cache) rfl at_239 (q := 242) rfl (by decide) rfl (na := 1) (by decide +kernel) rfl (by decide) (W := 3) rfl (by decide) (by decide) (by decide) (k' := 7) (n' := 268) rfl rfl ?_
            rintro _ _ ⟨bx20, rfl, rfl, hE_bx20, hF_bx20⟩
            show Go _ _ _ _ _ _ _ _ _ _ [(.ref bx20), (.long kd), (.ref o1)]
            refine Go.callV C (y := yN9) (z := yN9) (a := o1) (as := [(.long kd), (.ref bx20)]) (rest := []) (wd hw 81 rfl) (wd hw 82 rfl) (nf_sel (z := yN9) (wd hw 84 rfl)) (wd hw 84 rfl) (wd hw 83 rfl) (wd hw 85 rfl) (wd hw 2 rfl) (fun _ r => r.exa 0 rfl) (u_SequenceQueue_add_90 l Z a0 hw _ o1 o7 o6 o5 o4 o3 o2 bx20 bx15 kd kb ka (0 : Int64) (0 : Int64) (0 : Int64) (0 : Int64) (0 : Int64) kb (0 : Int64) (0 : Int64) (0 : Int64) (0 : Int64) (0 : Int64) hE_bx20 hE_bx15) rfl at_242 (q := 245) rfl (by decide) rfl (na := 2) (by decide +kernel) rfl (by decide) (W := 0) rfl (by decide) (by decide) (by decide) (k' := 7) (n' := 268) rfl rfl ?_
            rintro _ _ ⟨rfl, rfl⟩
            show Go _ _ _ _ _ _ _ _ _ _ []
            refine Go.iload C at_245 (q := 247) rfl rfl ?_
            refine Go.iconst C at_247 (q := 248) rfl (v := (1 : Int32)) rfl ?_
            refine Go.iadd C at_248 (q := 249) rfl ?_
            refine Go.castI (w := (2 : Int32)) (by decide) ?_
            refine Go.istore C at_249 (q := 251) rfl (Ls' := #[.val (.int fl), .val (.long ka), .second, .val (.long kb), .second, .val (.long kc), .second, .val (.long kd), .second, .val (.ref o1), .val (.int (2 : Int32)), .val (.int (1 : Int32))]) rfl ?_
            refine Go.goto C at_251 (by decide) (q := 270) rfl ?_
            refine Go.iload C at_270 (q := 272) rfl rfl ?_
            refine Go.aload C at_272 (q := 274) rfl rfl rfl ?_
            refine Go.callV C (y := yN4) (z := yN4) (a := o1) (as := []) (rest := [(.int (1 : Int32))]) (wd hw 41 rfl) (wd hw 42 rfl) (nf_sel (z := yN4) (wd hw 44 rfl)) (wd hw 44 rfl) (wd hw 43 rfl) (wd hw 45 rfl) (wd hw 2 rfl) (fun _ r => r.exa 0 rfl) (u_SequenceQueue_isEmpty_36 l Z a0 hw _ o1 o7 o6 o5 o4 o3 o2 bx20 bx15 kd ka (0 : Int64) (0 : Int64) (0 : Int64) (0 : Int64) (0 : Int64) kb (0 : Int64) (0 : Int64) (0 : Int64) (0 : Int64) (0 : Int64) hE_bx20 hE_bx15) rfl at_274 (q := 277) rfl (by decide) rfl (na := 0) (by decide +kernel) rfl (by decide) (W := 1) rfl (by decide) (by decide) (by decide) (k' := 7) (n' := 268) rfl rfl ?_
            rintro _ _ ⟨rfl, rfl⟩
            show Go _ _ _ _ _ _ _ _ _ _ [(.int (0 : Int32)), (.int (1 : Int32))]
            refine Go.iload C at_277 (q := 279) rfl rfl ?_
            refine Go.ifYes C at_279 (by decide) (q := 286) rfl (XT.i0_ne_t (by decide)) ?_
            refine Go.iconst C at_286 (q := 287) rfl (v := (0 : Int32)) rfl ?_
            refine Go.icmpNo C at_287 (q := 290) rfl (XT.ii_ne_f (by decide)) ?_
            refine Go.iconst C at_290 (q := 291) rfl (v := (1 : Int32)) rfl ?_
            refine Go.goto C at_291 (by decide) (q := 295) rfl ?_
            refine Go.iand C at_295 (q := 296) rfl ?_
            refine Go.castI (w := (1 : Int32)) (by decide) ?_
            refine Go.istore C at_296 (q := 298) rfl (Ls' := #[.val (.int fl), .val (.long ka), .second, .val (.long kb), .second, .val (.long kc), .second, .val (.long kd), .second, .val (.ref o1), .val (.int (2 : Int32)), .val (.int (1 : Int32))]) rfl ?_
            refine Go.iload C at_298 (q := 300) rfl rfl ?_
            refine Go.retZ C rfl (by decide) at_300 (by decide) (by decide) ?_
            exact rfl
        · show Go _ _ _ _ _ _ _ _ _ _ [(.ref bx15)]
          refine Go.pop C at_188 (q := 189) rfl rfl ?_
          refine Go.iconst C at_189 (q := 190) rfl (v := (0 : Int32)) rfl ?_
          refine Go.iload C at_190 (q := 192) rfl rfl ?_
          refine Go.iconst C at_192 (q := 193) rfl (v := (1 : Int32)) rfl ?_
          refine Go.isub C at_193 (q := 194) rfl ?_
          refine Go.castI (w := (1 : Int32)) (by decide) ?_
          refine Go.callS C (y := yN7) (as := [(.int (0 : Int32)), (.int (1 : Int32))]) (rest := []) (wd hw 70 rfl) (wd hw 71 rfl) (wd hw 72 rfl) (wd hw 73 rfl) (u_Math_max_72 l Z a0 hw _ ) rfl at_194 (q := 197) rfl (by decide) rfl (na := 2) (by decide +kernel) rfl (by decide) (W := 0) rfl (by decide) (by decide) (by decide) (k' := 7) (n' := 268) rfl rfl ?_
          rintro _ _ ⟨rfl, rfl⟩
          show Go _ _ _ _ _ _ _ _ _ _ [(.int (1 : Int32))]
          refine Go.istore C at_197 (q := 199) rfl (Ls' := #[.val (.int fl), .val (.long ka), .second, .val (.long kb), .second, .val (.long kc), .second, .val (.long kd), .second, .val (.ref o1), .val (.int (1 : Int32)), .val (.int (1 : Int32))]) rfl ?_
          refine Go.iload C at_199 (q := 201) rfl rfl ?_
          refine Go.aload C at_201 (q := 203) rfl rfl rfl ?_
          refine Go.pick (M' := ((o1, oQ (.ref o7) (.ref o4) (.int (0 : Int32)) (.long kb) .null) :: (o7, oRun (.ref o6) (.ref o5) (.int (0 : Int32)) (.int (1 : Int32))) :: (o6, .inr (.long, (oK64 (.long ka) (.long (0 : Int64)) (.long (0 : Int64)) (.long (0 : Int64)) (.long (0 : Int64)) (.long (0 : Int64))), true)) :: (o5, .inr (.object "java/lang/Object", (oE64 .null .null .null .null .null .null), true)) :: (o4, oHeap (.ref o3) (.ref o2) (.int (1 : Int32))) :: (o3, .inr (.long, (oK64 (.long kb) (.long (0 : Int64)) (.long (0 : Int64)) (.long (0 : Int64)) (.long (0 : Int64)) (.long (0 : Int64))), true)) :: (o2, .inr (.object "java/lang/Object", (oE64 (.ref bx19) .null .null .null .null .null), true)) :: [])) 7 [6, 0, 1, 2, 3, 4, 5] (by decide) (by decide) rfl ?_
          refine Go.callV C (y := yN4) (z := yN4) (a := o1) (as := []) (rest := [(.int (1 : Int32))]) (wd hw 41 rfl) (wd hw 42 rfl) (nf_sel (z := yN4) (wd hw 44 rfl)) (wd hw 44 rfl) (wd hw 43 rfl) (wd hw 45 rfl) (wd hw 2 rfl) (fun _ r => r.exa 0 rfl) (u_SequenceQueue_isEmpty_76 l Z a0 hw _ o1 o7 o6 o5 o4 o3 o2 bx19 kb ka (0 : Int64) (0 : Int64) (0 : Int64) (0 : Int64) (0 : Int64) kb (0 : Int64) (0 : Int64) (0 : Int64) (0 : Int64) (0 : Int64) hE_bx19) rfl at_203 (q := 206) rfl (by decide) rfl (na := 0) (by decide +kernel) rfl (by decide) (W := 1) rfl (by decide) (by decide) (by decide) (k' := 7) (n' := 268) rfl rfl ?_
          rintro _ _ ⟨rfl, rfl⟩
          show Go _ _ _ _ _ _ _ _ _ _ [(.int (0 : Int32)), (.int (1 : Int32))]
          refine Go.iload C at_206 (q := 208) rfl rfl ?_
          refine Go.ifYes C at_208 (by decide) (q := 215) rfl (XT.i0_ne_t (by decide)) ?_
          refine Go.iconst C at_215 (q := 216) rfl (v := (0 : Int32)) rfl ?_
          refine Go.icmpNo C at_216 (q := 219) rfl (XT.ii_ne_f (by decide)) ?_
          refine Go.iconst C at_219 (q := 220) rfl (v := (1 : Int32)) rfl ?_
          refine Go.goto C at_220 (by decide) (q := 224) rfl ?_
          refine Go.iand C at_224 (q := 225) rfl ?_
          refine Go.castI (w := (1 : Int32)) (by decide) ?_
          refine Go.istore C at_225 (q := 227) rfl (Ls' := #[.val (.int fl), .val (.long ka), .second, .val (.long kb), .second, .val (.long kc), .second, .val (.long kd), .second, .val (.ref o1), .val (.int (1 : Int32)), .val (.int (1 : Int32))]) rfl ?_
          refine Go.iloadN C at_227 (q := 228) rfl rfl ?_
          refine Go.bipush C at_228 (q := 230) rfl (v := (8 : Int32)) (by decide) ?_
          refine Go.iand C at_230 (q := 231) rfl ?_
          refine Go.ifc C at_231 (by decide) (q := 254) rfl (q' := 234) rfl (fun (h231_15 : (fl &&& (8 : Int32)) = 0) => ?_) (fun (h231_15 : ¬ (fl &&& (8 : Int32)) = 0) => ?_)
          · refine Go.aload C at_254 (q := 256) rfl rfl rfl ?_
            refine Go.callV C (y := yN6) (z := yN6) (a := o1) (as := []) (rest := []) (wd hw 54 rfl) (wd hw 55 rfl) (nf_sel (z := yN6) (wd hw 57 rfl)) (wd hw 57 rfl) (wd hw 56 rfl) (wd hw 58 rfl) (wd hw 2 rfl) (fun _ r => r.exa 0 rfl) (u_SequenceQueue_poll_92 l Z a0 hw _ o1 o7 o6 o5 o4 o3 o2 bx19 kb ka (0 : Int64) (0 : Int64) (0 : Int64) (0 : Int64) (0 : Int64) kb (0 : Int64) (0 : Int64) (0 : Int64) (0 : Int64) (0 : Int64) hE_bx19) rfl at_256 (q := 259) rfl (by decide) rfl (na := 0) (by decide +kernel) rfl (by decide) (W := 0) rfl (by decide) (by decide) (by decide) (k' := 7) (n' := 268) rfl rfl ?_
            rintro _ _ ⟨rfl, rfl⟩
            show Go _ _ _ _ _ _ _ _ _ _ [(.ref bx19)]
            refine Go.pop C at_259 (q := 260) rfl rfl ?_
            refine Go.iconst C at_260 (q := 261) rfl (v := (0 : Int32)) rfl ?_
            refine Go.iload C at_261 (q := 263) rfl rfl ?_
            refine Go.iconst C at_263 (q := 264) rfl (v := (1 : Int32)) rfl ?_
            refine Go.isub C at_264 (q := 265) rfl ?_
            refine Go.castI (w := (0 : Int32)) (by decide) ?_
            refine Go.callS C (y := yN7) (as := [(.int (0 : Int32)), (.int (0 : Int32))]) (rest := []) (wd hw 70 rfl) (wd hw 71 rfl) (wd hw 72 rfl) (wd hw 73 rfl) (u_Math_max_24 l Z a0 hw _ ) rfl at_265 (q := 268) rfl (by decide) rfl (na := 2) (by decide +kernel) rfl (by decide) (W := 0) rfl (by decide) (by decide) (by decide) (k' := 7) (n' := 268) rfl rfl ?_
            rintro _ _ ⟨rfl, rfl⟩
            show Go _ _ _ _ _ _ _ _ _ _ [(.int (0 : Int32))]
            refine Go.istore C at_268 (q := 270) rfl (Ls' := #[.val (.int fl), .val (.long ka), .second, .val (.long kb), .second, .val (.long kc), .second, .val (.long kd), .second, .val (.ref o1), .val (.int (0 : Int32)), .val (.int (1 : Int32))]) rfl ?_
            refine Go.iload C at_270 (q := 272) rfl rfl ?_
            refine Go.aload C at_272 (q := 274) rfl rfl rfl ?_
            refine Go.pick (M' := ((o1, oQ (.ref o7) (.ref o4) (.int (0 : Int32)) (.long kb) .null) :: (o7, oRun (.ref o6) (.ref o5) (.int (0 : Int32)) (.int (1 : Int32))) :: (o6, .inr (.long, (oK64 (.long ka) (.long (0 : Int64)) (.long (0 : Int64)) (.long (0 : Int64)) (.long (0 : Int64)) (.long (0 : Int64))), true)) :: (o5, .inr (.object "java/lang/Object", (oE64 .null .null .null .null .null .null), true)) :: (o4, oHeap (.ref o3) (.ref o2) (.int (0 : Int32))) :: (o3, .inr (.long, (oK64 (.long kb) (.long (0 : Int64)) (.long (0 : Int64)) (.long (0 : Int64)) (.long (0 : Int64)) (.long (0 : Int64))), true)) :: (o2, .inr (.object "java/lang/Object", (oE64 .null .null .null .null .null .null), true)) :: [])) 7 [3, 4, 5, 6, 0, 1, 2] (by decide) (by decide) rfl ?_
            refine Go.callV C (y := yN4) (z := yN4) (a := o1) (as := []) (rest := [(.int (1 : Int32))]) (wd hw 41 rfl) (wd hw 42 rfl) (nf_sel (z := yN4) (wd hw 44 rfl)) (wd hw 44 rfl) (wd hw 43 rfl) (wd hw 45 rfl) (wd hw 2 rfl) (fun _ r => r.exa 0 rfl) (u_SequenceQueue_isEmpty_88 l Z a0 hw _ o1 o7 o6 o5 o4 o3 o2 kb ka (0 : Int64) (0 : Int64) (0 : Int64) (0 : Int64) (0 : Int64) kb (0 : Int64) (0 : Int64) (0 : Int64) (0 : Int64) (0 : Int64)) rfl at_274 (q := 277) rfl (by decide) rfl (na := 0) (by decide +kernel) rfl (by decide) (W := 1) rfl (by decide) (by decide) (by decide) (k' := 7) (n' := 268) rfl rfl ?_
            rintro _ _ ⟨rfl, rfl⟩
            show Go _ _ _ _ _ _ _ _ _ _ [(.int (1 : Int32)), (.int (1 : Int32))]
            refine Go.iload C at_277 (q := 279) rfl rfl ?_
            refine Go.ifNo C at_279 (q := 282) rfl (XT.i0_ne_f (by decide)) ?_
            refine Go.iconst C at_282 (q := 283) rfl (v := (1 : Int32)) rfl ?_
            refine Go.goto C at_283 (by decide) (q := 287) rfl ?_
            refine Go.icmpNo C at_287 (q := 290) rfl (XT.ii_ne_f (by decide)) ?_
            refine Go.iconst C at_290 (q := 291) rfl (v := (1 : Int32)) rfl ?_
            refine Go.goto C at_291 (by decide) (q := 295) rfl ?_
            refine Go.iand C at_295 (q := 296) rfl ?_
            refine Go.castI (w := (1 : Int32)) (by decide) ?_
            refine Go.istore C at_296 (q := 298) rfl (Ls' := #[.val (.int fl), .val (.long ka), .second, .val (.long kb), .second, .val (.long kc), .second, .val (.long kd), .second, .val (.ref o1), .val (.int (0 : Int32)), .val (.int (1 : Int32))]) rfl ?_
            refine Go.iload C at_298 (q := 300) rfl rfl ?_
            refine Go.retZ C rfl (by decide) at_300 (by decide) (by decide) ?_
            exact rfl
          · refine Go.aload C at_234 (q := 236) rfl rfl rfl ?_
            refine Go.lload C at_236 (q := 238) rfl rfl ?_
            refine Go.iconst C at_238 (q := 239) rfl (v := (3 : Int32)) rfl ?_
            refine Go.callS C (y := yN8) (as := [(.int (3 : Int32))]) (rest := [(.long kd), (.ref o1)]) (wd hw 74 rfl) (wd hw 75 rfl) (wd hw 76 rfl) (wd hw 77 rfl) (m_valueOf3 l Z a0 hw _ cb cs S_high S_cache A_cache H_cache) rfl at_239 (q := 242) rfl (by decide) rfl (na := 1) (by decide +kernel) rfl (by decide) (W := 3) rfl (by decide) (by decide) (by decide) (k' := 7) (n' := 268) rfl rfl ?_
            rintro _ _ ⟨bx21, rfl, rfl, hE_bx21, hF_bx21⟩
            show Go _ _ _ _ _ _ _ _ _ _ [(.ref bx21), (.long kd), (.ref o1)]
            refine Go.callV C (y := yN9) (z := yN9) (a := o1) (as := [(.long kd), (.ref bx21)]) (rest := []) (wd hw 81 rfl) (wd hw 82 rfl) (nf_sel (z := yN9) (wd hw 84 rfl)) (wd hw 84 rfl) (wd hw 83 rfl) (wd hw 85 rfl) (wd hw 2 rfl) (fun _ r => r.exa 0 rfl) (u_SequenceQueue_add_94 l Z a0 hw _ o1 o7 o6 o5 o4 o3 o2 bx21 bx19 kd kb ka (0 : Int64) (0 : Int64) (0 : Int64) (0 : Int64) (0 : Int64) kb (0 : Int64) (0 : Int64) (0 : Int64) (0 : Int64) (0 : Int64) hE_bx21 hE_bx19) rfl at_242 (q := 245) rfl (by decide) rfl (na := 2) (by decide +kernel) rfl (by decide) (W := 0) rfl (by decide) (by decide) (by decide) (k' := 7) (n' := 268) rfl rfl ?_
            rintro _ _ ⟨rfl, rfl⟩
            show Go _ _ _ _ _ _ _ _ _ _ []
            refine Go.iload C at_245 (q := 247) rfl rfl ?_
            refine Go.iconst C at_247 (q := 248) rfl (v := (1 : Int32)) rfl ?_
            refine Go.iadd C at_248 (q := 249) rfl ?_
            refine Go.castI (w := (2 : Int32)) (by decide) ?_
            refine Go.istore C at_249 (q := 251) rfl (Ls' := #[.val (.int fl), .val (.long ka), .second, .val (.long kb), .second, .val (.long kc), .second, .val (.long kd), .second, .val (.ref o1), .val (.int (2 : Int32)), .val (.int (1 : Int32))]) rfl ?_
            refine Go.goto C at_251 (by decide) (q := 270) rfl ?_
            refine Go.iload C at_270 (q := 272) rfl rfl ?_
            refine Go.aload C at_272 (q := 274) rfl rfl rfl ?_
            refine Go.callV C (y := yN4) (z := yN4) (a := o1) (as := []) (rest := [(.int (1 : Int32))]) (wd hw 41 rfl) (wd hw 42 rfl) (nf_sel (z := yN4) (wd hw 44 rfl)) (wd hw 44 rfl) (wd hw 43 rfl) (wd hw 45 rfl) (wd hw 2 rfl) (fun _ r => r.exa 0 rfl) (u_SequenceQueue_isEmpty_96 l Z a0 hw _ o1 o7 o6 o5 o4 o3 o2 bx21 bx19 kd ka (0 : Int64) (0 : Int64) (0 : Int64) (0 : Int64) (0 : Int64) kb (0 : Int64) (0 : Int64) (0 : Int64) (0 : Int64) (0 : Int64) hE_bx21 hE_bx19) rfl at_274 (q := 277) rfl (by decide) rfl (na := 0) (by decide +kernel) rfl (by decide) (W := 1) rfl (by decide) (by decide) (by decide) (k' := 7) (n' := 268) rfl rfl ?_
            rintro _ _ ⟨rfl, rfl⟩
            show Go _ _ _ _ _ _ _ _ _ _ [(.int (0 : Int32)), (.int (1 : Int32))]
            refine Go.iload C at_277 (q := 279) rfl rfl ?_
            refine Go.ifYes C at_279 (by decide) (q := 286) rfl (XT.i0_ne_t (by decide)) ?_
            refine Go.iconst C at_286 (q := 287) rfl (v := (0 : Int32)) rfl ?_
            refine Go.icmpNo C at_287 (q := 290) rfl (XT.ii_ne_f (by decide)) ?_
            refine Go.iconst C at_290 (q := 291) rfl (v := (1 : Int32)) rfl ?_
            refine Go.goto C at_291 (by decide) (q := 295) rfl ?_
            refine Go.iand C at_295 (q := 296) rfl ?_
            refine Go.castI (w := (1 : Int32)) (by decide) ?_
            refine Go.istore C at_296 (q := 298) rfl (Ls' := #[.val (.int fl), .val (.long ka), .second, .val (.long kb), .second, .val (.long kc), .second, .val (.long kd), .second, .val (.ref o1), .val (.int (2 : Int32)), .val (.int (1 : Int32))]) rfl ?_
            refine Go.iload C at_298 (q := 300) rfl rfl ?_
            refine Go.retZ C rfl (by decide) at_300 (by decide) (by decide) ?_
            exact rfl
        · show Go _ _ _ _ _ _ _ _ _ _ [(.ref bx15)]
          refine Go.pop C at_188 (q := 189) rfl rfl ?_
          refine Go.iconst C at_189 (q := 190) rfl (v := (0 : Int32)) rfl ?_
          refine Go.iload C at_190 (q := 192) rfl rfl ?_
          refine Go.iconst C at_192 (q := 193) rfl (v := (1 : Int32)) rfl ?_
          refine Go.isub C at_193 (q := 194) rfl ?_
          refine Go.castI (w := (1 : Int32)) (by decide) ?_
          refine Go.callS C (y := yN7) (as := [(.int (0 : Int32)), (.int (1 : Int32))]) (rest := []) (wd hw 70 rfl) (wd hw 71 rfl) (wd hw 72 rfl) (wd hw 73 rfl) (u_Math_max_72 l Z a0 hw _ ) rfl at_194 (q := 197) rfl (by decide) rfl (na := 2) (by decide +kernel) rfl (by decide) (W := 0) rfl (by decide) (by decide) (by decide) (k' := 7) (n' := 268) rfl rfl ?_
          rintro _ _ ⟨rfl, rfl⟩
          show Go _ _ _ _ _ _ _ _ _ _ [(.int (1 : Int32))]
          refine Go.istore C at_197 (q := 199) rfl (Ls' := #[.val (.int fl), .val (.long ka), .second, .val (.long kb), .second, .val (.long kc), .second, .val (.long kd), .second, .val (.ref o1), .val (.int (1 : Int32)), .val (.int (1 : Int32))]) rfl ?_
          refine Go.iload C at_199 (q := 201) rfl rfl ?_
          refine Go.aload C at_201 (q := 203) rfl rfl rfl ?_
          refine Go.pick (M' := ((o1, oQ (.ref o7) (.ref o4) (.int (0 : Int32)) (.long kb) .null) :: (o7, oRun (.ref o6) (.ref o5) (.int (1 : Int32)) (.int (1 : Int32))) :: (o6, .inr (.long, (oK64 (.long ka) (.long kb) (.long (0 : Int64)) (.long (0 : Int64)) (.long (0 : Int64)) (.long (0 : Int64))), true)) :: (o5, .inr (.object "java/lang/Object", (oE64 .null (.ref bx19) .null .null .null .null), true)) :: (o4, oHeap (.ref o3) (.ref o2) (.int (0 : Int32))) :: (o3, .inr (.long, (oK64 (.long (0 : Int64)) (.long (0 : Int64)) (.long (0 : Int64)) (.long (0 : Int64)) (.long (0 : Int64)) (.long (0 : Int64))), true)) :: (o2, .inr (.object "java/lang/Object", (oE64 .null .null .null .null .null .null), true)) :: [])) 7 [3, 0, 1, 2, 4, 5, 6] (by decide) (by decide) rfl ?_
          refine Go.callV C (y := yN4) (z := yN4) (a := o1) (as := []) (rest := [(.int (1 : Int32))]) (wd hw 41 rfl) (wd hw 42 rfl) (nf_sel (z := yN4) (wd hw 44 rfl)) (wd hw 44 rfl) (wd hw 43 rfl) (wd hw 45 rfl) (wd hw 2 rfl) (fun _ r => r.exa 0 rfl) (u_SequenceQueue_isEmpty_78 l Z a0 hw _ o1 o7 o6 o5 o4 o3 o2 bx19 kb ka kb (0 : Int64) (0 : Int64) (0 : Int64) (0 : Int64) (0 : Int64) (0 : Int64) (0 : Int64) (0 : Int64) (0 : Int64) (0 : Int64) hE_bx19) rfl at_203 (q := 206) rfl (by decide) rfl (na := 0) (by decide +kernel) rfl (by decide) (W := 1) rfl (by decide) (by decide) (by decide) (k' := 7) (n' := 268) rfl rfl ?_
          rintro _ _ ⟨rfl, rfl⟩
          show Go _ _ _ _ _ _ _ _ _ _ [(.int (0 : Int32)), (.int (1 : Int32))]
          refine Go.iload C at_206 (q := 208) rfl rfl ?_
          refine Go.ifYes C at_208 (by decide) (q := 215) rfl (XT.i0_ne_t (by decide)) ?_
          refine Go.iconst C at_215 (q := 216) rfl (v := (0 : Int32)) rfl ?_
          refine Go.icmpNo C at_216 (q := 219) rfl (XT.ii_ne_f (by decide)) ?_
          refine Go.iconst C at_219 (q := 220) rfl (v := (1 : Int32)) rfl ?_
          refine Go.goto C at_220 (by decide) (q := 224) rfl ?_
          refine Go.iand C at_224 (q := 225) rfl ?_
          refine Go.castI (w := (1 : Int32)) (by decide) ?_
          refine Go.istore C at_225 (q := 227) rfl (Ls' := #[.val (.int fl), .val (.long ka), .second, .val (.long kb), .second, .val (.long kc), .second, .val (.long kd), .second, .val (.ref o1), .val (.int (1 : Int32)), .val (.int (1 : Int32))]) rfl ?_
          refine Go.iloadN C at_227 (q := 228) rfl rfl ?_
          refine Go.bipush C at_228 (q := 230) rfl (v := (8 : Int32)) (by decide) ?_
          refine Go.iand C at_230 (q := 231) rfl ?_
          refine Go.ifc C at_231 (by decide) (q := 254) rfl (q' := 234) rfl (fun (h231_16 : (fl &&& (8 : Int32)) = 0) => ?_) (fun (h231_16 : ¬ (fl &&& (8 : Int32)) = 0) => ?_)
          · refine Go.aload C at_254 (q := 256) rfl rfl rfl ?_
            refine Go.callV C (y := yN6) (z := yN6) (a := o1) (as := []) (rest := []) (wd hw 54 rfl) (wd hw 55 rfl) (nf_sel (z := yN6) (wd hw 57 rfl)) (wd hw 57 rfl) (wd hw 56 rfl) (wd hw 58 rfl) (wd hw 2 rfl) (fun _ r => r.exa 0 rfl) (u_SequenceQueue_poll_98 l Z a0 hw _ o1 o7 o6 o5 o4 o3 o2 bx19 kb ka kb (0 : Int64) (0 : Int64) (0 : Int64) (0 : Int64) (0 : Int64) (0 : Int64) (0 : Int64) (0 : Int64) (0 : Int64) (0 : Int64) hE_bx19) rfl at_256 (q := 259) rfl (by decide) rfl (na := 0) (by decide +kernel) rfl (by decide) (W := 0) rfl (by decide) (by decide) (by decide) (k' := 7) (n' := 268) rfl rfl ?_
            rintro _ _ ⟨rfl, rfl⟩
            show Go _ _ _ _ _ _ _ _ _ _ [(.ref bx19)]
            refine Go.pop C at_259 (q := 260) rfl rfl ?_
            refine Go.iconst C at_260 (q := 261) rfl (v := (0 : Int32)) rfl ?_
            refine Go.iload C at_261 (q := 263) rfl rfl ?_
            refine Go.iconst C at_263 (q := 264) rfl (v := (1 : Int32)) rfl ?_
            refine Go.isub C at_264 (q := 265) rfl ?_
            refine Go.castI (w := (0 : Int32)) (by decide) ?_
            refine Go.callS C (y := yN7) (as := [(.int (0 : Int32)), (.int (0 : Int32))]) (rest := []) (wd hw 70 rfl) (wd hw 71 rfl) (wd hw 72 rfl) (wd hw 73 rfl) (u_Math_max_24 l Z a0 hw _ ) rfl at_265 (q := 268) rfl (by decide) rfl (na := 2) (by decide +kernel) rfl (by decide) (W := 0) rfl (by decide) (by decide) (by decide) (k' := 7) (n' := 268) rfl rfl ?_
            rintro _ _ ⟨rfl, rfl⟩
            show Go _ _ _ _ _ _ _ _ _ _ [(.int (0 : Int32))]
            refine Go.istore C at_268 (q := 270) rfl (Ls' := #[.val (.int fl), .val (.long ka), .second, .val (.long kb), .second, .val (.long kc), .second, .val (.long kd), .second, .val (.ref o1), .val (.int (0 : Int32)), .val (.int (1 : Int32))]) rfl ?_
            refine Go.iload C at_270 (q := 272) rfl rfl ?_
            refine Go.aload C at_272 (q := 274) rfl rfl rfl ?_
            refine Go.pick (M' := ((o1, oQ (.ref o7) (.ref o4) (.int (0 : Int32)) (.long kb) .null) :: (o7, oRun (.ref o6) (.ref o5) (.int (0 : Int32)) (.int (2 : Int32))) :: (o6, .inr (.long, (oK64 (.long ka) (.long kb) (.long (0 : Int64)) (.long (0 : Int64)) (.long (0 : Int64)) (.long (0 : Int64))), true)) :: (o5, .inr (.object "java/lang/Object", (oE64 .null .null .null .null .null .null), true)) :: (o4, oHeap (.ref o3) (.ref o2) (.int (0 : Int32))) :: (o3, .inr (.long, (oK64 (.long (0 : Int64)) (.long (0 : Int64)) (.long (0 : Int64)) (.long (0 : Int64)) (.long (0 : Int64)) (.long (0 : Int64))), true)) :: (o2, .inr (.object "java/lang/Object", (oE64 .null .null .null .null .null .null), true)) :: [])) 7 [3, 0, 1, 2, 4, 5, 6] (by decide) (by decide) rfl ?_
            refine Go.callV C (y := yN4) (z := yN4) (a := o1) (as := []) (rest := [(.int (1 : Int32))]) (wd hw 41 rfl) (wd hw 42 rfl) (nf_sel (z := yN4) (wd hw 44 rfl)) (wd hw 44 rfl) (wd hw 43 rfl) (wd hw 45 rfl) (wd hw 2 rfl) (fun _ r => r.exa 0 rfl) (u_SequenceQueue_isEmpty_106 l Z a0 hw _ o1 o7 o6 o5 o4 o3 o2 kb ka kb (0 : Int64) (0 : Int64) (0 : Int64) (0 : Int64) (0 : Int64) (0 : Int64) (0 : Int64) (0 : Int64) (0 : Int64) (0 : Int64)) rfl at_274 (q := 277) rfl (by decide) rfl (na := 0) (by decide +kernel) rfl (by decide) (W := 1) rfl (by decide) (by decide) (by decide) (k' := 7) (n' := 268) rfl rfl ?_
            rintro _ _ ⟨rfl, rfl⟩
            show Go _ _ _ _ _ _ _ _ _ _ [(.int (1 : Int32)), (.int (1 : Int32))]
            refine Go.iload C at_277 (q := 279) rfl rfl ?_
            refine Go.ifNo C at_279 (q := 282) rfl (XT.i0_ne_f (by decide)) ?_
            refine Go.iconst C at_282 (q := 283) rfl (v := (1 : Int32)) rfl ?_
            refine Go.goto C at_283 (by decide) (q := 287) rfl ?_
            refine Go.icmpNo C at_287 (q := 290) rfl (XT.ii_ne_f (by decide)) ?_
            refine Go.iconst C at_290 (q := 291) rfl (v := (1 : Int32)) rfl ?_
            refine Go.goto C at_291 (by decide) (q := 295) rfl ?_
            refine Go.iand C at_295 (q := 296) rfl ?_
            refine Go.castI (w := (1 : Int32)) (by decide) ?_
            refine Go.istore C at_296 (q := 298) rfl (Ls' := #[.val (.int fl), .val (.long ka), .second, .val (.long kb), .second, .val (.long kc), .second, .val (.long kd), .second, .val (.ref o1), .val (.int (0 : Int32)), .val (.int (1 : Int32))]) rfl ?_
            refine Go.iload C at_298 (q := 300) rfl rfl ?_
            refine Go.retZ C rfl (by decide) at_300 (by decide) (by decide) ?_
            exact rfl
          · refine Go.aload C at_234 (q := 236) rfl rfl rfl ?_
            refine Go.lload C at_236 (q := 238) rfl rfl ?_
            refine Go.iconst C at_238 (q := 239) rfl (v := (3 : Int32)) rfl ?_
            refine Go.callS C (y := yN8) (as := [(.int (3 : Int32))]) (rest := [(.long kd), (.ref o1)]) (wd hw 74 rfl) (wd hw 75 rfl) (wd hw 76 rfl) (wd hw 77 rfl) (m_valueOf3 l Z a0 hw _ cb cs S_high S_cache A_cache H_cache) rfl at_239 (q := 242) rfl (by decide) rfl (na := 1) (by decide +kernel) rfl (by decide) (W := 3) rfl (by decide) (by decide) (by decide) (k' := 7) (n' := 268) rfl rfl ?_
            rintro _ _ ⟨bx22, rfl, rfl, hE_bx22, hF_bx22⟩
            show Go _ _ _ _ _ _ _ _ _ _ [(.ref bx22), (.long kd), (.ref o1)]
            refine Go.callV C (y := yN9) (z := yN9) (a := o1) (as := [(.long kd), (.ref bx22)]) (rest := []) (wd hw 81 rfl) (wd hw 82 rfl) (nf_sel (z := yN9) (wd hw 84 rfl)) (wd hw 84 rfl) (wd hw 83 rfl) (wd hw 85 rfl) (wd hw 2 rfl) (fun _ r => r.exa 0 rfl) (u_SequenceQueue_add_108 l Z a0 hw _ o1 o7 o6 o5 o4 o3 o2 bx22 bx19 kd kb ka kb (0 : Int64) (0 : Int64) (0 : Int64) (0 : Int64) (0 : Int64) (0 : Int64) (0 : Int64) (0 : Int64) (0 : Int64) (0 : Int64) hE_bx22 hE_bx19) rfl at_242 (q := 245) rfl (by decide) rfl (na := 2) (by decide +kernel) rfl (by decide) (W := 0) rfl (by decide) (by decide) (by decide) (k' := 7) (n' := 268) rfl rfl ?_
            rintro _ _ ⟨rfl, rfl⟩
            show Go _ _ _ _ _ _ _ _ _ _ []
            refine Go.iload C at_245 (q := 247) rfl rfl ?_
            refine Go.iconst C at_247 (q := 248) rfl (v := (1 : Int32)) rfl ?_
            refine Go.iadd C at_248 (q := 249) rfl ?_
            refine Go.castI (w := (2 : Int32)) (by decide) ?_
            refine Go.istore C at_249 (q := 251) rfl (Ls' := #[.val (.int fl), .val (.long ka), .second, .val (.long kb), .second, .val (.long kc), .second, .val (.long kd), .second, .val (.ref o1), .val (.int (2 : Int32)), .val (.int (1 : Int32))]) rfl ?_
            refine Go.goto C at_251 (by decide) (q := 270) rfl ?_
            refine Go.iload C at_270 (q := 272) rfl rfl ?_
            refine Go.aload C at_272 (q := 274) rfl rfl rfl ?_
            refine Go.callV C (y := yN4) (z := yN4) (a := o1) (as := []) (rest := [(.int (1 : Int32))]) (wd hw 41 rfl) (wd hw 42 rfl) (nf_sel (z := yN4) (wd hw 44 rfl)) (wd hw 44 rfl) (wd hw 43 rfl) (wd hw 45 rfl) (wd hw 2 rfl) (fun _ r => r.exa 0 rfl) (u_SequenceQueue_isEmpty_110 l Z a0 hw _ o1 o7 o6 o5 o4 o3 o2 bx22 bx19 kd ka kb (0 : Int64) (0 : Int64) (0 : Int64) (0 : Int64) (0 : Int64) (0 : Int64) (0 : Int64) (0 : Int64) (0 : Int64) (0 : Int64) hE_bx22 hE_bx19) rfl at_274 (q := 277) rfl (by decide) rfl (na := 0) (by decide +kernel) rfl (by decide) (W := 1) rfl (by decide) (by decide) (by decide) (k' := 7) (n' := 268) rfl rfl ?_
            rintro _ _ ⟨rfl, rfl⟩
            show Go _ _ _ _ _ _ _ _ _ _ [(.int (0 : Int32)), (.int (1 : Int32))]
            refine Go.iload C at_277 (q := 279) rfl rfl ?_
            refine Go.ifYes C at_279 (by decide) (q := 286) rfl (XT.i0_ne_t (by decide)) ?_
            refine Go.iconst C at_286 (q := 287) rfl (v := (0 : Int32)) rfl ?_
            refine Go.icmpNo C at_287 (q := 290) rfl (XT.ii_ne_f (by decide)) ?_
            refine Go.iconst C at_290 (q := 291) rfl (v := (1 : Int32)) rfl ?_
            refine Go.goto C at_291 (by decide) (q := 295) rfl ?_
            refine Go.iand C at_295 (q := 296) rfl ?_
            refine Go.castI (w := (1 : Int32)) (by decide) ?_
            refine Go.istore C at_296 (q := 298) rfl (Ls' := #[.val (.int fl), .val (.long ka), .second, .val (.long kb), .second, .val (.long kc), .second, .val (.long kd), .second, .val (.ref o1), .val (.int (2 : Int32)), .val (.int (1 : Int32))]) rfl ?_
            refine Go.iload C at_298 (q := 300) rfl rfl ?_
            refine Go.retZ C rfl (by decide) at_300 (by decide) (by decide) ?_
            exact rfl
        · show Go _ _ _ _ _ _ _ _ _ _ [(.ref bx19)]
          refine Go.pop C at_188 (q := 189) rfl rfl ?_
          refine Go.iconst C at_189 (q := 190) rfl (v := (0 : Int32)) rfl ?_
          refine Go.iload C at_190 (q := 192) rfl rfl ?_
          refine Go.iconst C at_192 (q := 193) rfl (v := (1 : Int32)) rfl ?_
          refine Go.isub C at_193 (q := 194) rfl ?_
          refine Go.castI (w := (1 : Int32)) (by decide) ?_
          refine Go.callS C (y := yN7) (as := [(.int (0 : Int32)), (.int (1 : Int32))]) (rest := []) (wd hw 70 rfl) (wd hw 71 rfl) (wd hw 72 rfl) (wd hw 73 rfl) (u_Math_max_72 l Z a0 hw _ ) rfl at_194 (q := 197) rfl (by decide) rfl (na := 2) (by decide +kernel) rfl (by decide) (W := 0) rfl (by decide) (by decide) (by decide) (k' := 7) (n' := 268) rfl rfl ?_
          rintro _ _ ⟨rfl, rfl⟩
          show Go _ _ _ _ _ _ _ _ _ _ [(.int (1 : Int32))]
          refine Go.istore C at_197 (q := 199) rfl (Ls' := #[.val (.int fl), .val (.long ka), .second, .val (.long kb), .second, .val (.long kc), .second, .val (.long kd), .second, .val (.ref o1), .val (.int (1 : Int32)), .val (.int (1 : Int32))]) rfl ?_
          refine Go.iload C at_199 (q := 201) rfl rfl ?_
          refine Go.aload C at_201 (q := 203) rfl rfl rfl ?_
          refine Go.callV C (y := yN4) (z := yN4) (a := o1) (as := []) (rest := [(.int (1 : Int32))]) (wd hw 41 rfl) (wd hw 42 rfl) (nf_sel (z := yN4) (wd hw 44 rfl)) (wd hw 44 rfl) (wd hw 43 rfl) (wd hw 45 rfl) (wd hw 2 rfl) (fun _ r => r.exa 0 rfl) (u_SequenceQueue_isEmpty_74 l Z a0 hw _ o1 o7 o6 o5 o4 o3 o2 bx15 kb ka (0 : Int64) (0 : Int64) (0 : Int64) (0 : Int64) (0 : Int64) (0 : Int64) (0 : Int64) (0 : Int64) (0 : Int64) (0 : Int64) (0 : Int64) hE_bx15) rfl at_203 (q := 206) rfl (by decide) rfl (na := 0) (by decide +kernel) rfl (by decide) (W := 1) rfl (by decide) (by decide) (by decide) (k' := 7) (n' := 268) rfl rfl ?_
          rintro _ _ ⟨rfl, rfl⟩
          show Go _ _ _ _ _ _ _ _ _ _ [(.int (0 : Int32)), (.int (1 : Int32))]
          refine Go.iload C at_206 (q := 208) rfl rfl ?_
          refine Go.ifYes C at_208 (by decide) (q := 215) rfl (XT.i0_ne_t (by decide)) ?_
          refine Go.iconst C at_215 (q := 216) rfl (v := (0 : Int32)) rfl ?_
          refine Go.icmpNo C at_216 (q := 219) rfl (XT.ii_ne_f (by decide)) ?_
          refine Go.iconst C at_219 (q := 220) rfl (v := (1 : Int32)) rfl ?_
          refine Go.goto C at_220 (by decide) (q := 224) rfl ?_
          refine Go.iand C at_224 (q := 225) rfl ?_
          refine Go.castI (w := (1 : Int32)) (by decide) ?_
          refine Go.istore C at_225 (q := 227) rfl (Ls' := #[.val (.int fl), .val (.long ka), .second, .val (.long kb), .second, .val (.long kc), .second, .val (.long kd), .second, .val (.ref o1), .val (.int (1 : Int32)), .val (.int (1 : Int32))]) rfl ?_
          refine Go.iloadN C at_227 (q := 228) rfl rfl ?_
          refine Go.bipush C at_228 (q := 230) rfl (v := (8 : Int32)) (by decide) ?_
          refine Go.iand C at_230 (q := 231) rfl ?_
          refine Go.ifc C at_231 (by decide) (q := 254) rfl (q' := 234) rfl (fun (h231_17 : (fl &&& (8 : Int32)) = 0) => ?_) (fun (h231_17 : ¬ (fl &&& (8 : Int32)) = 0) => ?_)
          · refine Go.aload C at_254 (q := 256) rfl rfl rfl ?_
            refine Go.callV C (y := yN6) (z := yN6) (a := o1) (as := []) (rest := []) (wd hw 54 rfl) (wd hw 55 rfl) (nf_sel (z := yN6) (wd hw 57 rfl)) (wd hw 57 rfl) (wd hw 56 rfl) (wd hw 58 rfl) (wd hw 2 rfl) (fun _ r => r.exa 0 rfl) (u_SequenceQueue_poll_86 l Z a0 hw _ o1 o7 o6 o5 o4 o3 o2 bx15 kb ka (0 : Int64) (0 : Int64) (0 : Int64) (0 : Int64) (0 : Int64) (0 : Int64) (0 : Int64) (0 : Int64) (0 : Int64) (0 : Int64) (0 : Int64) hE_bx15) rfl at_256 (q := 259) rfl (by decide) rfl (na := 0) (by decide +kernel) rfl (by decide) (W := 0) rfl (by decide) (by decide) (by decide) (k' := 7) (n' := 268) rfl rfl ?_
            rintro _ _ ⟨rfl, rfl⟩
            show Go _ _ _ _ _ _ _ _ _ _ [(.ref bx15)]
            refine Go.pop C at_259 (q := 260) rfl rfl ?_
            refine Go.iconst C at_260 (q := 261) rfl (v := (0 : Int32)) rfl ?_
            refine Go.iload C at_261 (q := 263) rfl rfl ?_
            refine Go.iconst C at_263 (q := 264) rfl (v := (1 : Int32)) rfl ?_
            refine Go.isub C at_264 (q := 265) rfl ?_
            refine Go.castI (w := (0 : Int32)) (by decide) ?_
            refine Go.callS C (y := yN7) (as := [(.int (0 : Int32)), (.int (0 : Int32))]) (rest := []) (wd hw 70 rfl) (wd hw 71 rfl) (wd hw 72 rfl) (wd hw 73 rfl) (u_Math_max_24 l Z a0 hw _ ) rfl at_265 (q := 268) rfl (by decide) rfl (na := 2) (by decide +kernel) rfl (by decide) (W := 0) rfl (by decide) (by decide) (by decide) (k' := 7) (n' := 268) rfl rfl ?_
            rintro _ _ ⟨rfl, rfl⟩
            show Go _ _ _ _ _ _ _ _ _ _ [(.int (0 : Int32))]
            refine Go.istore C at_268 (q := 270) rfl (Ls' := #[.val (.int fl), .val (.long ka), .second, .val (.long kb), .second, .val (.long kc), .second, .val (.long kd), .second, .val (.ref o1), .val (.int (0 : Int32)), .val (.int (1 : Int32))]) rfl ?_
            refine Go.iload C at_270 (q := 272) rfl rfl ?_
            refine Go.aload C at_272 (q := 274) rfl rfl rfl ?_
            refine Go.pick (M' := ((o1, oQ (.ref o7) (.ref o4) (.int (0 : Int32)) (.long kb) .null) :: (o7, oRun (.ref o6) (.ref o5) (.int (0 : Int32)) (.int (1 : Int32))) :: (o6, .inr (.long, (oK64 (.long ka) (.long (0 : Int64)) (.long (0 : Int64)) (.long (0 : Int64)) (.long (0 : Int64)) (.long (0 : Int64))), true)) :: (o5, .inr (.object "java/lang/Object", (oE64 .null .null .null .null .null .null), true)) :: (o4, oHeap (.ref o3) (.ref o2) (.int (0 : Int32))) :: (o3, .inr (.long, (oK64 (.long (0 : Int64)) (.long (0 : Int64)) (.long (0 : Int64)) (.long (0 : Int64)) (.long (0 : Int64)) (.long (0 : Int64))), true)) :: (o2, .inr (.object "java/lang/Object", (oE64 .null .null .null .null .null .null), true)) :: [])) 7 [3, 0, 1, 2, 4, 5, 6] (by decide) (by decide) rfl ?_
            refine Go.callV C (y := yN4) (z := yN4) (a := o1) (as := []) (rest := [(.int (1 : Int32))]) (wd hw 41 rfl) (wd hw 42 rfl) (nf_sel (z := yN4) (wd hw 44 rfl)) (wd hw 44 rfl) (wd hw 43 rfl) (wd hw 45 rfl) (wd hw 2 rfl) (fun _ r => r.exa 0 rfl) (u_SequenceQueue_isEmpty_88 l Z a0 hw _ o1 o7 o6 o5 o4 o3 o2 kb ka (0 : Int64) (0 : Int64) (0 : Int64) (0 : Int64) (0 : Int64) (0 : Int64) (0 : Int64) (0 : Int64) (0 : Int64) (0 : Int64) (0 : Int64)) rfl at_274 (q := 277) rfl (by decide) rfl (na := 0) (by decide +kernel) rfl (by decide) (W := 1) rfl (by decide) (by decide) (by decide) (k' := 7) (n' := 268) rfl rfl ?_
            rintro _ _ ⟨rfl, rfl⟩
            show Go _ _ _ _ _ _ _ _ _ _ [(.int (1 : Int32)), (.int (1 : Int32))]
            refine Go.iload C at_277 (q := 279) rfl rfl ?_
            refine Go.ifNo C at_279 (q := 282) rfl (XT.i0_ne_f (by decide)) ?_
            refine Go.iconst C at_282 (q := 283) rfl (v := (1 : Int32)) rfl ?_
            refine Go.goto C at_283 (by decide) (q := 287) rfl ?_
            refine Go.icmpNo C at_287 (q := 290) rfl (XT.ii_ne_f (by decide)) ?_
            refine Go.iconst C at_290 (q := 291) rfl (v := (1 : Int32)) rfl ?_
            refine Go.goto C at_291 (by decide) (q := 295) rfl ?_
            refine Go.iand C at_295 (q := 296) rfl ?_
            refine Go.castI (w := (1 : Int32)) (by decide) ?_
            refine Go.istore C at_296 (q := 298) rfl (Ls' := #[.val (.int fl), .val (.long ka), .second, .val (.long kb), .second, .val (.long kc), .second, .val (.long kd), .second, .val (.ref o1), .val (.int (0 : Int32)), .val (.int (1 : Int32))]) rfl ?_
            refine Go.iload C at_298 (q := 300) rfl rfl ?_
            refine Go.retZ C rfl (by decide) at_300 (by decide) (by decide) ?_
            exact rfl
          · refine Go.aload C at_234 (q := 236) rfl rfl rfl ?_
            refine Go.lload C at_236 (q := 238) rfl rfl ?_
            refine Go.iconst C at_238 (q := 239) rfl (v := (3 : Int32)) rfl ?_
            refine Go.callS C (y := yN8) (as := [(.int (3 : Int32))]) (rest := [(.long kd), (.ref o1)]) (wd hw 74 rfl) (wd hw 75 rfl) (wd hw 76 rfl) (wd hw 77 rfl) (m_valueOf3 l Z a0 hw _ cb cs S_high S_cache A_cache H_cache) rfl at_239 (q := 242) rfl (by decide) rfl (na := 1) (by decide +kernel) rfl (by decide) (W := 3) rfl (by decide) (by decide) (by decide) (k' := 7) (n' := 268) rfl rfl ?_
            rintro _ _ ⟨bx23, rfl, rfl, hE_bx23, hF_bx23⟩
            show Go _ _ _ _ _ _ _ _ _ _ [(.ref bx23), (.long kd), (.ref o1)]
            refine Go.callV C (y := yN9) (z := yN9) (a := o1) (as := [(.long kd), (.ref bx23)]) (rest := []) (wd hw 81 rfl) (wd hw 82 rfl) (nf_sel (z := yN9) (wd hw 84 rfl)) (wd hw 84 rfl) (wd hw 83 rfl) (wd hw 85 rfl) (wd hw 2 rfl) (fun _ r => r.exa 0 rfl) (u_SequenceQueue_add_90 l Z a0 hw _ o1 o7 o6 o5 o4 o3 o2 bx23 bx15 kd kb ka (0 : Int64) (0 : Int64) (0 : Int64) (0 : Int64) (0 : Int64) (0 : Int64) (0 : Int64) (0 : Int64) (0 : Int64) (0 : Int64) (0 : Int64) hE_bx23 hE_bx15) rfl at_242 (q := 245) rfl (by decide) rfl (na := 2) (by decide +kernel) rfl (by decide) (W := 0) rfl (by decide) (by decide) (by decide) (k' := 7) (n' := 268) rfl rfl ?_
            rintro _ _ ⟨rfl, rfl⟩
            show Go _ _ _ _ _ _ _ _ _ _ []
            refine Go.iload C at_245 (q := 247) rfl rfl ?_
            refine Go.iconst C at_247 (q := 248) rfl (v := (1 : Int32)) rfl ?_
            refine Go.iadd C at_248 (q := 249) rfl ?_
            refine Go.castI (w := (2 : Int32)) (by decide) ?_
            refine Go.istore C at_249 (q := 251) rfl (Ls' := #[.val (.int fl), .val (.long ka), .second, .val (.long kb), .second, .val (.long kc), .second, .val (.long kd), .second, .val (.ref o1), .val (.int (2 : Int32)), .val (.int (1 : Int32))]) rfl ?_
            refine Go.goto C at_251 (by decide) (q := 270) rfl ?_
            refine Go.iload C at_270 (q := 272) rfl rfl ?_
            refine Go.aload C at_272 (q := 274) rfl rfl rfl ?_
            refine Go.callV C (y := yN4) (z := yN4) (a := o1) (as := []) (rest := [(.int (1 : Int32))]) (wd hw 41 rfl) (wd hw 42 rfl) (nf_sel (z := yN4) (wd hw 44 rfl)) (wd hw 44 rfl) (wd hw 43 rfl) (wd hw 45 rfl) (wd hw 2 rfl) (fun _ r => r.exa 0 rfl) (u_SequenceQueue_isEmpty_36 l Z a0 hw _ o1 o7 o6 o5 o4 o3 o2 bx23 bx15 kd ka (0 : Int64) (0 : Int64) (0 : Int64) (0 : Int64) (0 : Int64) (0 : Int64) (0 : Int64) (0 : Int64) (0 : Int64) (0 : Int64) (0 : Int64) hE_bx23 hE_bx15) rfl at_274 (q := 277) rfl (by decide) rfl (na := 0) (by decide +kernel) rfl (by decide) (W := 1) rfl (by decide) (by decide) (by decide) (k' := 7) (n' := 268) rfl rfl ?_
            rintro _ _ ⟨rfl, rfl⟩
            show Go _ _ _ _ _ _ _ _ _ _ [(.int (0 : Int32)), (.int (1 : Int32))]
            refine Go.iload C at_277 (q := 279) rfl rfl ?_
            refine Go.ifYes C at_279 (by decide) (q := 286) rfl (XT.i0_ne_t (by decide)) ?_
            refine Go.iconst C at_286 (q := 287) rfl (v := (0 : Int32)) rfl ?_
            refine Go.icmpNo C at_287 (q := 290) rfl (XT.ii_ne_f (by decide)) ?_
            refine Go.iconst C at_290 (q := 291) rfl (v := (1 : Int32)) rfl ?_
            refine Go.goto C at_291 (by decide) (q := 295) rfl ?_
            refine Go.iand C at_295 (q := 296) rfl ?_
            refine Go.castI (w := (1 : Int32)) (by decide) ?_
            refine Go.istore C at_296 (q := 298) rfl (Ls' := #[.val (.int fl), .val (.long ka), .second, .val (.long kb), .second, .val (.long kc), .second, .val (.long kd), .second, .val (.ref o1), .val (.int (2 : Int32)), .val (.int (1 : Int32))]) rfl ?_
            refine Go.iload C at_298 (q := 300) rfl rfl ?_
            refine Go.retZ C rfl (by decide) at_300 (by decide) (by decide) ?_
            exact rfl
      · refine Go.aload C at_163 (q := 165) rfl rfl rfl ?_
        refine Go.lload C at_165 (q := 167) rfl rfl ?_
        refine Go.iconst C at_167 (q := 168) rfl (v := (2 : Int32)) rfl ?_
        refine Go.callS C (y := yN8) (as := [(.int (2 : Int32))]) (rest := [(.long kc), (.ref o1)]) (wd hw 74 rfl) (wd hw 75 rfl) (wd hw 76 rfl) (wd hw 77 rfl) (m_valueOf2 l Z a0 hw _ cb cs S_high S_cache A_cache H_cache) rfl at_168 (q := 171) rfl (by decide) rfl (na := 1) (by decide +kernel) rfl (by decide) (W := 3) rfl (by decide) (by decide) (by decide) (k' := 7) (n' := 268) rfl rfl ?_
        rintro _ _ ⟨bx24, rfl, rfl, hE_bx24, hF_bx24⟩
        show Go _ _ _ _ _ _ _ _ _ _ [(.ref bx24), (.long kc), (.ref o1)]
        refine Go.callV C (y := yN9) (z := yN9) (a := o1) (as := [(.long kc), (.ref bx24)]) (rest := []) (wd hw 81 rfl) (wd hw 82 rfl) (nf_sel (z := yN9) (wd hw 84 rfl)) (wd hw 84 rfl) (wd hw 83 rfl) (wd hw 85 rfl) (wd hw 2 rfl) (fun _ r => r.exa 0 rfl) (u_SequenceQueue_add_80 l Z a0 hw _ o1 o7 o6 o5 o4 o3 o2 bx24 bx19 bx15 kc kb ka (0 : Int64) (0 : Int64) (0 : Int64) (0 : Int64) (0 : Int64) (0 : Int64) (0 : Int64) (0 : Int64) (0 : Int64) (0 : Int64) (0 : Int64) hE_bx24 hE_bx19 hE_bx15) rfl at_171 (q := 174) rfl (by decide) rfl (na := 2) (by decide +kernel) rfl (by decide) (W := 0) rfl (by decide) (by decide) (by decide) (k' := 7) (n' := 268) rfl rfl ?_
        rintro _ _ (⟨rfl, rfl⟩ | ⟨rfl, rfl⟩)
        · show Go _ _ _ _ _ _ _ _ _ _ []
          refine Go.iload C at_174 (q := 176) rfl rfl ?_
          refine Go.iconst C at_176 (q := 177) rfl (v := (1 : Int32)) rfl ?_
          refine Go.iadd C at_177 (q := 178) rfl ?_
          refine Go.castI (w := (3 : Int32)) (by decide) ?_
          refine Go.istore C at_178 (q := 180) rfl (Ls' := #[.val (.int fl), .val (.long ka), .second, .val (.long kb), .second, .val (.long kc), .second, .val (.long kd), .second, .val (.ref o1), .val (.int (3 : Int32)), .val (.int (1 : Int32))]) rfl ?_
          refine Go.goto C at_180 (by decide) (q := 199) rfl ?_
          refine Go.iload C at_199 (q := 201) rfl rfl ?_
          refine Go.aload C at_201 (q := 203) rfl rfl rfl ?_
          refine Go.pick (M' := ((o1, oQ (.ref o7) (.ref o4) (.int (1 : Int32)) (.long kc) (.ref bx24)) :: (o7, oRun (.ref o6) (.ref o5) (.int (1 : Int32)) (.int (0 : Int32))) :: (o6, .inr (.long, (oK64 (.long ka) (.long (0 : Int64)) (.long (0 : Int64)) (.long (0 : Int64)) (.long (0 : Int64)) (.long (0 : Int64))), true)) :: (o5, .inr (.object "java/lang/Object", (oE64 (.ref bx15) .null .null .null .null .null), true)) :: (o4, oHeap (.ref o3) (.ref o2) (.int (1 : Int32))) :: (o3, .inr (.long, (oK64 (.long kb) (.long (0 : Int64)) (.long (0 : Int64)) (.long (0 : Int64)) (.long (0 : Int64)) (.long (0 : Int64))), true)) :: (o2, .inr (.object "java/lang/Object", (oE64 (.ref bx19) .null .null .null .null .null), true)) :: [])) 7 [6, 3, 4, 5, 0, 1, 2] (by decide) (by decide) rfl ?_
          refine Go.callV C (y := yN4) (z := yN4) (a := o1) (as := []) (rest := [(.int (1 : Int32))]) (wd hw 41 rfl) (wd hw 42 rfl) (nf_sel (z := yN4) (wd hw 44 rfl)) (wd hw 44 rfl) (wd hw 43 rfl) (wd hw 45 rfl) (wd hw 2 rfl) (fun _ r => r.exa 0 rfl) (u_SequenceQueue_isEmpty_82 l Z a0 hw _ o1 o7 o6 o5 o4 o3 o2 bx24 bx15 bx19 kc ka (0 : Int64) (0 : Int64) (0 : Int64) (0 : Int64) (0 : Int64) kb (0 : Int64) (0 : Int64) (0 : Int64) (0 : Int64) (0 : Int64) hE_bx24 hE_bx15 hE_bx19) rfl at_203 (q := 206) rfl (by decide) rfl (na := 0) (by decide +kernel) rfl (by decide) (W := 1) rfl (by decide) (by decide) (by decide) (k' := 7) (n' := 268) rfl rfl ?_
          rintro _ _ ⟨rfl, rfl⟩
          show Go _ _ _ _ _ _ _ _ _ _ [(.int (0 : Int32)), (.int (1 : Int32))]
          refine Go.iload C at_206 (q := 208) rfl rfl ?_
          refine Go.ifYes C at_208 (by decide) (q := 215) rfl (XT.i0_ne_t (by decide)) ?_
          refine Go.iconst C at_215 (q := 216) rfl (v := (0 : Int32)) rfl ?_
          refine Go.icmpNo C at_216 (q := 219) rfl (XT.ii_ne_f (by decide)) ?_
          refine Go.iconst C at_219 (q := 220) rfl (v := (1 : Int32)) rfl ?_
          refine Go.goto C at_220 (by decide) (q := 224) rfl ?_
          refine Go.iand C at_224 (q := 225) rfl ?_
          refine Go.castI (w := (1 : Int32)) (by decide) ?_
          refine Go.istore C at_225 (q := 227) rfl (Ls' := #[.val (.int fl), .val (.long ka), .second, .val (.long kb), .second, .val (.long kc), .second, .val (.long kd), .second, .val (.ref o1), .val (.int (3 : Int32)), .val (.int (1 : Int32))]) rfl ?_
          refine Go.iloadN C at_227 (q := 228) rfl rfl ?_
          refine Go.bipush C at_228 (q := 230) rfl (v := (8 : Int32)) (by decide) ?_
          refine Go.iand C at_230 (q := 231) rfl ?_
          refine Go.ifc C at_231 (by decide) (q := 254) rfl (q' := 234) rfl (fun (h231_18 : (fl &&& (8 : Int32)) = 0) => ?_) (fun (h231_18 : ¬ (fl &&& (8 : Int32)) = 0) => ?_)
          · refine Go.aload C at_254 (q := 256) rfl rfl rfl ?_
            refine Go.callV C (y := yN6) (z := yN6) (a := o1) (as := []) (rest := []) (wd hw 54 rfl) (wd hw 55 rfl) (nf_sel (z := yN6) (wd hw 57 rfl)) (wd hw 57 rfl) (wd hw 56 rfl) (wd hw 58 rfl) (wd hw 2 rfl) (fun _ r => r.exa 0 rfl) (u_SequenceQueue_poll_112 l Z a0 hw _ o1 o7 o6 o5 o4 o3 o2 bx24 bx15 bx19 kc ka (0 : Int64) (0 : Int64) (0 : Int64) (0 : Int64) (0 : Int64) kb (0 : Int64) (0 : Int64) (0 : Int64) (0 : Int64) (0 : Int64) hE_bx24 hE_bx15 hE_bx19) rfl at_256 (q := 259) rfl (by decide) rfl (na := 0) (by decide +kernel) rfl (by decide) (W := 0) rfl (by decide) (by decide) (by decide) (k' := 7) (n' := 268) rfl rfl ?_
            rintro _ _ (⟨rfl, rfl⟩ | ⟨rfl, rfl⟩ | ⟨rfl, rfl⟩ | ⟨rfl, rfl⟩ | ⟨rfl, rfl⟩ | ⟨rfl, rfl⟩ | ⟨rfl, rfl⟩)
            · show Go _ _ _ _ _ _ _ _ _ _ [(.ref bx24)]
              refine Go.pop C at_259 (q := 260) rfl rfl ?_
              refine Go.iconst C at_260 (q := 261) rfl (v := (0 : Int32)) rfl ?_
              refine Go.iload C at_261 (q := 263) rfl rfl ?_
              refine Go.iconst C at_263 (q := 264) rfl (v := (1 : Int32)) rfl ?_
              refine Go.isub C at_264 (q := 265) rfl ?_
              refine Go.castI (w := (2 : Int32)) (by decide) ?_
              refine Go.callS C (y := yN7) (as := [(.int (0 : Int32)), (.int (2 : Int32))]) (rest := []) (wd hw 70 rfl) (wd hw 71 rfl) (wd hw 72 rfl) (wd hw 73 rfl) (u_Math_max_124 l Z a0 hw _ ) rfl at_265 (q := 268) rfl (by decide) rfl (na := 2) (by decide +kernel) rfl (by decide) (W := 0) rfl (by decide) (by decide) (by decide) (k' := 7) (n' := 268) rfl rfl ?_
              rintro _ _ ⟨rfl, rfl⟩
              show Go _ _ _ _ _ _ _ _ _ _ [(.int (2 : Int32))]
              refine Go.istore C at_268 (q := 270) rfl (Ls' := #[.val (.int fl), .val (.long ka), .second, .val (.long kb), .second, .val (.long kc), .second, .val (.long kd), .second, .val (.ref o1), .val (.int (2 : Int32)), .val (.int (1 : Int32))]) rfl ?_
              refine Go.iload C at_270 (q := 272) rfl rfl ?_
              refine Go.aload C at_272 (q := 274) rfl rfl rfl ?_
              refine Go.pick (M' := ((o1, oQ (.ref o7) (.ref o4) (.int (0 : Int32)) (.long kc) .null) :: (o7, oRun (.ref o6) (.ref o5) (.int (1 : Int32)) (.int (0 : Int32))) :: (o6, .inr (.long, (oK64 (.long ka) (.long (0 : Int64)) (.long (0 : Int64)) (.long (0 : Int64)) (.long (0 : Int64)) (.long (0 : Int64))), true)) :: (o5, .inr (.object "java/lang/Object", (oE64 (.ref bx15) .null .null .null .null .null), true)) :: (o4, oHeap (.ref o3) (.ref o2) (.int (1 : Int32))) :: (o3, .inr (.long, (oK64 (.long kb) (.long kb) (.long (0 : Int64)) (.long (0 : Int64)) (.long (0 : Int64)) (.long (0 : Int64))), true)) :: (o2, .inr (.object "java/lang/Object", (oE64 (.ref bx19) .null .null .null .null .null), true)) :: [])) 7 [6, 3, 4, 5, 0, 1, 2] (by decide) (by decide) rfl ?_
              refine Go.callV C (y := yN4) (z := yN4) (a := o1) (as := []) (rest := [(.int (1 : Int32))]) (wd hw 41 rfl) (wd hw 42 rfl) (nf_sel (z := yN4) (wd hw 44 rfl)) (wd hw 44 rfl) (wd hw 43 rfl) (wd hw 45 rfl) (wd hw 2 rfl) (fun _ r => r.exa 0 rfl) (u_SequenceQueue_isEmpty_126 l Z a0 hw _ o1 o7 o6 o5 o4 o3 o2 bx15 bx19 kc ka (0 : Int64) (0 : Int64) (0 : Int64) (0 : Int64) (0 : Int64) kb kb (0 : Int64) (0 : Int64) (0 : Int64) (0 : Int64) hE_bx15 hE_bx19) rfl at_274 (q := 277) rfl (by decide) rfl (na := 0) (by decide +kernel) rfl (by decide) (W := 1) rfl (by decide) (by decide) (by decide) (k' := 7) (n' := 268) rfl rfl ?_
              rintro _ _ ⟨rfl, rfl⟩
              show Go _ _ _ _ _ _ _ _ _ _ [(.int (0 : Int32)), (.int (1 : Int32))]
              refine Go.iload C at_277 (q := 279) rfl rfl ?_
              refine Go.ifYes C at_279 (by decide) (q := 286) rfl (XT.i0_ne_t (by decide)) ?_
              refine Go.iconst C at_286 (q := 287) rfl (v := (0 : Int32)) rfl ?_
              refine Go.icmpNo C at_287 (q := 290) rfl (XT.ii_ne_f (by decide)) ?_
              refine Go.iconst C at_290 (q := 291) rfl (v := (1 : Int32)) rfl ?_
              refine Go.goto C at_291 (by decide) (q := 295) rfl ?_
              refine Go.iand C at_295 (q := 296) rfl ?_
              refine Go.castI (w := (1 : Int32)) (by decide) ?_
              refine Go.istore C at_296 (q := 298) rfl (Ls' := #[.val (.int fl), .val (.long ka), .second, .val (.long kb), .second, .val (.long kc), .second, .val (.long kd), .second, .val (.ref o1), .val (.int (2 : Int32)), .val (.int (1 : Int32))]) rfl ?_
              refine Go.iload C at_298 (q := 300) rfl rfl ?_
              refine Go.retZ C rfl (by decide) at_300 (by decide) (by decide) ?_
              exact rfl
            · show Go _ _ _ _ _ _ _ _ _ _ [(.ref bx15)]
              refine Go.pop C at_259 (q := 260) rfl rfl ?_
              refine Go.iconst C at_260 (q := 261) rfl (v := (0 : Int32)) rfl ?_
              refine Go.iload C at_261 (q := 263) rfl rfl ?_
              refine Go.iconst C at_263 (q := 264) rfl (v := (1 : Int32)) rfl ?_
              refine Go.isub C at_264 (q := 265) rfl ?_
              refine Go.castI (w := (2 : Int32)) (by decide) ?_
              refine Go.callS C (y := yN7) (as := [(.int (0 : Int32)), (.int (2 : Int32))]) (rest := []) (wd hw 70 rfl) (wd hw 71 rfl) (wd hw 72 rfl) (wd hw 73 rfl) (u_Math_max_124 l Z a0 hw _ ) rfl at_265 (q := 268) rfl (by decide) rfl (na := 2) (by decide +kernel) rfl (by decide) (W := 0) rfl (by decide) (by decide) (by decide) (k' := 7) (n' := 268) rfl rfl ?_
              rintro _ _ ⟨rfl, rfl⟩
              show Go _ _ _ _ _ _ _ _ _ _ [(.int (2 : Int32))]
              refine Go.istore C at_268 (q := 270) rfl (Ls' := #[.val (.int fl), .val (.long ka), .second, .val (.long kb), .second, .val (.long kc), .second, .val (.long kd), .second, .val (.ref o1), .val (.int (2 : Int32)), .val (.int (1 : Int32))]) rfl ?_
              refine Go.iload C at_270 (q := 272) rfl rfl ?_
              refine Go.aload C at_272 (q := 274) rfl rfl rfl ?_
              refine Go.pick (M' := ((o1, oQ (.ref o7) (.ref o4) (.int (0 : Int32)) (.long kc) .null) :: (o7, oRun (.ref o6) (.ref o5) (.int (0 : Int32)) (.int (1 : Int32))) :: (o6, .inr (.long, (oK64 (.long ka) (.long (0 : Int64)) (.long (0 : Int64)) (.long (0 : Int64)) (.long (0 : Int64)) (.long (0 : Int64))), true)) :: (o5, .inr (.object "java/lang/Object", (oE64 .null .null .null .null .null .null), true)) :: (o4, oHeap (.ref o3) (.ref o2) (.int (2 : Int32))) :: (o3, .inr (.long, (oK64 (.long kc) (.long kb) (.long (0 : Int64)) (.long (0 : Int64)) (.long (0 : Int64)) (.long (0 : Int64))), true)) :: (o2, .inr (.object "java/lang/Object", (oE64 (.ref bx24) (.ref bx19) .null .null .null .null), true)) :: [])) 7 [6, 0, 1, 2, 3, 4, 5] (by decide) (by decide) rfl ?_
              refine Go.callV C (y := yN4) (z := yN4) (a := o1) (as := []) (rest := [(.int (1 : Int32))]) (wd hw 41 rfl) (wd hw 42 rfl) (nf_sel (z := yN4) (wd hw 44 rfl)) (wd hw 44 rfl) (wd hw 43 rfl) (wd hw 45 rfl) (wd hw 2 rfl) (fun _ r => r.exa 0 rfl) (u_SequenceQueue_isEmpty_128 l Z a0 hw _ o1 o7 o6 o5 o4 o3 o2 bx24 bx19 kc ka (0 : Int64) (0 : Int64) (0 : Int64) (0 : Int64) (0 : Int64) kc kb (0 : Int64) (0 : Int64) (0 : Int64) (0 : Int64) hE_bx24 hE_bx19) rfl at_274 (q := 277) rfl (by decide) rfl (na := 0) (by decide +kernel) rfl (by decide) (W := 1) rfl (by decide) (by decide) (by decide) (k' := 7) (n' := 268) rfl rfl ?_
              rintro _ _ ⟨rfl, rfl⟩
              show Go _ _ _ _ _ _ _ _ _ _ [(.int (0 : Int32)), (.int (1 : Int32))]
              refine Go.iload C at_277 (q := 279) rfl rfl ?_
              refine Go.ifYes C at_279 (by decide) (q := 286) rfl (XT.i0_ne_t (by decide)) ?_
              refine Go.iconst C at_286 (q := 287) rfl (v := (0 : Int32)) rfl ?_
              refine Go.icmpNo C at_287 (q := 290) rfl (XT.ii_ne_f (by decide)) ?_
              refine Go.iconst C at_290 (q := 291) rfl (v := (1 : Int32)) rfl ?_
              refine Go.goto C at_291 (by decide) (q := 295) rfl ?_
              refine Go.iand C at_295 (q := 296) rfl ?_
              refine Go.castI (w := (1 : Int32)) (by decide) ?_
              refine Go.istore C at_296 (q := 298) rfl (Ls' := #[.val (.int fl), .val (.long ka), .second, .val (.long kb), .second, .val (.long kc), .second, .val (.long kd), .second, .val (.ref o1), .val (.int (2 : Int32)), .val (.int (1 : Int32))]) rfl ?_
              refine Go.iload C at_298 (q := 300) rfl rfl ?_
              refine Go.retZ C rfl (by decide) at_300 (by decide) (by decide) ?_
              exact rfl
            · show Go _ _ _ _ _ _ _ _ _ _ [(.ref bx19)]
              refine Go.pop C at_259 (q := 260) rfl rfl ?_
              refine Go.iconst C at_260 (q := 261) rfl (v := (0 : Int32)) rfl ?_
              refine Go.iload C at_261 (q := 263) rfl rfl ?_
              refine Go.iconst C at_263 (q := 264) rfl (v := (1 : Int32)) rfl ?_
              refine Go.isub C at_264 (q := 265) rfl ?_
              refine Go.castI (w := (2 : Int32)) (by decide) ?_
              refine Go.callS C (y := yN7) (as := [(.int (0 : Int32)), (.int (2 : Int32))]) (rest := []) (wd hw 70 rfl) (wd hw 71 rfl) (wd hw 72 rfl) (wd hw 73 rfl) (u_Math_max_124 l Z a0 hw _ ) rfl at_265 (q := 268) rfl (by decide) rfl (na := 2) (by decide +kernel) rfl (by decide) (W := 0) rfl (by decide) (by decide) (by decide) (k' := 7) (n' := 268) rfl rfl ?_
              rintro _ _ ⟨rfl, rfl⟩
              show Go _ _ _ _ _ _ _ _ _ _ [(.int (2 : Int32))]
              refine Go.istore C at_268 (q := 270) rfl (Ls' := #[.val (.int fl), .val (.long ka), .second, .val (.long kb), .second, .val (.long kc), .second, .val (.long kd), .second, .val (.ref o1), .val (.int (2 : Int32)), .val (.int (1 : Int32))]) rfl ?_
              refine Go.iload C at_270 (q := 272) rfl rfl ?_
              refine Go.aload C at_272 (q := 274) rfl rfl rfl ?_
              refine Go.pick (M' := ((o1, oQ (.ref o7) (.ref o4) (.int (0 : Int32)) (.long kc) .null) :: (o7, oRun (.ref o6) (.ref o5) (.int (1 : Int32)) (.int (0 : Int32))) :: (o6, .inr (.long, (oK64 (.long ka) (.long (0 : Int64)) (.long (0 : Int64)) (.long (0 : Int64)) (.long (0 : Int64)) (.long (0 : Int64))), true)) :: (o5, .inr (.object "java/lang/Object", (oE64 (.ref bx15) .null .null .null .null .null), true)) :: (o4, oHeap (.ref o3) (.ref o2) (.int (1 : Int32))) :: (o3, .inr (.long, (oK64 (.long kc) (.long kc) (.long (0 : Int64)) (.long (0 : Int64)) (.long (0 : Int64)) (.long (0 : Int64))), true)) :: (o2, .inr (.object "java/lang/Object", (oE64 (.ref bx24) .null .null .null .null .null), true)) :: [])) 7 [6, 3, 4, 5, 0, 1, 2] (by decide) (by decide) rfl ?_
              refine Go.callV C (y := yN4) (z := yN4) (a := o1) (as := []) (rest := [(.int (1 : Int32))]) (wd hw 41 rfl) (wd hw 42 rfl) (nf_sel (z := yN4) (wd hw 44 rfl)) (wd hw 44 rfl) (wd hw 43 rfl) (wd hw 45 rfl) (wd hw 2 rfl) (fun _ r => r.exa 0 rfl) (u_SequenceQueue_isEmpty_126 l Z a0 hw _ o1 o7 o6 o5 o4 o3 o2 bx15 bx24 kc ka (0 : Int64) (0 : Int64) (0 : Int64) (0 : Int64) (0 : Int64) kc kc (0 : Int64) (0 : Int64) (0 : Int64) (0 : Int64) hE_bx15 hE_bx24) rfl at_274 (q := 277) rfl (by decide) rfl (na := 0) (by decide +kernel) rfl (by decide) (W := 1) rfl (by decide) (by decide) (by decide) (k' := 7) (n' := 268) rfl rfl ?_
              rintro _ _ ⟨rfl, rfl⟩
              show Go _ _ _ _ _ _ _ _ _ _ [(.int (0 : Int32)), (.int (1 : Int32))]
              refine Go.iload C at_277 (q := 279) rfl rfl ?_
              refine Go.ifYes C at_279 (by decide) (q := 286) rfl (XT.i0_ne_t (by decide)) ?_
              refine Go.iconst C at_286 (q := 287) rfl (v := (0 : Int32)) rfl ?_
              refine Go.icmpNo C at_287 (q := 290) rfl (XT.ii_ne_f (by decide)) ?_
              refine Go.iconst C at_290 (q := 291) rfl (v := (1 : Int32)) rfl ?_
              refine Go.goto C at_291 (by decide) (q := 295) rfl ?_
              refine Go.iand C at_295 (q := 296) rfl ?_
              refine Go.castI (w := (1 : Int32)) (by decide) ?_
              refine Go.istore C at_296 (q := 298) rfl (Ls' := #[.val (.int fl), .val (.long ka), .second, .val (.long kb), .second, .val (.long kc), .second, .val (.long kd), .second, .val (.ref o1), .val (.int (2 : Int32)), .val (.int (1 : Int32))]) rfl ?_
              refine Go.iload C at_298 (q := 300) rfl rfl ?_
              refine Go.retZ C rfl (by decide) at_300 (by decide) (by decide) ?_
              exact rfl
            · show Go _ _ _ _ _ _ _ _ _ _ [(.ref bx15)]
              refine Go.pop C at_259 (q := 260) rfl rfl ?_
              refine Go.iconst C at_260 (q := 261) rfl (v := (0 : Int32)) rfl ?_
              refine Go.iload C at_261 (q := 263) rfl rfl ?_
              refine Go.iconst C at_263 (q := 264) rfl (v := (1 : Int32)) rfl ?_
              refine Go.isub C at_264 (q := 265) rfl ?_
              refine Go.castI (w := (2 : Int32)) (by decide) ?_
              refine Go.callS C (y := yN7) (as := [(.int (0 : Int32)), (.int (2 : Int32))]) (rest := []) (wd hw 70 rfl) (wd hw 71 rfl) (wd hw 72 rfl) (wd hw 73 rfl) (u_Math_max_124 l Z a0 hw _ ) rfl at_265 (q := 268) rfl (by decide) rfl (na := 2) (by decide +kernel) rfl (by decide) (W := 0) rfl (by decide) (by decide) (by decide) (k' := 7) (n' := 268) rfl rfl ?_
              rintro _ _ ⟨rfl, rfl⟩
              show Go _ _ _ _ _ _ _ _ _ _ [(.int (2 : Int32))]
              refine Go.istore C at_268 (q := 270) rfl (Ls' := #[.val (.int fl), .val (.long ka), .second, .val (.long kb), .second, .val (.long kc), .second, .val (.long kd), .second, .val (.ref o1), .val (.int (2 : Int32)), .val (.int (1 : Int32))]) rfl ?_
              refine Go.iload C at_270 (q := 272) rfl rfl ?_
              refine Go.aload C at_272 (q := 274) rfl rfl rfl ?_
              refine Go.pick (M' := ((o1, oQ (.ref o7) (.ref o4) (.int (0 : Int32)) (.long kc) .null) :: (o7, oRun (.ref o6) (.ref o5) (.int (0 : Int32)) (.int (1 : Int32))) :: (o6, .inr (.long, (oK64 (.long ka) (.long (0 : Int64)) (.long (0 : Int64)) (.long (0 : Int64)) (.long (0 : Int64)) (.long (0 : Int64))), true)) :: (o5, .inr (.object "java/lang/Object", (oE64 .null .null .null .null .null .null), true)) :: (o4, oHeap (.ref o3) (.ref o2) (.int (2 : Int32))) :: (o3, .inr (.long, (oK64 (.long kb) (.long kc) (.long (0 : Int64)) (.long (0 : Int64)) (.long (0 : Int64)) (.long (0 : Int64))), true)) :: (o2, .inr (.object "java/lang/Object", (oE64 (.ref bx19) (.ref bx24) .null .null .null .null), true)) :: [])) 7 [6, 0, 1, 2, 3, 4, 5] (by decide) (by decide) rfl ?_
              refine Go.callV C (y := yN4) (z := yN4) (a := o1) (as := []) (rest := [(.int (1 : Int32))]) (wd hw 41 rfl) (wd hw 42 rfl) (nf_sel (z := yN4) (wd hw 44 rfl)) (wd hw 44 rfl) (wd hw 43 rfl) (wd hw 45 rfl) (wd hw 2 rfl) (fun _ r => r.exa 0 rfl) (u_SequenceQueue_isEmpty_128 l Z a0 hw _ o1 o7 o6 o5 o4 o3 o2 bx19 bx24 kc ka (0 : Int64) (0 : Int64) (0 : Int64) (0 : Int64) (0 : Int64) kb kc (0 : Int64) (0 : Int64) (0 : Int64) (0 : Int64) hE_bx19 hE_bx24) rfl at_274 (q := 277) rfl (by decide) rfl (na := 0) (by decide +kernel) rfl (by decide) (W := 1) rfl (by decide) (by decide) (by decide) (k' := 7) (n' := 268) rfl rfl ?_
              rintro _ _ ⟨rfl, rfl⟩
              show Go _ _ _ _ _ _ _ _ _ _ [(.int (0 : Int32)), (.int (1 : Int32))]
              refine Go.iload C at_277 (q := 279) rfl rfl ?_
              refine Go.ifYes C at_279 (by decide) (q := 286) rfl (XT.i0_ne_t (by decide)) ?_
              refine Go.iconst C at_286 (q := 287) rfl (v := (0 : Int32)) rfl ?_
              refine Go.icmpNo C at_287 (q := 290) rfl (XT.ii_ne_f (by decide)) ?_
              refine Go.iconst C at_290 (q := 291) rfl (v := (1 : Int32)) rfl ?_
              refine Go.goto C at_291 (by decide) (q := 295) rfl ?_
              refine Go.iand C at_295 (q := 296) rfl ?_
              refine Go.castI (w := (1 : Int32)) (by decide) ?_
              refine Go.istore C at_296 (q := 298) rfl (Ls' := #[.val (.int fl), .val (.long ka), .second, .val (.long kb), .second, .val (.long kc), .second, .val (.long kd), .second, .val (.ref o1), .val (.int (2 : Int32)), .val (.int (1 : Int32))]) rfl ?_
              refine Go.iload C at_298 (q := 300) rfl rfl ?_
              refine Go.retZ C rfl (by decide) at_300 (by decide) (by decide) ?_
              exact rfl
            · show Go _ _ _ _ _ _ _ _ _ _ [(.ref bx19)]
              refine Go.pop C at_259 (q := 260) rfl rfl ?_
              refine Go.iconst C at_260 (q := 261) rfl (v := (0 : Int32)) rfl ?_
              refine Go.iload C at_261 (q := 263) rfl rfl ?_
              refine Go.iconst C at_263 (q := 264) rfl (v := (1 : Int32)) rfl ?_
              refine Go.isub C at_264 (q := 265) rfl ?_
              refine Go.castI (w := (2 : Int32)) (by decide) ?_
              refine Go.callS C (y := yN7) (as := [(.int (0 : Int32)), (.int (2 : Int32))]) (rest := []) (wd hw 70 rfl) (wd hw 71 rfl) (wd hw 72 rfl) (wd hw 73 rfl) (u_Math_max_124 l Z a0 hw _ ) rfl at_265 (q := 268) rfl (by decide) rfl (na := 2) (by decide +kernel) rfl (by decide) (W := 0) rfl (by decide) (by decide) (by decide) (k' := 7) (n' := 268) rfl rfl ?_
              rintro _ _ ⟨rfl, rfl⟩
              show Go _ _ _ _ _ _ _ _ _ _ [(.int (2 : Int32))]
              refine Go.istore C at_268 (q := 270) rfl (Ls' := #[.val (.int fl), .val (.long ka), .second, .val (.long kb), .second, .val (.long kc), .second, .val (.long kd), .second, .val (.ref o1), .val (.int (2 : Int32)), .val (.int (1 : Int32))]) rfl ?_
              refine Go.iload C at_270 (q := 272) rfl rfl ?_
              refine Go.aload C at_272 (q := 274) rfl rfl rfl ?_
              refine Go.pick (M' := ((o1, oQ (.ref o7) (.ref o4) (.int (0 : Int32)) (.long kc) .null) :: (o7, oRun (.ref o6) (.ref o5) (.int (2 : Int32)) (.int (0 : Int32))) :: (o6, .inr (.long, (oK64 (.long ka) (.long kc) (.long (0 : Int64)) (.long (0 : Int64)) (.long (0 : Int64)) (.long (0 : Int64))), true)) :: (o5, .inr (.object "java/lang/Object", (oE64 (.ref bx15) (.ref bx24) .null .null .null .null), true)) :: (o4, oHeap (.ref o3) (.ref o2) (.int (0 : Int32))) :: (o3, .inr (.long, (oK64 (.long kb) (.long (0 : Int64)) (.long (0 : Int64)) (.long (0 : Int64)) (.long (0 : Int64)) (.long (0 : Int64))), true)) :: (o2, .inr (.object "java/lang/Object", (oE64 .null .null .null .null .null .null), true)) :: [])) 7 [6, 3, 4, 5, 0, 1, 2] (by decide) (by decide) rfl ?_
              refine Go.callV C (y := yN4) (z := yN4) (a := o1) (as := []) (rest := [(.int (1 : Int32))]) (wd hw 41 rfl) (wd hw 42 rfl) (nf_sel (z := yN4) (wd hw 44 rfl)) (wd hw 44 rfl) (wd hw 43 rfl) (wd hw 45 rfl) (wd hw 2 rfl) (fun _ r => r.exa 0 rfl) (u_SequenceQueue_isEmpty_130 l Z a0 hw _ o1 o7 o6 o5 o4 o3 o2 bx15 bx24 kc ka kc (0 : Int64) (0 : Int64) (0 : Int64) (0 : Int64) kb (0 : Int64) (0 : Int64) (0 : Int64) (0 : Int64) (0 : Int64) hE_bx15 hE_bx24) rfl at_274 (q := 277) rfl (by decide) rfl (na := 0) (by decide +kernel) rfl (by decide) (W := 1) rfl (by decide) (by decide) (by decide) (k' := 7) (n' := 268) rfl rfl ?_
              rintro _ _ ⟨rfl, rfl⟩
              show Go _ _ _ _ _ _ _ _ _ _ [(.int (0 : Int32)), (.int (1 : Int32))]
              refine Go.iload C at_277 (q := 279) rfl rfl ?_
              refine Go.ifYes C at_279 (by decide) (q := 286) rfl (XT.i0_ne_t (by decide)) ?_
              refine Go.iconst C at_286 (q := 287) rfl (v := (0 : Int32)) rfl ?_
              refine Go.icmpNo C at_287 (q := 290) rfl (XT.ii_ne_f (by decide)) ?_
              refine Go.iconst C at_290 (q := 291) rfl (v := (1 : Int32)) rfl ?_
              refine Go.goto C at_291 (by decide) (q := 295) rfl ?_
              refine Go.iand C at_295 (q := 296) rfl ?_
              refine Go.castI (w := (1 : Int32)) (by decide) ?_
              refine Go.istore C at_296 (q := 298) rfl (Ls' := #[.val (.int fl), .val (.long ka), .second, .val (.long kb), .second, .val (.long kc), .second, .val (.long kd), .second, .val (.ref o1), .val (.int (2 : Int32)), .val (.int (1 : Int32))]) rfl ?_
              refine Go.iload C at_298 (q := 300) rfl rfl ?_
              refine Go.retZ C rfl (by decide) at_300 (by decide) (by decide) ?_
              exact rfl
            · show Go _ _ _ _ _ _ _ _ _ _ [(.ref bx15)]
              refine Go.pop C at_259 (q := 260) rfl rfl ?_
              refine Go.iconst C at_260 (q := 261) rfl (v := (0 : Int32)) rfl ?_
              refine Go.iload C at_261 (q := 263) rfl rfl ?_
              refine Go.iconst C at_263 (q := 264) rfl (v := (1 : Int32)) rfl ?_
              refine Go.isub C at_264 (q := 265) rfl ?_
              refine Go.castI (w := (2 : Int32)) (by decide) ?_
              refine Go.callS C (y := yN7) (as := [(.int (0 : Int32)), (.int (2 : Int32))]) (rest := []) (wd hw 70 rfl) (wd hw 71 rfl) (wd hw 72 rfl) (wd hw 73 rfl) (u_Math_max_124 l Z a0 hw _ ) rfl at_265 (q := 268) rfl (by decide) rfl (na := 2) (by decide +kernel) rfl (by decide) (W := 0) rfl (by decide) (by decide) (by decide) (k' := 7) (n' := 268) rfl rfl ?_
              rintro _ _ ⟨rfl, rfl⟩
              show Go _ _ _ _ _ _ _ _ _ _ [(.int (2 : Int32))]
              refine Go.istore C at_268 (q := 270) rfl (Ls' := #[.val (.int fl), .val (.long ka), .second, .val (.long kb), .second, .val (.long kc), .second, .val (.long kd), .second, .val (.ref o1), .val (.int (2 : Int32)), .val (.int (1 : Int32))]) rfl ?_
              refine Go.iload C at_270 (q := 272) rfl rfl ?_
              refine Go.aload C at_272 (q := 274) rfl rfl rfl ?_
              refine Go.pick (M' := ((o1, oQ (.ref o7) (.ref o4) (.int (0 : Int32)) (.long kc) .null) :: (o7, oRun (.ref o6) (.ref o5) (.int (1 : Int32)) (.int (1 : Int32))) :: (o6, .inr (.long, (oK64 (.long ka) (.long kc) (.long (0 : Int64)) (.long (0 : Int64)) (.long (0 : Int64)) (.long (0 : Int64))), true)) :: (o5, .inr (.object "java/lang/Object", (oE64 .null (.ref bx24) .null .null .null .null), true)) :: (o4, oHeap (.ref o3) (.ref o2) (.int (1 : Int32))) :: (o3, .inr (.long, (oK64 (.long kb) (.long (0 : Int64)) (.long (0 : Int64)) (.long (0 : Int64)) (.long (0 : Int64)) (.long (0 : Int64))), true)) :: (o2, .inr (.object "java/lang/Object", (oE64 (.ref bx19) .null .null .null .null .null), true)) :: [])) 7 [3, 0, 1, 2, 4, 5, 6] (by decide) (by decide) rfl ?_
              refine Go.callV C (y := yN4) (z := yN4) (a := o1) (as := []) (rest := [(.int (1 : Int32))]) (wd hw 41 rfl) (wd hw 42 rfl) (nf_sel (z := yN4) (wd hw 44 rfl)) (wd hw 44 rfl) (wd hw 43 rfl) (wd hw 45 rfl) (wd hw 2 rfl) (fun _ r => r.exa 0 rfl) (u_SequenceQueue_isEmpty_132 l Z a0 hw _ o1 o7 o6 o5 o4 o3 o2 bx24 bx19 kc ka kc (0 : Int64) (0 : Int64) (0 : Int64) (0 : Int64) kb (0 : Int64) (0 : Int64) (0 : Int64) (0 : Int64) (0 : Int64) hE_bx24 hE_bx19) rfl at_274 (q := 277) rfl (by decide) rfl (na := 0) (by decide +kernel) rfl (by decide) (W := 1) rfl (by decide) (by decide) (by decide) (k' := 7) (n' := 268) rfl rfl ?_
              rintro _ _ ⟨rfl, rfl⟩
              show Go _ _ _ _ _ _ _ _ _ _ [(.int (0 : Int32)), (.int (1 : Int32))]
              refine Go.iload C at_277 (q := 279) rfl rfl ?_
              refine Go.ifYes C at_279 (by decide) (q := 286) rfl (XT.i0_ne_t (by decide)) ?_
              refine Go.iconst C at_286 (q := 287) rfl (v := (0 : Int32)) rfl ?_
              refine Go.icmpNo C at_287 (q := 290) rfl (XT.ii_ne_f (by decide)) ?_
              refine Go.iconst C at_290 (q := 291) rfl (v := (1 : Int32)) rfl ?_
              refine Go.goto C at_291 (by decide) (q := 295) rfl ?_
              refine Go.iand C at_295 (q := 296) rfl ?_
              refine Go.castI (w := (1 : Int32)) (by decide) ?_
              refine Go.istore C at_296 (q := 298) rfl (Ls' := #[.val (.int fl), .val (.long ka), .second, .val (.long kb), .second, .val (.long kc), .second, .val (.long kd), .second, .val (.ref o1), .val (.int (2 : Int32)), .val (.int (1 : Int32))]) rfl ?_
              refine Go.iload C at_298 (q := 300) rfl rfl ?_
              refine Go.retZ C rfl (by decide) at_300 (by decide) (by decide) ?_
              exact rfl
            · show Go _ _ _ _ _ _ _ _ _ _ [(.ref bx24)]
              refine Go.pop C at_259 (q := 260) rfl rfl ?_
              refine Go.iconst C at_260 (q := 261) rfl (v := (0 : Int32)) rfl ?_
              refine Go.iload C at_261 (q := 263) rfl rfl ?_
              refine Go.iconst C at_263 (q := 264) rfl (v := (1 : Int32)) rfl ?_
              refine Go.isub C at_264 (q := 265) rfl ?_
              refine Go.castI (w := (2 : Int32)) (by decide) ?_
              refine Go.callS C (y := yN7) (as := [(.int (0 : Int32)), (.int (2 : Int32))]) (rest := []) (wd hw 70 rfl) (wd hw 71 rfl) (wd hw 72 rfl) (wd hw 73 rfl) (u_Math_max_124 l Z a0 hw _ ) rfl at_265 (q := 268) rfl (by decide) rfl (na := 2) (by decide +kernel) rfl (by decide) (W := 0) rfl (by decide) (by decide) (by decide) (k' := 7) (n' := 268) rfl rfl ?_
              rintro _ _ ⟨rfl, rfl⟩
              show Go _ _ _ _ _ _ _ _ _ _ [(.int (2 : Int32))]
              refine Go.istore C at_268 (q := 270) rfl (Ls' := #[.val (.int fl), .val (.long ka), .second, .val (.long kb), .second, .val (.long kc), .second, .val (.long kd), .second, .val (.ref o1), .val (.int (2 : Int32)), .val (.int (1 : Int32))]) rfl ?_
              refine Go.iload C at_270 (q := 272) rfl rfl ?_
              refine Go.aload C at_272 (q := 274) rfl rfl rfl ?_
              refine Go.callV C (y := yN4) (z := yN4) (a := o1) (as := []) (rest := [(.int (1 : Int32))]) (wd hw 41 rfl) (wd hw 42 rfl) (nf_sel (z := yN4) (wd hw 44 rfl)) (wd hw 44 rfl) (wd hw 43 rfl) (wd hw 45 rfl) (wd hw 2 rfl) (fun _ r => r.exa 0 rfl) (u_SequenceQueue_isEmpty_126 l Z a0 hw _ o1 o7 o6 o5 o4 o3 o2 bx15 bx19 kc ka (0 : Int64) (0 : Int64) (0 : Int64) (0 : Int64) (0 : Int64) kb (0 : Int64) (0 : Int64) (0 : Int64) (0 : Int64) (0 : Int64) hE_bx15 hE_bx19) rfl at_274 (q := 277) rfl (by decide) rfl (na := 0) (by decide +kernel) rfl (by decide) (W := 1) rfl (by decide) (by decide) (by decide) (k' := 7) (n' := 268) rfl rfl ?_
              rintro _ _ ⟨rfl, rfl⟩
              show Go _ _ _ _ _ _ _ _ _ _ [(.int (0 : Int32)), (.int (1 : Int32))]
              refine Go.iload C at_277 (q := 279) rfl rfl ?_
              refine Go.ifYes C at_279 (by decide) (q := 286) rfl (XT.i0_ne_t (by decide)) ?_
              refine Go.iconst C at_286 (q := 287) rfl (v := (0 : Int32)) rfl ?_
              refine Go.icmpNo C at_287 (q := 290) rfl (XT.ii_ne_f (by decide)) ?_
              refine Go.iconst C at_290 (q := 291) rfl (v := (1 : Int32)) rfl ?_
              refine Go.goto C at_291 (by decide) (q := 295) rfl ?_
              refine Go.iand C at_295 (q := 296) rfl ?_
              refine Go.castI (w := (1 : Int32)) (by decide) ?_
              refine Go.istore C at_296 (q := 298) rfl (Ls' := #[.val (.int fl), .val (.long ka), .second, .val (.long kb), .second, .val (.long kc), .second, .val (.long kd), .second, .val (.ref o1), .val (.int (2 : Int32)), .val (.int (1 : Int32))]) rfl ?_
              refine Go.iload C at_298 (q := 300) rfl rfl ?_
              refine Go.retZ C rfl (by decide) at_300 (by decide) (by decide) ?_
              exact rfl
          · refine Go.aload C at_234 (q := 236) rfl rfl rfl ?_
            refine Go.lload C at_236 (q := 238) rfl rfl ?_
            refine Go.iconst C at_238 (q := 239) rfl (v := (3 : Int32)) rfl ?_
            refine Go.callS C (y := yN8) (as := [(.int (3 : Int32))]) (rest := [(.long kd), (.ref o1)]) (wd hw 74 rfl) (wd hw 75 rfl) (wd hw 76 rfl) (wd hw 77 rfl) (m_valueOf3 l Z a0 hw _ cb cs S_high S_cache A_cache H_cache) rfl at_239 (q := 242) rfl (by decide) rfl (na := 1) (by decide +kernel) rfl (by decide) (W := 3) rfl (by decide) (by decide) (by decide) (k' := 7) (n' := 268) rfl rfl ?_
            rintro _ _ ⟨bx25, rfl, rfl, hE_bx25, hF_bx25⟩
            show Go _ _ _ _ _ _ _ _ _ _ [(.ref bx25), (.long kd), (.ref o1)]
            refine Go.callV C (y := yN9) (z := yN9) (a := o1) (as := [(.long kd), (.ref bx25)]) (rest := []) (wd hw 81 rfl) (wd hw 82 rfl) (nf_sel (z := yN9) (wd hw 84 rfl)) (wd hw 84 rfl) (wd hw 83 rfl) (wd hw 85 rfl) (wd hw 2 rfl) (fun _ r => r.exa 0 rfl) (u_SequenceQueue_add_134 l Z a0 hw _ o1 o7 o6 o5 o4 o3 o2 bx25 bx24 bx15 bx19 kd kc ka (0 : Int64) (0 : Int64) (0 : Int64) (0 : Int64) (0 : Int64) kb (0 : Int64) (0 : Int64) (0 : Int64) (0 : Int64) (0 : Int64) hE_bx25 hE_bx24 hE_bx15 hE_bx19) rfl at_242 (q := 245) rfl (by decide) rfl (na := 2) (by decide +kernel) rfl (by decide) (W := 0) rfl (by decide) (by decide) (by decide) (k' := 7) (n' := 268) rfl rfl ?_
            rintro _ _ (⟨rfl, rfl⟩ | ⟨rfl, rfl⟩ | ⟨rfl, rfl⟩)
            · show Go _ _ _ _ _ _ _ _ _ _ []
              refine Go.iload C at_245 (q := 247) rfl rfl ?_
              refine Go.iconst C at_247 (q := 248) rfl (v := (1 : Int32)) rfl ?_
              refine Go.iadd C at_248 (q := 249) rfl ?_
              refine Go.castI (w := (4 : Int32)) (by decide) ?_
              refine Go.istore C at_249 (q := 251) rfl (Ls' := #[.val (.int fl), .val (.long ka), .second, .val (.long kb), .second, .val (.long kc), .second, .val (.long kd), .second, .val (.ref o1), .val (.int (4 : Int32)), .val (.int (1 : Int32))]) rfl ?_
              refine Go.goto C at_251 (by decide) (q := 270) rfl ?_
              refine Go.iload C at_270 (q := 272) rfl rfl ?_
              refine Go.aload C at_272 (q := 274) rfl rfl rfl ?_
              refine Go.pick (M' := ((o1, oQ (.ref o7) (.ref o4) (.int (1 : Int32)) (.long kd) (.ref bx25)) :: (o7, oRun (.ref o6) (.ref o5) (.int (1 : Int32)) (.int (0 : Int32))) :: (o6, .inr (.long, (oK64 (.long ka) (.long (0 : Int64)) (.long (0 : Int64)) (.long (0 : Int64)) (.long (0 : Int64)) (.long (0 : Int64))), true)) :: (o5, .inr (.object "java/lang/Object", (oE64 (.ref bx15) .null .null .null .null .null), true)) :: (o4, oHeap (.ref o3) (.ref o2) (.int (2 : Int32))) :: (o3, .inr (.long, (oK64 (.long kc) (.long kb) (.long (0 : Int64)) (.long (0 : Int64)) (.long (0 : Int64)) (.long (0 : Int64))), true)) :: (o2, .inr (.object "java/lang/Object", (oE64 (.ref bx24) (.ref bx19) .null .null .null .null), true)) :: [])) 7 [6, 3, 4, 5, 0, 1, 2] (by decide) (by decide) rfl ?_
              refine Go.callV C (y := yN4) (z := yN4) (a := o1) (as := []) (rest := [(.int (1 : Int32))]) (wd hw 41 rfl) (wd hw 42 rfl) (nf_sel (z := yN4) (wd hw 44 rfl)) (wd hw 44 rfl) (wd hw 43 rfl) (wd hw 45 rfl) (wd hw 2 rfl) (fun _ r => r.exa 0 rfl) (u_SequenceQueue_isEmpty_136 l Z a0 hw _ o1 o7 o6 o5 o4 o3 o2 bx25 bx15 bx24 bx19 kd ka (0 : Int64) (0 : Int64) (0 : Int64) (0 : Int64) (0 : Int64) kc kb (0 : Int64) (0 : Int64) (0 : Int64) (0 : Int64) hE_bx25 hE_bx15 hE_bx24 hE_bx19) rfl at_274 (q := 277) rfl (by decide) rfl (na := 0) (by decide +kernel) rfl (by decide) (W := 1) rfl (by decide) (by decide) (by decide) (k' := 7) (n' := 268) rfl rfl ?_
              rintro _ _ ⟨rfl, rfl⟩
              show Go _ _ _ _ _ _ _ _ _ _ [(.int (0 : Int32)), (.int (1 : Int32))]
              refine Go.iload C at_277 (q := 279) rfl rfl ?_
              refine Go.ifYes C at_279 (by decide) (q := 286) rfl (XT.i0_ne_t (by decide)) ?_
              refine Go.iconst C at_286 (q := 287) rfl (v := (0 : Int32)) rfl ?_
              refine Go.icmpNo C at_287 (q := 290) rfl (XT.ii_ne_f (by decide)) ?_
              refine Go.iconst C at_290 (q := 291) rfl (v := (1 : Int32)) rfl ?_
              refine Go.goto C at_291 (by decide) (q := 295) rfl ?_
              refine Go.iand C at_295 (q := 296) rfl ?_
              refine Go.castI (w := (1 : Int32)) (by decide) ?_
              refine Go.istore C at_296 (q := 298) rfl (Ls' := #[.val (.int fl), .val (.long ka), .second, .val (.long kb), .second, .val (.long kc), .second, .val (.long kd), .second, .val (.ref o1), .val (.int (4 : Int32)), .val (.int (1 : Int32))]) rfl ?_
              refine Go.iload C at_298 (q := 300) rfl rfl ?_
              refine Go.retZ C rfl (by decide) at_300 (by decide) (by decide) ?_
              exact rfl
            · show Go _ _ _ _ _ _ _ _ _ _ []
              refine Go.iload C at_245 (q := 247) rfl rfl ?_
              refine Go.iconst C at_247 (q := 248) rfl (v := (1 : Int32)) rfl ?_
              refine Go.iadd C at_248 (q := 249) rfl ?_
              refine Go.castI (w := (4 : Int32)) (by decide) ?_
              refine Go.istore C at_249 (q := 251) rfl (Ls' := #[.val (.int fl), .val (.long ka), .second, .val (.long kb), .second, .val (.long kc), .second, .val (.long kd), .second, .val (.ref o1), .val (.int (4 : Int32)), .val (.int (1 : Int32))]) rfl ?_
              refine Go.goto C at_251 (by decide) (q := 270) rfl ?_
              refine Go.iload C at_270 (q := 272) rfl rfl ?_
              refine Go.aload C at_272 (q := 274) rfl rfl rfl ?_
              refine Go.pick (M' := ((o1, oQ (.ref o7) (.ref o4) (.int (1 : Int32)) (.long kd) (.ref bx25)) :: (o7, oRun (.ref o6) (.ref o5) (.int (1 : Int32)) (.int (0 : Int32))) :: (o6, .inr (.long, (oK64 (.long ka) (.long (0 : Int64)) (.long (0 : Int64)) (.long (0 : Int64)) (.long (0 : Int64)) (.long (0 : Int64))), true)) :: (o5, .inr (.object "java/lang/Object", (oE64 (.ref bx15) .null .null .null .null .null), true)) :: (o4, oHeap (.ref o3) (.ref o2) (.int (2 : Int32))) :: (o3, .inr (.long, (oK64 (.long kb) (.long kc) (.long (0 : Int64)) (.long (0 : Int64)) (.long (0 : Int64)) (.long (0 : Int64))), true)) :: (o2, .inr (.object "java/lang/Object", (oE64 (.ref bx19) (.ref bx24) .null .null .null .null), true)) :: [])) 7 [6, 3, 4, 5, 0, 1, 2] (by decide) (by decide) rfl ?_
              refine Go.callV C (y := yN4) (z := yN4) (a := o1) (as := []) (rest := [(.int (1 : Int32))]) (wd hw 41 rfl) (wd hw 42 rfl) (nf_sel (z := yN4) (wd hw 44 rfl)) (wd hw 44 rfl) (wd hw 43 rfl) (wd hw 45 rfl) (wd hw 2 rfl) (fun _ r => r.exa 0 rfl) (u_SequenceQueue_isEmpty_136 l Z a0 hw _ o1 o7 o6 o5 o4 o3 o2 bx25 bx15 bx19 bx24 kd ka (0 : Int64) (0 : Int64) (0 : Int64) (0 : Int64) (0 : Int64) kb kc (0 : Int64) (0 : Int64) (0 : Int64) (0 : Int64) hE_bx25 hE_bx15 hE_bx19 hE_bx24) rfl at_274 (q := 277) rfl (by decide) rfl (na := 0) (by decide +kernel) rfl (by decide) (W := 1) rfl (by decide) (by decide) (by decide) (k' := 7) (n' := 268) rfl rfl ?_
              rintro _ _ ⟨rfl, rfl⟩
              show Go _ _ _ _ _ _ _ _ _ _ [(.int (0 : Int32)), (.int (1 : Int32))]
              refine Go.iload C at_277 (q := 279) rfl rfl ?_
              refine Go.ifYes C at_279 (by decide) (q := 286) rfl (XT.i0_ne_t (by decide)) ?_
              refine Go.iconst C at_286 (q := 287) rfl (v := (0 : Int32)) rfl ?_
              refine Go.icmpNo C at_287 (q := 290) rfl (XT.ii_ne_f (by decide)) ?_
              refine Go.iconst C at_290 (q := 291) rfl (v := (1 : Int32)) rfl ?_
              refine Go.goto C at_291 (by decide) (q := 295) rfl ?_
              refine Go.iand C at_295 (q := 296) rfl ?_
              refine Go.castI (w := (1 : Int32)) (by decide) ?_
              refine Go.istore C at_296 (q := 298) rfl (Ls' := #[.val (.int fl), .val (.long ka), .second, .val (.long kb), .second, .val (.long kc), .second, .val (.long kd), .second, .val (.ref o1), .val (.int (4 : Int32)), .val (.int (1 : Int32))]) rfl ?_
              refine Go.iload C at_298 (q := 300) rfl rfl ?_
              refine Go.retZ C rfl (by decide) at_300 (by decide) (by decide) ?_
              exact rfl
            · show Go _ _ _ _ _ _ _ _ _ _ []
              refine Go.iload C at_245 (q := 247) rfl rfl ?_
              refine Go.iconst C at_247 (q := 248) rfl (v := (1 : Int32)) rfl ?_
              refine Go.iadd C at_248 (q := 249) rfl ?_
              refine Go.castI (w := (4 : Int32)) (by decide) ?_
              refine Go.istore C at_249 (q := 251) rfl (Ls' := #[.val (.int fl), .val (.long ka), .second, .val (.long kb), .second, .val (.long kc), .second, .val (.long kd), .second, .val (.ref o1), .val (.int (4 : Int32)), .val (.int (1 : Int32))]) rfl ?_
              refine Go.goto C at_251 (by decide) (q := 270) rfl ?_
              refine Go.iload C at_270 (q := 272) rfl rfl ?_
              refine Go.aload C at_272 (q := 274) rfl rfl rfl ?_
              refine Go.pick (M' := ((o1, oQ (.ref o7) (.ref o4) (.int (1 : Int32)) (.long kd) (.ref bx25)) :: (o7, oRun (.ref o6) (.ref o5) (.int (2 : Int32)) (.int (0 : Int32))) :: (o6, .inr (.long, (oK64 (.long ka) (.long kc) (.long (0 : Int64)) (.long (0 : Int64)) (.long (0 : Int64)) (.long (0 : Int64))), true)) :: (o5, .inr (.object "java/lang/Object", (oE64 (.ref bx15) (.ref bx24) .null .null .null .null), true)) :: (o4, oHeap (.ref o3) (.ref o2) (.int (1 : Int32))) :: (o3, .inr (.long, (oK64 (.long kb) (.long (0 : Int64)) (.long (0 : Int64)) (.long (0 : Int64)) (.long (0 : Int64)) (.long (0 : Int64))), true)) :: (o2, .inr (.object "java/lang/Object", (oE64 (.ref bx19) .null .null .null .null .null), true)) :: [])) 7 [3, 0, 1, 2, 4, 5, 6] (by decide) (by decide) rfl ?_
              refine Go.callV C (y := yN4) (z := yN4) (a := o1) (as := []) (rest := [(.int (1 : Int32))]) (wd hw 41 rfl) (wd hw 42 rfl) (nf_sel (z := yN4) (wd hw 44 rfl)) (wd hw 44 rfl) (wd hw 43 rfl) (wd hw 45 rfl) (wd hw 2 rfl) (fun _ r => r.exa 0 rfl) (u_SequenceQueue_isEmpty_138 l Z a0 hw _ o1 o7 o6 o5 o4 o3 o2 bx25 bx15 bx24 bx19 kd ka kc (0 : Int64) (0 : Int64) (0 : Int64) (0 : Int64) kb (0 : Int64) (0 : Int64) (0 : Int64) (0 : Int64) (0 : Int64) hE_bx25 hE_bx15 hE_bx24 hE_bx19) rfl at_274 (q := 277) rfl (by decide) rfl (na := 0) (by decide +kernel) rfl (by decide) (W := 1) rfl (by decide) (by decide) (by decide) (k' := 7) (n' := 268) rfl rfl ?_
              rintro _ _ ⟨rfl, rfl⟩
              show Go _ _ _ _ _ _ _ _ _ _ [(.int (0 : Int32)), (.int (1 : Int32))]
              refine Go.iload C at_277 (q := 279) rfl rfl ?_
              refine Go.ifYes C at_279 (by decide) (q := 286) rfl (XT.i0_ne_t (by decide)) ?_
              refine Go.iconst C at_286 (q := 287) rfl (v := (0 : Int32)) rfl ?_
              refine Go.icmpNo C at_287 (q := 290) rfl (XT.ii_ne_f (by decide)) ?_
              refine Go.iconst C at_290 (q := 291) rfl (v := (1 : Int32)) rfl ?_
              refine Go.goto C at_291 (by decide) (q := 295) rfl ?_
              refine Go.iand C at_295 (q := 296) rfl ?_
              refine Go.castI (w := (1 : Int32)) (by decide) ?_
              refine Go.istore C at_296 (q := 298) rfl (Ls' := #[.val (.int fl), .val (.long ka), .second, .val (.long kb), .second, .val (.long kc), .second, .val (.long kd), .second, .val (.ref o1), .val (.int (4 : Int32)), .val (.int (1 : Int32))]) rfl ?_
              refine Go.iload C at_298 (q := 300) rfl rfl ?_
              refine Go.retZ C rfl (by decide) at_300 (by decide) (by decide) ?_
              exact rfl
        · show Go _ _ _ _ _ _ _ _ _ _ []
          refine Go.iload C at_174 (q := 176) rfl rfl ?_
          refine Go.iconst C at_176 (q := 177) rfl (v := (1 : Int32)) rfl ?_
          refine Go.iadd C at_177 (q := 178) rfl ?_
          refine Go.castI (w := (3 : Int32)) (by decide) ?_
          refine Go.istore C at_178 (q := 180) rfl (Ls' := #[.val (.int fl), .val (.long ka), .second, .val (.long kb), .second, .val (.long kc), .second, .val (.long kd), .second, .val (.ref o1), .val (.int (3 : Int32)), .val (.int (1 : Int32))]) rfl ?_
          refine Go.goto C at_180 (by decide) (q := 199) rfl ?_
          refine Go.iload C at_199 (q := 201) rfl rfl ?_
          refine Go.aload C at_201 (q := 203) rfl rfl rfl ?_
          refine Go.pick (M' := ((o1, oQ (.ref o7) (.ref o4) (.int (1 : Int32)) (.long kc) (.ref bx24)) :: (o7, oRun (.ref o6) (.ref o5) (.int (2 : Int32)) (.int (0 : Int32))) :: (o6, .inr (.long, (oK64 (.long ka) (.long kb) (.long (0 : Int64)) (.long (0 : Int64)) (.long (0 : Int64)) (.long (0 : Int64))), true)) :: (o5, .inr (.object "java/lang/Object", (oE64 (.ref bx15) (.ref bx19) .null .null .null .null), true)) :: (o4, oHeap (.ref o3) (.ref o2) (.int (0 : Int32))) :: (o3, .inr (.long, (oK64 (.long (0 : Int64)) (.long (0 : Int64)) (.long (0 : Int64)) (.long (0 : Int64)) (.long (0 : Int64)) (.long (0 : Int64))), true)) :: (o2, .inr (.object "java/lang/Object", (oE64 .null .null .null .null .null .null), true)) :: [])) 7 [3, 0, 1, 2, 4, 5, 6] (by decide) (by decide) rfl ?_
          refine Go.callV C (y := yN4) (z := yN4) (a := o1) (as := []) (rest := [(.int (1 : Int32))]) (wd hw 41 rfl) (wd hw 42 rfl) (nf_sel (z := yN4) (wd hw 44 rfl)) (wd hw 44 rfl) (wd hw 43 rfl) (wd hw 45 rfl) (wd hw 2 rfl) (fun _ r => r.exa 0 rfl) (u_SequenceQueue_isEmpty_84 l Z a0 hw _ o1 o7 o6 o5 o4 o3 o2 bx24 bx15 bx19 kc ka kb (0 : Int64) (0 : Int64) (0 : Int64) (0 : Int64) (0 : Int64) (0 : Int64) (0 : Int64) (0 : Int64) (0 : Int64) (0 : Int64) hE_bx24 hE_bx15 hE_bx19) rfl at_203 (q := 206) rfl (by decide) rfl (na := 0) (by decide +kernel) rfl (by decide) (W := 1) rfl (by decide) (by decide) (by decide) (k' := 7) (n' := 268) rfl rfl ?_
          rintro _ _ ⟨rfl, rfl⟩
          show Go _ _ _ _ _ _ _ _ _ _ [(.int (0 : Int32)), (.int (1 : Int32))]
          refine Go.iload C at_206 (q := 208) rfl rfl ?_
          refine Go.ifYes C at_208 (by decide) (q := 215) rfl (XT.i0_ne_t (by decide)) ?_
          refine Go.iconst C at_215 (q := 216) rfl (v := (0 : Int32)) rfl ?_
          refine Go.icmpNo C at_216 (q := 219) rfl (XT.ii_ne_f (by decide)) ?_
          refine Go.iconst C at_219 (q := 220) rfl (v := (1 : Int32)) rfl ?_
          refine Go.goto C at_220 (by decide) (q := 224) rfl ?_
          refine Go.iand C at_224 (q := 225) rfl ?_
          refine Go.castI (w := (1 : Int32)) (by decide) ?_
          refine Go.istore C at_225 (q := 227) rfl (Ls' := #[.val (.int fl), .val (.long ka), .second, .val (.long kb), .second, .val (.long kc), .second, .val (.long kd), .second, .val (.ref o1), .val (.int (3 : Int32)), .val (.int (1 : Int32))]) rfl ?_
          refine Go.iloadN C at_227 (q := 228) rfl rfl ?_
          refine Go.bipush C at_228 (q := 230) rfl (v := (8 : Int32)) (by decide) ?_
          refine Go.iand C at_230 (q := 231) rfl ?_
          refine Go.ifc C at_231 (by decide) (q := 254) rfl (q' := 234) rfl (fun (h231_19 : (fl &&& (8 : Int32)) = 0) => ?_) (fun (h231_19 : ¬ (fl &&& (8 : Int32)) = 0) => ?_)
          · refine Go.aload C at_254 (q := 256) rfl rfl rfl ?_
            refine Go.callV C (y := yN6) (z := yN6) (a := o1) (as := []) (rest := []) (wd hw 54 rfl) (wd hw 55 rfl) (nf_sel (z := yN6) (wd hw 57 rfl)) (wd hw 57 rfl) (wd hw 56 rfl) (wd hw 58 rfl) (wd hw 2 rfl) (fun _ r => r.exa 0 rfl) (u_SequenceQueue_poll_140 l Z a0 hw _ o1 o7 o6 o5 o4 o3 o2 bx24 bx15 bx19 kc ka kb (0 : Int64) (0 : Int64) (0 : Int64) (0 : Int64) (0 : Int64) (0 : Int64) (0 : Int64) (0 : Int64) (0 : Int64) (0 : Int64) hE_bx24 hE_bx15 hE_bx19) rfl at_256 (q := 259) rfl (by decide) rfl (na := 0) (by decide +kernel) rfl (by decide) (W := 0) rfl (by decide) (by decide) (by decide) (k' := 7) (n' := 268) rfl rfl ?_
            rintro _ _ (⟨rfl, rfl⟩ | ⟨rfl, rfl⟩ | ⟨rfl, rfl⟩ | ⟨rfl, rfl⟩)
            · show Go _ _ _ _ _ _ _ _ _ _ [(.ref bx24)]
              refine Go.pop C at_259 (q := 260) rfl rfl ?_
              refine Go.iconst C at_260 (q := 261) rfl (v := (0 : Int32)) rfl ?_
              refine Go.iload C at_261 (q := 263) rfl rfl ?_
              refine Go.iconst C at_263 (q := 264) rfl (v := (1 : Int32)) rfl ?_
              refine Go.isub C at_264 (q := 265) rfl ?_
              refine Go.castI (w := (2 : Int32)) (by decide) ?_
              refine Go.callS C (y := yN7) (as := [(.int (0 : Int32)), (.int (2 : Int32))]) (rest := []) (wd hw 70 rfl) (wd hw 71 rfl) (wd hw 72 rfl) (wd hw 73 rfl) (u_Math_max_124 l Z a0 hw _ ) rfl at_265 (q := 268) rfl (by decide) rfl (na := 2) (by decide +kernel) rfl (by decide) (W := 0) rfl (by decide) (by decide) (by decide) (k' := 7) (n' := 268) rfl rfl ?_
              rintro _ _ ⟨rfl, rfl⟩
              show Go _ _ _ _ _ _ _ _ _ _ [(.int (2 : Int32))]
              refine Go.istore C at_268 (q := 270) rfl (Ls' := #[.val (.int fl), .val (.long ka), .second, .val (.long kb), .second, .val (.long kc), .second, .val (.long kd), .second, .val (.ref o1), .val (.int (2 : Int32)), .val (.int (1 : Int32))]) rfl ?_
              refine Go.iload C at_270 (q := 272) rfl rfl ?_
              refine Go.aload C at_272 (q := 274) rfl rfl rfl ?_
              refine Go.pick (M' := ((o1, oQ (.ref o7) (.ref o4) (.int (0 : Int32)) (.long kc) .null) :: (o7, oRun (.ref o6) (.ref o5) (.int (2 : Int32)) (.int (0 : Int32))) :: (o6, .inr (.long, (oK64 (.long ka) (.long kb) (.long (0 : Int64)) (.long (0 : Int64)) (.long (0 : Int64)) (.long (0 : Int64))), true)) :: (o5, .inr (.object "java/lang/Object", (oE64 (.ref bx15) (.ref bx19) .null .null .null .null), true)) :: (o4, oHeap (.ref o3) (.ref o2) (.int (0 : Int32))) :: (o3, .inr (.long, (oK64 (.long kc) (.long (0 : Int64)) (.long (0 : Int64)) (.long (0 : Int64)) (.long (0 : Int64)) (.long (0 : Int64))), true)) :: (o2, .inr (.object "java/lang/Object", (oE64 .null .null .null .null .null .null), true)) :: [])) 7 [6, 3, 4, 5, 0, 1, 2] (by decide) (by decide) rfl ?_
              refine Go.callV C (y := yN4) (z := yN4) (a := o1) (as := []) (rest := [(.int (1 : Int32))]) (wd hw 41 rfl) (wd hw 42 rfl) (nf_sel (z := yN4) (wd hw 44 rfl)) (wd hw 44 rfl) (wd hw 43 rfl) (wd hw 45 rfl) (wd hw 2 rfl) (fun _ r => r.exa 0 rfl) (u_SequenceQueue_isEmpty_130 l Z a0 hw _ o1 o7 o6 o5 o4 o3 o2 bx15 bx19 kc ka kb (0 : Int64) (0 : Int64) (0 : Int64) (0 : Int64) kc (0 : Int64) (0 : Int64) (0 : Int64) (0 : Int64) (0 : Int64) hE_bx15 hE_bx19) rfl at_274 (q := 277) rfl (by decide) rfl (na := 0) (by decide +kernel) rfl (by decide) (W := 1) rfl (by decide) (by decide) (by decide) (k' := 7) (n' := 268) rfl rfl ?_
              rintro _ _ ⟨rfl, rfl⟩
              show Go _ _ _ _ _ _ _ _ _ _ [(.int (0 : Int32)), (.int (1 : Int32))]
              refine Go.iload C at_277 (q := 279) rfl rfl ?_
              refine Go.ifYes C at_279 (by decide) (q := 286) rfl (XT.i0_ne_t (by decide)) ?_
              refine Go.iconst C at_286 (q := 287) rfl (v := (0 : Int32)) rfl ?_
              refine Go.icmpNo C at_287 (q := 290) rfl (XT.ii_ne_f (by decide)) ?_
              refine Go.iconst C at_290 (q := 291) rfl (v := (1 : Int32)) rfl ?_
              refine Go.goto C at_291 (by decide) (q := 295) rfl ?_
              refine Go.iand C at_295 (q := 296) rfl ?_
              refine Go.castI (w := (1 : Int32)) (by decide) ?_
              refine Go.istore C at_296 (q := 298) rfl (Ls' := #[.val (.int fl), .val (.long ka), .second, .val (.long kb), .second, .val (.long kc), .second, .val (.long kd), .second, .val (.ref o1), .val (.int (2 : Int32)), .val (.int (1 : Int32))]) rfl ?_
              refine Go.iload C at_298 (q := 300) rfl rfl ?_
              refine Go.retZ C rfl (by decide) at_300 (by decide) (by decide) ?_
              exact rfl
            · show Go _ _ _ _ _ _ _ _ _ _ [(.ref bx15)]
              refine Go.pop C at_259 (q := 260) rfl rfl ?_
              refine Go.iconst C at_260 (q := 261) rfl (v := (0 : Int32)) rfl ?_
              refine Go.iload C at_261 (q := 263) rfl rfl ?_
              refine Go.iconst C at_263 (q := 264) rfl (v := (1 : Int32)) rfl ?_
              refine Go.isub C at_264 (q := 265) rfl ?_
              refine Go.castI (w := (2 : Int32)) (by decide) ?_
              refine Go.callS C (y := yN7) (as := [(.int (0 : Int32)), (.int (2 : Int32))]) (rest := []) (wd hw 70 rfl) (wd hw 71 rfl) (wd hw 72 rfl) (wd hw 73 rfl) (u_Math_max_124 l Z a0 hw _ ) rfl at_265 (q := 268) rfl (by decide) rfl (na := 2) (by decide +kernel) rfl (by decide) (W := 0) rfl (by decide) (by decide) (by decide) (k' := 7) (n' := 268) rfl rfl ?_
              rintro _ _ ⟨rfl, rfl⟩
              show Go _ _ _ _ _ _ _ _ _ _ [(.int (2 : Int32))]
              refine Go.istore C at_268 (q := 270) rfl (Ls' := #[.val (.int fl), .val (.long ka), .second, .val (.long kb), .second, .val (.long kc), .second, .val (.long kd), .second, .val (.ref o1), .val (.int (2 : Int32)), .val (.int (1 : Int32))]) rfl ?_
              refine Go.iload C at_270 (q := 272) rfl rfl ?_
              refine Go.aload C at_272 (q := 274) rfl rfl rfl ?_
              refine Go.pick (M' := ((o1, oQ (.ref o7) (.ref o4) (.int (0 : Int32)) (.long kc) .null) :: (o7, oRun (.ref o6) (.ref o5) (.int (1 : Int32)) (.int (1 : Int32))) :: (o6, .inr (.long, (oK64 (.long ka) (.long kb) (.long (0 : Int64)) (.long (0 : Int64)) (.long (0 : Int64)) (.long (0 : Int64))), true)) :: (o5, .inr (.object "java/lang/Object", (oE64 .null (.ref bx19) .null .null .null .null), true)) :: (o4, oHeap (.ref o3) (.ref o2) (.int (1 : Int32))) :: (o3, .inr (.long, (oK64 (.long kc) (.long (0 : Int64)) (.long (0 : Int64)) (.long (0 : Int64)) (.long (0 : Int64)) (.long (0 : Int64))), true)) :: (o2, .inr (.object "java/lang/Object", (oE64 (.ref bx24) .null .null .null .null .null), true)) :: [])) 7 [6, 0, 1, 2, 3, 4, 5] (by decide) (by decide) rfl ?_
              refine Go.callV C (y := yN4) (z := yN4) (a := o1) (as := []) (rest := [(.int (1 : Int32))]) (wd hw 41 rfl) (wd hw 42 rfl) (nf_sel (z := yN4) (wd hw 44 rfl)) (wd hw 44 rfl) (wd hw 43 rfl) (wd hw 45 rfl) (wd hw 2 rfl) (fun _ r => r.exa 0 rfl) (u_SequenceQueue_isEmpty_132 l Z a0 hw _ o1 o7 o6 o5 o4 o3 o2 bx19 bx24 kc ka kb (0 : Int64) (0 : Int64) (0 : Int64) (0 : Int64) kc (0 : Int64) (0 : Int64) (0 : Int64) (0 : Int64) (0 : Int64) hE_bx19 hE_bx24) rfl at_274 (q := 277) rfl (by decide) rfl (na := 0) (by decide +kernel) rfl (by decide) (W := 1) rfl (by decide) (by decide) (by decide) (k' := 7) (n' := 268) rfl rfl ?_
              rintro _ _ ⟨rfl, rfl⟩
              show Go _ _ _ _ _ _ _ _ _ _ [(.int (0 : Int32)), (.int (1 : Int32))]
              refine Go.iload C at_277 (q := 279) rfl rfl ?_
              refine Go.ifYes C at_279 (by decide) (q := 286) rfl (XT.i0_ne_t (by decide)) ?_
              refine Go.iconst C at_286 (q := 287) rfl (v := (0 : Int32)) rfl ?_
              refine Go.icmpNo C at_287 (q := 290) rfl (XT.ii_ne_f (by decide)) ?_
              refine Go.iconst C at_290 (q := 291) rfl (v := (1 : Int32)) rfl ?_
              refine Go.goto C at_291 (by decide) (q := 295) rfl ?_
              refine Go.iand C at_295 (q := 296) rfl ?_
              refine Go.castI (w := (1 : Int32)) (by decide) ?_
              refine Go.istore C at_296 (q := 298) rfl (Ls' := #[.val (.int fl), .val (.long ka), .second, .val (.long kb), .second, .val (.long kc), .second, .val (.long kd), .second, .val (.ref o1), .val (.int (2 : Int32)), .val (.int (1 : Int32))]) rfl ?_
              refine Go.iload C at_298 (q := 300) rfl rfl ?_
              refine Go.retZ C rfl (by decide) at_300 (by decide) (by decide) ?_
              exact rfl
            · show Go _ _ _ _ _ _ _ _ _ _ [(.ref bx15)]
              refine Go.pop C at_259 (q := 260) rfl rfl ?_
              refine Go.iconst C at_260 (q := 261) rfl (v := (0 : Int32)) rfl ?_
              refine Go.iload C at_261 (q := 263) rfl rfl ?_
              refine Go.iconst C at_263 (q := 264) rfl (v := (1 : Int32)) rfl ?_
              refine Go.isub C at_264 (q := 265) rfl ?_
              refine Go.castI (w := (2 : Int32)) (by decide) ?_
              refine Go.callS C (y := yN7) (as := [(.int (0 : Int32)), (.int (2 : Int32))]) (rest := []) (wd hw 70 rfl) (wd hw 71 rfl) (wd hw 72 rfl) (wd hw 73 rfl) (u_Math_max_124 l Z a0 hw _ ) rfl at_265 (q := 268) rfl (by decide) rfl (na := 2) (by decide +kernel) rfl (by decide) (W := 0) rfl (by decide) (by decide) (by decide) (k' := 7) (n' := 268) rfl rfl ?_
              rintro _ _ ⟨rfl, rfl⟩
              show Go _ _ _ _ _ _ _ _ _ _ [(.int (2 : Int32))]
              refine Go.istore C at_268 (q := 270) rfl (Ls' := #[.val (.int fl), .val (.long ka), .second, .val (.long kb), .second, .val (.long kc), .second, .val (.long kd), .second, .val (.ref o1), .val (.int (2 : Int32)), .val (.int (1 : Int32))]) rfl ?_
              refine Go.iload C at_270 (q := 272) rfl rfl ?_
              refine Go.aload C at_272 (q := 274) rfl rfl rfl ?_
              refine Go.pick (M' := ((o1, oQ (.ref o7) (.ref o4) (.int (0 : Int32)) (.long kc) .null) :: (o7, oRun (.ref o6) (.ref o5) (.int (2 : Int32)) (.int (1 : Int32))) :: (o6, .inr (.long, (oK64 (.long ka) (.long kb) (.long kc) (.long (0 : Int64)) (.long (0 : Int64)) (.long (0 : Int64))), true)) :: (o5, .inr (.object "java/lang/Object", (oE64 .null (.ref bx19) (.ref bx24) .null .null .null), true)) :: (o4, oHeap (.ref o3) (.ref o2) (.int (0 : Int32))) :: (o3, .inr (.long, (oK64 (.long (0 : Int64)) (.long (0 : Int64)) (.long (0 : Int64)) (.long (0 : Int64)) (.long (0 : Int64)) (.long (0 : Int64))), true)) :: (o2, .inr (.object "java/lang/Object", (oE64 .null .null .null .null .null .null), true)) :: [])) 7 [3, 0, 1, 2, 4, 5, 6] (by decide) (by decide) rfl ?_
              refine Go.callV C (y := yN4) (z := yN4) (a := o1) (as := []) (rest := [(.int (1 : Int32))]) (wd hw 41 rfl) (wd hw 42 rfl) (nf_sel (z := yN4) (wd hw 44 rfl)) (wd hw 44 rfl) (wd hw 43 rfl) (wd hw 45 rfl) (wd hw 2 rfl) (fun _ r => r.exa 0 rfl) (u_SequenceQueue_isEmpty_160 l Z a0 hw _ o1 o7 o6 o5 o4 o3 o2 bx19 bx24 kc ka kb kc (0 : Int64) (0 : Int64) (0 : Int64) (0 : Int64) (0 : Int64) (0 : Int64) (0 : Int64) (0 : Int64) (0 : Int64) hE_bx19 hE_bx24) rfl at_274 (q := 277) rfl (by decide) rfl (na := 0) (by decide +kernel) rfl (by decide) (W := 1) rfl (by decide) (by decide) (by decide) (k' := 7) (n' := 268) rfl rfl ?_
              rintro _ _ ⟨rfl, rfl⟩
              show Go _ _ _ _ _ _ _ _ _ _ [(.int (0 : Int32)), (.int (1 : Int32))]
              refine Go.iload C at_277 (q := 279) rfl rfl ?_
              refine Go.ifYes C at_279 (by decide) (q := 286) rfl (XT.i0_ne_t (by decide)) ?_
              refine Go.iconst C at_286 (q := 287) rfl (v := (0 : Int32)) rfl ?_
              refine Go.icmpNo C at_287 (q := 290) rfl (XT.ii_ne_f (by decide)) ?_
              refine Go.iconst C at_290 (q := 291) rfl (v := (1 : Int32)) rfl ?_
              refine Go.goto C at_291 (by decide) (q := 295) rfl ?_
              refine Go.iand C at_295 (q := 296) rfl ?_
              refine Go.castI (w := (1 : Int32)) (by decide) ?_
              refine Go.istore C at_296 (q := 298) rfl (Ls' := #[.val (.int fl), .val (.long ka), .second, .val (.long kb), .second, .val (.long kc), .second, .val (.long kd), .second, .val (.ref o1), .val (.int (2 : Int32)), .val (.int (1 : Int32))]) rfl ?_
              refine Go.iload C at_298 (q := 300) rfl rfl ?_
              refine Go.retZ C rfl (by decide) at_300 (by decide) (by decide) ?_
              exact rfl
            · show Go _ _ _ _ _ _ _ _ _ _ [(.ref bx24)]
              refine Go.pop C at_259 (q := 260) rfl rfl ?_
              refine Go.iconst C at_260 (q := 261) rfl (v := (0 : Int32)) rfl ?_
              refine Go.iload C at_261 (q := 263) rfl rfl ?_
              refine Go.iconst C at_263 (q := 264) rfl (v := (1 : Int32)) rfl ?_
              refine Go.isub C at_264 (q := 265) rfl ?_
              refine Go.castI (w := (2 : Int32)) (by decide) ?_
              refine Go.callS C (y := yN7) (as := [(.int (0 : Int32)), (.int (2 : Int32))]) (rest := []) (wd hw 70 rfl) (wd hw 71 rfl) (wd hw 72 rfl) (wd hw 73 rfl) (u_Math_max_124 l Z a0 hw _ ) rfl at_265 (q := 268) rfl (by decide) rfl (na := 2) (by decide +kernel) rfl (by decide) (W := 0) rfl (by decide) (by decide) (by decide) (k' := 7) (n' := 268) rfl rfl ?_
              rintro _ _ ⟨rfl, rfl⟩
              show Go _ _ _ _ _ _ _ _ _ _ [(.int (2 : Int32))]
              refine Go.istore C at_268 (q := 270) rfl (Ls' := #[.val (.int fl), .val (.long ka), .second, .val (.long kb), .second, .val (.long kc), .second, .val (.long kd), .second, .val (.ref o1), .val (.int (2 : Int32)), .val (.int (1 : Int32))]) rfl ?_
              refine Go.iload C at_270 (q := 272) rfl rfl ?_
              refine Go.aload C at_272 (q := 274) rfl rfl rfl ?_
              refine Go.callV C (y := yN4) (z := yN4) (a := o1) (as := []) (rest := [(.int (1 : Int32))]) (wd hw 41 rfl) (wd hw 42 rfl) (nf_sel (z := yN4) (wd hw 44 rfl)) (wd hw 44 rfl) (wd hw 43 rfl) (wd hw 45 rfl) (wd hw 2 rfl) (fun _ r => r.exa 0 rfl) (u_SequenceQueue_isEmpty_130 l Z a0 hw _ o1 o7 o6 o5 o4 o3 o2 bx15 bx19 kc ka kb (0 : Int64) (0 : Int64) (0 : Int64) (0 : Int64) (0 : Int64) (0 : Int64) (0 : Int64) (0 : Int64) (0 : Int64) (0 : Int64) hE_bx15 hE_bx19) rfl at_274 (q := 277) rfl (by decide) rfl (na := 0) (by decide +kernel) rfl (by decide) (W := 1) rfl (by decide) (by decide) (by decide) (k' := 7) (n' := 268) rfl rfl ?_
              rintro _ _ ⟨rfl, rfl⟩
              show Go _ _ _ _ _ _ _ _ _ _ [(.int (0 : Int32)), (.int (1 : Int32))]
              refine Go.iload C at_277 (q := 279) rfl rfl ?_
              refine Go.ifYes C at_279 (by decide) (q := 286) rfl (XT.i0_ne_t (by decide)) ?_
              refine Go.iconst C at_286 (q := 287) rfl (v := (0 : Int32)) rfl ?_
              refine Go.icmpNo C at_287 (q := 290) rfl (XT.ii_ne_f (by decide)) ?_
              refine Go.iconst C at_290 (q := 291) rfl (v := (1 : Int32)) rfl ?_
              refine Go.goto C at_291 (by decide) (q := 295) rfl ?_
              refine Go.iand C at_295 (q := 296) rfl ?_
              refine Go.castI (w := (1 : Int32)) (by decide) ?_
              refine Go.istore C at_296 (q := 298) rfl (Ls' := #[.val (.int fl), .val (.long ka), .second, .val (.long kb), .second, .val (.long kc), .second, .val (.long kd), .second, .val (.ref o1), .val (.int (2 : Int32)), .val (.int (1 : Int32))]) rfl ?_
              refine Go.iload C at_298 (q := 300) rfl rfl ?_
              refine Go.retZ C rfl (by decide) at_300 (by decide) (by decide) ?_
              exact rfl
          · refine Go.aload C at_234 (q := 236) rfl rfl rfl ?_
            refine Go.lload C at_236 (q := 238) rfl rfl ?_
            refine Go.iconst C at_238 (q := 239) rfl (v := (3 : Int32)) rfl ?_
            refine Go.callS C (y := yN8) (as := [(.int (3 : Int32))]) (rest := [(.long kd), (.ref o1)]) (wd hw 74 rfl) (wd hw 75 rfl) (wd hw 76 rfl) (wd hw 77 rfl) (m_valueOf3 l Z a0 hw _ cb cs S_high S_cache A_cache H_cache) rfl at_239 (q := 242) rfl (by decide) rfl (na := 1) (by decide +kernel) rfl (by decide) (W := 3) rfl (by decide) (by decide) (by decide) (k' := 7) (n' := 268) rfl rfl ?_
            rintro _ _ ⟨bx26, rfl, rfl, hE_bx26, hF_bx26⟩
            show Go _ _ _ _ _ _ _ _ _ _ [(.ref bx26), (.long kd), (.ref o1)]
            refine Go.callV C (y := yN9) (z := yN9) (a := o1) (as := [(.long kd), (.ref bx26)]) (rest := []) (wd hw 81 rfl) (wd hw 82 rfl) (nf_sel (z := yN9) (wd hw 84 rfl)) (wd hw 84 rfl) (wd hw 83 rfl) (wd hw 85 rfl) (wd hw 2 rfl) (fun _ r => r.exa 0 rfl) (u_SequenceQueue_add_162 l Z a0 hw _ o1 o7 o6 o5 o4 o3 o2 bx26 bx24 bx15 bx19 kd kc ka kb (0 : Int64) (0 : Int64) (0 : Int64) (0 : Int64) (0 : Int64) (0 : Int64) (0 : Int64) (0 : Int64) (0 : Int64) (0 : Int64) hE_bx26 hE_bx24 hE_bx15 hE_bx19) rfl at_242 (q := 245) rfl (by decide) rfl (na := 2) (by decide +kernel) rfl (by decide) (W := 0) rfl (by decide) (by decide) (by decide) (k' := 7) (n' := 268) rfl rfl ?_
            rintro _ _ (⟨rfl, rfl⟩ | ⟨rfl, rfl⟩)
            · show Go _ _ _ _ _ _ _ _ _ _ []
              refine Go.iload C at_245 (q := 247) rfl rfl ?_
              refine Go.iconst C at_247 (q := 248) rfl (v := (1 : Int32)) rfl ?_
              refine Go.iadd C at_248 (q := 249) rfl ?_
              refine Go.castI (w := (4 : Int32)) (by decide) ?_
              refine Go.istore C at_249 (q := 251) rfl (Ls' := #[.val (.int fl), .val (.long ka), .second, .val (.long kb), .second, .val (.long kc), .second, .val (.long kd), .second, .val (.ref o1), .val (.int (4 : Int32)), .val (.int (1 : Int32))]) rfl ?_
              refine Go.goto C at_251 (by decide) (q := 270) rfl ?_
              refine Go.iload C at_270 (q := 272) rfl rfl ?_
              refine Go.aload C at_272 (q := 274) rfl rfl rfl ?_
              refine Go.pick (M' := ((o1, oQ (.ref o7) (.ref o4) (.int (1 : Int32)) (.long kd) (.ref bx26)) :: (o7, oRun (.ref o6) (.ref o5) (.int (2 : Int32)) (.int (0 : Int32))) :: (o6, .inr (.long, (oK64 (.long ka) (.long kb) (.long (0 : Int64)) (.long (0 : Int64)) (.long (0 : Int64)) (.long (0 : Int64))), true)) :: (o5, .inr (.object "java/lang/Object", (oE64 (.ref bx15) (.ref bx19) .null .null .null .null), true)) :: (o4, oHeap (.ref o3) (.ref o2) (.int (1 : Int32))) :: (o3, .inr (.long, (oK64 (.long kc) (.long (0 : Int64)) (.long (0 : Int64)) (.long (0 : Int64)) (.long (0 : Int64)) (.long (0 : Int64))), true)) :: (o2, .inr (.object "java/lang/Object", (oE64 (.ref bx24) .null .null .null .null .null), true)) :: [])) 7 [6, 3, 4, 5, 0, 1, 2] (by decide) (by decide) rfl ?_
              refine Go.callV C (y := yN4) (z := yN4) (a := o1) (as := []) (rest := [(.int (1 : Int32))]) (wd hw 41 rfl) (wd hw 42 rfl) (nf_sel (z := yN4) (wd hw 44 rfl)) (wd hw 44 rfl) (wd hw 43 rfl) (wd hw 45 rfl) (wd hw 2 rfl) (fun _ r => r.exa 0 rfl) (u_SequenceQueue_isEmpty_138 l Z a0 hw _ o1 o7 o6 o5 o4 o3 o2 bx26 bx15 bx19 bx24 kd ka kb (0 : Int64) (0 : Int64) (0 : Int64) (0 : Int64) kc (0 : Int64) (0 : Int64) (0 : Int64) (0 : Int64) (0 : Int64) hE_bx26 hE_bx15 hE_bx19 hE_bx24) rfl at_274 (q := 277) rfl (by decide) rfl (na := 0) (by decide +kernel) rfl (by decide) (W := 1) rfl (by decide) (by decide) (by decide) (k' := 7) (n' := 268) rfl rfl ?_
              rintro _ _ ⟨rfl, rfl⟩
              show Go _ _ _ _ _ _ _ _ _ _ [(.int (0 : Int32)), (.int (1 : Int32))]
              refine Go.iload C at_277 (q := 279) rfl rfl ?_
              refine Go.ifYes C at_279 (by decide) (q := 286) rfl (XT.i0_ne_t (by decide)) ?_
              refine Go.iconst C at_286 (q := 287) rfl (v := (0 : Int32)) rfl ?_
              refine Go.icmpNo C at_287 (q := 290) rfl (XT.ii_ne_f (by decide)) ?_
              refine Go.iconst C at_290 (q := 291) rfl (v := (1 : Int32)) rfl ?_
              refine Go.goto C at_291 (by decide) (q := 295) rfl ?_
              refine Go.iand C at_295 (q := 296) rfl ?_
              refine Go.castI (w := (1 : Int32)) (by decide) ?_
              refine Go.istore C at_296 (q := 298) rfl (Ls' := #[.val (.int fl), .val (.long ka), .second, .val (.long kb), .second, .val (.long kc), .second, .val (.long kd), .second, .val (.ref o1), .val (.int (4 : Int32)), .val (.int (1 : Int32))]) rfl ?_
              refine Go.iload C at_298 (q := 300) rfl rfl ?_
              refine Go.retZ C rfl (by decide) at_300 (by decide) (by decide) ?_
              exact rfl
            · show Go _ _ _ _ _ _ _ _ _ _ []
              refine Go.iload C at_245 (q := 247) rfl rfl ?_
              refine Go.iconst C at_247 (q := 248) rfl (v := (1 : Int32)) rfl ?_
              refine Go.iadd C at_248 (q := 249) rfl ?_
              refine Go.castI (w := (4 : Int32)) (by decide) ?_
              refine Go.istore C at_249 (q := 251) rfl (Ls' := #[.val (.int fl), .val (.long ka), .second, .val (.long kb), .second, .val (.long kc), .second, .val (.long kd), .second, .val (.ref o1), .val (.int (4 : Int32)), .val (.int (1 : Int32))]) rfl ?_
              refine Go.goto C at_251 (by decide) (q := 270) rfl ?_
              refine Go.iload C at_270 (q := 272) rfl rfl ?_
              refine Go.aload C at_272 (q := 274) rfl rfl rfl ?_
              refine Go.pick (M' := ((o1, oQ (.ref o7) (.ref o4) (.int (1 : Int32)) (.long kd) (.ref bx26)) :: (o7, oRun (.ref o6) (.ref o5) (.int (3 : Int32)) (.int (0 : Int32))) :: (o6, .inr (.long, (oK64 (.long ka) (.long kb) (.long kc) (.long (0 : Int64)) (.long (0 : Int64)) (.long (0 : Int64))), true)) :: (o5, .inr (.object "java/lang/Object", (oE64 (.ref bx15) (.ref bx19) (.ref bx24) .null .null .null), true)) :: (o4, oHeap (.ref o3) (.ref o2) (.int (0 : Int32))) :: (o3, .inr (.long, (oK64 (.long (0 : Int64)) (.long (0 : Int64)) (.long (0 : Int64)) (.long (0 : Int64)) (.long (0 : Int64)) (.long (0 : Int64))), true)) :: (o2, .inr (.object "java/lang/Object", (oE64 .null .null .null .null .null .null), true)) :: [])) 7 [3, 0, 1, 2, 4, 5, 6] (by decide) (by decide) rfl ?_
              refine Go.callV C (y := yN4) (z := yN4) (a := o1) (as := []) (rest := [(.int (1 : Int32))]) (wd hw 41 rfl) (wd hw 42 rfl) (nf_sel (z := yN4) (wd hw 44 rfl)) (wd hw 44 rfl) (wd hw 43 rfl) (wd hw 45 rfl) (wd hw 2 rfl) (fun _ r => r.exa 0 rfl) (u_SequenceQueue_isEmpty_164 l Z a0 hw _ o1 o7 o6 o5 o4 o3 o2 bx26 bx15 bx19 bx24 kd ka kb kc (0 : Int64) (0 : Int64) (0 : Int64) (0 : Int64) (0 : Int64) (0 : Int64) (0 : Int64) (0 : Int64) (0 : Int64) hE_bx26 hE_bx15 hE_bx19 hE_bx24) rfl at_274 (q := 277) rfl (by decide) rfl (na := 0) (by decide +kernel) rfl (by decide) (W := 1) rfl (by decide) (by decide) (by decide) (k' := 7) (n' := 268) rfl rfl ?_
              rintro _ _ ⟨rfl, rfl⟩
              show Go _ _ _ _ _ _ _ _ _ _ [(.int (0 : Int32)), (.int (1 : Int32))]
              refine Go.iload C at_277 (q := 279) rfl rfl ?_
              refine Go.ifYes C at_279 (by decide) (q := 286) rfl (XT.i0_ne_t (by decide)) ?_
              refine Go.iconst C at_286 (q := 287) rfl (v := (0 : Int32)) rfl ?_
              refine Go.icmpNo C at_287 (q := 290) rfl (XT.ii_ne_f (by decide)) ?_
              refine Go.iconst C at_290 (q := 291) rfl (v := (1 : Int32)) rfl ?_
              refine Go.goto C at_291 (by decide) (q := 295) rfl ?_
              refine Go.iand C at_295 (q := 296) rfl ?_
              refine Go.castI (w := (1 : Int32)) (by decide) ?_
              refine Go.istore C at_296 (q := 298) rfl (Ls' := #[.val (.int fl), .val (.long ka), .second, .val (.long kb), .second, .val (.long kc), .second, .val (.long kd), .second, .val (.ref o1), .val (.int (4 : Int32)), .val (.int (1 : Int32))]) rfl ?_
              refine Go.iload C at_298 (q := 300) rfl rfl ?_
              refine Go.retZ C rfl (by decide) at_300 (by decide) (by decide) ?_
              exact rfl
set_option maxRecDepth 65536 in
set_option maxHeartbeats 40000000 in
theorem comes_1 {Post : Tables → Env → Array Value → State → Outcome → State → Prop} (hpost : ∀ tb e args s v u, (limb_1_1.after args s (.returned v) u = true ∧ limb_1_2.after args s (.returned v) u = true ∧ True) → FrameEnd s (.returned v) u (Jvm.fieldLocs frame_1_writes args s ++ Jvm.arrayLocs frame_1_arrays args s ++ Jvm.staticLocs frame_1_statics s) 24 640 → Post tb e args s (.returned v) u) :
    ArmFor flags0 classFile x code maxLocals ret World_1 tables_1 room_1 Calls_1 rest_1 Pre_1 Post := by
  intro l hfl _ _ p e ha hc hk s m args below hf hA hF happ hP
  obtain ⟨hcalls, hrest, hpre⟩ := hP
  obtain ⟨-, -, -, hnamed, -, -, -, hat⟩ := (Spec.applies_iff hf).mp happ
  obtain ⟨hg, hn⟩ := and_e (Cond.before_iff.mp (show (Jvm.Cond.and given_1 narrow_1).before args s = true from hpre))
  obtain ⟨hcount, hg⟩ := and_e hg
  obtain ⟨w0, w1, w2, w3, w4, rfl⟩ : ∃ w0 w1 w2 w3 w4 : Value, args = #[w0, w1, w2, w3, w4] := by
    have hs : args.size = 5 := by simpa [Cond.value, given_1] using hcount
    obtain ⟨L⟩ := args
    match L, hs with
    | [w0, w1, w2, w3, w4], _ => exact ⟨w0, w1, w2, w3, w4, rfl⟩
  have hw := fun d (hd : d ∈ tables_1) => atoms_spec (ws := Jvm.Cond.code x code maxLocals ret :: tables_1) hat d (List.mem_cons_of_mem _ hd)
  obtain ⟨g0, hg⟩ := and_e hg
  obtain ⟨fl, e0⟩ := is_v g0
  obtain rfl : w0 = (.int fl) := Option.some.inj e0
  obtain ⟨g1, hg⟩ := and_e hg
  obtain ⟨ka, e1⟩ := isL_v g1
  obtain rfl : w1 = (.long ka) := Option.some.inj e1
  obtain ⟨g2, hg⟩ := and_e hg
  obtain ⟨kb, e2⟩ := isL_v g2
  obtain rfl : w2 = (.long kb) := Option.some.inj e2
  obtain ⟨g3, hg⟩ := and_e hg
  obtain ⟨kc, e3⟩ := isL_v g3
  obtain rfl : w3 = (.long kc) := Option.some.inj e3
  have g4 := hg
  obtain ⟨kd, e4⟩ := isL_v g4
  obtain rfl : w4 = (.long kd) := Option.some.inj e4
  obtain ⟨hsets, hown0⟩ := atoms_of _ (rest_1_c_eq ▸ (show rest_1_c.before _ s = true from hrest))
  have st2 := Cond.before_iff.mp (hsets _ (List.mem_of_getElem? (i := 4) rfl))
  have st4 := Cond.before_iff.mp (hsets _ (List.mem_of_getElem? (i := 6) rfl))
  have st5 := Cond.before_iff.mp (hsets _ (List.mem_of_getElem? (i := 7) rfl))
  have st6 := int_of_eq (Cond.before_iff.mp (hsets _ (List.mem_of_getElem? (i := 3) rfl)))
  have S_high := Sta.start st6 (Or.inl (hsets _ (List.mem_of_getElem? (i := 1) rfl)))
  obtain ⟨cb, ev_cb⟩ := arr_v st2
  obtain ⟨cc, AA⟩ := Arr.start ev_cb st2
  have hlen := len_of_eq ev_cb AA st4
  have hlen2 : cc.slots.toList.length = 256 := len256 hlen.1 hlen.2
  have S_cache := Sta.start ev_cb (Or.inr ⟨(wd hw 79 rfl), hsets _ (List.mem_of_getElem? (i := 2) rfl)⟩)
  have H0 := cache_elem ev_cb AA hlen.2 st5
  rw [hlen2] at H0
  have A_cache : ArrIs s s.heap cb (.object "java/lang/Integer") cc.slots.toList := ⟨_, AA, rfl⟩
  have H_cache : ∀ j : Nat, j < 256 → ∃ b, cc.slots.toList[j]? = some (.ref b) ∧ Exa s s.heap b "java/lang/Integer" ∧ Fld s s.heap b "java/lang/Integer" "value" "I" (.int (j.toInt32 - 128)) := fun j hj => by obtain ⟨b, q1, q2, q3, q4⟩ := H0 j hj; exact ⟨b, q1, q2, cache_val q3 q4⟩
  obtain ⟨n, o, h1, h2, h3, _, L, rfl, ⟨N, _, rfl, -⟩, hq⟩ := m_law l s _ hw fl ka kb kc kd cb cc.slots.toList S_high S_cache A_cache H_cache tables_1 s.heap (rep0 s) p e ha hc hk s m _ below hf ((Spec.applies_iff_loose hf).mp happ).1 ⟨rfl, State.Warmed39.refl s, rfl⟩ trivial
  refine ⟨n, _, h1, h2, h3, hpost _ _ _ _ _ _ ⟨Cond.after_iff.mpr rfl, Cond.after_iff.mpr (eq_i res_at (Term.int_eval (1)) rfl), trivial⟩ ⟨hq.1, hq.2.1, (hq.2.2.sift fun y hy => Or.inr (N y hy)).mono (by decide) (by decide)⟩⟩
theorem main_1_1 : Claimed_1_1 := comes_1 fun _ _ _ _ _ _ h hF => ⟨h.1, hF⟩
theorem main_1_2 : Claimed_1_2 := comes_1 fun _ _ _ _ _ _ h hF => ⟨h.2.1, hF⟩
end Jvm.Pilot.@@N@@
namespace Jvm.Pilot.@@N@@
open Jvm Jvm.ClassFile Sem Op Lib Jvm.Free Jvm.Stand Jvm.Pilot.@@N@@.Jvm.D
/-! MADE BY PROGRAM (witnessworld.py) out of the Statement's table words and the real class files: 23 classes; the members and pool entries that the words name. The judged class is class 1, her method 1. -/
namespace start1
open Jvm.ClassFile
def u (s : String) : CpInfo := .utf8 (stringToUtf16 s)
/-- a pool by its gaps: so many unusable entries, then the entry; so many at the end -/
def gap : Nat → List CpInfo → List CpInfo
  | 0, r => r
  | n + 1, r => .unusable :: gap n r
def poolList (es : List (Nat × CpInfo)) (last : Nat) : List CpInfo := es.foldr (fun e r => gap e.1 (e.2 :: r)) (gap last [])
def pool (es : List (Nat × CpInfo)) (last : Nat) : Array CpInfo := ⟨poolList es last⟩
def fileOf (pool : Array CpInfo) (this : Nat) (attrs : Array Attribute := #[]) (ms : Array MethodInfo := #[]) (fl : Nat := 33) (sup : Nat := 0) (ifs : Array Nat := #[]) (fds : Array FieldInfo := #[]) : ClassFile where
  minorVersion := 0
  majorVersion := 65
  constantPool := pool
  accessFlags := fl
  thisClass := this
  superClass := sup
  interfaces := ifs
  fields := fds
  methods := ms
  attributes := attrs
def plain (name : String) (sup : Option ClassId) : Class where
  name := name
  kind := .ordinary
  loader := none
  accessFlags := 33
  super := sup
  interfaces := #[]
  cf := none
  fields := #[]
  methods := #[]
  instanceTypes := #[]
  staticTypes := #[]
  resolved := #[]
  callSites := []
  init := .initialized
  statics := none
  mirror := none

def pool0 : Array CpInfo := pool [(5, u "<init>"), (0, u "()V"), (1, .class_ 10), (1, u "java/lang/Object")] 113

def k0c0 : Code := { maxStack := 0, maxLocals := 1, code := object_method_1_code, exceptionTable := #[], attributes := #[] }
def k0m0 : Method := { name := "<init>", desc := "()V", sig := { parameters := [], returnType := none }, accessFlags := 1, code := some k0c0 }
/-- java/lang/Object -/
def k0 : Class := { plain "java/lang/Object" none with
  accessFlags := 33
  interfaces := #[]
  cf := some (fileOf pool0 8 #[] #[{ accessFlags := 1, nameIndex := 5, descriptorIndex := 6, attributes := #[] }] 33 0 #[] #[])
  fields := #[]
  methods := #[k0m0]
  instanceTypes := #[]
  staticTypes := #[]
  resolved := Array.replicate 124 none
  statics := none }

def pool1 : Array CpInfo := pool [(2, .class_ 4), (0, .nameAndType 5 6), (0, u "java/lang/Object"), (0, u "<init>"), (0, u "()V"), (0, .class_ 8), (0, u "com/example/ordered_dispatch/ordereddispatch/SequenceQueue"), (0, .methodref 7 3), (0, .methodref 7 11), (0, .nameAndType 12 13), (0, u "isEmpty"), (0, u "()Z"), (0, .methodref 15 16), (0, .class_ 17), (0, .nameAndType 18 19), (0, u "java/lang/Integer"), (0, u "valueOf"), (0, u "(I)Ljava/lang/Integer;"), (0, .methodref 7 21), (0, .nameAndType 22 23), (0, u "add"), (0, u "(JLjava/lang/Object;)V"), (0, .methodref 7 25), (0, .nameAndType 26 27), (0, u "poll"), (0, u "()Ljava/lang/Object;"), (0, .methodref 29 30), (0, .class_ 31), (0, .nameAndType 32 33), (0, u "java/lang/Math"), (0, u "max"), (0, u "(II)I"), (0, .class_ 35), (0, u "com/example/ordered_dispatch/ordereddispatch/SequenceQueueIsEmptyPinLaw"), (2, u "law"), (0, u "(IJJJJ)Z")] 3

def k1m0 : Method := { name := "<init>", desc := "()V", sig := { parameters := [], returnType := none }, accessFlags := 1, code := none }
def k1c1 : Code := { maxStack := 4, maxLocals := 12, code := code, exceptionTable := #[], attributes := #[] }
def k1m1 : Method := { name := "law", desc := "(IJJJJ)Z", sig := { parameters := [.int, .long, .long, .long, .long], returnType := some .boolean }, accessFlags := 9, code := some k1c1 }
/-- com/example/ordered_dispatch/ordereddispatch/SequenceQueueIsEmptyPinLaw -/
def k1 : Class := { plain "com/example/ordered_dispatch/ordereddispatch/SequenceQueueIsEmptyPinLaw" (some 0) with
  accessFlags := 49
  interfaces := #[]
  cf := some (fileOf pool1 34 #[] #[{ accessFlags := 1, nameIndex := 5, descriptorIndex := 6, attributes := #[] }, { accessFlags := 9, nameIndex := 38, descriptorIndex := 39, attributes := #[] }] 49 2 #[] #[])
  fields := #[]
  methods := #[k1m0, k1m1]
  instanceTypes := #[]
  staticTypes := #[]
  resolved := Array.replicate 43 none
  statics := none }

def pool2 : Array CpInfo := pool [(3, .methodref 4 5), (0, .class_ 6), (0, .nameAndType 7 8), (0, u "java/lang/Object"), (0, u "<init>"), (0, u "()V"), (0, .class_ 10), (0, u "com/example/ordered_dispatch/ordereddispatch/SequenceQueue$Run"), (0, .methodref 9 5), (0, .fieldref 13 14), (0, .class_ 15), (0, .nameAndType 16 17), (0, u "com/example/ordered_dispatch/ordereddispatch/SequenceQueue"), (0, u "run"), (0, u "Lcom/example/ordered_dispatch/ordereddispatch/SequenceQueue$Run;"), (0, .class_ 19), (0, u "com/example/ordered_dispatch/ordereddispatch/SequenceQueue$Heap"), (0, .methodref 18 5), (0, .fieldref 13 22), (0, .nameAndType 23 24), (0, u "heap"), (0, u "Lcom/example/ordered_dispatch/ordereddispatch/SequenceQueue$Heap;"), (0, .fieldref 13 26), (0, .nameAndType 27 28), (0, u "holding"), (0, u "Z"), (0, .fieldref 13 30), (0, .nameAndType 31 32), (0, u "heldKey"), (0, u "J"), (0, .fieldref 13 34), (0, .nameAndType 35 36), (0, u "heldElement"), (0, u "Ljava/lang/Object;"), (0, .methodref 13 38), (0, .nameAndType 39 40), (0, u "place"), (0, u "(JLjava/lang/Object;)V"), (0, .fieldref 9 42), (0, .nameAndType 43 44), (0, u "size"), (0, u "I"), (0, .fieldref 9 46), (0, .nameAndType 47 48), (0, u "keys"), (0, u "[J"), (0, .fieldref 9 50), (0, .nameAndType 51 44), (0, u "head"), (0, .fieldref 18 42), (0, .fieldref 18 46), (0, .methodref 9 55), (0, .nameAndType 56 57), (0, u "poll"), (0, u "()Ljava/lang/Object;"), (0, .methodref 18 55), (23, u "add"), (14, .methodref 9 98), (0, .nameAndType 99 100), (0, u "lastKey"), (0, u "()J"), (0, .methodref 9 102), (0, .nameAndType 82 40), (0, .methodref 18 102), (0, u "KEPT"), (2, u "LONGEST"), (7, u "isEmpty"), (0, u "()Z"), (8, .class_ 126), (0, u "com/example/ordered_dispatch/ordereddispatch/SequenceQueue$Part")] 4

def k2c0 : Code := { maxStack := 3, maxLocals := 1, code := prog_20_method_1_code, exceptionTable := #[], attributes := #[] }
def k2m0 : Method := { name := "<init>", desc := "()V", sig := { parameters := [], returnType := none }, accessFlags := 0, code := some k2c0 }
def k2c1 : Code := { maxStack := 4, maxLocals := 4, code := prog_20_method_2_code, exceptionTable := #[], attributes := #[] }
def k2m1 : Method := { name := "add", desc := "(JLjava/lang/Object;)V", sig := { parameters := [.long, (.object "java/lang/Object")], returnType := none }, accessFlags := 0, code := some k2c1 }
def k2c2 : Code := { maxStack := 4, maxLocals := 3, code := prog_20_method_3_code, exceptionTable := #[], attributes := #[] }
def k2m2 : Method := { name := "poll", desc := "()Ljava/lang/Object;", sig := { parameters := [], returnType := some (.object "java/lang/Object") }, accessFlags := 0, code := some k2c2 }
def k2c3 : Code := { maxStack := 1, maxLocals := 1, code := prog_20_method_4_code, exceptionTable := #[], attributes := #[] }
def k2m3 : Method := { name := "isEmpty", desc := "()Z", sig := { parameters := [], returnType := some .boolean }, accessFlags := 0, code := some k2c3 }
def k2c4 : Code := { maxStack := 4, maxLocals := 4, code := prog_20_method_9_code, exceptionTable := #[], attributes := #[] }
def k2m4 : Method := { name := "place", desc := "(JLjava/lang/Object;)V", sig := { parameters := [.long, (.object "java/lang/Object")], returnType := none }, accessFlags := 2, code := some k2c4 }
/-- com/example/ordered_dispatch/ordereddispatch/SequenceQueue -/
def k2 : Class := { plain "com/example/ordered_dispatch/ordereddispatch/SequenceQueue" (some 0) with
  accessFlags := 32
  interfaces := #[]
  cf := some (fileOf pool2 13 #[.nestMembers #[18, 9, 125]] #[{ accessFlags := 0, nameIndex := 7, descriptorIndex := 8, attributes := #[] }, { accessFlags := 0, nameIndex := 82, descriptorIndex := 40, attributes := #[] }, { accessFlags := 0, nameIndex := 56, descriptorIndex := 57, attributes := #[] }, { accessFlags := 0, nameIndex := 115, descriptorIndex := 116, attributes := #[] }, { accessFlags := 2, nameIndex := 39, descriptorIndex := 40, attributes := #[] }] 32 4 #[] #[{ accessFlags := 26, nameIndex := 104, descriptorIndex := 44, attributes := #[] }, { accessFlags := 26, nameIndex := 107, descriptorIndex := 44, attributes := #[] }, { accessFlags := 18, nameIndex := 16, descriptorIndex := 17, attributes := #[] }, { accessFlags := 18, nameIndex := 23, descriptorIndex := 24, attributes := #[] }, { accessFlags := 2, nameIndex := 27, descriptorIndex := 28, attributes := #[] }, { accessFlags := 2, nameIndex := 31, descriptorIndex := 32, attributes := #[] }, { accessFlags := 2, nameIndex := 35, descriptorIndex := 36, attributes := #[] }])
  fields := #[{ name := "KEPT", type := .int, accessFlags := 26, slot := 0, constantValue := 0 }, { name := "LONGEST", type := .int, accessFlags := 26, slot := 1, constantValue := 0 }, { name := "run", type := (.object "com/example/ordered_dispatch/ordereddispatch/SequenceQueue$Run"), accessFlags := 18, slot := 0, constantValue := 0 }, { name := "heap", type := (.object "com/example/ordered_dispatch/ordereddispatch/SequenceQueue$Heap"), accessFlags := 18, slot := 1, constantValue := 0 }, { name := "holding", type := .boolean, accessFlags := 2, slot := 2, constantValue := 0 }, { name := "heldKey", type := .long, accessFlags := 2, slot := 3, constantValue := 0 }, { name := "heldElement", type := (.object "java/lang/Object"), accessFlags := 2, slot := 4, constantValue := 0 }]
  methods := #[k2m0, k2m1, k2m2, k2m3, k2m4]
  instanceTypes := #[(.object "com/example/ordered_dispatch/ordereddispatch/SequenceQueue$Run"), (.object "com/example/ordered_dispatch/ordereddispatch/SequenceQueue$Heap"), .boolean, .long, (.object "java/lang/Object")]
  staticTypes := #[.int, .int]
  resolved := (((((((((((Array.replicate 131 none).setIfInBounds 9 (some (.cls 4))).setIfInBounds 11 (some (.method ⟨4, 0⟩))).setIfInBounds 18 (some (.cls 5))).setIfInBounds 20 (some (.method ⟨5, 0⟩))).setIfInBounds 49 (some (.field 4 0))).setIfInBounds 54 (some (.method ⟨4, 3⟩))).setIfInBounds 58 (some (.method ⟨5, 2⟩))).setIfInBounds 97 (some (.method ⟨4, 1⟩))).setIfInBounds 101 (some (.method ⟨4, 2⟩))).setIfInBounds 103 (some (.method ⟨5, 1⟩)))
  statics := none }

def pool3 : Array CpInfo := pool [(1, .class_ 2), (0, u "com/example/ordered_dispatch/ordereddispatch/SequenceQueue"), (0, .methodref 4 5), (0, .class_ 6), (0, .nameAndType 7 8), (0, u "java/lang/Object"), (0, u "<init>"), (0, u "()V"), (0, .fieldref 10 11), (0, .class_ 12), (0, .nameAndType 13 14), (0, u "com/example/ordered_dispatch/ordereddispatch/SequenceQueue$Part"), (0, u "keys"), (0, u "[J"), (0, .fieldref 10 16), (0, .nameAndType 17 18), (0, u "elements"), (0, u "[Ljava/lang/Object;"), (0, .fieldref 10 20), (0, .nameAndType 21 22), (0, u "size"), (0, u "I"), (0, .integer 2147483639), (9, .long 2), (1, .long 2147483639), (2, .class_ 40), (1, u "java/lang/Math"), (6, .methodref 38 48), (0, .nameAndType 49 50), (0, u "max"), (0, u "(II)I"), (2, u "makeRoom"), (1, u "giveBackRoom")] 20

def k3c0 : Code := { maxStack := 2, maxLocals := 1, code := prog_22_method_1_code, exceptionTable := #[], attributes := #[] }
def k3m0 : Method := { name := "<init>", desc := "()V", sig := { parameters := [], returnType := none }, accessFlags := 2, code := some k3c0 }
def k3c1 : Code := { maxStack := 5, maxLocals := 1, code := prog_22_method_2_code, exceptionTable := #[], attributes := #[] }
def k3m1 : Method := { name := "makeRoom", desc := "()V", sig := { parameters := [], returnType := none }, accessFlags := 4, code := some k3c1 }
def k3c2 : Code := { maxStack := 4, maxLocals := 1, code := prog_22_method_3_code, exceptionTable := #[], attributes := #[] }
def k3m2 : Method := { name := "giveBackRoom", desc := "()V", sig := { parameters := [], returnType := none }, accessFlags := 4, code := some k3c2 }
/-- com/example/ordered_dispatch/ordereddispatch/SequenceQueue$Part -/
def k3 : Class := { plain "com/example/ordered_dispatch/ordereddispatch/SequenceQueue$Part" (some 0) with
  accessFlags := 1056
  interfaces := #[]
  cf := some (fileOf pool3 10 #[.nestHost 1] #[{ accessFlags := 2, nameIndex := 7, descriptorIndex := 8, attributes := #[] }, { accessFlags := 4, nameIndex := 53, descriptorIndex := 8, attributes := #[] }, { accessFlags := 4, nameIndex := 55, descriptorIndex := 8, attributes := #[] }] 1056 4 #[] #[{ accessFlags := 4, nameIndex := 13, descriptorIndex := 14, attributes := #[] }, { accessFlags := 4, nameIndex := 17, descriptorIndex := 18, attributes := #[] }, { accessFlags := 4, nameIndex := 21, descriptorIndex := 22, attributes := #[] }])
  fields := #[{ name := "keys", type := (.array .long), accessFlags := 4, slot := 0, constantValue := 0 }, { name := "elements", type := (.array (.object "java/lang/Object")), accessFlags := 4, slot := 1, constantValue := 0 }, { name := "size", type := .int, accessFlags := 4, slot := 2, constantValue := 0 }]
  methods := #[k3m0, k3m1, k3m2]
  instanceTypes := #[(.array .long), (.array (.object "java/lang/Object")), .int]
  staticTypes := #[]
  resolved := Array.replicate 76 none
  statics := none }

def pool4 : Array CpInfo := pool [(1, .methodref 2 3), (0, .class_ 4), (0, .nameAndType 5 6), (0, u "com/example/ordered_dispatch/ordereddispatch/SequenceQueue$Part"), (0, u "<init>"), (0, u "()V"), (0, .fieldref 8 9), (0, .class_ 10), (0, .nameAndType 11 12), (0, u "com/example/ordered_dispatch/ordereddispatch/SequenceQueue$Run"), (0, u "keys"), (0, u "[J"), (0, .fieldref 8 14), (0, .nameAndType 15 16), (0, u "size"), (0, u "I"), (0, .methodref 8 18), (0, .nameAndType 19 20), (0, u "slot"), (0, u "(I)I"), (0, .methodref 8 22), (0, .nameAndType 23 6), (0, u "makeRoom"), (0, .fieldref 8 25), (0, .nameAndType 26 27), (0, u "elements"), (0, u "[Ljava/lang/Object;"), (0, .fieldref 8 29), (0, .nameAndType 30 16), (0, u "head"), (0, .methodref 8 32), (0, .nameAndType 33 6), (0, u "giveBackRoom"), (19, u "lastKey"), (0, u "()J"), (0, u "add"), (0, u "(JLjava/lang/Object;)V"), (0, u "poll"), (0, u "()Ljava/lang/Object;"), (6, .class_ 66), (0, u "com/example/ordered_dispatch/ordereddispatch/SequenceQueue")] 3

def k4c0 : Code := { maxStack := 1, maxLocals := 1, code := prog_23_method_1_code, exceptionTable := #[], attributes := #[] }
def k4m0 : Method := { name := "<init>", desc := "()V", sig := { parameters := [], returnType := none }, accessFlags := 2, code := some k4c0 }
def k4c1 : Code := { maxStack := 4, maxLocals := 1, code := prog_23_method_2_code, exceptionTable := #[], attributes := #[] }
def k4m1 : Method := { name := "lastKey", desc := "()J", sig := { parameters := [], returnType := some .long }, accessFlags := 2, code := some k4c1 }
def k4c2 : Code := { maxStack := 4, maxLocals := 5, code := prog_23_method_3_code, exceptionTable := #[], attributes := #[] }
def k4m2 : Method := { name := "add", desc := "(JLjava/lang/Object;)V", sig := { parameters := [.long, (.object "java/lang/Object")], returnType := none }, accessFlags := 2, code := some k4c2 }
def k4c3 : Code := { maxStack := 3, maxLocals := 2, code := prog_23_method_4_code, exceptionTable := #[], attributes := #[] }
def k4m3 : Method := { name := "poll", desc := "()Ljava/lang/Object;", sig := { parameters := [], returnType := some (.object "java/lang/Object") }, accessFlags := 2, code := some k4c3 }
def k4c4 : Code := { maxStack := 2, maxLocals := 3, code := prog_23_method_6_code, exceptionTable := #[], attributes := #[] }
def k4m4 : Method := { name := "slot", desc := "(I)I", sig := { parameters := [.int], returnType := some .int }, accessFlags := 2, code := some k4c4 }
/-- com/example/ordered_dispatch/ordereddispatch/SequenceQueue$Run -/
def k4 : Class := { plain "com/example/ordered_dispatch/ordereddispatch/SequenceQueue$Run" (some 3) with
  accessFlags := 32
  interfaces := #[]
  cf := some (fileOf pool4 8 #[.nestHost 65] #[{ accessFlags := 2, nameIndex := 5, descriptorIndex := 6, attributes := #[] }, { accessFlags := 2, nameIndex := 53, descriptorIndex := 54, attributes := #[] }, { accessFlags := 2, nameIndex := 55, descriptorIndex := 56, attributes := #[] }, { accessFlags := 2, nameIndex := 57, descriptorIndex := 58, attributes := #[] }, { accessFlags := 2, nameIndex := 19, descriptorIndex := 20, attributes := #[] }] 32 2 #[] #[{ accessFlags := 2, nameIndex := 30, descriptorIndex := 16, attributes := #[] }])
  fields := #[{ name := "head", type := .int, accessFlags := 2, slot := 3, constantValue := 0 }]
  methods := #[k4m0, k4m1, k4m2, k4m3, k4m4]
  instanceTypes := #[(.array .long), (.array (.object "java/lang/Object")), .int, .int]
  staticTypes := #[]
  resolved := Array.replicate 70 none
  statics := none }

def pool5 : Array CpInfo := pool [(1, .methodref 2 3), (0, .class_ 4), (0, .nameAndType 5 6), (0, u "com/example/ordered_dispatch/ordereddispatch/SequenceQueue$Part"), (0, u "<init>"), (0, u "()V"), (0, .methodref 8 9), (0, .class_ 10), (0, .nameAndType 11 6), (0, u "com/example/ordered_dispatch/ordereddispatch/SequenceQueue$Heap"), (0, u "makeRoom"), (0, .fieldref 8 13), (0, .nameAndType 14 15), (0, u "size"), (0, u "I"), (0, .fieldref 8 17), (0, .nameAndType 18 19), (0, u "keys"), (0, u "[J"), (0, .fieldref 8 21), (0, .nameAndType 22 23), (0, u "elements"), (0, u "[Ljava/lang/Object;"), (0, .methodref 8 25), (0, .nameAndType 26 6), (0, u "giveBackRoom"), (11, u "add"), (0, u "(JLjava/lang/Object;)V"), (1, u "poll"), (0, u "()Ljava/lang/Object;"), (7, .class_ 51), (0, u "com/example/ordered_dispatch/ordereddispatch/SequenceQueue")] 3

def k5c0 : Code := { maxStack := 1, maxLocals := 1, code := prog_21_method_1_code, exceptionTable := #[], attributes := #[] }
def k5m0 : Method := { name := "<init>", desc := "()V", sig := { parameters := [], returnType := none }, accessFlags := 2, code := some k5c0 }
def k5c1 : Code := { maxStack := 4, maxLocals := 6, code := prog_21_method_2_code, exceptionTable := #[], attributes := #[] }
def k5m1 : Method := { name := "add", desc := "(JLjava/lang/Object;)V", sig := { parameters := [.long, (.object "java/lang/Object")], returnType := none }, accessFlags := 2, code := some k5c1 }
def k5c2 : Code := { maxStack := 4, maxLocals := 8, code := prog_21_method_3_code, exceptionTable := #[], attributes := #[] }
def k5m2 : Method := { name := "poll", desc := "()Ljava/lang/Object;", sig := { parameters := [], returnType := some (.object "java/lang/Object") }, accessFlags := 2, code := some k5c2 }
/-- com/example/ordered_dispatch/ordereddispatch/SequenceQueue$Heap -/
def k5 : Class := { plain "com/example/ordered_dispatch/ordereddispatch/SequenceQueue$Heap" (some 3) with
  accessFlags := 32
  interfaces := #[]
  cf := some (fileOf pool5 8 #[.nestHost 50] #[{ accessFlags := 2, nameIndex := 5, descriptorIndex := 6, attributes := #[] }, { accessFlags := 2, nameIndex := 38, descriptorIndex := 39, attributes := #[] }, { accessFlags := 2, nameIndex := 41, descriptorIndex := 42, attributes := #[] }] 32 2 #[] #[])
  fields := #[]
  methods := #[k5m0, k5m1, k5m2]
  instanceTypes := #[(.array .long), (.array (.object "java/lang/Object")), .int]
  staticTypes := #[]
  resolved := Array.replicate 55 none
  statics := none }

def pool6 : Array CpInfo := pool [(1, .class_ 2), (0, u "java/lang/Math"), (1, .class_ 6), (1, u "java/lang/Object"), (0, u "<init>"), (0, u "()V"), (89, .class_ 100), (1, u "java/lang/Math$RandomNumberGeneratorHolder"), (71, u "negativeZeroFloatBits"), (0, u "J"), (2, u "negativeZeroDoubleBits"), (21, u "max"), (46, u "$assertionsDisabled"), (0, u "Z"), (88, u "(II)I"), (2, u "twoToTheDoubleScaleDown"), (0, u "D"), (4, u "twoToTheDoubleScaleUp"), (9, u "E"), (3, u "PI"), (2, u "TAU"), (2, u "DEGREES_TO_RADIANS"), (0, u "RADIANS_TO_DEGREES")] 94

def k6m0 : Method := { name := "<init>", desc := "()V", sig := { parameters := [], returnType := none }, accessFlags := 2, code := none }
def k6c1 : Code := { maxStack := 2, maxLocals := 2, code := jdk_29_method_65_code, exceptionTable := #[], attributes := #[] }
def k6m1 : Method := { name := "max", desc := "(II)I", sig := { parameters := [.int, .int], returnType := some .int }, accessFlags := 9, code := some k6c1 }
/-- java/lang/Math -/
def k6 : Class := { plain "java/lang/Math" (some 0) with
  accessFlags := 49
  interfaces := #[]
  cf := some (fileOf pool6 1 #[.nestMembers #[98]] #[{ accessFlags := 2, nameIndex := 7, descriptorIndex := 8, attributes := #[] }, { accessFlags := 9, nameIndex := 198, descriptorIndex := 335, attributes := #[] }] 49 4 #[] #[{ accessFlags := 25, nameIndex := 354, descriptorIndex := 339, attributes := #[] }, { accessFlags := 25, nameIndex := 358, descriptorIndex := 339, attributes := #[] }, { accessFlags := 25, nameIndex := 361, descriptorIndex := 339, attributes := #[] }, { accessFlags := 26, nameIndex := 364, descriptorIndex := 339, attributes := #[] }, { accessFlags := 26, nameIndex := 365, descriptorIndex := 339, attributes := #[] }, { accessFlags := 26, nameIndex := 172, descriptorIndex := 173, attributes := #[] }, { accessFlags := 26, nameIndex := 176, descriptorIndex := 173, attributes := #[] }, { accessFlags := 8, nameIndex := 344, descriptorIndex := 339, attributes := #[] }, { accessFlags := 8, nameIndex := 338, descriptorIndex := 339, attributes := #[] }, { accessFlags := 4120, nameIndex := 245, descriptorIndex := 246, attributes := #[] }])
  fields := #[{ name := "E", type := .double, accessFlags := 25, slot := 0, constantValue := 0 }, { name := "PI", type := .double, accessFlags := 25, slot := 1, constantValue := 0 }, { name := "TAU", type := .double, accessFlags := 25, slot := 2, constantValue := 0 }, { name := "DEGREES_TO_RADIANS", type := .double, accessFlags := 26, slot := 3, constantValue := 0 }, { name := "RADIANS_TO_DEGREES", type := .double, accessFlags := 26, slot := 4, constantValue := 0 }, { name := "negativeZeroFloatBits", type := .long, accessFlags := 26, slot := 5, constantValue := 0 }, { name := "negativeZeroDoubleBits", type := .long, accessFlags := 26, slot := 6, constantValue := 0 }, { name := "twoToTheDoubleScaleUp", type := .double, accessFlags := 8, slot := 7, constantValue := 0 }, { name := "twoToTheDoubleScaleDown", type := .double, accessFlags := 8, slot := 8, constantValue := 0 }, { name := "$assertionsDisabled", type := .boolean, accessFlags := 4120, slot := 9, constantValue := 0 }]
  methods := #[k6m0, k6m1]
  instanceTypes := #[]
  staticTypes := #[.double, .double, .double, .double, .double, .long, .long, .double, .double, .boolean]
  resolved := Array.replicate 460 none
  statics := none }

def pool7 : Array CpInfo := pool [(1, .class_ 2), (0, u "java/io/Serializable"), (0, .class_ 4), (0, u "java/lang/Object")] 2

/-- java/io/Serializable -/
def k7 : Class := { plain "java/io/Serializable" (some 0) with
  accessFlags := 1537
  interfaces := #[]
  cf := some (fileOf pool7 1 #[] #[] 1537 3 #[] #[])
  fields := #[]
  methods := #[]
  instanceTypes := #[]
  staticTypes := #[]
  resolved := Array.replicate 7 none
  statics := none }

def pool8 : Array CpInfo := pool [(2, .class_ 4), (1, u "java/lang/Object"), (0, u "<init>"), (0, u "()V"), (1, .class_ 10), (1, u "java/lang/Number"), (2, .class_ 14), (0, u "java/io/Serializable"), (0, u "serialVersionUID"), (0, u "J")] 20

def k8m0 : Method := { name := "<init>", desc := "()V", sig := { parameters := [], returnType := none }, accessFlags := 1, code := none }
/-- java/lang/Number -/
def k8 : Class := { plain "java/lang/Number" (some 0) with
  accessFlags := 1057
  interfaces := #[7]
  cf := some (fileOf pool8 8 #[] #[{ accessFlags := 1, nameIndex := 5, descriptorIndex := 6, attributes := #[] }] 1057 2 #[13] #[{ accessFlags := 26, nameIndex := 15, descriptorIndex := 16, attributes := #[] }])
  fields := #[{ name := "serialVersionUID", type := .long, accessFlags := 26, slot := 0, constantValue := 0 }]
  methods := #[k8m0]
  instanceTypes := #[]
  staticTypes := #[.long]
  resolved := Array.replicate 37 none
  statics := none }

def pool9 : Array CpInfo := pool [(1, .class_ 2), (0, u "java/lang/Comparable"), (0, .class_ 4), (0, u "java/lang/Object")] 7

/-- java/lang/Comparable -/
def k9 : Class := { plain "java/lang/Comparable" (some 0) with
  accessFlags := 1537
  interfaces := #[]
  cf := some (fileOf pool9 1 #[] #[] 1537 3 #[] #[])
  fields := #[]
  methods := #[]
  instanceTypes := #[]
  staticTypes := #[]
  resolved := Array.replicate 12 none
  statics := none }

def pool10 : Array CpInfo := pool [(1, .class_ 2), (0, u "java/lang/constant/Constable"), (0, .class_ 4), (0, u "java/lang/Object")] 6

/-- java/lang/constant/Constable -/
def k10 : Class := { plain "java/lang/constant/Constable" (some 0) with
  accessFlags := 1537
  interfaces := #[]
  cf := some (fileOf pool10 1 #[] #[] 1537 3 #[] #[])
  fields := #[]
  methods := #[]
  instanceTypes := #[]
  staticTypes := #[]
  resolved := Array.replicate 11 none
  statics := none }

def pool11 : Array CpInfo := pool [(1, .class_ 2), (0, u "java/lang/constant/ConstantDesc"), (0, .class_ 4), (0, u "java/lang/Object")] 32

/-- java/lang/constant/ConstantDesc -/
def k11 : Class := { plain "java/lang/constant/ConstantDesc" (some 0) with
  accessFlags := 1537
  interfaces := #[]
  cf := some (fileOf pool11 1 #[] #[] 1537 3 #[] #[])
  fields := #[]
  methods := #[]
  instanceTypes := #[]
  staticTypes := #[]
  resolved := Array.replicate 37 none
  statics := none }

def pool12 : Array CpInfo := pool [(1, .class_ 2), (0, u "java/lang/Integer"), (16, u "digits"), (0, u "[C"), (64, u "DigitOnes"), (0, u "[B"), (2, u "DigitTens"), (97, u "valueOf"), (0, u "(I)Ljava/lang/Integer;"), (0, .class_ 190), (0, u "java/lang/Integer$IntegerCache"), (0, .fieldref 189 192), (0, .nameAndType 193 194), (0, u "high"), (0, u "I"), (0, .fieldref 189 196), (0, .nameAndType 197 198), (0, u "cache"), (0, u "[Ljava/lang/Integer;"), (4, .class_ 204), (0, u "java/lang/Number"), (2, u "value"), (94, u "TYPE"), (0, u "Ljava/lang/Class;"), (0, .class_ 305), (0, u "java/lang/Comparable"), (0, .class_ 307), (0, u "java/lang/constant/Constable"), (0, .class_ 309), (0, u "java/lang/constant/ConstantDesc"), (0, u "MIN_VALUE"), (1, u "MAX_VALUE"), (3, u "SIZE"), (1, u "BYTES"), (1, u "serialVersionUID"), (0, u "J")] 131

def k12c0 : Code := { maxStack := 3, maxLocals := 1, code := jdk_33_method_22_code, exceptionTable := #[], attributes := #[] }
def k12m0 : Method := { name := "valueOf", desc := "(I)Ljava/lang/Integer;", sig := { parameters := [.int], returnType := some (.object "java/lang/Integer") }, accessFlags := 9, code := some k12c0 }
/-- java/lang/Integer -/
def k12 : Class := { plain "java/lang/Integer" (some 8) with
  accessFlags := 49
  interfaces := #[9, 10, 11]
  cf := some (fileOf pool12 1 #[.nestMembers #[189]] #[{ accessFlags := 9, nameIndex := 187, descriptorIndex := 188, attributes := #[] }] 49 203 #[304, 306, 308] #[{ accessFlags := 25, nameIndex := 310, descriptorIndex := 194, attributes := #[] }, { accessFlags := 25, nameIndex := 312, descriptorIndex := 194, attributes := #[] }, { accessFlags := 25, nameIndex := 302, descriptorIndex := 303, attributes := #[] }, { accessFlags := 24, nameIndex := 19, descriptorIndex := 20, attributes := #[] }, { accessFlags := 24, nameIndex := 89, descriptorIndex := 86, attributes := #[] }, { accessFlags := 24, nameIndex := 85, descriptorIndex := 86, attributes := #[] }, { accessFlags := 18, nameIndex := 207, descriptorIndex := 194, attributes := #[] }, { accessFlags := 25, nameIndex := 316, descriptorIndex := 194, attributes := #[] }, { accessFlags := 25, nameIndex := 318, descriptorIndex := 194, attributes := #[] }, { accessFlags := 26, nameIndex := 320, descriptorIndex := 321, attributes := #[] }])
  fields := #[{ name := "MIN_VALUE", type := .int, accessFlags := 25, slot := 0, constantValue := 0 }, { name := "MAX_VALUE", type := .int, accessFlags := 25, slot := 1, constantValue := 0 }, { name := "TYPE", type := (.object "java/lang/Class"), accessFlags := 25, slot := 2, constantValue := 0 }, { name := "digits", type := (.array .char), accessFlags := 24, slot := 3, constantValue := 0 }, { name := "DigitTens", type := (.array .byte), accessFlags := 24, slot := 4, constantValue := 0 }, { name := "DigitOnes", type := (.array .byte), accessFlags := 24, slot := 5, constantValue := 0 }, { name := "value", type := .int, accessFlags := 18, slot := 0, constantValue := 0 }, { name := "SIZE", type := .int, accessFlags := 25, slot := 6, constantValue := 0 }, { name := "BYTES", type := .int, accessFlags := 25, slot := 7, constantValue := 0 }, { name := "serialVersionUID", type := .long, accessFlags := 26, slot := 8, constantValue := 0 }]
  methods := #[k12m0]
  instanceTypes := #[.int]
  staticTypes := #[.int, .int, (.object "java/lang/Class"), (.array .char), (.array .byte), (.array .byte), .int, .int, .long]
  resolved := Array.replicate 453 none
  statics := none }

def pool13 : Array CpInfo := pool [(2, .class_ 4), (1, u "java/lang/Object"), (0, u "<init>"), (0, u "()V"), (0, .class_ 8), (0, u "java/lang/Integer"), (7, .class_ 18), (1, u "java/lang/Integer$IntegerCache"), (0, u "$assertionsDisabled"), (0, u "Z"), (26, u "high"), (0, u "I"), (8, u "archivedCache"), (0, u "[Ljava/lang/Integer;"), (12, u "cache"), (0, u "low")] 27

def k13m0 : Method := { name := "<init>", desc := "()V", sig := { parameters := [], returnType := none }, accessFlags := 2, code := none }
/-- java/lang/Integer$IntegerCache -/
def k13 : Class := { plain "java/lang/Integer$IntegerCache" (some 0) with
  accessFlags := 48
  interfaces := #[]
  cf := some (fileOf pool13 16 #[.nestHost 7] #[{ accessFlags := 2, nameIndex := 5, descriptorIndex := 6, attributes := #[] }] 48 2 #[] #[{ accessFlags := 24, nameIndex := 72, descriptorIndex := 48, attributes := #[] }, { accessFlags := 24, nameIndex := 47, descriptorIndex := 48, attributes := #[] }, { accessFlags := 24, nameIndex := 71, descriptorIndex := 58, attributes := #[] }, { accessFlags := 8, nameIndex := 57, descriptorIndex := 58, attributes := #[] }, { accessFlags := 4120, nameIndex := 19, descriptorIndex := 20, attributes := #[] }])
  fields := #[{ name := "low", type := .int, accessFlags := 24, slot := 0, constantValue := 0 }, { name := "high", type := .int, accessFlags := 24, slot := 1, constantValue := 0 }, { name := "cache", type := (.array (.object "java/lang/Integer")), accessFlags := 24, slot := 2, constantValue := 0 }, { name := "archivedCache", type := (.array (.object "java/lang/Integer")), accessFlags := 8, slot := 3, constantValue := 0 }, { name := "$assertionsDisabled", type := .boolean, accessFlags := 4120, slot := 4, constantValue := 0 }]
  methods := #[k13m0]
  instanceTypes := #[]
  staticTypes := #[.int, .int, (.array (.object "java/lang/Integer")), (.array (.object "java/lang/Integer")), .boolean]
  resolved := Array.replicate 100 none
  statics := some 0 }

def pool14 : Array CpInfo := pool [(1, u "java/lang/Cloneable"), (0, .class_ 1), (0, u "java/lang/Object"), (0, .class_ 3)] 3

/-- java/lang/Cloneable -/
def k14 : Class := { plain "java/lang/Cloneable" (some 0) with
  accessFlags := 1537
  interfaces := #[]
  cf := some (fileOf pool14 2 #[] #[] 1537 4 #[] #[])
  fields := #[]
  methods := #[]
  instanceTypes := #[]
  staticTypes := #[]
  resolved := Array.replicate 8 none
  statics := none }

/-- the primitive byte -/
def k15 : Class := { plain "byte" none with kind := .primitive 'B', accessFlags := 0x411 }
/-- [B -/
def k16 : Class := { plain "[B" (some 0) with kind := .array 15 .byte, interfaces := #[14, 7], accessFlags := 1041 }

/-- the primitive int -/
def k17 : Class := { plain "int" none with kind := .primitive 'I', accessFlags := 0x411 }
/-- [I -/
def k18 : Class := { plain "[I" (some 0) with kind := .array 17 .int, interfaces := #[14, 7], accessFlags := 1041 }

/-- the primitive long -/
def k19 : Class := { plain "long" none with kind := .primitive 'J', accessFlags := 0x411 }
/-- [J -/
def k20 : Class := { plain "[J" (some 0) with kind := .array 19 .long, interfaces := #[14, 7], accessFlags := 1041 }

/-- [Ljava/lang/Integer; -/
def k21 : Class := { plain "[Ljava/lang/Integer;" (some 0) with kind := .array 12 (.object "java/lang/Integer"), interfaces := #[14, 7], accessFlags := 1041 }

/-- [Ljava/lang/Object; -/
def k22 : Class := { plain "[Ljava/lang/Object;" (some 0) with kind := .array 0 (.object "java/lang/Object"), interfaces := #[14, 7], accessFlags := 1041 }

def heap : Heap := #[{ cls := 13, slots := #[.int 0, .int 127, .ref 1, .null, .int 0], vm := .statics 13 },
  { cls := 21, slots := #[.ref 2, .ref 3, .ref 4, .ref 5, .ref 6, .ref 7, .ref 8, .ref 9, .ref 10, .ref 11, .ref 12, .ref 13, .ref 14, .ref 15, .ref 16, .ref 17, .ref 18, .ref 19, .ref 20, .ref 21, .ref 22, .ref 23, .ref 24, .ref 25, .ref 26, .ref 27, .ref 28, .ref 29, .ref 30, .ref 31, .ref 32, .ref 33, .ref 34, .ref 35, .ref 36, .ref 37, .ref 38, .ref 39, .ref 40, .ref 41, .ref 42, .ref 43, .ref 44, .ref 45, .ref 46, .ref 47, .ref 48, .ref 49, .ref 50, .ref 51, .ref 52, .ref 53, .ref 54, .ref 55, .ref 56, .ref 57, .ref 58, .ref 59, .ref 60, .ref 61, .ref 62, .ref 63, .ref 64, .ref 65, .ref 66, .ref 67, .ref 68, .ref 69, .ref 70, .ref 71, .ref 72, .ref 73, .ref 74, .ref 75, .ref 76, .ref 77, .ref 78, .ref 79, .ref 80, .ref 81, .ref 82, .ref 83, .ref 84, .ref 85, .ref 86, .ref 87, .ref 88, .ref 89, .ref 90, .ref 91, .ref 92, .ref 93, .ref 94, .ref 95, .ref 96, .ref 97, .ref 98, .ref 99, .ref 100, .ref 101, .ref 102, .ref 103, .ref 104, .ref 105, .ref 106, .ref 107, .ref 108, .ref 109, .ref 110, .ref 111, .ref 112, .ref 113, .ref 114, .ref 115, .ref 116, .ref 117, .ref 118, .ref 119, .ref 120, .ref 121, .ref 122, .ref 123, .ref 124, .ref 125, .ref 126, .ref 127, .ref 128, .ref 129, .ref 130, .ref 131, .ref 132, .ref 133, .ref 134, .ref 135, .ref 136, .ref 137, .ref 138, .ref 139, .ref 140, .ref 141, .ref 142, .ref 143, .ref 144, .ref 145, .ref 146, .ref 147, .ref 148, .ref 149, .ref 150, .ref 151, .ref 152, .ref 153, .ref 154, .ref 155, .ref 156, .ref 157, .ref 158, .ref 159, .ref 160, .ref 161, .ref 162, .ref 163, .ref 164, .ref 165, .ref 166, .ref 167, .ref 168, .ref 169, .ref 170, .ref 171, .ref 172, .ref 173, .ref 174, .ref 175, .ref 176, .ref 177, .ref 178, .ref 179, .ref 180, .ref 181, .ref 182, .ref 183, .ref 184, .ref 185, .ref 186, .ref 187, .ref 188, .ref 189, .ref 190, .ref 191, .ref 192, .ref 193, .ref 194, .ref 195, .ref 196, .ref 197, .ref 198, .ref 199, .ref 200, .ref 201, .ref 202, .ref 203, .ref 204, .ref 205, .ref 206, .ref 207, .ref 208, .ref 209, .ref 210, .ref 211, .ref 212, .ref 213, .ref 214, .ref 215, .ref 216, .ref 217, .ref 218, .ref 219, .ref 220, .ref 221, .ref 222, .ref 223, .ref 224, .ref 225, .ref 226, .ref 227, .ref 228, .ref 229, .ref 230, .ref 231, .ref 232, .ref 233, .ref 234, .ref 235, .ref 236, .ref 237, .ref 238, .ref 239, .ref 240, .ref 241, .ref 242, .ref 243, .ref 244, .ref 245, .ref 246, .ref 247, .ref 248, .ref 249, .ref 250, .ref 251, .ref 252, .ref 253, .ref 254, .ref 255, .ref 256, .ref 257], vm := .none },
  { cls := 12, slots := #[.int (-128)], vm := .none },
  { cls := 12, slots := #[.int (-127)], vm := .none },
  { cls := 12, slots := #[.int (-126)], vm := .none },
  { cls := 12, slots := #[.int (-125)], vm := .none },
  { cls := 12, slots := #[.int (-124)], vm := .none },
  { cls := 12, slots := #[.int (-123)], vm := .none },
  { cls := 12, slots := #[.int (-122)], vm := .none },
  { cls := 12, slots := #[.int (-121)], vm := .none },
  { cls := 12, slots := #[.int (-120)], vm := .none },
  { cls := 12, slots := #[.int (-119)], vm := .none },
  { cls := 12, slots := #[.int (-118)], vm := .none },
  { cls := 12, slots := #[.int (-117)], vm := .none },
  { cls := 12, slots := #[.int (-116)], vm := .none },
  { cls := 12, slots := #[.int (-115)], vm := .none },
  { cls := 12, slots := #[.int (-114)], vm := .none },
  { cls := 12, slots := #[.int (-113)], vm := .none },
  { cls := 12, slots := #[.int (-112)], vm := .none },
  { cls := 12, slots := #[.int (-111)], vm := .none },
  { cls := 12, slots := #[.int (-110)], vm := .none },
  { cls := 12, slots := #[.int (-109)], vm := .none },
  { cls := 12, slots := #[.int (-108)], vm := .none },
  { cls := 12, slots := #[.int (-107)], vm := .none },
  { cls := 12, slots := #[.int (-106)], vm := .none },
  { cls := 12, slots := #[.int (-105)], vm := .none },
  { cls := 12, slots := #[.int (-104)], vm := .none },
  { cls := 12, slots := #[.int (-103)], vm := .none },
  { cls := 12, slots := #[.int (-102)], vm := .none },
  { cls := 12, slots := #[.int (-101)], vm := .none },
  { cls := 12, slots := #[.int (-100)], vm := .none },
  { cls := 12, slots := #[.int (-99)], vm := .none },
  { cls := 12, slots := #[.int (-98)], vm := .none },
  { cls := 12, slots := #[.int (-97)], vm := .none },
  { cls := 12, slots := #[.int (-96)], vm := .none },
  { cls := 12, slots := #[.int (-95)], vm := .none },
  { cls := 12, slots := #[.int (-94)], vm := .none },
  { cls := 12, slots := #[.int (-93)], vm := .none },
  { cls := 12, slots := #[.int (-92)], vm := .none },
  { cls := 12, slots := #[.int (-91)], vm := .none },
  { cls := 12, slots := #[.int (-90)], vm := .none },
  { cls := 12, slots := #[.int (-89)], vm := .none },
  { cls := 12, slots := #[.int (-88)], vm := .none },
  { cls := 12, slots := #[.int (-87)], vm := .none },
  { cls := 12, slots := #[.int (-86)], vm := .none },
  { cls := 12, slots := #[.int (-85)], vm := .none },
  { cls := 12, slots := #[.int (-84)], vm := .none },
  { cls := 12, slots := #[.int (-83)], vm := .none },
  { cls := 12, slots := #[.int (-82)], vm := .none },
  { cls := 12, slots := #[.int (-81)], vm := .none },
  { cls := 12, slots := #[.int (-80)], vm := .none },
  { cls := 12, slots := #[.int (-79)], vm := .none },
  { cls := 12, slots := #[.int (-78)], vm := .none },
  { cls := 12, slots := #[.int (-77)], vm := .none },
  { cls := 12, slots := #[.int (-76)], vm := .none },
  { cls := 12, slots := #[.int (-75)], vm := .none },
  { cls := 12, slots := #[.int (-74)], vm := .none },
  { cls := 12, slots := #[.int (-73)], vm := .none },
  { cls := 12, slots := #[.int (-72)], vm := .none },
  { cls := 12, slots := #[.int (-71)], vm := .none },
  { cls := 12, slots := #[.int (-70)], vm := .none },
  { cls := 12, slots := #[.int (-69)], vm := .none },
  { cls := 12, slots := #[.int (-68)], vm := .none },
  { cls := 12, slots := #[.int (-67)], vm := .none },
  { cls := 12, slots := #[.int (-66)], vm := .none },
  { cls := 12, slots := #[.int (-65)], vm := .none },
  { cls := 12, slots := #[.int (-64)], vm := .none },
  { cls := 12, slots := #[.int (-63)], vm := .none },
  { cls := 12, slots := #[.int (-62)], vm := .none },
  { cls := 12, slots := #[.int (-61)], vm := .none },
  { cls := 12, slots := #[.int (-60)], vm := .none },
  { cls := 12, slots := #[.int (-59)], vm := .none },
  { cls := 12, slots := #[.int (-58)], vm := .none },
  { cls := 12, slots := #[.int (-57)], vm := .none },
  { cls := 12, slots := #[.int (-56)], vm := .none },
  { cls := 12, slots := #[.int (-55)], vm := .none },
  { cls := 12, slots := #[.int (-54)], vm := .none },
  { cls := 12, slots := #[.int (-53)], vm := .none },
  { cls := 12, slots := #[.int (-52)], vm := .none },
  { cls := 12, slots := #[.int (-51)], vm := .none },
  { cls := 12, slots := #[.int (-50)], vm := .none },
  { cls := 12, slots := #[.int (-49)], vm := .none },
  { cls := 12, slots := #[.int (-48)], vm := .none },
  { cls := 12, slots := #[.int (-47)], vm := .none },
  { cls := 12, slots := #[.int (-46)], vm := .none },
  { cls := 12, slots := #[.int (-45)], vm := .none },
  { cls := 12, slots := #[.int (-44)], vm := .none },
  { cls := 12, slots := #[.int (-43)], vm := .none },
  { cls := 12, slots := #[.int (-42)], vm := .none },
  { cls := 12, slots := #[.int (-41)], vm := .none },
  { cls := 12, slots := #[.int (-40)], vm := .none },
  { cls := 12, slots := #[.int (-39)], vm := .none },
  { cls := 12, slots := #[.int (-38)], vm := .none },
  { cls := 12, slots := #[.int (-37)], vm := .none },
  { cls := 12, slots := #[.int (-36)], vm := .none },
  { cls := 12, slots := #[.int (-35)], vm := .none },
  { cls := 12, slots := #[.int (-34)], vm := .none },
  { cls := 12, slots := #[.int (-33)], vm := .none },
  { cls := 12, slots := #[.int (-32)], vm := .none },
  { cls := 12, slots := #[.int (-31)], vm := .none },
  { cls := 12, slots := #[.int (-30)], vm := .none },
  { cls := 12, slots := #[.int (-29)], vm := .none },
  { cls := 12, slots := #[.int (-28)], vm := .none },
  { cls := 12, slots := #[.int (-27)], vm := .none },
  { cls := 12, slots := #[.int (-26)], vm := .none },
  { cls := 12, slots := #[.int (-25)], vm := .none },
  { cls := 12, slots := #[.int (-24)], vm := .none },
  { cls := 12, slots := #[.int (-23)], vm := .none },
  { cls := 12, slots := #[.int (-22)], vm := .none },
  { cls := 12, slots := #[.int (-21)], vm := .none },
  { cls := 12, slots := #[.int (-20)], vm := .none },
  { cls := 12, slots := #[.int (-19)], vm := .none },
  { cls := 12, slots := #[.int (-18)], vm := .none },
  { cls := 12, slots := #[.int (-17)], vm := .none },
  { cls := 12, slots := #[.int (-16)], vm := .none },
  { cls := 12, slots := #[.int (-15)], vm := .none },
  { cls := 12, slots := #[.int (-14)], vm := .none },
  { cls := 12, slots := #[.int (-13)], vm := .none },
  { cls := 12, slots := #[.int (-12)], vm := .none },
  { cls := 12, slots := #[.int (-11)], vm := .none },
  { cls := 12, slots := #[.int (-10)], vm := .none },
  { cls := 12, slots := #[.int (-9)], vm := .none },
  { cls := 12, slots := #[.int (-8)], vm := .none },
  { cls := 12, slots := #[.int (-7)], vm := .none },
  { cls := 12, slots := #[.int (-6)], vm := .none },
  { cls := 12, slots := #[.int (-5)], vm := .none },
  { cls := 12, slots := #[.int (-4)], vm := .none },
  { cls := 12, slots := #[.int (-3)], vm := .none },
  { cls := 12, slots := #[.int (-2)], vm := .none },
  { cls := 12, slots := #[.int (-1)], vm := .none },
  { cls := 12, slots := #[.int 0], vm := .none },
  { cls := 12, slots := #[.int 1], vm := .none },
  { cls := 12, slots := #[.int 2], vm := .none },
  { cls := 12, slots := #[.int 3], vm := .none },
  { cls := 12, slots := #[.int 4], vm := .none },
  { cls := 12, slots := #[.int 5], vm := .none },
  { cls := 12, slots := #[.int 6], vm := .none },
  { cls := 12, slots := #[.int 7], vm := .none },
  { cls := 12, slots := #[.int 8], vm := .none },
  { cls := 12, slots := #[.int 9], vm := .none },
  { cls := 12, slots := #[.int 10], vm := .none },
  { cls := 12, slots := #[.int 11], vm := .none },
  { cls := 12, slots := #[.int 12], vm := .none },
  { cls := 12, slots := #[.int 13], vm := .none },
  { cls := 12, slots := #[.int 14], vm := .none },
  { cls := 12, slots := #[.int 15], vm := .none },
  { cls := 12, slots := #[.int 16], vm := .none },
  { cls := 12, slots := #[.int 17], vm := .none },
  { cls := 12, slots := #[.int 18], vm := .none },
  { cls := 12, slots := #[.int 19], vm := .none },
  { cls := 12, slots := #[.int 20], vm := .none },
  { cls := 12, slots := #[.int 21], vm := .none },
  { cls := 12, slots := #[.int 22], vm := .none },
  { cls := 12, slots := #[.int 23], vm := .none },
  { cls := 12, slots := #[.int 24], vm := .none },
  { cls := 12, slots := #[.int 25], vm := .none },
  { cls := 12, slots := #[.int 26], vm := .none },
  { cls := 12, slots := #[.int 27], vm := .none },
  { cls := 12, slots := #[.int 28], vm := .none },
  { cls := 12, slots := #[.int 29], vm := .none },
  { cls := 12, slots := #[.int 30], vm := .none },
  { cls := 12, slots := #[.int 31], vm := .none },
  { cls := 12, slots := #[.int 32], vm := .none },
  { cls := 12, slots := #[.int 33], vm := .none },
  { cls := 12, slots := #[.int 34], vm := .none },
  { cls := 12, slots := #[.int 35], vm := .none },
  { cls := 12, slots := #[.int 36], vm := .none },
  { cls := 12, slots := #[.int 37], vm := .none },
  { cls := 12, slots := #[.int 38], vm := .none },
  { cls := 12, slots := #[.int 39], vm := .none },
  { cls := 12, slots := #[.int 40], vm := .none },
  { cls := 12, slots := #[.int 41], vm := .none },
  { cls := 12, slots := #[.int 42], vm := .none },
  { cls := 12, slots := #[.int 43], vm := .none },
  { cls := 12, slots := #[.int 44], vm := .none },
  { cls := 12, slots := #[.int 45], vm := .none },
  { cls := 12, slots := #[.int 46], vm := .none },
  { cls := 12, slots := #[.int 47], vm := .none },
  { cls := 12, slots := #[.int 48], vm := .none },
  { cls := 12, slots := #[.int 49], vm := .none },
  { cls := 12, slots := #[.int 50], vm := .none },
  { cls := 12, slots := #[.int 51], vm := .none },
  { cls := 12, slots := #[.int 52], vm := .none },
  { cls := 12, slots := #[.int 53], vm := .none },
  { cls := 12, slots := #[.int 54], vm := .none },
  { cls := 12, slots := #[.int 55], vm := .none },
  { cls := 12, slots := #[.int 56], vm := .none },
  { cls := 12, slots := #[.int 57], vm := .none },
  { cls := 12, slots := #[.int 58], vm := .none },
  { cls := 12, slots := #[.int 59], vm := .none },
  { cls := 12, slots := #[.int 60], vm := .none },
  { cls := 12, slots := #[.int 61], vm := .none },
  { cls := 12, slots := #[.int 62], vm := .none },
  { cls := 12, slots := #[.int 63], vm := .none },
  { cls := 12, slots := #[.int 64], vm := .none },
  { cls := 12, slots := #[.int 65], vm := .none },
  { cls := 12, slots := #[.int 66], vm := .none },
  { cls := 12, slots := #[.int 67], vm := .none },
  { cls := 12, slots := #[.int 68], vm := .none },
  { cls := 12, slots := #[.int 69], vm := .none },
  { cls := 12, slots := #[.int 70], vm := .none },
  { cls := 12, slots := #[.int 71], vm := .none },
  { cls := 12, slots := #[.int 72], vm := .none },
  { cls := 12, slots := #[.int 73], vm := .none },
  { cls := 12, slots := #[.int 74], vm := .none },
  { cls := 12, slots := #[.int 75], vm := .none },
  { cls := 12, slots := #[.int 76], vm := .none },
  { cls := 12, slots := #[.int 77], vm := .none },
  { cls := 12, slots := #[.int 78], vm := .none },
  { cls := 12, slots := #[.int 79], vm := .none },
  { cls := 12, slots := #[.int 80], vm := .none },
  { cls := 12, slots := #[.int 81], vm := .none },
  { cls := 12, slots := #[.int 82], vm := .none },
  { cls := 12, slots := #[.int 83], vm := .none },
  { cls := 12, slots := #[.int 84], vm := .none },
  { cls := 12, slots := #[.int 85], vm := .none },
  { cls := 12, slots := #[.int 86], vm := .none },
  { cls := 12, slots := #[.int 87], vm := .none },
  { cls := 12, slots := #[.int 88], vm := .none },
  { cls := 12, slots := #[.int 89], vm := .none },
  { cls := 12, slots := #[.int 90], vm := .none },
  { cls := 12, slots := #[.int 91], vm := .none },
  { cls := 12, slots := #[.int 92], vm := .none },
  { cls := 12, slots := #[.int 93], vm := .none },
  { cls := 12, slots := #[.int 94], vm := .none },
  { cls := 12, slots := #[.int 95], vm := .none },
  { cls := 12, slots := #[.int 96], vm := .none },
  { cls := 12, slots := #[.int 97], vm := .none },
  { cls := 12, slots := #[.int 98], vm := .none },
  { cls := 12, slots := #[.int 99], vm := .none },
  { cls := 12, slots := #[.int 100], vm := .none },
  { cls := 12, slots := #[.int 101], vm := .none },
  { cls := 12, slots := #[.int 102], vm := .none },
  { cls := 12, slots := #[.int 103], vm := .none },
  { cls := 12, slots := #[.int 104], vm := .none },
  { cls := 12, slots := #[.int 105], vm := .none },
  { cls := 12, slots := #[.int 106], vm := .none },
  { cls := 12, slots := #[.int 107], vm := .none },
  { cls := 12, slots := #[.int 108], vm := .none },
  { cls := 12, slots := #[.int 109], vm := .none },
  { cls := 12, slots := #[.int 110], vm := .none },
  { cls := 12, slots := #[.int 111], vm := .none },
  { cls := 12, slots := #[.int 112], vm := .none },
  { cls := 12, slots := #[.int 113], vm := .none },
  { cls := 12, slots := #[.int 114], vm := .none },
  { cls := 12, slots := #[.int 115], vm := .none },
  { cls := 12, slots := #[.int 116], vm := .none },
  { cls := 12, slots := #[.int 117], vm := .none },
  { cls := 12, slots := #[.int 118], vm := .none },
  { cls := 12, slots := #[.int 119], vm := .none },
  { cls := 12, slots := #[.int 120], vm := .none },
  { cls := 12, slots := #[.int 121], vm := .none },
  { cls := 12, slots := #[.int 122], vm := .none },
  { cls := 12, slots := #[.int 123], vm := .none },
  { cls := 12, slots := #[.int 124], vm := .none },
  { cls := 12, slots := #[.int 125], vm := .none },
  { cls := 12, slots := #[.int 126], vm := .none },
  { cls := 12, slots := #[.int 127], vm := .none }]
def classes : Array Class := #[k0, k1, k2, k3, k4, k5, k6, k7, k8, k9, k10, k11, k12, k13, k14, k15, k16, k17, k18, k19, k20, k21, k22]
def interned : List (Array UInt16 × Addr) := []
def slotsUsed : Nat := 517
def theMethod : MethodId := ⟨1, 1⟩
def args0 : Array Value := #[.int 5, .long 3, .long 1, .long 2, .long 4]
def aboutOver (below : List Frame) : State where
  vm := { classes := classes, interned := interned.toArray }
  heap := heap
  slotsUsed := slotsUsed
  threads := #[{ frames := .invoking theMethod args0 :: below }]
def below0 : List Frame := [.native { method := ⟨0, 0⟩, args := #[] }]
def about1 : State := aboutOver below0
def p0 : Program := .bare "" "" ""
def e0 : Env := launch0.env 0 0 0
theorem w_frames : about1.frames = Frame.invoking theMethod args0 :: below0 := rfl
set_option maxRecDepth 65536 in
theorem w_args : argsFit about1.vm theMethod args0 = true := by decide +kernel
set_option maxRecDepth 65536 in
theorem w_heap : heapFits about1 = true := by decide +kernel
set_option maxRecDepth 65536 in
theorem w_runnable : about1.curStatus? = some .runnable := by decide +kernel
set_option maxRecDepth 65536 in
theorem w_alone : about1.alone = true := by decide +kernel
set_option maxRecDepth 65536 in
theorem w_named : about1.methodNamed? x = some theMethod := by decide +kernel
set_option maxRecDepth 65536 in
theorem w_hears : about1.hears theMethod below0 = true := by decide +kernel
set_option maxRecDepth 65536 in
theorem w_ripe : about1.ripe theMethod args0 below0 = true := by decide +kernel
theorem w_running : about1.status = .running := rfl
set_option maxRecDepth 65536 in
theorem w_room : about1.hasRoom e0.platform room_1 = true :=
  launch0.hasRoom_least _ room_1 (by decide +kernel) (by decide +kernel) (by decide +kernel) (by decide +kernel) (by decide +kernel) (by decide +kernel)
theorem allAtoms_all (ts : List Jvm.Cond) (a : Array Jvm.Value) (st : Jvm.State) : (allAtoms ts).before a st = ts.all (fun c => c.before a st) := by
  induction ts with
  | nil => rfl
  | cons c t ih =>
    show (Jvm.Cond.and c (allAtoms t)).before a st = _
    rw [Jvm.Cond.before_and, ih, List.all_cons]
def words1 : List Jvm.Cond := Jvm.Cond.code x code maxLocals ret :: tables_1
/-- a 'code' word, met by the world's own term for the bytes: nothing is compared byte by byte -/
theorem code_word {y : MethodName} {bytes : ByteArray} {mx : Nat} {rt : Option FieldType} {a : Array Value} {s : State} {m : MethodId} {meth : Method} {c : Code} (h1 : s.methodNamed? y = some m) (h2 : s.vm.method? m = some meth) (h3 : meth.code = some c) (h4 : c.code = bytes)
    (h5 : (c.maxLocals == mx && c.exceptionTable.isEmpty && decide (c.maxStack ≤ mostOperands) && decide (meth.sig.returnType = rt) && !meth.locks && decide (parseMethodDescriptor y.desc = some meth.sig)) = true) : (Jvm.Cond.code y bytes mx rt).before a s = true := by
  simp only [Bool.and_eq_true, beq_iff_eq, Bool.not_eq_true', decide_eq_true_eq] at h5
  obtain ⟨⟨⟨⟨⟨g1, g2⟩, g3⟩, g4⟩, g5⟩, g6⟩ := h5
  simp [Cond.before, Cond.holds, Cond.value, h1, h2, h3, h4, g1, g2, g3, g4, g5, g6]
def isCode : Jvm.Cond → Bool
  | .code _ _ _ _ => true
  | _ => false
theorem all_split {L : List Jvm.Cond} {P : Jvm.Cond → Bool} (h1 : L.all (fun c => isCode c || P c) = true) (h2 : ∀ c ∈ L.filter isCode, P c = true) : L.all P = true := by
  refine List.all_eq_true.mpr fun c hc => ?_
  have h := List.all_eq_true.mp h1 c hc
  rcases Bool.eq_false_or_eq_true (isCode c) with hi | hi
  · exact h2 c (List.mem_filter.mpr ⟨hc, hi⟩)
  · simpa [hi] using h
set_option maxRecDepth 65536 in
theorem w_c0 : (Jvm.Cond.code x code maxLocals ret).before args0 about1 = true := code_word (m := ⟨1, 1⟩) (meth := k1m1) (c := k1c1) (by decide +kernel) rfl rfl rfl (by decide +kernel)
set_option maxRecDepth 65536 in
theorem w_c1 : (Jvm.Cond.code ({ cls := "com/example/ordered_dispatch/ordereddispatch/SequenceQueue", name := "<init>", desc := "()V" } : Jvm.MethodName) prog_20_method_1_code (1 : Nat) (Option.none : Option Jvm.ClassFile.FieldType)).before args0 about1 = true := code_word (m := ⟨2, 0⟩) (meth := k2m0) (c := k2c0) (by decide +kernel) rfl rfl rfl (by decide +kernel)
set_option maxRecDepth 65536 in
theorem w_c2 : (Jvm.Cond.code ({ cls := "java/lang/Object", name := "<init>", desc := "()V" } : Jvm.MethodName) object_method_1_code (1 : Nat) (Option.none : Option Jvm.ClassFile.FieldType)).before args0 about1 = true := code_word (m := ⟨0, 0⟩) (meth := k0m0) (c := k0c0) (by decide +kernel) rfl rfl rfl (by decide +kernel)
set_option maxRecDepth 65536 in
theorem w_c3 : (Jvm.Cond.code ({ cls := "com/example/ordered_dispatch/ordereddispatch/SequenceQueue$Run", name := "<init>", desc := "()V" } : Jvm.MethodName) prog_23_method_1_code (1 : Nat) (Option.none : Option Jvm.ClassFile.FieldType)).before args0 about1 = true := code_word (m := ⟨4, 0⟩) (meth := k4m0) (c := k4c0) (by decide +kernel) rfl rfl rfl (by decide +kernel)
set_option maxRecDepth 65536 in
theorem w_c4 : (Jvm.Cond.code ({ cls := "com/example/ordered_dispatch/ordereddispatch/SequenceQueue$Part", name := "<init>", desc := "()V" } : Jvm.MethodName) prog_22_method_1_code (1 : Nat) (Option.none : Option Jvm.ClassFile.FieldType)).before args0 about1 = true := code_word (m := ⟨3, 0⟩) (meth := k3m0) (c := k3c0) (by decide +kernel) rfl rfl rfl (by decide +kernel)
set_option maxRecDepth 65536 in
theorem w_c5 : (Jvm.Cond.code ({ cls := "com/example/ordered_dispatch/ordereddispatch/SequenceQueue$Heap", name := "<init>", desc := "()V" } : Jvm.MethodName) prog_21_method_1_code (1 : Nat) (Option.none : Option Jvm.ClassFile.FieldType)).before args0 about1 = true := code_word (m := ⟨5, 0⟩) (meth := k5m0) (c := k5c0) (by decide +kernel) rfl rfl rfl (by decide +kernel)
set_option maxRecDepth 65536 in
theorem w_c6 : (Jvm.Cond.code ({ cls := "com/example/ordered_dispatch/ordereddispatch/SequenceQueue", name := "isEmpty", desc := "()Z" } : Jvm.MethodName) prog_20_method_4_code (1 : Nat) (Option.some Jvm.ClassFile.FieldType.boolean)).before args0 about1 = true := code_word (m := ⟨2, 3⟩) (meth := k2m3) (c := k2c3) (by decide +kernel) rfl rfl rfl (by decide +kernel)
set_option maxRecDepth 65536 in
theorem w_c7 : (Jvm.Cond.code ({ cls := "com/example/ordered_dispatch/ordereddispatch/SequenceQueue", name := "poll", desc := "()Ljava/lang/Object;" } : Jvm.MethodName) prog_20_method_3_code (3 : Nat) (Option.some (Jvm.ClassFile.FieldType.object "java/lang/Object"))).before args0 about1 = true := code_word (m := ⟨2, 2⟩) (meth := k2m2) (c := k2c2) (by decide +kernel) rfl rfl rfl (by decide +kernel)
set_option maxRecDepth 65536 in
theorem w_c8 : (Jvm.Cond.code ({ cls := "com/example/ordered_dispatch/ordereddispatch/SequenceQueue$Run", name := "poll", desc := "()Ljava/lang/Object;" } : Jvm.MethodName) prog_23_method_4_code (2 : Nat) (Option.some (Jvm.ClassFile.FieldType.object "java/lang/Object"))).before args0 about1 = true := code_word (m := ⟨4, 3⟩) (meth := k4m3) (c := k4c3) (by decide +kernel) rfl rfl rfl (by decide +kernel)
set_option maxRecDepth 65536 in
theorem w_c9 : (Jvm.Cond.code ({ cls := "java/lang/Math", name := "max", desc := "(II)I" } : Jvm.MethodName) jdk_29_method_65_code (2 : Nat) (Option.some Jvm.ClassFile.FieldType.int)).before args0 about1 = true := code_word (m := ⟨6, 1⟩) (meth := k6m1) (c := k6c1) (by decide +kernel) rfl rfl rfl (by decide +kernel)
set_option maxRecDepth 65536 in
theorem w_c10 : (Jvm.Cond.code ({ cls := "java/lang/Integer", name := "valueOf", desc := "(I)Ljava/lang/Integer;" } : Jvm.MethodName) jdk_33_method_22_code (1 : Nat) (Option.some (Jvm.ClassFile.FieldType.object "java/lang/Integer"))).before args0 about1 = true := code_word (m := ⟨12, 0⟩) (meth := k12m0) (c := k12c0) (by decide +kernel) rfl rfl rfl (by decide +kernel)
set_option maxRecDepth 65536 in
theorem w_c11 : (Jvm.Cond.code ({ cls := "com/example/ordered_dispatch/ordereddispatch/SequenceQueue", name := "add", desc := "(JLjava/lang/Object;)V" } : Jvm.MethodName) prog_20_method_2_code (4 : Nat) (Option.none : Option Jvm.ClassFile.FieldType)).before args0 about1 = true := code_word (m := ⟨2, 1⟩) (meth := k2m1) (c := k2c1) (by decide +kernel) rfl rfl rfl (by decide +kernel)
set_option maxRecDepth 65536 in
theorem w_c12 : (Jvm.Cond.code ({ cls := "com/example/ordered_dispatch/ordereddispatch/SequenceQueue", name := "place", desc := "(JLjava/lang/Object;)V" } : Jvm.MethodName) prog_20_method_9_code (4 : Nat) (Option.none : Option Jvm.ClassFile.FieldType)).before args0 about1 = true := code_word (m := ⟨2, 4⟩) (meth := k2m4) (c := k2c4) (by decide +kernel) rfl rfl rfl (by decide +kernel)
set_option maxRecDepth 65536 in
theorem w_c13 : (Jvm.Cond.code ({ cls := "com/example/ordered_dispatch/ordereddispatch/SequenceQueue$Run", name := "add", desc := "(JLjava/lang/Object;)V" } : Jvm.MethodName) prog_23_method_3_code (5 : Nat) (Option.none : Option Jvm.ClassFile.FieldType)).before args0 about1 = true := code_word (m := ⟨4, 2⟩) (meth := k4m2) (c := k4c2) (by decide +kernel) rfl rfl rfl (by decide +kernel)
set_option maxRecDepth 65536 in
theorem w_c14 : (Jvm.Cond.code ({ cls := "com/example/ordered_dispatch/ordereddispatch/SequenceQueue$Part", name := "makeRoom", desc := "()V" } : Jvm.MethodName) prog_22_method_2_code (1 : Nat) (Option.none : Option Jvm.ClassFile.FieldType)).before args0 about1 = true := code_word (m := ⟨3, 1⟩) (meth := k3m1) (c := k3c1) (by decide +kernel) rfl rfl rfl (by decide +kernel)
set_option maxRecDepth 65536 in
theorem w_c15 : (Jvm.Cond.code ({ cls := "com/example/ordered_dispatch/ordereddispatch/SequenceQueue$Run", name := "slot", desc := "(I)I" } : Jvm.MethodName) prog_23_method_6_code (3 : Nat) (Option.some Jvm.ClassFile.FieldType.int)).before args0 about1 = true := code_word (m := ⟨4, 4⟩) (meth := k4m4) (c := k4c4) (by decide +kernel) rfl rfl rfl (by decide +kernel)
set_option maxRecDepth 65536 in
theorem w_c16 : (Jvm.Cond.code ({ cls := "com/example/ordered_dispatch/ordereddispatch/SequenceQueue$Run", name := "lastKey", desc := "()J" } : Jvm.MethodName) prog_23_method_2_code (1 : Nat) (Option.some Jvm.ClassFile.FieldType.long)).before args0 about1 = true := code_word (m := ⟨4, 1⟩) (meth := k4m1) (c := k4c1) (by decide +kernel) rfl rfl rfl (by decide +kernel)
set_option maxRecDepth 65536 in
theorem w_c17 : (Jvm.Cond.code ({ cls := "com/example/ordered_dispatch/ordereddispatch/SequenceQueue$Part", name := "giveBackRoom", desc := "()V" } : Jvm.MethodName) prog_22_method_3_code (1 : Nat) (Option.none : Option Jvm.ClassFile.FieldType)).before args0 about1 = true := code_word (m := ⟨3, 2⟩) (meth := k3m2) (c := k3c2) (by decide +kernel) rfl rfl rfl (by decide +kernel)
set_option maxRecDepth 65536 in
theorem w_c18 : (Jvm.Cond.code ({ cls := "com/example/ordered_dispatch/ordereddispatch/SequenceQueue$Heap", name := "add", desc := "(JLjava/lang/Object;)V" } : Jvm.MethodName) prog_21_method_2_code (6 : Nat) (Option.none : Option Jvm.ClassFile.FieldType)).before args0 about1 = true := code_word (m := ⟨5, 1⟩) (meth := k5m1) (c := k5c1) (by decide +kernel) rfl rfl rfl (by decide +kernel)
set_option maxRecDepth 65536 in
theorem w_c19 : (Jvm.Cond.code ({ cls := "com/example/ordered_dispatch/ordereddispatch/SequenceQueue$Heap", name := "poll", desc := "()Ljava/lang/Object;" } : Jvm.MethodName) prog_21_method_3_code (8 : Nat) (Option.some (Jvm.ClassFile.FieldType.object "java/lang/Object"))).before args0 about1 = true := code_word (m := ⟨5, 2⟩) (meth := k5m2) (c := k5c2) (by decide +kernel) rfl rfl rfl (by decide +kernel)
def codes1 : List Jvm.Cond := [Jvm.Cond.code x code maxLocals ret, Jvm.Cond.code ({ cls := "com/example/ordered_dispatch/ordereddispatch/SequenceQueue", name := "<init>", desc := "()V" } : Jvm.MethodName) prog_20_method_1_code (1 : Nat) (Option.none : Option Jvm.ClassFile.FieldType), Jvm.Cond.code ({ cls := "java/lang/Object", name := "<init>", desc := "()V" } : Jvm.MethodName) object_method_1_code (1 : Nat) (Option.none : Option Jvm.ClassFile.FieldType), Jvm.Cond.code ({ cls := "com/example/ordered_dispatch/ordereddispatch/SequenceQueue$Run", name := "<init>", desc := "()V" } : Jvm.MethodName) prog_23_method_1_code (1 : Nat) (Option.none : Option Jvm.ClassFile.FieldType), Jvm.Cond.code ({ cls := "com/example/ordered_dispatch/ordereddispatch/SequenceQueue$Part", name := "<init>", desc := "()V" } : Jvm.MethodName) prog_22_method_1_code (1 : Nat) (Option.none : Option Jvm.ClassFile.FieldType), Jvm.Cond.code ({ cls := "com/example/ordered_dispatch/ordereddispatch/SequenceQueue$Heap", name := "<init>", desc := "()V" } : Jvm.MethodName) prog_21_method_1_code (1 : Nat) (Option.none : Option Jvm.ClassFile.FieldType), Jvm.Cond.code ({ cls := "com/example/ordered_dispatch/ordereddispatch/SequenceQueue", name := "isEmpty", desc := "()Z" } : Jvm.MethodName) prog_20_method_4_code (1 : Nat) (Option.some Jvm.ClassFile.FieldType.boolean), Jvm.Cond.code ({ cls := "com/example/ordered_dispatch/ordereddispatch/SequenceQueue", name := "poll", desc := "()Ljava/lang/Object;" } : Jvm.MethodName) prog_20_method_3_code (3 : Nat) (Option.some (Jvm.ClassFile.FieldType.object "java/lang/Object")), Jvm.Cond.code ({ cls := "com/example/ordered_dispatch/ordereddispatch/SequenceQueue$Run", name := "poll", desc := "()Ljava/lang/Object;" } : Jvm.MethodName) prog_23_method_4_code (2 : Nat) (Option.some (Jvm.ClassFile.FieldType.object "java/lang/Object")), Jvm.Cond.code ({ cls := "java/lang/Math", name := "max", desc := "(II)I" } : Jvm.MethodName) jdk_29_method_65_code (2 : Nat) (Option.some Jvm.ClassFile.FieldType.int), Jvm.Cond.code ({ cls := "java/lang/Integer", name := "valueOf", desc := "(I)Ljava/lang/Integer;" } : Jvm.MethodName) jdk_33_method_22_code (1 : Nat) (Option.some (Jvm.ClassFile.FieldType.object "java/lang/Integer")), Jvm.Cond.code ({ cls := "com/example/ordered_dispatch/ordereddispatch/SequenceQueue", name := "add", desc := "(JLjava/lang/Object;)V" } : Jvm.MethodName) prog_20_method_2_code (4 : Nat) (Option.none : Option Jvm.ClassFile.FieldType), Jvm.Cond.code ({ cls := "com/example/ordered_dispatch/ordereddispatch/SequenceQueue", name := "place", desc := "(JLjava/lang/Object;)V" } : Jvm.MethodName) prog_20_method_9_code (4 : Nat) (Option.none : Option Jvm.ClassFile.FieldType), Jvm.Cond.code ({ cls := "com/example/ordered_dispatch/ordereddispatch/SequenceQueue$Run", name := "add", desc := "(JLjava/lang/Object;)V" } : Jvm.MethodName) prog_23_method_3_code (5 : Nat) (Option.none : Option Jvm.ClassFile.FieldType), Jvm.Cond.code ({ cls := "com/example/ordered_dispatch/ordereddispatch/SequenceQueue$Part", name := "makeRoom", desc := "()V" } : Jvm.MethodName) prog_22_method_2_code (1 : Nat) (Option.none : Option Jvm.ClassFile.FieldType), Jvm.Cond.code ({ cls := "com/example/ordered_dispatch/ordereddispatch/SequenceQueue$Run", name := "slot", desc := "(I)I" } : Jvm.MethodName) prog_23_method_6_code (3 : Nat) (Option.some Jvm.ClassFile.FieldType.int), Jvm.Cond.code ({ cls := "com/example/ordered_dispatch/ordereddispatch/SequenceQueue$Run", name := "lastKey", desc := "()J" } : Jvm.MethodName) prog_23_method_2_code (1 : Nat) (Option.some Jvm.ClassFile.FieldType.long), Jvm.Cond.code ({ cls := "com/example/ordered_dispatch/ordereddispatch/SequenceQueue$Part", name := "giveBackRoom", desc := "()V" } : Jvm.MethodName) prog_22_method_3_code (1 : Nat) (Option.none : Option Jvm.ClassFile.FieldType), Jvm.Cond.code ({ cls := "com/example/ordered_dispatch/ordereddispatch/SequenceQueue$Heap", name := "add", desc := "(JLjava/lang/Object;)V" } : Jvm.MethodName) prog_21_method_2_code (6 : Nat) (Option.none : Option Jvm.ClassFile.FieldType), Jvm.Cond.code ({ cls := "com/example/ordered_dispatch/ordereddispatch/SequenceQueue$Heap", name := "poll", desc := "()Ljava/lang/Object;" } : Jvm.MethodName) prog_21_method_3_code (8 : Nat) (Option.some (Jvm.ClassFile.FieldType.object "java/lang/Object"))]
set_option maxRecDepth 65536 in
theorem codes_eq : words1.filter isCode = codes1 := rfl
theorem w_codes : ∀ c ∈ words1.filter isCode, c.before args0 about1 = true := by
  rw [codes_eq]
  intro c hc
  simp only [codes1, List.mem_cons, List.not_mem_nil, or_false] at hc
  rcases hc with rfl | rfl | rfl | rfl | rfl | rfl | rfl | rfl | rfl | rfl | rfl | rfl | rfl | rfl | rfl | rfl | rfl | rfl | rfl | rfl
  · exact w_c0
  · exact w_c1
  · exact w_c2
  · exact w_c3
  · exact w_c4
  · exact w_c5
  · exact w_c6
  · exact w_c7
  · exact w_c8
  · exact w_c9
  · exact w_c10
  · exact w_c11
  · exact w_c12
  · exact w_c13
  · exact w_c14
  · exact w_c15
  · exact w_c16
  · exact w_c17
  · exact w_c18
  · exact w_c19
set_option maxRecDepth 65536 in
theorem w_t1 : (words1.take 24).all (fun c => isCode c || c.before args0 about1) = true := by decide +kernel
set_option maxRecDepth 65536 in
theorem w_t2 : ((words1.drop 24).take 24).all (fun c => isCode c || c.before args0 about1) = true := by decide +kernel
set_option maxRecDepth 65536 in
theorem w_t3 : (((words1.drop 24).drop 24).take 24).all (fun c => isCode c || c.before args0 about1) = true := by decide +kernel
set_option maxRecDepth 65536 in
theorem w_t4 : ((((words1.drop 24).drop 24).drop 24).take 24).all (fun c => isCode c || c.before args0 about1) = true := by decide +kernel
set_option maxRecDepth 65536 in
theorem w_t5 : (((((words1.drop 24).drop 24).drop 24).drop 24).take 24).all (fun c => isCode c || c.before args0 about1) = true := by decide +kernel
set_option maxRecDepth 65536 in
theorem w_t6 : ((((((words1.drop 24).drop 24).drop 24).drop 24).drop 24).take 24).all (fun c => isCode c || c.before args0 about1) = true := by decide +kernel
set_option maxRecDepth 65536 in
theorem w_t7 : ((((((words1.drop 24).drop 24).drop 24).drop 24).drop 24).drop 24).all (fun c => isCode c || c.before args0 about1) = true := by decide +kernel
theorem w_tables : (allAtoms (Jvm.Cond.code x code maxLocals ret :: tables_1)).before args0 about1 = true := by
  rw [allAtoms_all]
  show words1.all (fun c => c.before args0 about1) = true
  refine all_split ?_ w_codes
  rw [← List.take_append_drop 24 words1, List.all_append, w_t1, ← List.take_append_drop 24 (words1.drop 24), List.all_append, w_t2, ← List.take_append_drop 24 ((words1.drop 24).drop 24), List.all_append, w_t3, ← List.take_append_drop 24 (((words1.drop 24).drop 24).drop 24), List.all_append, w_t4, ← List.take_append_drop 24 ((((words1.drop 24).drop 24).drop 24).drop 24), List.all_append, w_t5, ← List.take_append_drop 24 (((((words1.drop 24).drop 24).drop 24).drop 24).drop 24), List.all_append, w_t6, w_t7]
  rfl
set_option maxRecDepth 65536 in
theorem w_rest : rest_1_c.before args0 about1 = true := by decide +kernel
set_option maxRecDepth 65536 in
theorem w_case : (Jvm.Cond.and given_1 narrow_1).before args0 about1 = true := by decide +kernel
theorem w_applies : (headSpec (Jvm.Cond.code x code maxLocals ret :: tables_1) room_1).applies x e0.platform about1 = true :=
  (Spec.applies_iff w_frames).mpr ⟨w_running, w_runnable, w_alone, w_named, w_hears, w_ripe, w_room, w_tables⟩
theorem atStart : AtStart classFile x code maxLocals ret World_1 tables_1 room_1 Calls_1 rest_1 Pre_1 launch0 p0 e0 about1 theMethod args0 below0 :=
  ⟨lists_1, trivial, launch0.admits_env _ _ _, launch0.least_env, fairChoices_fair.cas, fairChoices_fair.clock, w_frames, w_args, w_heap, w_applies, trivial, w_rest, w_case⟩
end start1
theorem witness_1 : WitnessClaimed_1 := ⟨start1.p0, start1.e0, start1.about1, start1.theMethod, start1.args0, start1.below0, start1.atStart⟩
end Jvm.Pilot.@@N@@
