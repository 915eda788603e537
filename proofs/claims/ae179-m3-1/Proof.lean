import JvmDerived
import JvmDerived.Pilot.@@N@@Statement
import JvmDerived.Pilot.@@N@@Code
set_option linter.unusedVariables false
set_option linter.unusedSimpArgs false
@@BLOCK:NumsL.lean.txt@@
namespace Jvm.Own
open Sem ClassFile Op Lib Jvm.Stand Jvm.Free Jvm.LawKit Jvm.RoadKit
/-! a list of owned cells (all made since the start), each with what it holds; the start's own heap stays as it was -/
abbrev FK := String × String × String
abbrev Fs := List (FK × Value)
abbrev Rec := (String × Fs) ⊕ (FieldType × List Value × Bool)
abbrev Ent := Addr × Rec
def slK (Z : State) (k : FK) : Nat := RoadKit.slotOf Z k.1 k.2.1 k.2.2
def Hold (Z : State) (h : Heap) (a : Addr) : Rec → Prop
  | .inl (C, fs) => Exa Z h a C ∧ (∀ (i : Nat) (f : FK × Value), fs[i]? = some f → Fld Z h a f.1.1 f.1.2.1 f.1.2.2 f.2) ∧ (fs.map fun f => slK Z f.1).Nodup
  | .inr (ty, vs, b) => ∃ c : Cell, Arr Z h a c ty ∧ c.slots.toList = vs ∧ (b = true → ∀ C, ty = .object C → Ovr Z c.cls C)
def Rep (Z : State) (h : Heap) (M : List Ent) : Prop := Ext Z.heap h ∧ (∀ (i : Nat) (x : Ent), M[i]? = some x → Z.heap.size ≤ x.1 ∧ Hold Z h x.1 x.2) ∧ (M.map fun x => x.1).Nodup
section Facts
variable {Z : State} {h h' : Heap} {a b : Addr} {sl k j : Nat} {v w : Value} {r : Rec} {M : List Ent} {C : String} {fs : Fs} {f : FK}
theorem Hold.other (W : Wr h h' a sl v) (H : Hold Z h b r) (hne : b ≠ a) : Hold Z h' b r := by
  rcases r with ⟨C, fs⟩ | ⟨ty, vs, b'⟩
  · exact ⟨H.1.wr W, fun i f hf => (H.2.1 i f hf).other W (Or.inl hne), H.2.2⟩
  · obtain ⟨c, A, q⟩ := H
    exact ⟨c, A.other W hne, q⟩
theorem Hold.ext (E : Ext h h') (H : Hold Z h b r) : Hold Z h' b r := by
  rcases r with ⟨C, fs⟩ | ⟨ty, vs, b'⟩
  · exact ⟨H.1.ext E, fun i f hf => (H.2.1 i f hf).ext E, H.2.2⟩
  · obtain ⟨c, A, q⟩ := H
    exact ⟨c, A.ext E, q⟩
theorem Hold.lt (H : Hold Z h b r) : b < h.size := by
  rcases r with ⟨C, fs⟩ | ⟨ty, vs, b'⟩
  · exact H.1.lt
  · obtain ⟨c, A, q⟩ := H
    exact A.lt
theorem nd_inj {α : Type} {L : List α} (hn : L.Nodup) {i j : Nat} {x : α} (h1 : L[i]? = some x) (h2 : L[j]? = some x) : i = j :=
  (List.getElem?_inj (List.getElem?_eq_some_iff.mp h1).1 hn).mp (h1.trans h2.symm)
theorem Rep.inj (R : Rep Z h M) {i j : Nat} {x y : Ent} (h1 : M[i]? = some x) (h2 : M[j]? = some y) (e : x.1 = y.1) : i = j :=
  nd_inj (x := x.1) R.2.2 (by rw [List.getElem?_map, h1]; rfl) (by rw [List.getElem?_map, h2, e]; rfl)
theorem Rep.ne (R : Rep Z h M) {i j : Nat} {x y : Ent} (h1 : M[i]? = some x) (h2 : M[j]? = some y) (e : i ≠ j) : x.1 ≠ y.1 := fun q => e (R.inj h1 h2 q)
theorem Rep.fresh (R : Rep Z h M) {i : Nat} {x : Ent} (h1 : M[i]? = some x) : Z.heap.size ≤ x.1 := (R.2.1 i x h1).1
theorem map_set_same {α β : Type} {g : α → β} {L : List α} {x y : α} (h1 : L[k]? = some x) (e : g y = g x) : (L.set k y).map g = L.map g := by
  apply List.ext_getElem?
  intro i
  simp only [List.getElem?_map, List.getElem?_set]
  by_cases q : k = i
  · subst q
    obtain ⟨hl, hx⟩ := List.getElem?_eq_some_iff.mp h1
    simp [hl, e, h1, hx]
  · simp [q]
theorem Rep.wrote (R : Rep Z h M) (hk : M[k]? = some (a, r)) (W : Wr h h' a sl v) {r' : Rec} (H : Hold Z h' a r') : Rep Z h' (M.set k (a, r')) := by
  have ha := R.fresh hk
  refine ⟨(Old.wr ⟨rfl, R.1⟩ W ha).2, fun i x hx => ?_, ?_⟩
  · rw [List.getElem?_set] at hx
    by_cases q : k = i
    · subst q
      rw [if_pos rfl] at hx
      split at hx
      · cases hx
        exact ⟨ha, H⟩
      · cases hx
    · rw [if_neg q] at hx
      have g := R.2.1 i x hx
      exact ⟨g.1, g.2.other W (R.ne hx hk (Ne.symm q))⟩
  · rw [map_set_same (g := fun x : Ent => x.1) (y := (a, r')) hk rfl]
    exact R.2.2
theorem Hold.put (H : Hold Z h a (.inl (C, fs))) (hj : fs[j]? = some (f, w)) (W : Wr h h' a (slK Z f) v) : Hold Z h' a (.inl (C, fs.set j (f, v))) := by
  refine ⟨H.1.wr W, fun i x hx => ?_, ?_⟩
  · rw [List.getElem?_set] at hx
    by_cases q : j = i
    · subst q
      rw [if_pos rfl] at hx
      split at hx
      · cases hx
        exact (H.2.1 _ _ hj).same W
      · cases hx
    · rw [if_neg q] at hx
      refine (H.2.1 i x hx).other W (Or.inr fun e => q ?_)
      exact nd_inj (x := slK Z f) H.2.2 (by rw [List.getElem?_map, hj]; rfl) (by rw [List.getElem?_map, hx]; exact congrArg some e)
  · rw [map_set_same (g := fun f : FK × Value => slK Z f.1) (y := (f, v)) hj rfl]
    exact H.2.2
theorem Hold.store {ty : FieldType} {vs : List Value} {b : Bool} (H : Hold Z h a (.inr (ty, vs, b))) (W : Wr h h' a j v) : Hold Z h' a (.inr (ty, vs.set j v, b)) := by
  obtain ⟨c, A, q, o⟩ := H
  refine ⟨_, A.same W, ?_, o⟩
  simp [Cell.setSlot, ← q]
theorem Rep.new (R : Rep Z h M) (E : Ext h h') (hs : a = h.size) {r : Rec} (H : Hold Z h' a r) : Rep Z h' ((a, r) :: M) := by
  refine ⟨(Old.ext ⟨rfl, R.1⟩ E).2, fun i x hx => ?_, ?_⟩
  · rcases i with _ | i
    · cases hx
      exact ⟨by rw [hs]; exact R.1.1, H⟩
    · have g := R.2.1 i x hx
      exact ⟨g.1, g.2.ext E⟩
  · rw [List.map_cons, List.nodup_cons]
    refine ⟨fun m => ?_, R.2.2⟩
    obtain ⟨x, hx, e⟩ := List.mem_map.mp m
    obtain ⟨i, hi⟩ := List.mem_iff_getElem?.mp hx
    have hlt := (R.2.1 i x hi).2.lt
    have e : x.1 = a := e
    rw [e, hs] at hlt
    exact Nat.lt_irrefl _ hlt
theorem nd_pick {α : Type} {N : List α} (hn : N.Nodup) (n : Nat) (idx : List Nat) (h1 : idx.Nodup) (h2 : ∀ i ∈ idx, i < n) : (idx.filterMap (fun i => N[i]?) ++ N.drop n).Nodup := by
  rw [List.nodup_append]
  refine ⟨?_, hn.sublist (List.drop_sublist n N), ?_⟩
  · refine List.Pairwise.filterMap (fun i => N[i]?) ?_ h1
    intro i j hij x hx y hy e
    subst e
    exact hij (nd_inj hn hx hy)
  · intro x hx y hy e
    subst e
    obtain ⟨i, hi, hx⟩ := List.mem_filterMap.mp hx
    obtain ⟨j, hj⟩ := List.mem_iff_getElem?.mp hy
    rw [List.getElem?_drop] at hj
    have := nd_inj hn hx hj
    have := h2 i hi
    omega
theorem Rep.pick (R : Rep Z h M) (n : Nat) (idx : List Nat) (h1 : idx.Nodup) (h2 : ∀ i ∈ idx, i < n) : Rep Z h (idx.filterMap (fun i => M[i]?) ++ M.drop n) := by
  refine ⟨R.1, fun i x hx => ?_, ?_⟩
  · have hm := List.mem_of_getElem? hx
    rcases List.mem_append.mp hm with q | q
    · obtain ⟨j, -, hj⟩ := List.mem_filterMap.mp q
      exact R.2.1 j x hj
    · obtain ⟨j, hj⟩ := List.mem_iff_getElem?.mp (List.mem_of_mem_drop q)
      exact R.2.1 j x hj
  · have := nd_pick R.2.2 n idx h1 h2
    rw [List.map_append, List.map_drop, List.map_filterMap]
    simpa [List.getElem?_map] using this
theorem Rep.fld {O nm d : String} (R : Rep Z h M) (k j : Nat) (hk : M[k]? = some (a, .inl (C, fs))) (hj : fs[j]? = some ((O, nm, d), v)) : Fld Z h a O nm d v := (R.2.1 k _ hk).2.2.1 j _ hj
theorem Rep.exa (R : Rep Z h M) (k : Nat) (hk : M[k]? = some (a, .inl (C, fs))) : Exa Z h a C := (R.2.1 k _ hk).2.1
end Facts
theorem wd {L : List Cond} {a0 : Array Value} {Z : State} {d : Cond} (hw : ∀ d ∈ L, d.before a0 Z = true) (i : Nat) (h : L[i]? = some d) : d.before a0 Z = true := hw d (List.mem_of_getElem? h)
/-! the walk -/
abbrev E0 := Program × Env × State × MethodId × Array Value × List Frame × Method × Code
def Cx (Z : State) (y : MethodName) (code : ByteArray) (maxL : Nat) (ret : Option FieldType) (E : E0) : Prop :=
  E.1.tables.exec = Jvm.exec ∧ Z.Warmed39 E.2.2.1.vm ∧ E.2.2.1.vm.findClass y.cls = some E.2.2.2.1.cls ∧ E.2.2.2.2.2.2.2.code = code ∧ E.2.2.2.2.2.2.2.maxLocals = maxL ∧ E.2.2.2.2.2.2.1.sig.returnType = ret ∧ E.2.2.2.2.2.2.1.locks = false ∧ E.2.2.2.2.2.2.1.name = y.name
abbrev PQ := Option Value → List Ent → Prop
def StE (l : Launch) (R : Room) (E : E0) (T : State) (locs : List Loc) (k n : Nat) : Prop :=
  Stand E.1 l E.2.1 R E.2.2.1 E.2.2.2.1 E.2.2.2.2.1 E.2.2.2.2.2.1 E.2.2.2.2.2.2.1 E.2.2.2.2.2.2.2 T locs k n
def Go (l : Launch) (Z : State) (R : Room) (E : E0) (Q : PQ) (M : List Ent) (k n pc : Nat) (Ls : Array Slot) (st : List Value) : Prop :=
  ∀ T locs, StE l R E T locs k n → Fr Z.heap.size locs → Rep Z T.heap M →
    ∃ s₂ v L, Steps E.1.tables E.2.1 E.2.2.2.2.2.1 (T.setTop (mkF E.2.2.2.1 pc Ls st)) s₂ ∧ s₂.status = .running ∧ Ended s₂ E.2.2.2.2.2.1 (.returned v) ∧ Fr Z.heap.size L ∧ (∃ M', Q v M' ∧ Rep Z s₂.heap M') ∧ FrameEnd E.2.2.1 (.returned v) s₂ L R.cells R.slots
def Met (l : Launch) (Z : State) (y : MethodName) (bytes : ByteArray) (maxL : Nat) (ret : Option FieldType) (rm : Room) (as : Array Value) (M : List Ent) (Q : PQ) : Prop :=
  ∀ (ws : List Cond) (h : Heap), Rep Z h M → MetFree l y (head1 (Cond.code y bytes maxL ret :: ws) rm) (fun a U => a = as ∧ Z.Warmed39 U.vm ∧ U.heap = h) (fun _ _ _ _ _ => True) (fun _ U o U' => ∃ v L, o = .returned v ∧ (Fr Z.heap.size L ∧ ∃ M', Q v M' ∧ Rep Z U'.heap M') ∧ FrameEnd U o U' L rm.cells rm.slots)
theorem Met.of_go {l : Launch} {Z : State} {y : MethodName} {bytes : ByteArray} {maxL : Nat} {ret : Option FieldType} {rm : Room} {as : Array Value} {M : List Ent} {Q : PQ} {Ls : Array Slot} (hp : plainFor y = true) (hef : ∀ m, entryFrame m as maxL = mkF m 0 Ls [])
    (H : ∀ E, Cx Z y bytes maxL ret E → Go l Z rm E Q M 0 0 0 Ls []) : Met l Z y bytes maxL ret rm as M Q := by
  intro ws h r
  refine MetFree.of_bodySF hp hisR ?_
  intro p e s m args below meth c s₁ Bd hml0 hP hK
  obtain ⟨rfl, hZ, hh⟩ := hP
  have X0 : Stand p l e rm s m args below meth c s₁ [] 0 0 := Stand.of_body Bd
  have e0 : s₁.heap = h := by rw [← hh, Bd.state]; rfl
  obtain ⟨s₂, v, L, h1, h2, h3, h4, h5, h6⟩ := H (p, e, s, m, args, below, meth, c) ⟨Bd.exec, hZ, findClass_of_methodNamed Bd.named, Bd.bytes, hml0, Bd.returns, Bd.notSynchronized, (name_of_methodNamed Bd.named Bd.method).1⟩ s₁ [] X0 (Fr.nil _) (by rw [e0]; exact r)
  exact ⟨s₂, .returned v, castTop (hef m) h1, h2, h3, v, L, rfl, ⟨h4, h5⟩, h6⟩
theorem Met.mono {l : Launch} {Z : State} {y : MethodName} {bytes : ByteArray} {maxL : Nat} {ret : Option FieldType} {rm : Room} {as : Array Value} {M : List Ent} {Q Q' : PQ} (H : Met l Z y bytes maxL ret rm as M Q) (hq : ∀ v M', Q v M' → Q' v M') : Met l Z y bytes maxL ret rm as M Q' := by
  intro ws h r p e ha hc hk s m args below hf happ hP hK
  obtain ⟨n, o, h1, h2, h3, v, L, h4, ⟨h5, M', h6, h7⟩, h8⟩ := H ws h r p e ha hc hk s m args below hf happ hP hK
  exact ⟨n, o, h1, h2, h3, v, L, h4, ⟨h5, M', hq _ _ h6, h7⟩, h8⟩
section Walk
variable {l : Launch} {Z : State} {R : Room} {E : E0} {Q : PQ} {M : List Ent} {k n pc q : Nat} {Ls Ls' : Array Slot} {st : List Value} {x : MethodName} {code : ByteArray} {maxL : Nat} {ret : Option FieldType} {a0 : Array Value}
theorem Go.plain {q : Nat} {Ls' : Array Slot} {st' : List Value} (hr : Go l Z R E Q M k n q Ls' st')
    (hs : ∀ T locs t, StE l R E T locs k n → Steps E.1.tables E.2.1 E.2.2.2.2.2.1 (T.setTop (mkF E.2.2.2.1 q Ls' st')) t → Steps E.1.tables E.2.1 E.2.2.2.2.2.1 (T.setTop (mkF E.2.2.2.1 pc Ls st)) t) : Go l Z R E Q M k n pc Ls st := by
  intro T locs X F r
  obtain ⟨s₂, v, L, h1, h2⟩ := hr T locs X F r
  exact ⟨s₂, v, L, hs _ _ _ X h1, h2⟩
theorem Go.rep {M' : List Ent} (h : ∀ h, Rep Z h M → Rep Z h M') (hr : Go l Z R E Q M' k n pc Ls st) : Go l Z R E Q M k n pc Ls st := fun T locs X F r => hr T locs X F (h _ r)
theorem Go.pick {M' : List Ent} (i : Nat) (idx : List Nat) (h1 : idx.Nodup) (h2 : ∀ j ∈ idx, j < i) (hM : idx.filterMap (fun i => M[i]?) ++ M.drop i = M') (hr : Go l Z R E Q M' k n pc Ls st) : Go l Z R E Q M k n pc Ls st :=
  Go.rep (fun _ r => hM ▸ r.pick i idx h1 h2) hr
theorem Rep.perm {h : Heap} {M' : List Ent} (r : Rep Z h M) (p : M.Perm M') : Rep Z h M' :=
  ⟨r.1, fun i x hx => by
    obtain ⟨j, hj⟩ := List.mem_iff_getElem?.mp (p.symm.subset (List.mem_of_getElem? hx))
    exact r.2.1 j x hj, (p.map _).nodup_iff.mp r.2.2⟩
theorem Go.perm {M' : List Ent} (p : M.Perm M') (hr : Go l Z R E Q M' k n pc Ls st) : Go l Z R E Q M k n pc Ls st := Go.rep (fun _ r => r.perm p) hr
theorem Go.joinI {q : Nat} {Ls' : Array Slot} {st' : List Value} (v : Int32) (hJ : Go l Z R E Q M k n q Ls' (.int v :: st')) (hr : (∀ c : Int32, c = v → Go l Z R E Q M k n q Ls' (.int c :: st')) → Go l Z R E Q M k n pc Ls st) : Go l Z R E Q M k n pc Ls st := hr fun c e => e ▸ hJ
theorem Go.castI {u w : Int32} (h : u = w) (hr : Go l Z R E Q M k n pc Ls (.int w :: st)) : Go l Z R E Q M k n pc Ls (.int u :: st) := h ▸ hr
/-! plain steps -/
theorem Go.aloadN (C : Cx Z x code maxL ret E) {j : Fin 4} {v : Value} (hd : decode code pc = .ok (.aload_n j, 1)) (hq : pc + 1 = q) (hl : Ls[j.val]? = some (.val v)) (hv : v.isRef = true) (hr : Go l Z R E Q M k n q Ls (v :: st)) : Go l Z R E Q M k n pc Ls st :=
  Go.plain hr fun _ _ _ X s => XS.aloadN X.here C.1 rfl (hb C.2.2.2.1 hd) hl hv (hq ▸ s)
theorem Go.aload (C : Cx Z x code maxL ret E) {j : Nat} {v : Value} (hd : decode code pc = .ok (.aload j, 2)) (hq : pc + 2 = q) (hl : Ls[j]? = some (.val v)) (hv : v.isRef = true) (hr : Go l Z R E Q M k n q Ls (v :: st)) : Go l Z R E Q M k n pc Ls st :=
  Go.plain hr fun _ _ _ X s => XS.aload X.here C.1 rfl (hb C.2.2.2.1 hd) hl hv (hq ▸ s)
theorem Go.iloadN (C : Cx Z x code maxL ret E) {j : Fin 4} {v : Int32} (hd : decode code pc = .ok (.iload_n j, 1)) (hq : pc + 1 = q) (hl : Ls[j.val]? = some (.val (.int v))) (hr : Go l Z R E Q M k n q Ls (.int v :: st)) : Go l Z R E Q M k n pc Ls st :=
  Go.plain hr fun _ _ _ X s => XS.iloadN X.here C.1 rfl (hb C.2.2.2.1 hd) hl (hq ▸ s)
theorem Go.iload (C : Cx Z x code maxL ret E) {j : Nat} {v : Int32} (hd : decode code pc = .ok (.iload j, 2)) (hq : pc + 2 = q) (hl : Ls[j]? = some (.val (.int v))) (hr : Go l Z R E Q M k n q Ls (.int v :: st)) : Go l Z R E Q M k n pc Ls st :=
  Go.plain hr fun _ _ _ X s => XS.iload X.here C.1 rfl (hb C.2.2.2.1 hd) hl (hq ▸ s)
theorem Go.lloadN (C : Cx Z x code maxL ret E) {j : Fin 4} {v : Int64} (hd : decode code pc = .ok (.lload_n j, 1)) (hq : pc + 1 = q) (hl : Ls[j.val]? = some (.val (.long v))) (hr : Go l Z R E Q M k n q Ls (.long v :: st)) : Go l Z R E Q M k n pc Ls st :=
  Go.plain hr fun _ _ _ X s => XT.lloadN X.here C.1 rfl (hb C.2.2.2.1 hd) hl (hq ▸ s)
theorem Go.lload (C : Cx Z x code maxL ret E) {j : Nat} {v : Int64} (hd : decode code pc = .ok (.lload j, 2)) (hq : pc + 2 = q) (hl : Ls[j]? = some (.val (.long v))) (hr : Go l Z R E Q M k n q Ls (.long v :: st)) : Go l Z R E Q M k n pc Ls st :=
  Go.plain hr fun _ _ _ X s => XT.lload X.here C.1 rfl (hb C.2.2.2.1 hd) hl (hq ▸ s)
theorem Go.istoreN (C : Cx Z x code maxL ret E) {j : Fin 4} {v : Int32} (hd : decode code pc = .ok (.istore_n j, 1)) (hq : pc + 1 = q) (hl : storeLocals Ls j.val (.int v) = some Ls') (hr : Go l Z R E Q M k n q Ls' st) : Go l Z R E Q M k n pc Ls (.int v :: st) :=
  Go.plain hr fun _ _ _ X s => XS.istoreN X.here C.1 rfl (hb C.2.2.2.1 hd) rfl hl (hq ▸ s)
theorem Go.istore (C : Cx Z x code maxL ret E) {j : Nat} {v : Int32} (hd : decode code pc = .ok (.istore j, 2)) (hq : pc + 2 = q) (hl : storeLocals Ls j (.int v) = some Ls') (hr : Go l Z R E Q M k n q Ls' st) : Go l Z R E Q M k n pc Ls (.int v :: st) :=
  Go.plain hr fun _ _ _ X s => XS.istore X.here C.1 rfl (hb C.2.2.2.1 hd) rfl hl (hq ▸ s)
theorem Go.lstoreN (C : Cx Z x code maxL ret E) {j : Fin 4} {v : Int64} (hd : decode code pc = .ok (.lstore_n j, 1)) (hq : pc + 1 = q) (hl : storeLocals Ls j.val (.long v) = some Ls') (hr : Go l Z R E Q M k n q Ls' st) : Go l Z R E Q M k n pc Ls (.long v :: st) :=
  Go.plain hr fun _ _ _ X s => XT.lstoreN X.here C.1 rfl (hb C.2.2.2.1 hd) rfl hl (hq ▸ s)
theorem Go.astoreN (C : Cx Z x code maxL ret E) {j : Fin 4} {v : Value} (hd : decode code pc = .ok (.astore_n j, 1)) (hq : pc + 1 = q) (hv : v.isRef = true) (hl : storeLocals Ls j.val v = some Ls') (hr : Go l Z R E Q M k n q Ls' st) : Go l Z R E Q M k n pc Ls (v :: st) :=
  Go.plain hr fun _ _ _ X s => XS.astoreN X.here C.1 rfl (hb C.2.2.2.1 hd) rfl hv hl (hq ▸ s)
theorem Go.astore (C : Cx Z x code maxL ret E) {j : Nat} {v : Value} (hd : decode code pc = .ok (.astore j, 2)) (hq : pc + 2 = q) (hv : v.isRef = true) (hl : storeLocals Ls j v = some Ls') (hr : Go l Z R E Q M k n q Ls' st) : Go l Z R E Q M k n pc Ls (v :: st) :=
  Go.plain hr fun _ _ _ X s => XS.astore X.here C.1 rfl (hb C.2.2.2.1 hd) rfl hv hl (hq ▸ s)
theorem Go.iconst (C : Cx Z x code maxL ret E) {i : Int} {v : Int32} (hd : decode code pc = .ok (.iconst i, 1)) (hq : pc + 1 = q) (hv : Int32.ofInt i = v) (hr : Go l Z R E Q M k n q Ls (.int v :: st)) : Go l Z R E Q M k n pc Ls st :=
  Go.plain hr fun _ _ _ X s => XS.iconst X.here C.1 rfl (hb C.2.2.2.1 hd) (hv ▸ hq ▸ s)
theorem Go.bipush (C : Cx Z x code maxL ret E) {i : Int} {v : Int32} (hd : decode code pc = .ok (.bipush i, 2)) (hq : pc + 2 = q) (hv : (Int8.ofInt i).toInt32 = v) (hr : Go l Z R E Q M k n q Ls (.int v :: st)) : Go l Z R E Q M k n pc Ls st :=
  Go.plain hr fun _ _ _ X s => XS.bipush X.here C.1 rfl (hb C.2.2.2.1 hd) (hv ▸ hq ▸ s)
theorem Go.sipush (C : Cx Z x code maxL ret E) {i : Int} {v : Int32} (hd : decode code pc = .ok (.sipush i, 3)) (hq : pc + 3 = q) (hv : (Int16.ofInt i).toInt32 = v) (hr : Go l Z R E Q M k n q Ls (.int v :: st)) : Go l Z R E Q M k n pc Ls st :=
  Go.plain hr fun _ _ _ X s => XS.sipush X.here C.1 rfl (hb C.2.2.2.1 hd) (hv ▸ hq ▸ s)
theorem Go.aconstNull (C : Cx Z x code maxL ret E) (hd : decode code pc = .ok (.aconst_null, 1)) (hq : pc + 1 = q) (hr : Go l Z R E Q M k n q Ls (.null :: st)) : Go l Z R E Q M k n pc Ls st :=
  Go.plain hr fun _ _ _ X s => XS.aconstNull X.here C.1 rfl (hb C.2.2.2.1 hd) (hq ▸ s)
theorem Go.ldcI (C : Cx Z x code maxL ret E) {i : Nat} {v : Int32} (w : (Cond.constant x.cls i v).before a0 Z = true) (hd : decode code pc = .ok (.ldc i, 2)) (hq : pc + 2 = q) (hr : Go l Z R E Q M k n q Ls (.int v :: st)) : Go l Z R E Q M k n pc Ls st :=
  Go.plain hr fun _ _ _ X s => Stand.ldcI X C.1 C.2.2.1 (mv C.2.1 w) rfl (hb C.2.2.2.1 hd) (hq ▸ s)
theorem Go.ldc2J (C : Cx Z x code maxL ret E) {i : Nat} {v : Int64} (w : (Cond.constantLong x.cls i v).before a0 Z = true) (hd : decode code pc = .ok (.ldc2_w i, 3)) (hq : pc + 3 = q) (hr : Go l Z R E Q M k n q Ls (.long v :: st)) : Go l Z R E Q M k n pc Ls st :=
  Go.plain hr fun _ _ _ X s => Stand.ldc2J X C.1 C.2.2.1 (mv C.2.1 w) rfl (hb C.2.2.2.1 hd) (hq ▸ s)
theorem Go.dup (C : Cx Z x code maxL ret E) {v : Value} (hd : decode code pc = .ok (.dup, 1)) (hq : pc + 1 = q) (hc : v.category = 1) (hr : Go l Z R E Q M k n q Ls (v :: v :: st)) : Go l Z R E Q M k n pc Ls (v :: st) :=
  Go.plain hr fun _ _ _ X s => XS.dup X.here C.1 rfl (hb C.2.2.2.1 hd) rfl hc (hq ▸ s)
theorem Go.iadd (C : Cx Z x code maxL ret E) {u : Int32} {v : Int32} (hd : decode code pc = .ok (.iadd, 1)) (hq : pc + 1 = q) (hr : Go l Z R E Q M k n q Ls (.int (u + v) :: st)) : Go l Z R E Q M k n pc Ls (.int v :: .int u :: st) :=
  Go.plain hr fun _ _ _ X s => XS.iadd X.here C.1 rfl (hb C.2.2.2.1 hd) rfl (hq ▸ s)
theorem Go.isub (C : Cx Z x code maxL ret E) {u : Int32} {v : Int32} (hd : decode code pc = .ok (.isub, 1)) (hq : pc + 1 = q) (hr : Go l Z R E Q M k n q Ls (.int (u - v) :: st)) : Go l Z R E Q M k n pc Ls (.int v :: .int u :: st) :=
  Go.plain hr fun _ _ _ X s => XS.isub X.here C.1 rfl (hb C.2.2.2.1 hd) rfl (hq ▸ s)
theorem Go.imul (C : Cx Z x code maxL ret E) {u : Int32} {v : Int32} (hd : decode code pc = .ok (.imul, 1)) (hq : pc + 1 = q) (hr : Go l Z R E Q M k n q Ls (.int (u * v) :: st)) : Go l Z R E Q M k n pc Ls (.int v :: .int u :: st) :=
  Go.plain hr fun _ _ _ X s => XS.imul X.here C.1 rfl (hb C.2.2.2.1 hd) rfl (hq ▸ s)
theorem Go.iand (C : Cx Z x code maxL ret E) {u : Int32} {v : Int32} (hd : decode code pc = .ok (.iand, 1)) (hq : pc + 1 = q) (hr : Go l Z R E Q M k n q Ls (.int (u &&& v) :: st)) : Go l Z R E Q M k n pc Ls (.int v :: .int u :: st) :=
  Go.plain hr fun _ _ _ X s => XS.iand X.here C.1 rfl (hb C.2.2.2.1 hd) rfl (hq ▸ s)
theorem Go.iushr (C : Cx Z x code maxL ret E) {u : Int32} {v : Int32} (hd : decode code pc = .ok (.iushr, 1)) (hq : pc + 1 = q) (hr : Go l Z R E Q M k n q Ls (.int (XT.ushr u v) :: st)) : Go l Z R E Q M k n pc Ls (.int v :: .int u :: st) :=
  Go.plain hr fun _ _ _ X s => XT.iushr X.here C.1 rfl (hb C.2.2.2.1 hd) rfl (hq ▸ s)
theorem Go.irem (C : Cx Z x code maxL ret E) {u v : Int32} (hd : decode code pc = .ok (.irem, 1)) (hq : pc + 1 = q) (hv : v ≠ 0) (hr : Go l Z R E Q M k n q Ls (.int (u % v) :: st)) : Go l Z R E Q M k n pc Ls (.int v :: .int u :: st) :=
  Go.plain hr fun _ _ _ X s => iremM X C.1 rfl (hb C.2.2.2.1 hd) rfl hv (hq ▸ s)
theorem Go.goto (C : Cx Z x code maxL ret E) {o : Int} (hd : decode code pc = .ok (.goto o, 3)) (ho : 0 ≤ (pc : Int) + o) (hq : ((pc : Int) + o).toNat = q) (hr : Go l Z R E Q M k n q Ls st) : Go l Z R E Q M k n pc Ls st :=
  Go.plain hr fun _ _ _ X s => XS.goto X.here C.1 rfl rfl (hb C.2.2.2.1 hd) ho hq s
theorem Go.ifYes (C : Cx Z x code maxL ret E) {cd : ClassFile.Cond} {o : Int} {u : Int32} (hd : decode code pc = .ok (.ifCond cd o, 3)) (ho : 0 ≤ (pc : Int) + o) (hq : ((pc : Int) + o).toNat = q) (hc : ifCond.holds cd u = true) (hr : Go l Z R E Q M k n q Ls st) : Go l Z R E Q M k n pc Ls (.int u :: st) :=
  Go.plain hr fun _ _ _ X s => XS.ifYes X.here C.1 rfl rfl (hb C.2.2.2.1 hd) rfl hc ho hq s
theorem Go.ifNo (C : Cx Z x code maxL ret E) {cd : ClassFile.Cond} {o : Int} {u : Int32} (hd : decode code pc = .ok (.ifCond cd o, 3)) (hq : pc + 3 = q) (hc : ifCond.holds cd u = false) (hr : Go l Z R E Q M k n q Ls st) : Go l Z R E Q M k n pc Ls (.int u :: st) :=
  Go.plain hr fun _ _ _ X s => XS.ifNo X.here C.1 rfl (hb C.2.2.2.1 hd) rfl hc (hq ▸ s)
theorem Go.icmpYes (C : Cx Z x code maxL ret E) {cd : ClassFile.Cond} {o : Int} {u v : Int32} (hd : decode code pc = .ok (.if_icmp cd o, 3)) (ho : 0 ≤ (pc : Int) + o) (hq : ((pc : Int) + o).toNat = q) (hc : if_icmp.holds cd u v = true) (hr : Go l Z R E Q M k n q Ls st) : Go l Z R E Q M k n pc Ls (.int v :: .int u :: st) :=
  Go.plain hr fun _ _ _ X s => XS.icmpYes X.here C.1 rfl rfl (hb C.2.2.2.1 hd) rfl hc ho hq s
theorem Go.icmpNo (C : Cx Z x code maxL ret E) {cd : ClassFile.Cond} {o : Int} {u v : Int32} (hd : decode code pc = .ok (.if_icmp cd o, 3)) (hq : pc + 3 = q) (hc : if_icmp.holds cd u v = false) (hr : Go l Z R E Q M k n q Ls st) : Go l Z R E Q M k n pc Ls (.int v :: .int u :: st) :=
  Go.plain hr fun _ _ _ X s => XS.icmpNo X.here C.1 rfl (hb C.2.2.2.1 hd) rfl hc (hq ▸ s)
theorem Go.nonnullYes (C : Cx Z x code maxL ret E) {o : Int} {v : Value} (hd : decode code pc = .ok (.ifnonnull o, 3)) (ho : 0 ≤ (pc : Int) + o) (hq : ((pc : Int) + o).toNat = q) (hu : v.isRef = true) (hv : ¬ v = .null) (hr : Go l Z R E Q M k n q Ls st) : Go l Z R E Q M k n pc Ls (v :: st) :=
  Go.plain hr fun _ _ _ X s => XT.nonnullYes X.here C.1 rfl rfl (hb C.2.2.2.1 hd) rfl hu hv ho hq s
def icP : ClassFile.Cond → Int32 → Prop
  | .eq, u => u = 0 | .ne, u => ¬ u = 0 | .lt, u => u < 0 | .ge, u => ¬ u < 0 | .gt, u => 0 < u | .le, u => ¬ 0 < u
def icN : ClassFile.Cond → Int32 → Prop
  | .eq, u => ¬ u = 0 | .ne, u => u = 0 | .lt, u => ¬ u < 0 | .ge, u => u < 0 | .gt, u => ¬ 0 < u | .le, u => 0 < u
def iiP : ClassFile.Cond → Int32 → Int32 → Prop
  | .eq, u, v => u = v | .ne, u, v => ¬ u = v | .lt, u, v => u < v | .ge, u, v => ¬ u < v | .gt, u, v => v < u | .le, u, v => ¬ v < u
def iiN : ClassFile.Cond → Int32 → Int32 → Prop
  | .eq, u, v => ¬ u = v | .ne, u, v => u = v | .lt, u, v => ¬ u < v | .ge, u, v => u < v | .gt, u, v => ¬ v < u | .le, u, v => v < u
def llP : ClassFile.Cond → Int64 → Int64 → Prop
  | .eq, u, v => u = v | .ne, u, v => ¬ u = v | .lt, u, v => u < v | .ge, u, v => ¬ u < v | .gt, u, v => v < u | .le, u, v => ¬ v < u
def llN : ClassFile.Cond → Int64 → Int64 → Prop
  | .eq, u, v => ¬ u = v | .ne, u, v => u = v | .lt, u, v => ¬ u < v | .ge, u, v => u < v | .gt, u, v => ¬ v < u | .le, u, v => v < u
theorem ic_or (cd : ClassFile.Cond) (u : Int32) : (ifCond.holds cd u = true ∧ icP cd u) ∨ (ifCond.holds cd u = false ∧ icN cd u) := by
  cases cd
  · by_cases h : u = 0
    · exact Or.inl ⟨XT.i0_eq_t h, h⟩
    · exact Or.inr ⟨XT.i0_eq_f h, h⟩
  · by_cases h : u = 0
    · exact Or.inr ⟨XT.i0_ne_f h, h⟩
    · exact Or.inl ⟨XT.i0_ne_t h, h⟩
  · by_cases h : u < 0
    · exact Or.inl ⟨XT.i0_lt_t h, h⟩
    · exact Or.inr ⟨XT.i0_lt_f h, h⟩
  · by_cases h : u < 0
    · exact Or.inr ⟨XT.i0_ge_f h, h⟩
    · exact Or.inl ⟨XT.i0_ge_t h, h⟩
  · by_cases h : 0 < u
    · exact Or.inl ⟨XT.i0_gt_t h, h⟩
    · exact Or.inr ⟨XT.i0_gt_f h, h⟩
  · by_cases h : 0 < u
    · exact Or.inr ⟨XT.i0_le_f h, h⟩
    · exact Or.inl ⟨XT.i0_le_t h, h⟩
theorem ii_or (cd : ClassFile.Cond) (u v : Int32) : (if_icmp.holds cd u v = true ∧ iiP cd u v) ∨ (if_icmp.holds cd u v = false ∧ iiN cd u v) := by
  cases cd
  · by_cases h : u = v
    · exact Or.inl ⟨XT.ii_eq_t h, h⟩
    · exact Or.inr ⟨XT.ii_eq_f h, h⟩
  · by_cases h : u = v
    · exact Or.inr ⟨XT.ii_ne_f h, h⟩
    · exact Or.inl ⟨XT.ii_ne_t h, h⟩
  · by_cases h : u < v
    · exact Or.inl ⟨XT.ii_lt_t h, h⟩
    · exact Or.inr ⟨XT.ii_lt_f h, h⟩
  · by_cases h : u < v
    · exact Or.inr ⟨XT.ii_ge_f h, h⟩
    · exact Or.inl ⟨XT.ii_ge_t h, h⟩
  · by_cases h : v < u
    · exact Or.inl ⟨XT.ii_gt_t h, h⟩
    · exact Or.inr ⟨XT.ii_gt_f h, h⟩
  · by_cases h : v < u
    · exact Or.inr ⟨XT.ii_le_f h, h⟩
    · exact Or.inl ⟨XT.ii_le_t h, h⟩
theorem ll_or (cd : ClassFile.Cond) (u v : Int64) : (ifCond.holds cd (XT.cmpL u v) = true ∧ llP cd u v) ∨ (ifCond.holds cd (XT.cmpL u v) = false ∧ llN cd u v) := by
  cases cd
  · by_cases h : u = v
    · exact Or.inl ⟨XT.ll_eq_t h, h⟩
    · exact Or.inr ⟨XT.ll_eq_f h, h⟩
  · by_cases h : u = v
    · exact Or.inr ⟨XT.ll_ne_f h, h⟩
    · exact Or.inl ⟨XT.ll_ne_t h, h⟩
  · by_cases h : u < v
    · exact Or.inl ⟨XT.ll_lt_t h, h⟩
    · exact Or.inr ⟨XT.ll_lt_f h, h⟩
  · by_cases h : u < v
    · exact Or.inr ⟨XT.ll_ge_f h, h⟩
    · exact Or.inl ⟨XT.ll_ge_t h, h⟩
  · by_cases h : v < u
    · exact Or.inl ⟨XT.ll_gt_t h, h⟩
    · exact Or.inr ⟨XT.ll_gt_f h, h⟩
  · by_cases h : v < u
    · exact Or.inr ⟨XT.ll_le_f h, h⟩
    · exact Or.inl ⟨XT.ll_le_t h, h⟩
theorem Go.ifc (C : Cx Z x code maxL ret E) {cd : ClassFile.Cond} {o : Int} {u : Int32} {q' : Nat} (hd : decode code pc = .ok (.ifCond cd o, 3)) (ho : 0 ≤ (pc : Int) + o) (hq : ((pc : Int) + o).toNat = q) (hq' : pc + 3 = q')
    (h1 : icP cd u → Go l Z R E Q M k n q Ls st) (h2 : icN cd u → Go l Z R E Q M k n q' Ls st) : Go l Z R E Q M k n pc Ls (.int u :: st) := by
  rcases ic_or cd u with ⟨a, b⟩ | ⟨a, b⟩
  · exact Go.ifYes C hd ho hq a (h1 b)
  · exact Go.ifNo C hd hq' a (h2 b)
theorem Go.icmp (C : Cx Z x code maxL ret E) {cd : ClassFile.Cond} {o : Int} {u v : Int32} {q' : Nat} (hd : decode code pc = .ok (.if_icmp cd o, 3)) (ho : 0 ≤ (pc : Int) + o) (hq : ((pc : Int) + o).toNat = q) (hq' : pc + 3 = q')
    (h1 : iiP cd u v → Go l Z R E Q M k n q Ls st) (h2 : iiN cd u v → Go l Z R E Q M k n q' Ls st) : Go l Z R E Q M k n pc Ls (.int v :: .int u :: st) := by
  rcases ii_or cd u v with ⟨a, b⟩ | ⟨a, b⟩
  · exact Go.icmpYes C hd ho hq a (h1 b)
  · exact Go.icmpNo C hd hq' a (h2 b)
theorem Go.lcmp (C : Cx Z x code maxL ret E) {u v : Int64} (hd : decode code pc = .ok (.lcmp, 1)) (hq : pc + 1 = q) (hr : Go l Z R E Q M k n q Ls (.int (XT.cmpL u v) :: st)) : Go l Z R E Q M k n pc Ls (.long v :: .long u :: st) :=
  Go.plain hr fun _ _ _ X s => XT.lcmp X.here C.1 rfl (hb C.2.2.2.1 hd) rfl (hq ▸ s)
theorem Go.lcmpif (C : Cx Z x code maxL ret E) {cd : ClassFile.Cond} {o : Int} {u v : Int64} {p' q' : Nat} (hd : decode code pc = .ok (.lcmp, 1)) (hp : pc + 1 = p') (hd' : decode code p' = .ok (.ifCond cd o, 3)) (ho : 0 ≤ (p' : Int) + o) (hq : ((p' : Int) + o).toNat = q) (hq' : p' + 3 = q')
    (h1 : llP cd u v → Go l Z R E Q M k n q Ls st) (h2 : llN cd u v → Go l Z R E Q M k n q' Ls st) : Go l Z R E Q M k n pc Ls (.long v :: .long u :: st) := by
  refine Go.lcmp C hd hp ?_
  rcases ll_or cd u v with ⟨a, b⟩ | ⟨a, b⟩
  · exact Go.ifYes C hd' ho hq a (h1 b)
  · exact Go.ifNo C hd' hq' a (h2 b)
def acP : ClassFile.ACond → Value → Value → Prop
  | .eq, u, v => u = v | .ne, u, v => ¬ u = v
def acN : ClassFile.ACond → Value → Value → Prop
  | .eq, u, v => ¬ u = v | .ne, u, v => u = v
theorem ac_or (cd : ClassFile.ACond) (u v : Value) : (XT.acmp cd u v = true ∧ acP cd u v) ∨ (XT.acmp cd u v = false ∧ acN cd u v) := by
  cases cd
  · by_cases h : u = v
    · exact Or.inl ⟨XT.aa_eq_t h, h⟩
    · exact Or.inr ⟨XT.aa_eq_f h, h⟩
  · by_cases h : u = v
    · exact Or.inr ⟨XT.aa_ne_f h, h⟩
    · exact Or.inl ⟨XT.aa_ne_t h, h⟩
/-! the heap -/
theorem Go.getS (C : Cx Z x code maxL ret E) {idx : Nat} {R0 O nm d host : String} {v : Value} (w : (Cond.fieldLink x.cls idx R0 nm d).before a0 Z = true ∨ (Cond.fieldLinkNest x.cls idx R0 nm d host).before a0 Z = true) (via : Via Z R0 O nm d) (S : Sta Z Z.heap O nm d v) (hd : decode code pc = .ok (.getstatic idx, 3)) (hq : pc + 3 = q) (hr : Go l Z R E Q M k n q Ls (v :: st)) : Go l Z R E Q M k n pc Ls st := by
  intro T locs X F r
  obtain ⟨T', X', e', s'⟩ := RoadKit.getS2 X C.1 C.2.1 C.2.2.1 w via rfl (S.ext r.1) (g := mkF E.2.2.2.1 pc Ls st) rfl (hb C.2.2.2.1 hd)
  obtain ⟨s₂, v, L, h1, h2⟩ := hr T' locs X' F (by rw [e']; exact r)
  exact ⟨s₂, v, L, s' _ (hq ▸ h1), h2⟩
theorem Go.getF (C : Cx Z x code maxL ret E) {idx : Nat} {R0 O nm d host : String} {a : Addr} {v : Value} (w : (Cond.fieldLink x.cls idx R0 nm d).before a0 Z = true ∨ (Cond.fieldLinkNest x.cls idx R0 nm d host).before a0 Z = true) (via : Via Z R0 O nm d) (H : ∀ h, Rep Z h M → Fld Z h a O nm d v) (hd : decode code pc = .ok (.getfield idx, 3)) (hq : pc + 3 = q) (hr : Go l Z R E Q M k n q Ls (v :: st)) : Go l Z R E Q M k n pc Ls (.ref a :: st) := by
  intro T locs X F r
  obtain ⟨T', X', e', s'⟩ := RoadKit.getF X C.1 C.2.1 C.2.2.1 w via rfl (H _ r) (g := mkF E.2.2.2.1 pc Ls (.ref a :: st)) rfl rfl (hb C.2.2.2.1 hd)
  obtain ⟨s₂, v, L, h1, h2⟩ := hr T' locs X' F (by rw [e']; exact r)
  exact ⟨s₂, v, L, s' _ (hq ▸ h1), h2⟩
theorem Go.gf (C : Cx Z x code maxL ret E) {idx : Nat} {O nm d : String} {a : Addr} {v : Value} (w : (Cond.fieldLink x.cls idx O nm d).before a0 Z = true) (i j : Nat) {K : String} {fs : Fs} (hi : M[i]? = some (a, .inl (K, fs))) (hj : fs[j]? = some ((O, nm, d), v)) (hd : decode code pc = .ok (.getfield idx, 3)) (hq : pc + 3 = q) (hr : Go l Z R E Q M k n q Ls (v :: st)) : Go l Z R E Q M k n pc Ls (.ref a :: st) :=
  Go.getF C (host := "") (Or.inl w) Via.refl (fun _ r => r.fld i j hi hj) hd hq hr
theorem Go.gv (C : Cx Z x code maxL ret E) {idx : Nat} {R0 O nm d : String} {a : Addr} {v : Value} (w : (Cond.fieldLink x.cls idx R0 nm d).before a0 Z = true) (w2 : (Cond.sameField R0 O nm d).before a0 Z = true) (i j : Nat) {K : String} {fs : Fs} (hi : M[i]? = some (a, .inl (K, fs))) (hj : fs[j]? = some ((O, nm, d), v)) (hd : decode code pc = .ok (.getfield idx, 3)) (hq : pc + 3 = q) (hr : Go l Z R E Q M k n q Ls (v :: st)) : Go l Z R E Q M k n pc Ls (.ref a :: st) :=
  Go.getF C (host := "") (Or.inl w) (Via.of w2) (fun _ r => r.fld i j hi hj) hd hq hr
theorem Go.putF (C : Cx Z x code maxL ret E) {idx kk i j : Nat} {R0 O nm d host K : String} {a : Addr} {v old : Value} {fs : Fs} {ty : FieldType} {M' : List Ent} (w : (Cond.fieldLink x.cls idx R0 nm d).before a0 Z = true ∨ (Cond.fieldLinkNest x.cls idx R0 nm d host).before a0 Z = true) (via : Via Z R0 O nm d)
    (hi : M[i]? = some (a, .inl (K, fs))) (hj : fs[j]? = some ((O, nm, d), old)) (L : (Cond.lays K O nm d).before a0 Z = true ∨ ((Cond.laysFinal K O nm d).before a0 Z = true ∧ x.cls = O ∧ x.name = "<init>")) (wi : (Cond.instantiable K kk).before a0 Z = true)
    (hty : parseFieldDescriptor d = some ty) (hn : narrow ty v = v) (hf : fits ty v = true) (hd : decode code pc = .ok (.putfield idx, 3)) (hq : pc + 3 = q) (hM : M.set i (a, .inl (K, fs.set j ((O, nm, d), v))) = M') (hr : Go l Z R E Q M' k n q Ls st) : Go l Z R E Q M k n pc Ls (v :: .ref a :: st) := by
  intro T locs X F r
  have Fl := r.fld i j hi hj
  obtain ⟨T', h', X', e', W, s'⟩ := RoadKit.putF X C.1 C.2.1 C.2.2.1 w via rfl Fl (r.exa i hi) (L.imp id fun q => ⟨q.1, q.2.1, C.2.2.2.2.2.2.2.trans q.2.2⟩) wi hty hn hf (g := mkF E.2.2.2.1 pc Ls (v :: .ref a :: st)) rfl rfl (hb C.2.2.2.1 hd)
  obtain ⟨s₂, v, L, h1, h2⟩ := hr T' _ X' (Fr.snoc X' F (r.fresh hi)) (by rw [e', ← hM]; exact r.wrote hi W ((r.2.1 i _ hi).2.put hj W))
  exact ⟨s₂, v, L, s' _ (hq ▸ h1), h2⟩
def LaidAll (Z : State) (a0 : Array Value) (K : String) : Fs → Prop
  | [] => True
  | f :: r => (Laid Z a0 K f.1.1 f.1.2.1 f.1.2.2 ∧ ∃ ty, parseFieldDescriptor f.1.2.2 = some ty ∧ f.2 = defaultValue ty) ∧ LaidAll Z a0 K r
theorem Go.pf (C : Cx Z x code maxL ret E) {idx kk : Nat} {R0 O nm d K : String} {a : Addr} {v old : Value} {fs : Fs} {ty : FieldType} {M' : List Ent} (w : (Cond.fieldLink x.cls idx R0 nm d).before a0 Z = true) (via : Via Z R0 O nm d) (i j : Nat) (hi : M[i]? = some (a, .inl (K, fs))) (hj : fs[j]? = some ((O, nm, d), old)) (L : (Cond.lays K O nm d).before a0 Z = true) (wi : (Cond.instantiable K kk).before a0 Z = true)
    (hty : parseFieldDescriptor d = some ty) (hn : narrow ty v = v) (hf : fits ty v = true) (hd : decode code pc = .ok (.putfield idx, 3)) (hq : pc + 3 = q) (hM : M.set i (a, .inl (K, fs.set j ((O, nm, d), v))) = M') (hr : Go l Z R E Q M' k n q Ls st) : Go l Z R E Q M k n pc Ls (v :: .ref a :: st) :=
  Go.putF C (host := "") (Or.inl w) via hi hj (Or.inl L) wi hty hn hf hd hq hM hr
theorem LaidAll.at {K : String} : ∀ {fs : Fs}, LaidAll Z a0 K fs → ∀ f ∈ fs, Laid Z a0 K f.1.1 f.1.2.1 f.1.2.2 ∧ ∃ ty, parseFieldDescriptor f.1.2.2 = some ty ∧ f.2 = defaultValue ty
  | _ :: _, H, f, hf => by
    rcases List.mem_cons.mp hf with rfl | q
    · exact H.1
    · exact H.2.at f q
theorem LaidAll.nodup {K : String} : ∀ {fs : Fs}, LaidAll Z a0 K fs → (fs.map fun f => f.1.2.1).Nodup → (fs.map fun f => slK Z f.1).Nodup
  | [], _, _ => List.nodup_nil
  | f :: r, H, hn => by
    rw [List.map_cons, List.nodup_cons] at hn ⊢
    refine ⟨fun m => ?_, H.2.nodup hn.2⟩
    obtain ⟨g, hg, e⟩ := List.mem_map.mp m
    obtain ⟨Lg, tg, pg, -⟩ := H.2.at g hg
    obtain ⟨Lf, tf, pf, -⟩ := H.1
    refine slot_ne Lg Lf (fun q => hn.1 ?_) pg pf e
    exact List.mem_map.mpr ⟨g, hg, q⟩
theorem Go.new (C : Cx Z x code maxL ret E) {idx n1 k' n' : Nat} {K : String} (w1 : (Cond.classLink x.cls idx K).before a0 Z = true) (w2 : (Cond.instantiable K n1).before a0 Z = true) (w3 : (Cond.initialized K).before a0 Z = true) (fs : Fs) (Lf : LaidAll Z a0 K fs) (hnd : (fs.map fun f => f.1.2.1).Nodup)
    (hd : decode code pc = .ok (.new idx, 3)) (hq : pc + 3 = q) (hc : k + 1 ≤ R.cells) (hs : n + n1 ≤ R.slots) (hk : k + 1 = k') (hn : n + n1 = n') (hr : ∀ a, Go l Z R E Q ((a, .inl (K, fs)) :: M) k' n' q Ls (.ref a :: st)) : Go l Z R E Q M k n pc Ls st := by
  intro T locs X F r
  obtain ⟨T', h', X', e', Ex, A, D, -, s'⟩ := newO X C.1 C.2.1 C.2.2.1 w1 w2 w3 rfl (g := mkF E.2.2.2.1 pc Ls st) rfl (hb C.2.2.2.1 hd) hc hs
  subst hk hn
  obtain ⟨s₂, v, L, h1, h2⟩ := hr _ T' _ X' F (by
    rw [e']
    refine r.new Ex rfl ⟨A, fun i f hf => ?_, Lf.nodup hnd⟩
    obtain ⟨La, ty, hp, hv⟩ := Lf.at f (List.mem_of_getElem? hf)
    rw [hv]
    exact D La hp)
  exact ⟨s₂, v, L, s' _ (hq ▸ h1), h2⟩
theorem Go.initO (C : Cx Z x code maxL ret E) {idx : Nat} {a : Addr} (w1 : (Cond.methodLink x.cls idx Lib.objectInit).before a0 Z = true) (w2 : (Cond.instanceMethod Lib.objectInit).before a0 Z = true) (w3 : (Cond.code Lib.objectInit ⟨#[0xb1]⟩ 1 none).before a0 Z = true) (hd : decode code pc = .ok (.invokespecial idx, 3)) (hq : pc + 3 = q) (hsz : Ls.size = maxL) (hf : 1 ≤ R.frames) {W : Nat} (hW : (st.map fun v => v.category).sum = W) (hl : W + 12 ≤ R.locals)
    (hr : Go l Z R E Q M k n q Ls st) : Go l Z R E Q M k n pc Ls (.ref a :: st) := by
  subst hW
  intro T locs X F r
  obtain ⟨T', X', e', s'⟩ := RoadKit.initO X C.1 C.2.1 C.2.2.1 w1 w2 w3 rfl (g := mkF E.2.2.2.1 pc Ls (.ref a :: st)) rfl (hsz.trans C.2.2.2.2.1.symm) rfl (hb C.2.2.2.1 hd) hf (W := (st.map fun v => v.category).sum) (by show 2 * 0 + _ ≤ _; omega) hl
  obtain ⟨s₂, v, L, h1, h2⟩ := hr T' locs X' F (by rw [e']; exact r)
  exact ⟨s₂, v, L, s' _ (hq ▸ h1), h2⟩
/-- an array that is owned, or that stood at the start -/
def ArrIs (Z : State) (h : Heap) (a : Addr) (ty : FieldType) (vs : List Value) : Prop := ∃ c : Cell, Arr Z h a c ty ∧ c.slots.toList = vs
theorem Rep.arr {h : Heap} {a : Addr} {ty : FieldType} {vs : List Value} {b : Bool} (r : Rep Z h M) (i : Nat) (hi : M[i]? = some (a, .inr (ty, vs, b))) : ArrIs Z h a ty vs := by
  obtain ⟨c, A, e, -⟩ := (r.2.1 i _ hi).2
  exact ⟨c, A, e⟩
theorem ArrIs.ext {h h' : Heap} {a : Addr} {ty : FieldType} {vs : List Value} (A : ArrIs Z h a ty vs) (E : Ext h h') : ArrIs Z h' a ty vs := by
  obtain ⟨c, A, e⟩ := A
  exact ⟨c, A.ext E, e⟩
theorem in_of {c : Cell} {vs : List Value} {j : Int32} {v : Value} (e : c.slots.toList = vs) (h0 : ¬ j < 0) (hv : vs[j.toNatClampNeg]? = some v) : ¬ (j < 0 ∨ c.slots.size ≤ j.toNatClampNeg) ∧ c.slots[j.toNatClampNeg]? = some v := by
  subst e
  rw [Array.getElem?_toList] at hv
  have := (Array.getElem?_eq_some_iff.mp hv).1
  exact ⟨fun q => q.elim h0 fun q => by omega, hv⟩
theorem Go.arraylength (C : Cx Z x code maxL ret E) {a : Addr} {ty : FieldType} {vs : List Value} {z : Int32} (H : ∀ h, Rep Z h M → ArrIs Z h a ty vs) (hz : vs.length.toInt32 = z) (hd : decode code pc = .ok (.arraylength, 1)) (hq : pc + 1 = q) (hr : Go l Z R E Q M k n q Ls (.int z :: st)) : Go l Z R E Q M k n pc Ls (.ref a :: st) := by
  intro T locs X F r
  obtain ⟨c, A, e⟩ := H _ r
  obtain ⟨s₂, v, L, h1, h2⟩ := hr T locs X F r
  refine ⟨s₂, v, L, Stand.arraylength X C.1 A.1 (State.isArrayOf_alike C.2.1.alike A.2.1) (g := mkF E.2.2.2.1 pc Ls (.ref a :: st)) rfl rfl (hb C.2.2.2.1 hd) _ ?_, h2⟩
  have : c.slots.size.toInt32 = z := by rw [← hz, ← e, Array.length_toList]
  rw [this]
  exact hq ▸ h1
theorem Go.laload (C : Cx Z x code maxL ret E) {a : Addr} {vs : List Value} {j : Int32} {v : Value} (H : ∀ h, Rep Z h M → ArrIs Z h a .long vs) (h0 : ¬ j < 0) (hv : vs[j.toNatClampNeg]? = some v) (hd : decode code pc = .ok (.laload, 1)) (hq : pc + 1 = q) (hr : Go l Z R E Q M k n q Ls (v :: st)) : Go l Z R E Q M k n pc Ls (.int j :: .ref a :: st) := by
  intro T locs X F r
  obtain ⟨c, A, e⟩ := H _ r
  obtain ⟨g1, g2⟩ := in_of e h0 hv
  obtain ⟨s₂, v, L, h1, h2⟩ := hr T locs X F r
  exact ⟨s₂, v, L, Stand.laload X C.1 A.1 (State.isArrayOf_alike C.2.1.alike A.2.1) A.2.2 g1 g2 (g := mkF E.2.2.2.1 pc Ls (.int j :: .ref a :: st)) rfl rfl (hb C.2.2.2.1 hd) _ (hq ▸ h1), h2⟩
theorem Go.zaload (C : Cx Z x code maxL ret E) {a : Addr} {vs : List Value} {j : Int32} {v : Value} (H : ∀ h, Rep Z h M → ArrIs Z h a .boolean vs) (h0 : ¬ j < 0) (hv : vs[j.toNatClampNeg]? = some v) (hd : decode code pc = .ok (.baload, 1)) (hq : pc + 1 = q) (hr : Go l Z R E Q M k n q Ls (v :: st)) : Go l Z R E Q M k n pc Ls (.int j :: .ref a :: st) := by
  intro T locs X F r
  obtain ⟨c, A, e⟩ := H _ r
  obtain ⟨g1, g2⟩ := in_of e h0 hv
  obtain ⟨s₂, v, L, h1, h2⟩ := hr T locs X F r
  exact ⟨s₂, v, L, Stand.baloadBooleans X C.1 A.1 (State.isArrayOf_alike C.2.1.alike A.2.1) A.2.2 g1 g2 (g := mkF E.2.2.2.1 pc Ls (.int j :: .ref a :: st)) rfl rfl (hb C.2.2.2.1 hd) _ (hq ▸ h1), h2⟩
theorem Go.aaload (C : Cx Z x code maxL ret E) {a : Addr} {ty : FieldType} {vs : List Value} {j : Int32} {v : Value} (H : ∀ h, Rep Z h M → ArrIs Z h a ty vs) (hty : ty.isReference = true) (h0 : ¬ j < 0) (hv : vs[j.toNatClampNeg]? = some v) (hd : decode code pc = .ok (.aaload, 1)) (hq : pc + 1 = q) (hr : Go l Z R E Q M k n q Ls (v :: st)) : Go l Z R E Q M k n pc Ls (.int j :: .ref a :: st) := by
  intro T locs X F r
  obtain ⟨c, A, e⟩ := H _ r
  obtain ⟨g1, g2⟩ := in_of e h0 hv
  obtain ⟨s₂, v, L, h1, h2⟩ := hr T locs X F r
  exact ⟨s₂, v, L, Stand.aaload X C.1 A.1 (State.isArrayOf_alike C.2.1.alike A.2.1) hty A.2.2 g1 g2 (g := mkF E.2.2.2.1 pc Ls (.int j :: .ref a :: st)) rfl rfl (hb C.2.2.2.1 hd) _ (hq ▸ h1), h2⟩
theorem Go.lastore (C : Cx Z x code maxL ret E) {a : Addr} {vs : List Value} {i : Nat} {j : Int32} {w : Int64} {w' : Value} {M' : List Ent} (hi : M[i]? = some (a, .inr (.long, vs, true))) (h0 : ¬ j < 0) (hv : j.toNatClampNeg < vs.length) (hw : .long w = w') (hd : decode code pc = .ok (.lastore, 1)) (hq : pc + 1 = q) (hM : M.set i (a, .inr (.long, vs.set j.toNatClampNeg w', true)) = M') (hr : Go l Z R E Q M' k n q Ls st) : Go l Z R E Q M k n pc Ls (.long w :: .int j :: .ref a :: st) := by
  intro T locs X F r
  subst hw
  obtain ⟨c, A, e, o⟩ := (r.2.1 i _ hi).2
  have g1 : ¬ (j < 0 ∨ c.slots.size ≤ j.toNatClampNeg) := fun q => q.elim h0 fun q => by rw [← e, Array.length_toList] at hv; omega
  obtain ⟨T', h', X', e', W, s'⟩ := stJ X C.1 C.2.1 rfl A g1 (g := mkF E.2.2.2.1 pc Ls (.long w :: .int j :: .ref a :: st)) rfl rfl (hb C.2.2.2.1 hd)
  obtain ⟨s₂, v, L, h1, h2⟩ := hr T' _ X' (Fr.snoc X' F (r.fresh hi)) (by rw [e', ← hM]; exact r.wrote hi W ((r.2.1 i _ hi).2.store W))
  exact ⟨s₂, v, L, s' _ (hq ▸ h1), h2⟩
theorem Go.zastore (C : Cx Z x code maxL ret E) {a : Addr} {vs : List Value} {i : Nat} {j : Int32} {w : Int32} {w' : Value} {M' : List Ent} (hi : M[i]? = some (a, .inr (.boolean, vs, true))) (h0 : ¬ j < 0) (hv : j.toNatClampNeg < vs.length) (hw : .int (nar .boolean w) = w') (hd : decode code pc = .ok (.bastore, 1)) (hq : pc + 1 = q) (hM : M.set i (a, .inr (.boolean, vs.set j.toNatClampNeg w', true)) = M') (hr : Go l Z R E Q M' k n q Ls st) : Go l Z R E Q M k n pc Ls (.int w :: .int j :: .ref a :: st) := by
  intro T locs X F r
  subst hw
  obtain ⟨c, A, e, o⟩ := (r.2.1 i _ hi).2
  have g1 : ¬ (j < 0 ∨ c.slots.size ≤ j.toNatClampNeg) := fun q => q.elim h0 fun q => by rw [← e, Array.length_toList] at hv; omega
  obtain ⟨T', h', X', e', W, s'⟩ := stZ X C.1 C.2.1 rfl A g1 (g := mkF E.2.2.2.1 pc Ls (.int w :: .int j :: .ref a :: st)) rfl rfl (hb C.2.2.2.1 hd)
  obtain ⟨s₂, v, L, h1, h2⟩ := hr T' _ X' (Fr.snoc X' F (r.fresh hi)) (by rw [e', ← hM]; exact r.wrote hi W ((r.2.1 i _ hi).2.store W))
  exact ⟨s₂, v, L, s' _ (hq ▸ h1), h2⟩
/-- v may lie in an array of K -/
def Fits (Z : State) (h : Heap) (K : String) (v : Value) : Prop := v = .null ∨ ∃ y, v = .ref y ∧ Ins Z h y K true
theorem Go.aastore (C : Cx Z x code maxL ret E) {a : Addr} {K : String} {vs : List Value} {i : Nat} {j : Int32} {v : Value} {M' : List Ent} (hi : M[i]? = some (a, .inr (.object K, vs, true))) (h0 : ¬ j < 0) (hv : j.toNatClampNeg < vs.length) (S : ∀ h, Rep Z h M → Fits Z h K v) (hd : decode code pc = .ok (.aastore, 1)) (hq : pc + 1 = q) (hM : M.set i (a, .inr (.object K, vs.set j.toNatClampNeg v, true)) = M') (hr : Go l Z R E Q M' k n q Ls st) : Go l Z R E Q M k n pc Ls (v :: .int j :: .ref a :: st) := by
  intro T locs X F r
  obtain ⟨c, A, e, o⟩ := (r.2.1 i _ hi).2
  have g1 : ¬ (j < 0 ∨ c.slots.size ≤ j.toNatClampNeg) := fun q => q.elim h0 fun q => by rw [← e, Array.length_toList] at hv; omega
  have g2 : Sto Z T.heap a v := (S _ r).imp id fun ⟨y, e', I⟩ => by
    subst e'
    exact (Sto.of A (o rfl K rfl) I).elim (fun q => by cases q) id
  obtain ⟨T', h', X', e', W, s'⟩ := stR X C.1 C.2.1 rfl A g1 rfl g2 (g := mkF E.2.2.2.1 pc Ls (v :: .int j :: .ref a :: st)) rfl rfl (hb C.2.2.2.1 hd)
  obtain ⟨s₂, v, L, h1, h2⟩ := hr T' _ X' (Fr.snoc X' F (r.fresh hi)) (by rw [e', ← hM]; exact r.wrote hi W ((r.2.1 i _ hi).2.store W))
  exact ⟨s₂, v, L, s' _ (hq ▸ h1), h2⟩
theorem Go.newarray (C : Cx Z x code maxL ret E) {aty : ArrayType} {z : Int32} {cap k' n' : Nat} {ty : FieldType} {vs : List Value} (w : (Cond.arrayClass ty).before a0 Z = true) (hty : newarray.typeOf aty = ty) (hpr : ∀ C, ty ≠ .object C) (h0 : ¬ z < 0) (hcap : z.toNatClampNeg ≤ cap) (hb8 : cap * 8 ≤ 536870912) (hvs : List.replicate z.toNatClampNeg (defaultValue ty) = vs) (hd : decode code pc = .ok (.newarray aty, 2)) (hq : pc + 2 = q)
    (hc : k + 1 ≤ R.cells) (hs : n + cap ≤ R.slots) (hk : k + 1 = k') (hn : n + cap = n') (hr : ∀ a, Go l Z R E Q ((a, .inr (ty, vs, true)) :: M) k' n' q Ls (.ref a :: st)) : Go l Z R E Q M k n pc Ls (.int z :: st) := by
  intro T locs X F r
  subst hty
  obtain ⟨T', h', cA, X', e', Ex, A, s'⟩ := newP X C.1 C.2.1 w rfl (g := mkF E.2.2.2.1 pc Ls (.int z :: st)) rfl (hb C.2.2.2.1 hd) rfl h0 hcap hb8 hc hs
  subst hk hn
  obtain ⟨s₂, v, L, h1, h2⟩ := hr _ T' _ X' F (by
    rw [e']
    exact r.new Ex rfl ⟨_, A, by rw [← hvs]; simp [newA], fun _ C e => absurd e (hpr C)⟩)
  exact ⟨s₂, v, L, s' _ (hq ▸ h1), h2⟩
theorem Go.anewarray (C : Cx Z x code maxL ret E) {idx : Nat} {K : String} {z : Int32} {cap k' n' : Nat} {vs : List Value} (w1 : (Cond.classLink x.cls idx K).before a0 Z = true) (w2 : (Cond.arrayOver (.object K)).before a0 Z = true) (h0 : ¬ z < 0) (hcap : z.toNatClampNeg ≤ cap) (hb8 : cap * 8 ≤ 536870912) (hvs : List.replicate z.toNatClampNeg (.null : Value) = vs) (hd : decode code pc = .ok (.anewarray idx, 3)) (hq : pc + 3 = q)
    (hc : k + 1 ≤ R.cells) (hs : n + cap ≤ R.slots) (hk : k + 1 = k') (hn : n + cap = n') (hr : ∀ a, Go l Z R E Q ((a, .inr (.object K, vs, true)) :: M) k' n' q Ls (.ref a :: st)) : Go l Z R E Q M k n pc Ls (.int z :: st) := by
  intro T locs X F r
  obtain ⟨T', h', cA, X', e', Ex, A, O, s'⟩ := newR X C.1 C.2.1 C.2.2.1 w1 w2 rfl (g := mkF E.2.2.2.1 pc Ls (.int z :: st)) rfl (hb C.2.2.2.1 hd) rfl h0 hcap hb8 hc hs
  subst hk hn
  obtain ⟨s₂, v, L, h1, h2⟩ := hr _ T' _ X' F (by
    rw [e']
    exact r.new Ex rfl ⟨_, A, by rw [← hvs]; simp [newA, defaultValue], fun _ C e => by cases e; exact O⟩)
  exact ⟨s₂, v, L, s' _ (hq ▸ h1), h2⟩
theorem Go.castY (C : Cx Z x code maxL ret E) {idx : Nat} {K : String} {a : Addr} (w : (Cond.classLink x.cls idx K).before a0 Z = true) (H : ∀ h, Rep Z h M → Ins Z h a K true) (hd : decode code pc = .ok (.checkcast idx, 3)) (hq : pc + 3 = q) (hr : Go l Z R E Q M k n q Ls (.ref a :: st)) : Go l Z R E Q M k n pc Ls (.ref a :: st) := by
  intro T locs X F r
  obtain ⟨T', X', e', s'⟩ := RoadKit.castY X C.1 C.2.1 C.2.2.1 w rfl (H _ r) (g := mkF E.2.2.2.1 pc Ls (.ref a :: st)) rfl rfl (hb C.2.2.2.1 hd)
  obtain ⟨s₂, v, L, h1, h2⟩ := hr T' locs X' F (by rw [e']; exact r)
  exact ⟨s₂, v, L, s' _ (hq ▸ h1), h2⟩
theorem nsRoot {O K : String} {kk : Nat} (w : (Cond.noSuperclass O).before a0 Z = true) (wk : (Cond.instantiable K kk).before a0 Z = true) (hn : O ≠ K) : NS Z O K := by
  obtain ⟨c, k, h1, h2, h3, -, -⟩ := Cond.noSuperclass_spec w
  obtain ⟨t, _, g1, -⟩ := Cond.instantiable_spec wk
  have ne := ids_ne h1 g1 hn
  refine ⟨c, t, h1, g1, fun fuel => ?_⟩
  cases fuel with
  | zero => rfl
  | succ f => simp [Vm.isSubclassAux, ne, h2, h3]
theorem nsNo {C' S K : String} {kk : Nat} (w : (Cond.superclass C' S).before a0 Z = true) (wk : (Cond.instantiable K kk).before a0 Z = true) (n : NS Z C' K) (hn : C' ≠ K) : ∃ c t, Z.vm.findClass C' = some c ∧ Z.vm.findClass K = some t ∧ Z.vm.assignable c t = false := by
  obtain ⟨c, t, h0, g0, n3⟩ := n
  obtain ⟨p, k, kp, h1, h2, h3, h4, h5, -, h7⟩ := Cond.superclass_spec h0 w
  obtain ⟨t', k', g1, g2, g5, g7, -⟩ := Cond.instantiable_spec wk
  cases g0.symm.trans g1
  have ne := ids_ne h0 g0 hn
  have g8 : k'.isInterface = false := by cases h : k'.isInterface <;> simp [h] at g7 ⊢
  refine ⟨c, t, h0, g0, ?_⟩
  show Z.vm.assignableAux (255 + 1) c t = false
  simp [Vm.assignableAux, ne, h2, g2, h5, g5, g8, Vm.isSubclass, n3]
/-! calls -/
theorem nf_sel {K : String} {y z : MethodName} (w : (Cond.selects K y y).before a0 Z = true) : ∀ s : State, Z.Warmed39 s.vm → NotFace s y := fun s hZ => notFace_of_selects (args := #[]) (mvT hZ w)
theorem nf_same {K : String} {y y' : MethodName} (hc : y.cls = y'.cls) (w : (Cond.selects K y' y').before a0 Z = true) : ∀ s : State, Z.Warmed39 s.vm → NotFace s y := fun s hZ r0 h0 => by
  obtain ⟨c2, r2, m2, q1, q2, q3, q4, kP, hkP, hkPi⟩ := Cond.selects_spec (mvT (args := #[]) hZ w)
  have e1 := findClass_of_methodNamed h0
  have e2 := findClass_of_methodNamed q3
  rw [hc, e2] at e1
  have e3 := Option.some.inj e1
  exact ⟨kP, e3 ▸ hkP, hkPi⟩
theorem nf_sup {y : MethodName} {S : String} (w : (Cond.superclass y.cls S).before a0 Z = true) : ∀ s : State, Z.Warmed39 s.vm → NotFace s y := fun s hZ => nf_super (args := #[]) (mvT hZ w)
theorem nf_topS {y : MethodName} (w : (Cond.noSuperclass y.cls).before a0 Z = true) : ∀ s : State, Z.Warmed39 s.vm → NotFace s y := fun s hZ => nf_top (args := #[]) (mvT hZ w)
theorem sel_priv {y : MethodName} {n1 : Nat} (w1 : (Cond.instantiable y.cls n1).before a0 Z = true) (w2 : (Cond.instanceMethod y).before a0 Z = true) (w3 : (Cond.privateMethod y).before a0 Z = true) (hy : y.cls ≠ "java/lang/invoke/MethodHandle" ∧ y.cls ≠ "java/lang/invoke/VarHandle") : (Cond.selects y.cls y y).before a0 Z = true := by
  obtain ⟨c, k, h1, h2, -, h3, -⟩ := Cond.instantiable_spec w1
  exact selects_self_of_private h1 h2 (by simp at h3; exact h3.1) (Cond.privateMethod_at w3) w2 hy
section Calls
variable {y : MethodName} {bytes : ByteArray} {mL : Nat} {rt : Option FieldType} {rm : Room} {as rest : List Value} {Qc : PQ} {idx k' n' : Nat}
theorem len_ok {d : String} (h : (parseMethodDescriptor d).map (fun s => s.parameters.length) = some as.length) : ∀ sig, parseMethodDescriptor d = some sig → as.length = sig.parameters.length := fun sig e => by
  rw [e] at h
  exact (Option.some.inj h).symm
theorem Go.callS (C : Cx Z x code maxL ret E) (w1 : (Cond.methodLink x.cls idx y).before a0 Z = true) (w2 : (Cond.static y).before a0 Z = true) (w3 : (Cond.initialized y.cls).before a0 Z = true) (w4 : (Cond.code y bytes mL rt).before a0 Z = true) (hM : Met l Z y bytes mL rt rm as.toArray M Qc) (hst : st = as.reverse ++ rest)
    (hd : decode code pc = .ok (.invokestatic idx, 3)) (hq : pc + 3 = q) (hy : y.cls ≠ "java/lang/invoke/MethodHandle" ∧ y.cls ≠ "java/lang/invoke/VarHandle") (hsz : Ls.size = maxL) {na W : Nat} (hlen : (parseMethodDescriptor y.desc).map (fun s => s.parameters.length) = some na) (hna : as.length = na) (hf : rm.frames + 1 ≤ R.frames) (hW : (rest.map fun v => v.category).sum = W) (hl : W + (mL + 11) + rm.locals ≤ R.locals) (hc : k + rm.cells ≤ R.cells) (hs : n + rm.slots ≤ R.slots) (hk : k + rm.cells = k') (hn : n + rm.slots = n')
    (hr : ∀ v M', Qc v M' → Go l Z R E Q M' k' n' q Ls (v.toList ++ rest)) : Go l Z R E Q M k n pc Ls st := by
  subst hna hW
  intro T locs X F r
  obtain ⟨v, _, ⟨T', L', c', s'⟩, -, X', ⟨Lc, hQ, l', y', z'⟩, hst'⟩ := Jvm.LawKit.callS X C.1 C.2.2.1 (mvT C.2.1 w1) (mvT C.2.1 w2) (mvT C.2.1 w3) (mvT C.2.1 w4) hy (backOf (W := (rest.map fun v => v.category).sum) (h := T.heap) (Q := fun v h L => Fr Z.heap.size L ∧ ∃ M', Qc v M' ∧ Rep Z h M') (hM [] _ r) C.2.1 w4 w3 hf hl) (g := mkF E.2.2.2.1 pc Ls st) rfl (hsz.trans C.2.2.2.2.1.symm) (argsL := as) (rest := rest) (len_ok hlen) hst (by show 2 * 0 + _ ≤ _; omega) (hb C.2.2.2.1 hd) (fun _ _ => ⟨rfl, rfl, hc, hs⟩)
  dsimp only [Pt.U, Pt.locs, Pt.cells, Pt.slots] at X' l' y' z' hst' hQ
  obtain ⟨FL, M', hQ', r'⟩ := hQ
  subst l' y' z' hk hn
  obtain ⟨s₂, v, L, h1, h2⟩ := hr v M' hQ' T' _ X' (F.app FL) r'
  exact ⟨s₂, v, L, hst' _ (hq ▸ h1), h2⟩
theorem Go.callI (C : Cx Z x code maxL ret E) {a : Addr} (w1 : (Cond.methodLink x.cls idx y).before a0 Z = true) (w2 : (Cond.instanceMethod y).before a0 Z = true) (w3 : (Cond.initialized y.cls).before a0 Z = true) (w4 : (Cond.code y bytes mL none).before a0 Z = true) (hM : Met l Z y bytes mL none rm (.ref a :: as).toArray M Qc) (hst : st = as.reverse ++ .ref a :: rest) (hy1 : y.name = "<init>")
    (hd : decode code pc = .ok (.invokespecial idx, 3)) (hq : pc + 3 = q) (hy : y.cls ≠ "java/lang/invoke/MethodHandle" ∧ y.cls ≠ "java/lang/invoke/VarHandle") (hsz : Ls.size = maxL) {na W : Nat} (hlen : (parseMethodDescriptor y.desc).map (fun s => s.parameters.length) = some na) (hna : as.length = na) (hf : rm.frames + 1 ≤ R.frames) (hW : (rest.map fun v => v.category).sum = W) (hl : W + (mL + 11) + rm.locals ≤ R.locals) (hc : k + rm.cells ≤ R.cells) (hs : n + rm.slots ≤ R.slots) (hk : k + rm.cells = k') (hn : n + rm.slots = n')
    (hr : ∀ v M', Qc v M' → Go l Z R E Q M' k' n' q Ls (v.toList ++ rest)) : Go l Z R E Q M k n pc Ls st := by
  subst hna hW
  intro T locs X F r
  obtain ⟨v, _, ⟨T', L', c', s'⟩, -, X', ⟨Lc, hQ, l', y', z'⟩, hst'⟩ := Stand.specialBack X C.1 hy1 C.2.2.1 (mvT C.2.1 w1) (mvT C.2.1 w2) (mvT C.2.1 w4) hy (backOf (W := (rest.map fun v => v.category).sum) (h := T.heap) (Q := fun v h L => Fr Z.heap.size L ∧ ∃ M', Qc v M' ∧ Rep Z h M') (hM [] _ r) C.2.1 w4 w3 hf hl) (g := mkF E.2.2.2.1 pc Ls st) rfl (hsz.trans C.2.2.2.2.1.symm) (Steps.refl _) (a := a) (argsL := as) (rest := rest) (len_ok hlen) hst (by show 2 * 0 + _ ≤ _; omega) (hb C.2.2.2.1 hd) (fun _ _ => ⟨rfl, rfl, hc, hs⟩)
  dsimp only [Pt.U, Pt.locs, Pt.cells, Pt.slots] at X' l' y' z' hst' hQ
  obtain ⟨FL, M', hQ', r'⟩ := hQ
  subst l' y' z' hk hn
  obtain ⟨s₂, v, L, h1, h2⟩ := hr v M' hQ' T' _ X' (F.app FL) r'
  exact ⟨s₂, v, L, hst'.trans (hq ▸ h1), h2⟩
theorem Go.callV (C : Cx Z x code maxL ret E) {a : Addr} {K : String} {z : MethodName} (w1 : (Cond.methodLink x.cls idx y).before a0 Z = true) (w2 : (Cond.declares y).before a0 Z = true) (nf : ∀ s : State, Z.Warmed39 s.vm → NotFace s y) (w3 : (Cond.selects K y z).before a0 Z = true) (w4 : (Cond.instanceMethod z).before a0 Z = true) (w5 : (Cond.code z bytes mL rt).before a0 Z = true) (w6 : (Cond.initialized z.cls).before a0 Z = true) (H : ∀ h, Rep Z h M → Exa Z h a K) (hM : Met l Z z bytes mL rt rm (.ref a :: as).toArray M Qc) (hst : st = as.reverse ++ .ref a :: rest)
    (hd : decode code pc = .ok (.invokevirtual idx, 3)) (hq : pc + 3 = q) (hy : y.cls ≠ "java/lang/invoke/MethodHandle" ∧ y.cls ≠ "java/lang/invoke/VarHandle") (hsz : Ls.size = maxL) {na W : Nat} (hlen : (parseMethodDescriptor y.desc).map (fun s => s.parameters.length) = some na) (hna : as.length = na) (hf : rm.frames + 1 ≤ R.frames) (hW : (rest.map fun v => v.category).sum = W) (hl : W + (mL + 11) + rm.locals ≤ R.locals) (hc : k + rm.cells ≤ R.cells) (hs : n + rm.slots ≤ R.slots) (hk : k + rm.cells = k') (hn : n + rm.slots = n')
    (hr : ∀ v M', Qc v M' → Go l Z R E Q M' k' n' q Ls (v.toList ++ rest)) : Go l Z R E Q M k n pc Ls st := by
  subst hna hW
  intro T locs X F r
  have nf' : NotFace E.2.2.1 y := nf _ C.2.1
  obtain ⟨_, _, q1, q2, q3⟩ := isOf C.2.1 (rfl : T.heap = T.heap) (H _ r)
  obtain ⟨v, _, ⟨T', L', c', s'⟩, -, X', ⟨Lc, hQ, l', y', z'⟩, hst'⟩ := Stand.virtualBack X C.1 C.2.2.1 (mvT C.2.1 w1) (mvT C.2.1 w2) nf' (mvT C.2.1 w3) (mvT C.2.1 w4) hy (backOf (W := (rest.map fun v => v.category).sum) (h := T.heap) (Q := fun v h L => Fr Z.heap.size L ∧ ∃ M', Qc v M' ∧ Rep Z h M') (hM [] _ r) C.2.1 w5 w6 hf hl) q1 q3 (g := mkF E.2.2.2.1 pc Ls st) rfl (hsz.trans C.2.2.2.2.1.symm) (Steps.refl _) (argsL := as) (rest := rest) (len_ok hlen) hst (by show 2 * 0 + _ ≤ _; omega) (hb C.2.2.2.1 hd) (fun _ _ => ⟨rfl, rfl, hc, hs⟩)
  dsimp only [Pt.U, Pt.locs, Pt.cells, Pt.slots] at X' l' y' z' hst' hQ
  obtain ⟨FL, M', hQ', r'⟩ := hQ
  subst l' y' z' hk hn
  obtain ⟨s₂, v, L, h1, h2⟩ := hr v M' hQ' T' _ X' (F.app FL) r'
  exact ⟨s₂, v, L, hst'.trans (hq ▸ h1), h2⟩
theorem Go.callU (C : Cx Z x code maxL ret E) {a : Addr} {K owner : String} {z : MethodName} (w1 : (Cond.methodLink x.cls idx y).before a0 Z = true) (w2 : (Cond.sameMethod y.cls owner y.name y.desc).before a0 Z = true) (w2' : (Cond.declares ⟨owner, y.name, y.desc⟩).before a0 Z = true) (w3 : (Cond.selects K y z).before a0 Z = true) (w4 : (Cond.instanceMethod z).before a0 Z = true) (w5 : (Cond.code z bytes mL rt).before a0 Z = true) (w6 : (Cond.initialized z.cls).before a0 Z = true) (H : ∀ h, Rep Z h M → Exa Z h a K) (hM : Met l Z z bytes mL rt rm (.ref a :: as).toArray M Qc) (hst : st = as.reverse ++ .ref a :: rest)
    (hd : decode code pc = .ok (.invokevirtual idx, 3)) (hq : pc + 3 = q) (hy : owner ≠ "java/lang/invoke/MethodHandle" ∧ owner ≠ "java/lang/invoke/VarHandle") (hsz : Ls.size = maxL) {na W : Nat} (hlen : (parseMethodDescriptor y.desc).map (fun s => s.parameters.length) = some na) (hna : as.length = na) (hf : rm.frames + 1 ≤ R.frames) (hW : (rest.map fun v => v.category).sum = W) (hl : W + (mL + 11) + rm.locals ≤ R.locals) (hc : k + rm.cells ≤ R.cells) (hs : n + rm.slots ≤ R.slots) (hk : k + rm.cells = k') (hn : n + rm.slots = n')
    (hr : ∀ v M', Qc v M' → Go l Z R E Q M' k' n' q Ls (v.toList ++ rest)) : Go l Z R E Q M k n pc Ls st := by
  subst hna hW
  intro T locs X F r
  obtain ⟨_, _, q1, q2, q3⟩ := isOf C.2.1 (rfl : T.heap = T.heap) (H _ r)
  obtain ⟨v, _, ⟨T', L', c', s'⟩, -, X', ⟨Lc, hQ, l', y', z'⟩, hst'⟩ := Stand.virtualBackUp X C.1 C.2.2.1 (mvT C.2.1 w1) (mvT C.2.1 w2) (mvT C.2.1 w2') hy (mvT C.2.1 w3) (mvT C.2.1 w4) (backOf (W := (rest.map fun v => v.category).sum) (h := T.heap) (Q := fun v h L => Fr Z.heap.size L ∧ ∃ M', Qc v M' ∧ Rep Z h M') (hM [] _ r) C.2.1 w5 w6 hf hl) q1 q3 (g := mkF E.2.2.2.1 pc Ls st) rfl (hsz.trans C.2.2.2.2.1.symm) (Steps.refl _) (argsL := as) (rest := rest) (len_ok hlen) hst (by show 2 * 0 + _ ≤ _; omega) (hb C.2.2.2.1 hd) (fun _ _ => ⟨rfl, rfl, hc, hs⟩)
  dsimp only [Pt.U, Pt.locs, Pt.cells, Pt.slots] at X' l' y' z' hst' hQ
  obtain ⟨FL, M', hQ', r'⟩ := hQ
  subst l' y' z' hk hn
  obtain ⟨s₂, v, L, h1, h2⟩ := hr v M' hQ' T' _ X' (F.app FL) r'
  exact ⟨s₂, v, L, hst'.trans (hq ▸ h1), h2⟩
theorem Go.callP (C : Cx Z x code maxL ret E) {a : Addr} {K : String} (w1 : (Cond.methodLink x.cls idx y).before a0 Z = true) (w2 : (Cond.instanceMethod y).before a0 Z = true) (w3 : (Cond.selects y.cls y y).before a0 Z = true) (w4 : (Cond.privateMethod y).before a0 Z = true) (w5 : (Cond.code y bytes mL rt).before a0 Z = true) (w6 : (Cond.initialized y.cls).before a0 Z = true) (H : ∀ h, Rep Z h M → Exa Z h a K) (hM : Met l Z y bytes mL rt rm (.ref a :: as).toArray M Qc) (hst : st = as.reverse ++ .ref a :: rest)
    (hd : decode code pc = .ok (.invokevirtual idx, 3)) (hq : pc + 3 = q) (hy : y.cls ≠ "java/lang/invoke/MethodHandle" ∧ y.cls ≠ "java/lang/invoke/VarHandle") (hsz : Ls.size = maxL) {na W : Nat} (hlen : (parseMethodDescriptor y.desc).map (fun s => s.parameters.length) = some na) (hna : as.length = na) (hf : rm.frames + 1 ≤ R.frames) (hW : (rest.map fun v => v.category).sum = W) (hl : W + (mL + 11) + rm.locals ≤ R.locals) (hc : k + rm.cells ≤ R.cells) (hs : n + rm.slots ≤ R.slots) (hk : k + rm.cells = k') (hn : n + rm.slots = n')
    (hr : ∀ v M', Qc v M' → Go l Z R E Q M' k' n' q Ls (v.toList ++ rest)) : Go l Z R E Q M k n pc Ls st := by
  subst hna hW
  intro T locs X F r
  obtain ⟨cq, q1, q2⟩ := (H _ r).cell
  obtain ⟨v, _, ⟨T', L', c', s'⟩, -, X', ⟨Lc, hQ, l', y', z'⟩, hst'⟩ := Stand.privateBack X C.1 C.2.2.1 (mvT C.2.1 w1) (mvT C.2.1 w2) (mvT C.2.1 w3) (Cond.privateMethod_at (mvP C.2.1 w4 (args := #[]))) (mvT C.2.1 w5) hy (backOf (W := (rest.map fun v => v.category).sum) (h := T.heap) (Q := fun v h L => Fr Z.heap.size L ∧ ∃ M', Qc v M' ∧ Rep Z h M') (hM [] _ r) C.2.1 w5 w6 hf hl) (g := mkF E.2.2.2.1 pc Ls st) rfl (hsz.trans C.2.2.2.2.1.symm) (Steps.refl _) q1 q2 (argsL := as) (rest := rest) (len_ok hlen) hst (by show 2 * 0 + _ ≤ _; omega) (hb C.2.2.2.1 hd) (fun _ _ => ⟨rfl, rfl, hc, hs⟩)
  dsimp only [Pt.U, Pt.locs, Pt.cells, Pt.slots] at X' l' y' z' hst' hQ
  obtain ⟨FL, M', hQ', r'⟩ := hQ
  subst l' y' z' hk hn
  obtain ⟨s₂, v, L, h1, h2⟩ := hr v M' hQ' T' _ X' (F.app FL) r'
  exact ⟨s₂, v, L, hst'.trans (hq ▸ h1), h2⟩
theorem mvF {Z s : State} {a0 args : Array Value} {r n d : String} (hr : r ≠ "java/lang/invoke/MethodHandle" ∧ r ≠ "java/lang/invoke/VarHandle") (hZ : Z.Warmed39 s.vm) (h : (Cond.interfaceMethod r r n d).before a0 Z = true) : (Cond.interfaceMethod r r n d).before args s = true :=
  mvT hZ h (by simp [Cond.onTables, Cond.keepsFace, Cond.keeps, Cond.steady, Cond.faceAtom]; exact hr)
theorem same_of_sel {K : String} {x y : MethodName} (hy : y.cls ≠ "java/lang/invoke/MethodHandle" ∧ y.cls ≠ "java/lang/invoke/VarHandle") (w : (Cond.selects K x y).before a0 Z = true) : (Cond.sameMethod y.cls y.cls y.name y.desc).before a0 Z = true := by
  obtain ⟨c, r, m, q1, q2, q3, q4, mk, h1, h2⟩ := Cond.selects_spec w
  have hf := State.methodFound?_of_named q3 hy
  have hc := findClass_of_methodNamed q3
  have q3' : Z.methodNamed? ⟨y.cls, y.name, y.desc⟩ = some m := q3
  simp only [Cond.before, Cond.holds, Cond.value, hc, hf, q3', h1]
  simp [h2]
end Calls
/-! returns -/
theorem Go.ret0 (C : Cx Z x code maxL ret E) (hret : ret = none) (hd : decode code pc = .ok (.return_, 1)) (hc : k ≤ R.cells) (hs : n ≤ R.slots) (hQ : Q none M) : Go l Z R E Q M k n pc Ls [] := by
  intro T locs X F r
  obtain ⟨fs, hr, hrun, hended, hW, hsame⟩ := Stand.leave X (v := none) (fun _ => rfl) C.2.2.2.2.2.2.1
  exact ⟨_, none, locs, Stand.returnOut X C.1 (C.2.2.2.2.2.1.trans hret) (hb C.2.2.2.1 hd) hr, hrun, hended, F, ⟨M, hQ, r⟩, ⟨_, rfl⟩, hW, hsame.mono hc hs⟩
theorem Go.retW (C : Cx Z x code maxL ret E) {t : FieldType} {i : Instr} {w : Value} (hret : ret = some t) (hn : narrow t w = w)
    (hi : (i = .ireturn ∧ (t = .int ∨ t = .boolean ∨ t = .byte ∨ t = .char ∨ t = .short) ∧ ∃ z, w = .int z) ∨ (i = .lreturn ∧ t = .long ∧ ∃ z, w = .long z) ∨ (i = .dreturn ∧ t = .double ∧ ∃ z, w = .double z) ∨ (i = .freturn ∧ t = .float ∧ ∃ z, w = .float z) ∨ (i = .areturn ∧ t.isReference = true ∧ w.isRef = true))
    (hd : decode code pc = .ok (i, 1)) (hc : k ≤ R.cells) (hs : n ≤ R.slots) (hQ : Q (some w) M) : Go l Z R E Q M k n pc Ls (w :: st) := by
  intro T locs X F r
  obtain ⟨fs, hr, hrun, hended, hW, hsame⟩ := Stand.leave X (v := some w) (fun h => by rw [C.2.2.2.2.2.1, hret] at h; cases h) C.2.2.2.2.2.2.1
  exact ⟨_, some w, locs, retOut X C.1 (C.2.2.2.2.2.1.trans hret) hn hi (hb C.2.2.2.1 hd) hr, hrun, hended, F, ⟨M, hQ, r⟩, ⟨_, rfl⟩, hW, hsame.mono hc hs⟩
theorem Go.retI (C : Cx Z x code maxL ret E) {z : Int32} (hret : ret = some .int) (hd : decode code pc = .ok (.ireturn, 1)) (hc : k ≤ R.cells) (hs : n ≤ R.slots) (hQ : Q (some (.int z)) M) : Go l Z R E Q M k n pc Ls (.int z :: st) :=
  Go.retW C hret rfl (Or.inl ⟨rfl, Or.inl rfl, _, rfl⟩) hd hc hs hQ
theorem Go.retL (C : Cx Z x code maxL ret E) {z : Int64} (hret : ret = some .long) (hd : decode code pc = .ok (.lreturn, 1)) (hc : k ≤ R.cells) (hs : n ≤ R.slots) (hQ : Q (some (.long z)) M) : Go l Z R E Q M k n pc Ls (.long z :: st) :=
  Go.retW C hret rfl (Or.inr (Or.inl ⟨rfl, rfl, _, rfl⟩)) hd hc hs hQ
theorem Go.retZ (C : Cx Z x code maxL ret E) {z : Int32} (hret : ret = some .boolean) (hz : z &&& 1 = z) (hd : decode code pc = .ok (.ireturn, 1)) (hc : k ≤ R.cells) (hs : n ≤ R.slots) (hQ : Q (some (.int z)) M) : Go l Z R E Q M k n pc Ls (.int z :: st) :=
  Go.retW C hret (congrArg Value.int hz) (Or.inl ⟨rfl, Or.inr (Or.inl rfl), _, rfl⟩) hd hc hs hQ
theorem Go.retA (C : Cx Z x code maxL ret E) {t : FieldType} {w : Value} (hret : ret = some t) (ht : t.isReference = true) (hw : w.isRef = true) (hd : decode code pc = .ok (.areturn, 1)) (hc : k ≤ R.cells) (hs : n ≤ R.slots) (hQ : Q (some w) M) : Go l Z R E Q M k n pc Ls (w :: st) :=
  Go.retW C hret (by cases t <;> first | (cases ht; done) | rfl) (Or.inr (Or.inr (Or.inr (Or.inr ⟨rfl, ht, hw⟩)))) hd hc hs hQ
end Walk
/-! entries that have been resolved already, and a private constructor of a nest mate -/
section Ready
variable {p : Program} {l : Launch} {e : Env} {R : Room} {s : State} {m : MethodId} {args : Array Value} {below : List Frame} {meth : Method} {c : Code} {T : State} {locs : List Loc} {cells slots : Nat}
theorem getReady (X : Stand p l e R s m args below meth c T locs cells slots) (hexec : p.tables.exec = Jvm.exec) {index cf : Nat} {f : Field} (hready : T.vm.fieldReady m.cls index cf f) (hst : f.isStatic = false) {a : Addr} {cell : Cell} {v : Value} (hcell : T.heap[a]? = some cell) (hknown : cell.vm ≠ .unknown) (hslot : cell.slots[f.slot]? = some v)
    {g : JFrame} (hg : g.method = m) {rest : List Value} (hstack : g.stack = .ref a :: rest) (hdg : decode c.code g.pc = .ok (.getfield index, 3)) : ∀ target, Steps p.tables e below (T.setTop { g with pc := g.pc + 3, stack := v :: rest }) target → Steps p.tables e below (T.setTop g) target := by
  intro target hrest
  subst hg
  jvm_step X.here [hexec, hdg, getfield.wp_ready (e := e) (s := T) (f := g) X.here.top hready hst hstack hcell hknown hslot]
  exact hrest
theorem virtReady (X : Stand p l e R s m args below meth c T locs cells slots) (hexec : p.tables.exec = Jvm.exec) {index : Nat} {r0 : MethodId} {r : Method} {kr : Class} (hres : namesResolved T.vm m.cls index r0.cls) (hready : T.vm.methodReady m.cls index r0) (hkr : T.vm.classes[r0.cls]? = some kr) (hni : kr.isInterface = false) (hnp : signaturePolymorphic kr r = false) (hrm : T.vm.method? r0 = some r) (hstatic : r.isStatic = false)
    {a : Addr} {cell : Cell} (hcell : T.heap[a]? = some cell) (hobj : ∀ c, cell.vm ≠ .statics c) (hsel : selectMethod e.platform T.vm cell.cls r0 = .method r0) (habs : r.isAbstract = false) {g : JFrame} (hg : g.method = m) {argsL rest : List Value} (hlen : argsL.length = r.sig.parameters.length) (hstack : g.stack = argsL.reverse ++ .ref a :: rest) (hdg : decode c.code g.pc = .ok (.invokevirtual index, 3)) :
    ∀ target, (∀ acts, Steps p.tables e below (doInvoke e (T.setTop { g with stack := rest }) acts r0 (.ref a :: argsL).toArray).1 target) → Steps p.tables e below (T.setTop g) target := by
  intro target hrest
  subst hg
  jvm_step X.here [hexec, hdg, invokevirtual.wp_named (e := e) (s := T) (f := g) (r := r0) (m := r0) (c' := r0.cls) (k := kr) (k' := kr) (mk := kr) (rmeth := r) (meth := r) (a := a) (args := argsL) (rest := rest) (cell := cell) X.here.top hres hkr hni hready hkr hrm hnp hstatic hlen hstack hcell hobj hsel hrm habs hkr hni]
  exact hrest
theorem initReady (X : Stand p l e R s m args below meth c T locs cells slots) (hexec : p.tables.exec = Jvm.exec) {index : Nat} {r0 : MethodId} {r : Method} {kr : Class} (hres : namesResolved T.vm m.cls index r0.cls) (hready : T.vm.methodReady m.cls index r0) (hkr : T.vm.classes[r0.cls]? = some kr) (hrm : T.vm.method? r0 = some r) (hname : r.name = "<init>") (hstatic : r.isStatic = false) (habs : r.isAbstract = false) (hfound : lookupSpecial T.vm r0.cls "<init>" r.desc = .method r0)
    {a : Addr} {g : JFrame} (hg : g.method = m) {argsL rest : List Value} (hlen : argsL.length = r.sig.parameters.length) (hstack : g.stack = argsL.reverse ++ .ref a :: rest) (hdg : decode c.code g.pc = .ok (.invokespecial index, 3)) :
    ∀ target, (∀ acts, Steps p.tables e below (doInvoke e (T.setTop { g with stack := rest }) acts r0 (.ref a :: argsL).toArray).1 target) → Steps p.tables e below (T.setTop g) target := by
  intro target hrest
  subst hg
  jvm_step X.here [hexec, hdg, invokespecial.wp_init (e := e) (s := T) (k := kr) (meth := r) (m := r0) (a := a) (args := argsL) (rest := rest) (f := g) X.here.top hres hready hkr hrm hname hstatic habs hfound hlen hstack]
  exact hrest
/-- what a resolved entry says where the walk stands -/
theorem ref_now (X : Stand p l e R s m args below meth c T locs cells slots) {Z : State} {a0 : Array Value} (hZ : Z.Warmed39 s.vm) {own : String} {index : Nat} {y : MethodName} (hown : s.vm.findClass own = some m.cls) (w : (Cond.methodRef own index y).before a0 Z = true) (hy : y.cls ≠ "java/lang/invoke/MethodHandle" ∧ y.cls ≠ "java/lang/invoke/VarHandle") {mk : MethodId} (hn : s.methodNamed? y = some mk) :
    T.vm.methodReady m.cls index mk ∧ namesResolved T.vm m.cls index mk.cls := by
  have hW : Z.Warmed39 T.vm := wtrans hZ X.warmed
  have hnT : T.methodNamed? y = some mk := X.named hn
  have hnZ : Z.methodNamed? y = some mk := by
    have q : (Z.setVm s.vm).methodNamed? y = some mk := hn
    rw [State.methodNamed?_setVm hZ.alike] at q
    exact q
  have w1 : (Cond.methodRef own index y).before a0 (Z.setVm T.vm) = true := Cond.methodRef_warmed39 hW hnZ hy w
  have w2 : (Cond.methodRef own index y).before a0 T = true := w1
  have hownT : T.vm.findClass own = some m.cls := by rw [X.warmed.alike.findClass]; exact hown
  obtain ⟨m', c', h1, h2, h3, h4⟩ := Cond.methodRef_named e hownT w2
  cases (State.methodFound?_of_named hnT hy).symm.trans h1
  cases (findClass_of_methodNamed hnT).symm.trans h3
  exact ⟨h2, h4⟩
end Ready
section Walk2
variable {l : Launch} {Z : State} {R : Room} {E : E0} {Q : PQ} {M : List Ent} {k n pc q : Nat} {Ls Ls' : Array Slot} {st : List Value} {x : MethodName} {code : ByteArray} {maxL : Nat} {ret : Option FieldType} {a0 : Array Value}
variable {y : MethodName} {bytes : ByteArray} {mL : Nat} {rt : Option FieldType} {rm : Room} {as rest : List Value} {Qc : PQ} {idx k' n' : Nat}
theorem Go.getR (C : Cx Z x code maxL ret E) {idx : Nat} {O nm d : String} {a : Addr} {v : Value} (w : (Cond.fieldRef x.cls idx O nm d).before a0 Z = true) (H : ∀ h, Rep Z h M → Fld Z h a O nm d v) (hd : decode code pc = .ok (.getfield idx, 3)) (hq : pc + 3 = q) (hr : Go l Z R E Q M k n q Ls (v :: st)) : Go l Z R E Q M k n pc Ls (.ref a :: st) := by
  intro T locs X F r
  have hW : Z.Warmed39 T.vm := wtrans C.2.1 X.warmed
  have w1 : (Cond.fieldRef x.cls idx O nm d).before a0 (Z.setVm T.vm) = true := Cond.fieldRef_warmed39 hW w
  have hown : (Z.setVm T.vm).vm.findClass x.cls = some E.2.2.2.1.cls := by
    show T.vm.findClass x.cls = _
    rw [X.warmed.alike.findClass]
    exact C.2.2.1
  obtain ⟨cf, kk, i, f, h1, h2⟩ := Cond.fieldRef_spec hown w1
  obtain ⟨cell, cf', k', i', f', g1, g2, g3, g4, -, -, g7⟩ := H _ r
  obtain ⟨k2, hi, -⟩ := State.fieldFound?_setVm (s := Z) hW.alike g2
  cases hi.symm.trans h1
  obtain ⟨s₂, v, L, p1, p2⟩ := hr T locs X F r
  exact ⟨s₂, v, L, getReady X C.1 (show T.vm.fieldReady E.2.2.2.1.cls idx _ _ from h2) g3 g1 g4 g7 (g := mkF E.2.2.2.1 pc Ls (.ref a :: st)) rfl rfl (hb C.2.2.2.1 hd) _ (hq ▸ p1), p2⟩
theorem Go.callPR (C : Cx Z x code maxL ret E) {a : Addr} {K : String} (w1 : (Cond.methodRef x.cls idx y).before a0 Z = true) (w2 : (Cond.instanceMethod y).before a0 Z = true) (w3 : (Cond.selects y.cls y y).before a0 Z = true) (w4 : (Cond.privateMethod y).before a0 Z = true) (w5 : (Cond.code y bytes mL rt).before a0 Z = true) (w6 : (Cond.initialized y.cls).before a0 Z = true) (H : ∀ h, Rep Z h M → Exa Z h a K) (hM : Met l Z y bytes mL rt rm (.ref a :: as).toArray M Qc) (hst : st = as.reverse ++ .ref a :: rest)
    (hd : decode code pc = .ok (.invokevirtual idx, 3)) (hq : pc + 3 = q) (hy : y.cls ≠ "java/lang/invoke/MethodHandle" ∧ y.cls ≠ "java/lang/invoke/VarHandle") (hsz : Ls.size = maxL) {na W : Nat} (hlen : (parseMethodDescriptor y.desc).map (fun s => s.parameters.length) = some na) (hna : as.length = na) (hf : rm.frames + 1 ≤ R.frames) (hW : (rest.map fun v => v.category).sum = W) (hl : W + (mL + 11) + rm.locals ≤ R.locals) (hc : k + rm.cells ≤ R.cells) (hs : n + rm.slots ≤ R.slots) (hk : k + rm.cells = k') (hn : n + rm.slots = n')
    (hr : ∀ v M', Qc v M' → Go l Z R E Q M' k' n' q Ls (v.toList ++ rest)) : Go l Z R E Q M k n pc Ls st := by
  subst hna hW
  intro T locs X F r
  obtain ⟨cell, q1, q2⟩ := (H _ r).cell
  obtain ⟨mk, methM, hnamed, hmethM, hstM, habM⟩ := Cond.instanceMethod_spec (mvT (args := E.2.2.2.2.1) C.2.1 w2)
  obtain ⟨methM', cM, hmethM', -, -, -, -, -, -, hsigM⟩ := Cond.code_spec hnamed (mvT (args := E.2.2.2.2.1) C.2.1 w5)
  cases hmethM.symm.trans hmethM'
  obtain ⟨c2, r2, m2, -, -, q3, -, kP, hkP, hkPi⟩ := Cond.selects_spec (mvT (args := E.2.2.2.2.1) C.2.1 w3)
  cases hnamed.symm.trans q3
  have hpriv := Cond.privateMethod_at (mvP C.2.1 w4 (args := #[]))
  obtain ⟨r1, r2⟩ := ref_now X C.2.1 C.2.2.1 w1 hy hnamed
  have al := X.warmed.alike
  obtain ⟨kr, hkr, her⟩ := al.2.2 _ _ hkP
  have hrmT : T.vm.method? mk = some methM := by rw [al.method?]; exact hmethM
  obtain ⟨kx, hkx, hnx⟩ := className_of_methodNamed hnamed
  cases hkP.symm.trans hkx
  have hselP : selectMethod E.2.1.platform T.vm cell.cls mk = .method mk := by
    rw [al.selectMethod]
    exact selectMethod_private hmethM (hpriv mk methM hnamed hmethM)
  have hstep := virtReady X C.1 r2 r1 hkr (by rw [her]; exact hkPi) (by
    have h1 : kr.name = y.cls := by rw [her]; exact hnx
    simp [signaturePolymorphic, h1, hy.1, hy.2]) hrmT hstM q1 q2 hselP habM (g := mkF E.2.2.2.1 pc Ls st) rfl (argsL := as) (rest := rest) (len_ok hlen _ hsigM) hst (hb C.2.2.2.1 hd)
  have hK := backOf (R := R) (p := E.1) (e := E.2.1) (below := E.2.2.2.2.2.1) (s := E.2.2.1) (args := E.2.2.2.2.1) (len := 3) (W := (rest.map fun v => v.category).sum) (h := T.heap) (Q := fun v h L => Fr Z.heap.size L ∧ ∃ M', Qc v M' ∧ Rep Z h M') (hM [] _ r) C.2.1 w5 w6 hf hl
  obtain ⟨v, ⟨T', L', c', s'⟩, X', ⟨Lc, hQ, l', y', z'⟩, hsteps⟩ := hK E.2.2.2.1 E.2.2.2.2.2.2.1 E.2.2.2.2.2.2.2 ⟨T, locs, k, n⟩ (mkF E.2.2.2.1 pc Ls rest) (.invokevirtual idx) mk (.ref a :: as).toArray X rfl (hsz.trans C.2.2.2.2.1.symm) (hb C.2.2.2.1 hd) (by show 2 * 0 + (rest.map fun v => v.category).sum ≤ _; omega) (X.named hnamed) ⟨rfl, rfl, hc, hs⟩
  dsimp only [Pt.U, Pt.locs, Pt.cells, Pt.slots] at X' l' y' z' hsteps hQ
  obtain ⟨FL, M', hQ', r'⟩ := hQ
  subst l' y' z' hk hn
  obtain ⟨s₂, v, L, h1, h2⟩ := hr v M' hQ' T' _ X' (F.app FL) r'
  exact ⟨s₂, v, L, hstep _ fun acts => by rw [doInvoke_state]; exact hsteps.trans (hq ▸ h1), h2⟩
theorem Go.callIR (C : Cx Z x code maxL ret E) {a : Addr} (w1 : (Cond.methodRef x.cls idx y).before a0 Z = true) (w2 : (Cond.instanceMethod y).before a0 Z = true) (w3 : (Cond.initialized y.cls).before a0 Z = true) (w4 : (Cond.code y bytes mL none).before a0 Z = true) (hM : Met l Z y bytes mL none rm (.ref a :: as).toArray M Qc) (hst : st = as.reverse ++ .ref a :: rest) (hy1 : y.name = "<init>")
    (hd : decode code pc = .ok (.invokespecial idx, 3)) (hq : pc + 3 = q) (hy : y.cls ≠ "java/lang/invoke/MethodHandle" ∧ y.cls ≠ "java/lang/invoke/VarHandle") (hsz : Ls.size = maxL) {na W : Nat} (hlen : (parseMethodDescriptor y.desc).map (fun s => s.parameters.length) = some na) (hna : as.length = na) (hf : rm.frames + 1 ≤ R.frames) (hW : (rest.map fun v => v.category).sum = W) (hl : W + (mL + 11) + rm.locals ≤ R.locals) (hc : k + rm.cells ≤ R.cells) (hs : n + rm.slots ≤ R.slots) (hk : k + rm.cells = k') (hn : n + rm.slots = n')
    (hr : ∀ v M', Qc v M' → Go l Z R E Q M' k' n' q Ls (v.toList ++ rest)) : Go l Z R E Q M k n pc Ls st := by
  subst hna hW
  intro T locs X F r
  obtain ⟨mk, methM, hnamed, hmethM, hstM, habM⟩ := Cond.instanceMethod_spec (mvT (args := E.2.2.2.2.1) C.2.1 w2)
  obtain ⟨methM', cM, hmethM', -, -, -, -, -, -, hsigM⟩ := Cond.code_spec hnamed (mvT (args := E.2.2.2.2.1) C.2.1 w4)
  cases hmethM.symm.trans hmethM'
  obtain ⟨kP, hkP, hnx⟩ := className_of_methodNamed hnamed
  obtain ⟨hnameM, hdescM⟩ := name_of_methodNamed hnamed hmethM
  obtain ⟨r1, r2⟩ := ref_now X C.2.1 C.2.2.1 w1 hy hnamed
  have al := X.warmed.alike
  obtain ⟨kr, hkr, her⟩ := al.2.2 _ _ hkP
  have hrmT : T.vm.method? mk = some methM := by rw [al.method?]; exact hmethM
  have hfound : lookupSpecial T.vm mk.cls "<init>" methM.desc = .method mk := by
    rw [al.lookupSpecial, hdescM, ← hy1]
    exact lookupSpecial_of_named hnamed hmethM hstM
  have hstep := initReady X C.1 r2 r1 hkr hrmT (by rw [hnameM]; exact hy1) hstM habM hfound (a := a) (g := mkF E.2.2.2.1 pc Ls st) rfl (argsL := as) (rest := rest) (len_ok hlen _ hsigM) hst (hb C.2.2.2.1 hd)
  have hK := backOf (R := R) (p := E.1) (e := E.2.1) (below := E.2.2.2.2.2.1) (s := E.2.2.1) (args := E.2.2.2.2.1) (len := 3) (W := (rest.map fun v => v.category).sum) (h := T.heap) (Q := fun v h L => Fr Z.heap.size L ∧ ∃ M', Qc v M' ∧ Rep Z h M') (hM [] _ r) C.2.1 w4 w3 hf hl
  obtain ⟨v, ⟨T', L', c', s'⟩, X', ⟨Lc, hQ, l', y', z'⟩, hsteps⟩ := hK E.2.2.2.1 E.2.2.2.2.2.2.1 E.2.2.2.2.2.2.2 ⟨T, locs, k, n⟩ (mkF E.2.2.2.1 pc Ls rest) (.invokespecial idx) mk (.ref a :: as).toArray X rfl (hsz.trans C.2.2.2.2.1.symm) (hb C.2.2.2.1 hd) (by show 2 * 0 + (rest.map fun v => v.category).sum ≤ _; omega) (X.named hnamed) ⟨rfl, rfl, hc, hs⟩
  dsimp only [Pt.U, Pt.locs, Pt.cells, Pt.slots] at X' l' y' z' hsteps hQ
  obtain ⟨FL, M', hQ', r'⟩ := hQ
  subst l' y' z' hk hn
  obtain ⟨s₂, v, L, h1, h2⟩ := hr v M' hQ' T' _ X' (F.app FL) r'
  exact ⟨s₂, v, L, hstep _ fun acts => by rw [doInvoke_state]; exact hsteps.trans (hq ▸ h1), h2⟩
theorem Go.callIN (C : Cx Z x code maxL ret E) {a : Addr} {host : String} (w1 : (Cond.methodLinkNest x.cls idx y host).before a0 Z = true) (w2 : (Cond.instanceMethod y).before a0 Z = true) (w3 : (Cond.initialized y.cls).before a0 Z = true) (w4 : (Cond.code y bytes mL none).before a0 Z = true) (hM : Met l Z y bytes mL none rm (.ref a :: as).toArray M Qc) (hst : st = as.reverse ++ .ref a :: rest) (hy1 : y.name = "<init>")
    (hd : decode code pc = .ok (.invokespecial idx, 3)) (hq : pc + 3 = q) (hy : y.cls ≠ "java/lang/invoke/MethodHandle" ∧ y.cls ≠ "java/lang/invoke/VarHandle") (hsz : Ls.size = maxL) {na W : Nat} (hlen : (parseMethodDescriptor y.desc).map (fun s => s.parameters.length) = some na) (hna : as.length = na) (hf : rm.frames + 1 ≤ R.frames) (hW : (rest.map fun v => v.category).sum = W) (hl : W + (mL + 11) + rm.locals ≤ R.locals) (hc : k + rm.cells ≤ R.cells) (hs : n + rm.slots ≤ R.slots) (hk : k + rm.cells = k') (hn : n + rm.slots = n')
    (hr : ∀ v M', Qc v M' → Go l Z R E Q M' k' n' q Ls (v.toList ++ rest)) : Go l Z R E Q M k n pc Ls st := by
  subst hna hW
  intro T locs X F r
  have w1' : (Cond.methodLinkNest x.cls idx y host).before a0 (Z.setVm E.2.2.1.vm) = true := Cond.methodLinkNest_wide C.2.1 w1
  obtain ⟨v, _, ⟨T', L', c', s'⟩, -, X', ⟨Lc, hQ, l', y', z'⟩, hst'⟩ := Stand.specialBackNest X C.1 hy1 C.2.2.1 (show (Cond.methodLinkNest x.cls idx y host).before E.2.2.2.2.1 E.2.2.1 = true from w1') (mvT C.2.1 w2) (mvT C.2.1 w4) hy (backOf (W := (rest.map fun v => v.category).sum) (h := T.heap) (Q := fun v h L => Fr Z.heap.size L ∧ ∃ M', Qc v M' ∧ Rep Z h M') (hM [] _ r) C.2.1 w4 w3 hf hl) (g := mkF E.2.2.2.1 pc Ls st) rfl (hsz.trans C.2.2.2.2.1.symm) (Steps.refl _) (a := a) (argsL := as) (rest := rest) (len_ok hlen) hst (by show 2 * 0 + _ ≤ _; omega) (hb C.2.2.2.1 hd) (fun _ _ => ⟨rfl, rfl, hc, hs⟩)
  dsimp only [Pt.U, Pt.locs, Pt.cells, Pt.slots] at X' l' y' z' hst' hQ
  obtain ⟨FL, M', hQ', r'⟩ := hQ
  subst l' y' z' hk hn
  obtain ⟨s₂, v, L, h1, h2⟩ := hr v M' hQ' T' _ X' (F.app FL) r'
  exact ⟨s₂, v, L, hst'.trans (hq ▸ h1), h2⟩
end Walk2
theorem nar_ref {t : FieldType} {v : Value} (h : v.isRef = true) : narrow t v = v := by rcases ref_cases h with rfl | ⟨a, rfl⟩ <;> cases t <;> rfl
theorem fit_obj {K : String} {v : Value} (h : v.isRef = true) : fits (.object K) v = true := by rcases ref_cases h with rfl | ⟨a, rfl⟩ <;> rfl
theorem fld_of_eq {Z : State} {args : Array Value} {t : Term} {a : Addr} {C nm d : String} {k : Int32} (ev : t.eval args Z none [] Z = some (.ref a)) (h : (Cond.eq (.field t C nm d) (.int k)).value args Z none Z [] = some true) : Fld Z Z.heap a C nm d (.int k) := by
  obtain ⟨x, y, h1, h2, h3, h4⟩ := cmp_v (Or.inl h)
  have h2' : (Term.int k).eval args Z none [] Z = some (.int k) := rfl
  have hy : y = .int k := Option.some.inj (h2.symm.trans h2')
  subst hy
  obtain ⟨z, rfl⟩ := h4
  have : z = k := by
    have h5 : (Cond.eq (.field t C nm d) (.int k)).value args Z none Z [] = some (decide (z = k)) := by simp [Cond.value, h1, h2]
    rw [h5] at h
    exact of_decide_eq_true (Option.some.inj h)
  subst this
  rw [fld_at ev] at h1
  exact Fld.start h1
theorem mask_nn (x : Int32) : ¬ (x &&& 2147483647) < 0 := fun h => absurd ((XT.and_neg32 _ _).mp h).2 (by decide)
theorem rem_mask (x d : Int32) (hd : 0 < d.toInt) : 0 ≤ ((x &&& 2147483647) % d).toInt ∧ ((x &&& 2147483647) % d).toInt < d.toInt := by
  have h := mask_nn x
  rw [XT.negI32] at h
  rw [Int32.toInt_mod, Int.tmod_eq_emod_of_nonneg (by omega)]
  exact ⟨Int.emod_nonneg _ (by omega), Int.emod_lt_of_pos _ hd⟩
theorem bool_ok {b : Int32} (h : b = 0 ∨ b = 1) : narrow .boolean (.int b) = .int b ∧ fits .boolean (.int b) = true := by rcases h with rfl | rfl <;> exact ⟨rfl, rfl⟩
theorem ite01 {P : Prop} [Decidable P] : (if P then (1 : Int32) else 0) = 0 ∨ (if P then (1 : Int32) else 0) = 1 := by split <;> simp
theorem ite10 {P : Prop} [Decidable P] : (if P then (0 : Int32) else 1) = 0 ∨ (if P then (0 : Int32) else 1) = 1 := by split <;> simp
theorem and1 {b : Int32} (h : b = 0 ∨ b = 1) : b &&& 1 = b := by rcases h with rfl | rfl <;> rfl
theorem fld_ev {Z : State} {args : Array Value} {t : Term} {a : Addr} {C nm d : String} {v : Value} (ev : t.eval args Z none [] Z = some (.ref a)) (h : (Term.field t C nm d).eval args Z none [] Z = some v) : Fld Z Z.heap a C nm d v := Fld.start ((fld_at ev).symm.trans h)
theorem eq_int {Z : State} {args : Array Value} {idx : List Nat} {t u : Term} {k : Int32} (hu : u.eval args Z none idx Z = some (.int k)) (h : (Cond.eq t u).value args Z none Z idx = some true) : t.eval args Z none idx Z = some (.int k) := by
  obtain ⟨x, y, h1, h2, h3, h4⟩ := cmp_v (Or.inl h)
  have hy : y = .int k := Option.some.inj (h2.symm.trans hu)
  subst hy
  obtain ⟨z, rfl⟩ := h4
  have : z = k := by
    have h5 : (Cond.eq t u).value args Z none Z idx = some (decide (z = k)) := by simp [Cond.value, h1, h2]
    rw [h5] at h
    exact of_decide_eq_true (Option.some.inj h)
  rw [h1, this]
theorem int_of_eq {Z : State} {args : Array Value} {idx : List Nat} {t : Term} {k : Int32} (h : (Cond.eq t (.int k)).value args Z none Z idx = some true) : t.eval args Z none idx Z = some (.int k) := by
  obtain ⟨x, y, h1, h2, h3, h4⟩ := cmp_v (Or.inl h)
  have h2' : (Term.int k).eval args Z none idx Z = some (.int k) := rfl
  have hy : y = .int k := Option.some.inj (h2.symm.trans h2')
  subst hy
  obtain ⟨z, rfl⟩ := h4
  have : z = k := by
    have h5 : (Cond.eq t (.int k)).value args Z none Z idx = some (decide (z = k)) := by simp [Cond.value, h1, h2]
    rw [h5] at h
    exact of_decide_eq_true (Option.some.inj h)
  rw [h1, this]
theorem len_of_eq {Z : State} {args : Array Value} {t : Term} {a : Addr} {c : Cell} {ty : FieldType} {k : Int32} (ev : t.eval args Z none [] Z = some (.ref a)) (A : Arr Z Z.heap a c ty) (h : (Cond.eq (.length t) (.int k)).value args Z none Z [] = some true) : c.slots.toList.length.toInt32 = k ∧ c.slots.toList.length < 2 ^ 31 := by
  have h1 := int_of_eq h
  have e5 := A.fin (Vm.Alike.refl _)
  rw [Array.length_toList]
  by_cases hl : c.slots.size < 2 ^ 31
  · rw [len_f ev e5 hl] at h1
    exact ⟨Value.int.inj (Option.some.inj h1), hl⟩
  · exfalso
    simp [Term.eval, ev, e5, hl] at h1
theorem elem_of_eq {Z : State} {args : Array Value} {t : Term} {a : Addr} {c : Cell} {ty : FieldType} {i k : Int32} (ev : t.eval args Z none [] Z = some (.ref a)) (A : Arr Z Z.heap a c ty) (h : (Cond.eq (.elem t (.int i)) (.int k)).value args Z none Z [] = some true) : c.slots.toList[i.toNatClampNeg]? = some (.int k) := by
  have h1 := int_of_eq h
  have h2 := elem_in (j := i) h1 ev rfl A.1
  rw [Array.getElem?_toList]
  exact h2.2
theorem ge0 {x : Int32} (h : 0 ≤ x.toInt) : ¬ x < 0 := fun q => by rw [XT.negI32] at q; omega
theorem rep0 (s : State) : Rep s s.heap [] := ⟨⟨Nat.le_refl _, fun _ _ q => q⟩, fun i x h => by simp at h, List.nodup_nil⟩
end Jvm.Own
namespace Jvm.Pilot.@@N@@
open Jvm Jvm.ClassFile Sem Op Lib Jvm.Free Jvm.Stand Jvm.LawKit Jvm.RoadKit Bundle Jvm.Own Jvm.Pilot.@@N@@.Jvm.D
set_option maxRecDepth 65536
set_option maxHeartbeats 40000000
abbrev HW (Z : State) (a0 : Array Value) : Prop := ∀ d ∈ tables_1, d.before a0 Z = true
abbrev XI (Z : State) (a : Addr) : Prop := Exa Z Z.heap a "java/lang/Integer"
abbrev yN0 : MethodName := ⟨"java/lang/Math", "min", "(JJ)J"⟩
abbrev yN1 : MethodName := ⟨"com/example/ordered_dispatch/ordereddispatch/SequenceQueue$Run", "slot", "(I)I"⟩
abbrev yN2 : MethodName := ⟨"com/example/ordered_dispatch/ordereddispatch/SequenceQueue$Part", "makeRoom", "()V"⟩
abbrev yN3 : MethodName := ⟨"com/example/ordered_dispatch/ordereddispatch/SequenceQueue$Part", "giveBackRoom", "()V"⟩
abbrev yN4 : MethodName := ⟨"com/example/ordered_dispatch/ordereddispatch/SequenceQueue$Run", "makeRoom", "()V"⟩
abbrev yN5 : MethodName := ⟨"com/example/ordered_dispatch/ordereddispatch/SequenceQueue$Run", "add", "(JLjava/lang/Object;)V"⟩
abbrev yN6 : MethodName := ⟨"com/example/ordered_dispatch/ordereddispatch/SequenceQueue", "place", "(JLjava/lang/Object;)V"⟩
abbrev yN7 : MethodName := ⟨"com/example/ordered_dispatch/ordereddispatch/SequenceQueue$Run", "lastKey", "()J"⟩
abbrev yN8 : MethodName := ⟨"com/example/ordered_dispatch/ordereddispatch/SequenceQueue$Heap", "makeRoom", "()V"⟩
abbrev yN9 : MethodName := ⟨"com/example/ordered_dispatch/ordereddispatch/SequenceQueue$Heap", "add", "(JLjava/lang/Object;)V"⟩
abbrev yN10 : MethodName := ⟨"com/example/ordered_dispatch/ordereddispatch/SequenceQueue$Heap", "giveBackRoom", "()V"⟩
abbrev yN11 : MethodName := ⟨"com/example/ordered_dispatch/ordereddispatch/SequenceQueue$Heap", "poll", "()Ljava/lang/Object;"⟩
abbrev yN12 : MethodName := ⟨"com/example/ordered_dispatch/ordereddispatch/SequenceQueue$Run", "giveBackRoom", "()V"⟩
abbrev yN13 : MethodName := ⟨"com/example/ordered_dispatch/ordereddispatch/SequenceQueue$Run", "poll", "()Ljava/lang/Object;"⟩
abbrev yN14 : MethodName := ⟨"com/example/ordered_dispatch/ordereddispatch/SequenceQueue", "add", "(JLjava/lang/Object;)V"⟩
abbrev yN15 : MethodName := ⟨"com/example/ordered_dispatch/ordereddispatch/SequenceQueue", "poll", "()Ljava/lang/Object;"⟩
abbrev yN16 : MethodName := ⟨"com/example/ordered_dispatch/ordereddispatch/SequenceQueue", "firstKey", "()J"⟩
abbrev yN17 : MethodName := ⟨"com/example/ordered_dispatch/ordereddispatch/SequenceQueueFirstKeyPinLaw", "minPresent", "([J[Z)J"⟩
abbrev yN18 : MethodName := ⟨"java/lang/Integer", "intValue", "()I"⟩
abbrev yN19 : MethodName := ⟨"com/example/ordered_dispatch/ordereddispatch/SequenceQueueFirstKeyPinLaw", "step", "(Lcom/example/ordered_dispatch/ordereddispatch/SequenceQueue;[J[Z)Z"⟩
abbrev yN20 : MethodName := ⟨"java/lang/Math", "min", "(II)I"⟩
abbrev yN21 : MethodName := ⟨"com/example/ordered_dispatch/ordereddispatch/SequenceQueue$Part", "<init>", "()V"⟩
abbrev yN22 : MethodName := ⟨"com/example/ordered_dispatch/ordereddispatch/SequenceQueue$Run", "<init>", "()V"⟩
abbrev yN23 : MethodName := ⟨"com/example/ordered_dispatch/ordereddispatch/SequenceQueue$Heap", "<init>", "()V"⟩
abbrev yN24 : MethodName := ⟨"com/example/ordered_dispatch/ordereddispatch/SequenceQueue", "<init>", "()V"⟩
abbrev yN25 : MethodName := ⟨"java/lang/Integer", "valueOf", "(I)Ljava/lang/Integer;"⟩
theorem cache_elem {Z : State} {args : Array Value} {C nm d K : String} {cb : Addr} {c : Cell} {ty : FieldType} {D : Jvm.Cond} (ev : (Term.static C nm d).eval args Z none [] Z = some (.ref cb)) (A : Arr Z Z.heap cb c ty) (hs : c.slots.toList.length < 2 ^ 31)
    (h : (Jvm.Cond.all (.static C nm d) (.and (.exactly (.elem (.static C nm d) (.index 0)) K) D)).value args Z none Z [] = some true) :
    ∀ j : Nat, j < c.slots.toList.length → ∃ b, c.slots.toList[j]? = some (.ref b) ∧ Exa Z Z.heap b K ∧ (Term.elem (.static C nm d) (.index 0)).eval args Z none [j] Z = some (.ref b) ∧ D.value args Z none Z [j] = some true := by
  intro j hj
  rw [Array.length_toList] at hj hs
  have h1 := Cond.all_elim ev (A.fin (Vm.Alike.refl _)) h j hj
  obtain ⟨h2, h3⟩ := and_e h1
  obtain ⟨b, e1⟩ := exa_v h2
  refine ⟨b, ?_, exa_at e1 h2, e1, h3⟩
  have ev' : (Term.static C nm d).eval args Z none [j] Z = some (.ref cb) := ev
  have ej : (Term.index 0).eval args Z none [j] Z = some (.int j.toInt32) := rfl
  have h4 := (elem_in e1 ev' ej A.1).2
  rw [Array.getElem?_toList]
  have e5 : j.toInt32.toNatClampNeg = j := by
    have := Int32.toInt_ofNat_of_lt (n := j) (by omega)
    show j.toInt32.toInt.toNat = j
    have e : j.toInt32 = Int32.ofNat j := rfl
    rw [e, this]; rfl
  rw [e5] at h4
  exact h4
theorem len256 {n : Nat} (h : n.toInt32 = 256) (hl : n < 2 ^ 31) : n = 256 := by
  have := Int32.toInt_ofNat_of_lt (n := n) (by omega)
  have e : n.toInt32 = Int32.ofNat n := rfl
  rw [← e, h] at this
  have e2 : (256 : Int32).toInt = 256 := by decide
  omega
theorem cache_val {Z : State} {args : Array Value} {t : Term} {C nm d : String} {b : Addr} {j : Nat} (e1 : t.eval args Z none [j] Z = some (.ref b)) (h : (Jvm.Cond.eq (.field t C nm d) (.sub (.index 0) (.int 128))).value args Z none Z [j] = some true) : Fld Z Z.heap b C nm d (.int (j.toInt32 - 128)) := by
  have h1 := eq_int (k := j.toInt32 - 128) (by simp [Term.eval]) h
  exact Fld.start ((fld_at e1).symm.trans h1)
abbrev oQ (v0 v1 v2 v3 v4 : Value) : Own.Rec := .inl ("com/example/ordered_dispatch/ordereddispatch/SequenceQueue", [(("com/example/ordered_dispatch/ordereddispatch/SequenceQueue", "run", "Lcom/example/ordered_dispatch/ordereddispatch/SequenceQueue$Run;"), v0), (("com/example/ordered_dispatch/ordereddispatch/SequenceQueue", "heap", "Lcom/example/ordered_dispatch/ordereddispatch/SequenceQueue$Heap;"), v1), (("com/example/ordered_dispatch/ordereddispatch/SequenceQueue", "holding", "Z"), v2), (("com/example/ordered_dispatch/ordereddispatch/SequenceQueue", "heldKey", "J"), v3), (("com/example/ordered_dispatch/ordereddispatch/SequenceQueue", "heldElement", "Ljava/lang/Object;"), v4)])
abbrev oRun (v0 v1 v2 v3 : Value) : Own.Rec := .inl ("com/example/ordered_dispatch/ordereddispatch/SequenceQueue$Run", [(("com/example/ordered_dispatch/ordereddispatch/SequenceQueue$Part", "keys", "[J"), v0), (("com/example/ordered_dispatch/ordereddispatch/SequenceQueue$Part", "elements", "[Ljava/lang/Object;"), v1), (("com/example/ordered_dispatch/ordereddispatch/SequenceQueue$Part", "size", "I"), v2), (("com/example/ordered_dispatch/ordereddispatch/SequenceQueue$Run", "head", "I"), v3)])
abbrev oHeap (v0 v1 v2 : Value) : Own.Rec := .inl ("com/example/ordered_dispatch/ordereddispatch/SequenceQueue$Heap", [(("com/example/ordered_dispatch/ordereddispatch/SequenceQueue$Part", "keys", "[J"), v0), (("com/example/ordered_dispatch/ordereddispatch/SequenceQueue$Part", "elements", "[Ljava/lang/Object;"), v1), (("com/example/ordered_dispatch/ordereddispatch/SequenceQueue$Part", "size", "I"), v2)])
abbrev oK64 (v0 v1 v2 v3 v4 v5 : Value) : List Value := [v0, v1, v2, v3, v4, v5, .long (0 : Int64), .long (0 : Int64), .long (0 : Int64), .long (0 : Int64), .long (0 : Int64), .long (0 : Int64), .long (0 : Int64), .long (0 : Int64), .long (0 : Int64), .long (0 : Int64), .long (0 : Int64), .long (0 : Int64), .long (0 : Int64), .long (0 : Int64), .long (0 : Int64), .long (0 : Int64), .long (0 : Int64), .long (0 : Int64), .long (0 : Int64), .long (0 : Int64), .long (0 : Int64), .long (0 : Int64), .long (0 : Int64), .long (0 : Int64), .long (0 : Int64), .long (0 : Int64), .long (0 : Int64), .long (0 : Int64), .long (0 : Int64), .long (0 : Int64), .long (0 : Int64), .long (0 : Int64), .long (0 : Int64), .long (0 : Int64), .long (0 : Int64), .long (0 : Int64), .long (0 : Int64), .long (0 : Int64), .long (0 : Int64), .long (0 : Int64), .long (0 : Int64), .long (0 : Int64), .long (0 : Int64), .long (0 : Int64), .long (0 : Int64), .long (0 : Int64), .long (0 : Int64), .long (0 : Int64), .long (0 : Int64), .long (0 : Int64), .long (0 : Int64), .long (0 : Int64), .long (0 : Int64), .long (0 : Int64), .long (0 : Int64), .long (0 : Int64), .long (0 : Int64), .long (0 : Int64)]
abbrev oE64 (v0 v1 v2 v3 v4 v5 : Value) : List Value := [v0, v1, v2, v3, v4, v5, .null, .null, .null, .null, .null, .null, .null, .null, .null, .null, .null, .null, .null, .null, .null, .null, .null, .null, .null, .null, .null, .null, .null, .null, .null, .null, .null, .null, .null, .null, .null, .null, .null, .null, .null, .null, .null, .null, .null, .null, .null, .null, .null, .null, .null, .null, .null, .null, .null, .null, .null, .null, .null, .null, .null, .null, .null, .null]
abbrev nQ (a r h : Addr) (b : Int32) (k : Int64) (v : Value) : Ent := (a, oQ (.ref r) (.ref h) (.int b) (.long k) v)
abbrev nR (a k e : Addr) (s d : Int32) : Ent := (a, oRun (.ref k) (.ref e) (.int s) (.int d))
abbrev nH (a k e : Addr) (s : Int32) : Ent := (a, oHeap (.ref k) (.ref e) (.int s))
abbrev nK (a : Addr) (k0 k1 k2 k3 k4 k5 : Int64) : Ent := (a, .inr (.long, oK64 (.long k0) (.long k1) (.long k2) (.long k3) (.long k4) (.long k5), true))
abbrev nE (a : Addr) (v0 v1 v2 v3 v4 v5 : Value) : Ent := (a, .inr (.object "java/lang/Object", oE64 v0 v1 v2 v3 v4 v5, true))
abbrev nA (a : Addr) (k0 k1 k2 k3 k4 : Int64) : Ent := (a, .inr (.long, [.long k0, .long k1, .long k2, .long k3, .long k4], true))
abbrev nB (a : Addr) (k0 k1 k2 k3 k4 : Int32) : Ent := (a, .inr (.boolean, [.int k0, .int k1, .int k2, .int k3, .int k4], true))
def own_min (a b : Int64) : Int64 := if b < a then b else a
theorem own_minI (a b : Int64) : (own_min a b).toInt = min a.toInt b.toInt := by
  unfold own_min
  split
  · rename_i h; rw [Int64.lt_iff_toInt_lt] at h; omega
  · rename_i h; rw [Int64.lt_iff_toInt_lt] at h; omega
theorem own_le (x : Int64) : x.toInt ≤ 9223372036854775807 := by
  have h := Int64.toInt_le x
  have e : Int64.maxValue.toInt = 9223372036854775807 := by decide
  omega
theorem own_maxI : (9223372036854775807 : Int64).toInt = 9223372036854775807 := by decide
def own_F {α : Type} (a b c d e : α) : Nat → α
  | 0 => a
  | 1 => b
  | 2 => c
  | 3 => d
  | _ => e
def own_kmin (K : Nat → Int64) : List Nat → Int64
  | [] => 9223372036854775807
  | i :: l => own_min (K i) (own_kmin K l)
theorem own_kperm (K : Nat → Int64) {A B : List Nat} (h : A.Perm B) : own_kmin K A = own_kmin K B := by
  induction h with
  | nil => rfl
  | cons x _ ih => simp only [own_kmin, ih]
  | swap x y l => exact Int64.toInt_inj.mp (by simp only [own_kmin, own_minI]; omega)
  | trans _ _ i1 i2 => exact i1.trans i2
theorem own_hE {Z : State} {C : String} {a b c d e : Addr} (h0 : Exa Z Z.heap a C) (h1 : Exa Z Z.heap b C) (h2 : Exa Z Z.heap c C) (h3 : Exa Z Z.heap d C) (h4 : Exa Z Z.heap e C) : ∀ i, Exa Z Z.heap (own_F a b c d e i) C
  | 0 => h0
  | 1 => h1
  | 2 => h2
  | 3 => h3
  | _ + 4 => h4
theorem own_and3 (x : Int32) : x &&& (3 : Int32) = 0 ∨ x &&& (3 : Int32) = 1 ∨ x &&& (3 : Int32) = 2 ∨ x &&& (3 : Int32) = 3 := by
  have h := Jvm.Kit.i32_mask x 3 (k := 2) (by decide) (by decide)
  have e : (x &&& (3 : Int32)).toInt = 0 ∨ (x &&& (3 : Int32)).toInt = 1 ∨ (x &&& (3 : Int32)).toInt = 2 ∨ (x &&& (3 : Int32)).toInt = 3 := by omega
  rcases e with e | e | e | e
  · exact Or.inl (Int32.toInt_inj.mp e)
  · exact Or.inr (Or.inl (Int32.toInt_inj.mp e))
  · exact Or.inr (Or.inr (Or.inl (Int32.toInt_inj.mp e)))
  · exact Or.inr (Or.inr (Or.inr (Int32.toInt_inj.mp e)))
theorem own_rem5 (x : Int32) : (x &&& (2147483647 : Int32)) % (5 : Int32) = 0 ∨ (x &&& (2147483647 : Int32)) % (5 : Int32) = 1 ∨ (x &&& (2147483647 : Int32)) % (5 : Int32) = 2 ∨ (x &&& (2147483647 : Int32)) % (5 : Int32) = 3 ∨ (x &&& (2147483647 : Int32)) % (5 : Int32) = 4 := by
  have h := rem_mask x 5 (by decide)
  have e5 : (5 : Int32).toInt = 5 := by decide
  rw [e5] at h
  generalize (x &&& (2147483647 : Int32)) % (5 : Int32) = y at h ⊢
  have e : y.toInt = 0 ∨ y.toInt = 1 ∨ y.toInt = 2 ∨ y.toInt = 3 ∨ y.toInt = 4 := by omega
  rcases e with e | e | e | e | e
  · exact Or.inl (Int32.toInt_inj.mp e)
  · exact Or.inr (Or.inl (Int32.toInt_inj.mp e))
  · exact Or.inr (Or.inr (Or.inl (Int32.toInt_inj.mp e)))
  · exact Or.inr (Or.inr (Or.inr (Or.inl (Int32.toInt_inj.mp e))))
  · exact Or.inr (Or.inr (Or.inr (Or.inr (Int32.toInt_inj.mp e))))
theorem d0_0 : decode jdk_29_method_70_code 0 = .ok (.lload_n 0, 1) := by decide +kernel
theorem d0_1 : decode jdk_29_method_70_code 1 = .ok (.lload_n 2, 1) := by decide +kernel
theorem d0_2 : decode jdk_29_method_70_code 2 = .ok (.lcmp, 1) := by decide +kernel
theorem d0_3 : decode jdk_29_method_70_code 3 = .ok (.ifCond .gt 7, 3) := by decide +kernel
theorem d0_10 : decode jdk_29_method_70_code 10 = .ok (.lload_n 2, 1) := by decide +kernel
theorem d0_11 : decode jdk_29_method_70_code 11 = .ok (.lreturn, 1) := by decide +kernel
theorem d0_6 : decode jdk_29_method_70_code 6 = .ok (.lload_n 0, 1) := by decide +kernel
theorem d0_7 : decode jdk_29_method_70_code 7 = .ok (.goto 4, 3) := by decide +kernel
theorem pn_0 : plainFor yN0 = true := by first | (apply plainFor_of_name; simp [plainName, overriddenIn]; done) | decide +kernel
theorem m_minJ (l : Launch) (Z : State) (a0 : Array Value) (hw : HW Z a0) (F : List Ent) (u v : Int64)  :
    Met l Z yN0 jdk_29_method_70_code 4 (some .long) { frames := 0, cells := 0, slots := 0, locals := 0 } #[(.long u), (.long v)] (F) (fun r M' => r = some (.long (own_min u v)) ∧ M' = F) := by
  refine Met.of_go pn_0 (Ls := #[.val (.long u), .second, .val (.long v), .second]) (fun m => rfl) ?_
  intro E C
  refine Go.lloadN C d0_0 rfl rfl ?_
  refine Go.lloadN C d0_1 rfl rfl ?_
  refine Go.lcmpif C d0_2 rfl d0_3 (by decide) (q := 10) rfl (q' := 6) rfl (fun (h2_1 : v < u) => ?_) (fun (h2_1 : ¬ v < u) => ?_)
  · refine Go.lloadN C d0_10 rfl rfl ?_
    refine Go.retL C rfl d0_11 (by decide) (by decide) ?_
    exact ⟨by simp [own_min, h2_1], rfl⟩
  · refine Go.lloadN C d0_6 rfl rfl ?_
    refine Go.goto C d0_7 (by decide) (q := 11) rfl ?_
    refine Go.retL C rfl d0_11 (by decide) (by decide) ?_
    exact ⟨by simp [own_min, h2_1], rfl⟩
theorem d1_0 : decode prog_23_method_6_code 0 = .ok (.aload_n 0, 1) := by decide +kernel
theorem d1_1 : decode prog_23_method_6_code 1 = .ok (.getfield 28, 3) := by decide +kernel
theorem d1_4 : decode prog_23_method_6_code 4 = .ok (.iload_n 1, 1) := by decide +kernel
theorem d1_5 : decode prog_23_method_6_code 5 = .ok (.iadd, 1) := by decide +kernel
theorem d1_6 : decode prog_23_method_6_code 6 = .ok (.istore_n 2, 1) := by decide +kernel
theorem d1_7 : decode prog_23_method_6_code 7 = .ok (.iload_n 2, 1) := by decide +kernel
theorem d1_8 : decode prog_23_method_6_code 8 = .ok (.aload_n 0, 1) := by decide +kernel
theorem d1_9 : decode prog_23_method_6_code 9 = .ok (.getfield 7, 3) := by decide +kernel
theorem d1_12 : decode prog_23_method_6_code 12 = .ok (.arraylength, 1) := by decide +kernel
theorem d1_13 : decode prog_23_method_6_code 13 = .ok (.if_icmp .lt 11, 3) := by decide +kernel
theorem d1_24 : decode prog_23_method_6_code 24 = .ok (.iload_n 2, 1) := by decide +kernel
theorem d1_25 : decode prog_23_method_6_code 25 = .ok (.ireturn, 1) := by decide +kernel
theorem pn_1 : plainFor yN1 = true := by first | (apply plainFor_of_name; simp [plainName, overriddenIn]; done) | decide +kernel
theorem m_slot (l : Launch) (Z : State) (a0 : Array Value) (hw : HW Z a0) (F : List Ent) (a b d : Addr) (s0 hd ix w : Int32) (x0 x1 x2 x3 x4 x5 : Int64) (hx : hd + ix = w) (hl : w < (64 : Int32)) :
    Met l Z yN1 prog_23_method_6_code 3 (some .int) { frames := 0, cells := 0, slots := 0, locals := 0 } #[(.ref a), (.int ix)] (nR a b d s0 hd :: nK b x0 x1 x2 x3 x4 x5 :: F) (fun r M' => r = some (.int w) ∧ M' = (nR a b d s0 hd :: nK b x0 x1 x2 x3 x4 x5 :: F)) := by
  refine Met.of_go pn_1 (Ls := #[.val (.ref a), .val (.int ix), .unset]) (fun m => rfl) ?_
  intro E C
  refine Go.aloadN C d1_0 rfl rfl rfl ?_
  refine Go.gf C (wd hw 88 rfl) 0 3 rfl rfl d1_1 rfl ?_
  refine Go.iloadN C d1_4 rfl rfl ?_
  refine Go.iadd C d1_5 rfl ?_
  refine Go.castI (w := w) hx ?_
  refine Go.istoreN C d1_6 rfl (Ls' := #[.val (.ref a), .val (.int ix), .val (.int w)]) rfl ?_
  refine Go.iloadN C d1_7 rfl rfl ?_
  refine Go.aloadN C d1_8 rfl rfl rfl ?_
  refine Go.gv C (wd hw 90 rfl) (wd hw 91 rfl) 0 0 rfl rfl d1_9 rfl ?_
  refine Go.arraylength C (fun _ r => r.arr 1 rfl) (z := (64 : Int32)) rfl d1_12 rfl ?_
  refine Go.icmpYes C d1_13 (by decide) (q := 24) rfl (XT.ii_lt_t hl) ?_
  refine Go.iloadN C d1_24 rfl rfl ?_
  refine Go.retI C rfl d1_25 (by decide) (by decide) ?_
  exact ⟨rfl, rfl⟩
theorem d2_0 : decode prog_22_method_2_code 0 = .ok (.aload_n 0, 1) := by decide +kernel
theorem d2_1 : decode prog_22_method_2_code 1 = .ok (.getfield 19, 3) := by decide +kernel
theorem d2_4 : decode prog_22_method_2_code 4 = .ok (.aload_n 0, 1) := by decide +kernel
theorem d2_5 : decode prog_22_method_2_code 5 = .ok (.getfield 9, 3) := by decide +kernel
theorem d2_8 : decode prog_22_method_2_code 8 = .ok (.arraylength, 1) := by decide +kernel
theorem d2_9 : decode prog_22_method_2_code 9 = .ok (.if_icmp .ne 49, 3) := by decide +kernel
theorem d2_58 : decode prog_22_method_2_code 58 = .ok (.return_, 1) := by decide +kernel
theorem pn_2 : plainFor yN2 = true := by first | (apply plainFor_of_name; simp [plainName, overriddenIn]; done) | decide +kernel
theorem m_makeRoomR (l : Launch) (Z : State) (a0 : Array Value) (hw : HW Z a0) (F : List Ent) (a b d : Addr) (s0 hd : Int32) (x0 x1 x2 x3 x4 x5 : Int64) (hl : ¬ s0 = (64 : Int32)) :
    Met l Z yN2 prog_22_method_2_code 1 none { frames := 0, cells := 0, slots := 0, locals := 0 } #[(.ref a)] (nR a b d s0 hd :: nK b x0 x1 x2 x3 x4 x5 :: F) (fun r M' => r = none ∧ M' = (nR a b d s0 hd :: nK b x0 x1 x2 x3 x4 x5 :: F)) := by
  refine Met.of_go pn_2 (Ls := #[.val (.ref a)]) (fun m => rfl) ?_
  intro E C
  refine Go.aloadN C d2_0 rfl rfl rfl ?_
  refine Go.gf C (wd hw 82 rfl) 0 2 rfl rfl d2_1 rfl ?_
  refine Go.aloadN C d2_4 rfl rfl rfl ?_
  refine Go.gf C (wd hw 28 rfl) 0 0 rfl rfl d2_5 rfl ?_
  refine Go.arraylength C (fun _ r => r.arr 1 rfl) (z := (64 : Int32)) rfl d2_8 rfl ?_
  refine Go.icmpYes C d2_9 (by decide) (q := 58) rfl (XT.ii_ne_t hl) ?_
  refine Go.ret0 C rfl d2_58 (by decide) (by decide) ?_
  exact ⟨rfl, rfl⟩
theorem m_makeRoomH (l : Launch) (Z : State) (a0 : Array Value) (hw : HW Z a0) (F : List Ent) (a b d : Addr) (s0 hd : Int32) (x0 x1 x2 x3 x4 x5 : Int64) (hl : ¬ s0 = (64 : Int32)) :
    Met l Z yN2 prog_22_method_2_code 1 none { frames := 0, cells := 0, slots := 0, locals := 0 } #[(.ref a)] (nH a b d s0 :: nK b x0 x1 x2 x3 x4 x5 :: F) (fun r M' => r = none ∧ M' = (nH a b d s0 :: nK b x0 x1 x2 x3 x4 x5 :: F)) := by
  refine Met.of_go pn_2 (Ls := #[.val (.ref a)]) (fun m => rfl) ?_
  intro E C
  refine Go.aloadN C d2_0 rfl rfl rfl ?_
  refine Go.gf C (wd hw 82 rfl) 0 2 rfl rfl d2_1 rfl ?_
  refine Go.aloadN C d2_4 rfl rfl rfl ?_
  refine Go.gf C (wd hw 28 rfl) 0 0 rfl rfl d2_5 rfl ?_
  refine Go.arraylength C (fun _ r => r.arr 1 rfl) (z := (64 : Int32)) rfl d2_8 rfl ?_
  refine Go.icmpYes C d2_9 (by decide) (q := 58) rfl (XT.ii_ne_t hl) ?_
  refine Go.ret0 C rfl d2_58 (by decide) (by decide) ?_
  exact ⟨rfl, rfl⟩
theorem d3_0 : decode prog_22_method_3_code 0 = .ok (.aload_n 0, 1) := by decide +kernel
theorem d3_1 : decode prog_22_method_3_code 1 = .ok (.getfield 9, 3) := by decide +kernel
theorem d3_4 : decode prog_22_method_3_code 4 = .ok (.arraylength, 1) := by decide +kernel
theorem d3_5 : decode prog_22_method_3_code 5 = .ok (.bipush 64, 2) := by decide +kernel
theorem d3_7 : decode prog_22_method_3_code 7 = .ok (.if_icmp .le 33, 3) := by decide +kernel
theorem d3_40 : decode prog_22_method_3_code 40 = .ok (.return_, 1) := by decide +kernel
theorem pn_3 : plainFor yN3 = true := by first | (apply plainFor_of_name; simp [plainName, overriddenIn]; done) | decide +kernel
theorem m_giveBackR (l : Launch) (Z : State) (a0 : Array Value) (hw : HW Z a0) (F : List Ent) (a b d : Addr) (s0 hd : Int32) (x0 x1 x2 x3 x4 x5 : Int64) (hl : ¬ s0 = (64 : Int32)) :
    Met l Z yN3 prog_22_method_3_code 1 none { frames := 0, cells := 0, slots := 0, locals := 0 } #[(.ref a)] (nR a b d s0 hd :: nK b x0 x1 x2 x3 x4 x5 :: F) (fun r M' => r = none ∧ M' = (nR a b d s0 hd :: nK b x0 x1 x2 x3 x4 x5 :: F)) := by
  refine Met.of_go pn_3 (Ls := #[.val (.ref a)]) (fun m => rfl) ?_
  intro E C
  refine Go.aloadN C d3_0 rfl rfl rfl ?_
  refine Go.gf C (wd hw 28 rfl) 0 0 rfl rfl d3_1 rfl ?_
  refine Go.arraylength C (fun _ r => r.arr 1 rfl) (z := (64 : Int32)) rfl d3_4 rfl ?_
  refine Go.bipush C d3_5 rfl (v := (64 : Int32)) (by decide) ?_
  refine Go.icmpYes C d3_7 (by decide) (q := 40) rfl (XT.ii_le_t (by decide)) ?_
  refine Go.ret0 C rfl d3_40 (by decide) (by decide) ?_
  exact ⟨rfl, rfl⟩
theorem m_giveBackH (l : Launch) (Z : State) (a0 : Array Value) (hw : HW Z a0) (F : List Ent) (a b d : Addr) (s0 hd : Int32) (x0 x1 x2 x3 x4 x5 : Int64) (hl : ¬ s0 = (64 : Int32)) :
    Met l Z yN3 prog_22_method_3_code 1 none { frames := 0, cells := 0, slots := 0, locals := 0 } #[(.ref a)] (nH a b d s0 :: nK b x0 x1 x2 x3 x4 x5 :: F) (fun r M' => r = none ∧ M' = (nH a b d s0 :: nK b x0 x1 x2 x3 x4 x5 :: F)) := by
  refine Met.of_go pn_3 (Ls := #[.val (.ref a)]) (fun m => rfl) ?_
  intro E C
  refine Go.aloadN C d3_0 rfl rfl rfl ?_
  refine Go.gf C (wd hw 28 rfl) 0 0 rfl rfl d3_1 rfl ?_
  refine Go.arraylength C (fun _ r => r.arr 1 rfl) (z := (64 : Int32)) rfl d3_4 rfl ?_
  refine Go.bipush C d3_5 rfl (v := (64 : Int32)) (by decide) ?_
  refine Go.icmpYes C d3_7 (by decide) (q := 40) rfl (XT.ii_le_t (by decide)) ?_
  refine Go.ret0 C rfl d3_40 (by decide) (by decide) ?_
  exact ⟨rfl, rfl⟩
def QSn (K : Nat → Int64) (e : Nat → Addr) (q : Addr) (t : Nat) (L : List Nat) (M : List Ent) : Nat → Prop
  | 0 => ∃ (pr pk pe ph pj pf : Addr) (z x0 x1 x2 x3 x4 x5 y0 y1 y2 y3 y4 y5 : Int64), t ∈ [0, 5] ∧ L = [] ∧ M = (nQ q pr ph 0 z .null :: nR pr pk pe 0 0 :: nK pk x0 x1 x2 x3 x4 x5 :: nE pe .null .null .null .null .null .null :: nH ph pj pf 0 :: nK pj y0 y1 y2 y3 y4 y5 :: nE pf .null .null .null .null .null .null :: [])
  | 1 => ∃ (pr pk pe ph pj pf : Addr) (z x0 x1 x2 x3 x4 x5 y0 y1 y2 y3 y4 y5 : Int64), t ∈ [7] ∧ L = [] ∧ M = (nQ q pr ph 0 z .null :: nR pr pk pe 0 1 :: nK pk x0 x1 x2 x3 x4 x5 :: nE pe .null .null .null .null .null .null :: nH ph pj pf 0 :: nK pj y0 y1 y2 y3 y4 y5 :: nE pf .null .null .null .null .null .null :: [])
  | 2 => ∃ (pr pk pe ph pj pf : Addr) (j0 : Nat) (z x0 x1 x2 x3 x4 x5 y1 y2 y3 y4 y5 : Int64), t ∈ [5, 7] ∧ L = [j0] ∧ M = (nQ q pr ph 0 z .null :: nR pr pk pe 0 1 :: nK pk x0 x1 x2 x3 x4 x5 :: nE pe .null .null .null .null .null .null :: nH ph pj pf 1 :: nK pj (K j0) y1 y2 y3 y4 y5 :: nE pf (.ref (e j0)) .null .null .null .null .null :: [])
  | 3 => ∃ (pr pk pe ph pj pf : Addr) (j0 j1 : Nat) (z x0 x1 x2 x3 x4 x5 y2 y3 y4 y5 : Int64), t ∈ [5, 7] ∧ ¬ (K j1) < (K j0) ∧ L = [j0, j1] ∧ M = (nQ q pr ph 0 z .null :: nR pr pk pe 0 1 :: nK pk x0 x1 x2 x3 x4 x5 :: nE pe .null .null .null .null .null .null :: nH ph pj pf 2 :: nK pj (K j0) (K j1) y2 y3 y4 y5 :: nE pf (.ref (e j0)) (.ref (e j1)) .null .null .null .null :: [])
  | 4 => ∃ (pr pk pe ph pj pf : Addr) (j0 j1 j2 : Nat) (z x0 x1 x2 x3 x4 x5 y3 y4 y5 : Int64), t ∈ [5] ∧ ¬ (K j1) < (K j0) ∧ ¬ (K j2) < (K j0) ∧ L = [j0, j1, j2] ∧ M = (nQ q pr ph 0 z .null :: nR pr pk pe 0 1 :: nK pk x0 x1 x2 x3 x4 x5 :: nE pe .null .null .null .null .null .null :: nH ph pj pf 3 :: nK pj (K j0) (K j1) (K j2) y3 y4 y5 :: nE pf (.ref (e j0)) (.ref (e j1)) (.ref (e j2)) .null .null .null :: [])
  | 5 => ∃ (pr pk pe ph pj pf : Addr) (z x0 x1 x2 x3 x4 x5 y0 y1 y2 y3 y4 y5 : Int64), t ∈ [7] ∧ L = [] ∧ M = (nQ q pr ph 0 z .null :: nR pr pk pe 0 2 :: nK pk x0 x1 x2 x3 x4 x5 :: nE pe .null .null .null .null .null .null :: nH ph pj pf 0 :: nK pj y0 y1 y2 y3 y4 y5 :: nE pf .null .null .null .null .null .null :: [])
  | 6 => ∃ (pr pk pe ph pj pf : Addr) (j0 : Nat) (z x0 x1 x2 x3 x4 x5 y1 y2 y3 y4 y5 : Int64), t ∈ [7] ∧ L = [j0] ∧ M = (nQ q pr ph 0 z .null :: nR pr pk pe 0 2 :: nK pk x0 x1 x2 x3 x4 x5 :: nE pe .null .null .null .null .null .null :: nH ph pj pf 1 :: nK pj (K j0) y1 y2 y3 y4 y5 :: nE pf (.ref (e j0)) .null .null .null .null .null :: [])
  | 7 => ∃ (pr pk pe ph pj pf : Addr) (j0 j1 : Nat) (z x0 x1 x2 x3 x4 x5 y2 y3 y4 y5 : Int64), t ∈ [7] ∧ ¬ (K j1) < (K j0) ∧ L = [j0, j1] ∧ M = (nQ q pr ph 0 z .null :: nR pr pk pe 0 2 :: nK pk x0 x1 x2 x3 x4 x5 :: nE pe .null .null .null .null .null .null :: nH ph pj pf 2 :: nK pj (K j0) (K j1) y2 y3 y4 y5 :: nE pf (.ref (e j0)) (.ref (e j1)) .null .null .null .null :: [])
  | 8 => ∃ (pr pk pe ph pj pf : Addr) (i0 : Nat) (z x1 x2 x3 x4 x5 y0 y1 y2 y3 y4 y5 : Int64), t ∈ [5, 7] ∧ L = [i0] ∧ M = (nQ q pr ph 0 z .null :: nR pr pk pe 1 0 :: nK pk (K i0) x1 x2 x3 x4 x5 :: nE pe (.ref (e i0)) .null .null .null .null .null :: nH ph pj pf 0 :: nK pj y0 y1 y2 y3 y4 y5 :: nE pf .null .null .null .null .null .null :: [])
  | 9 => ∃ (pr pk pe ph pj pf : Addr) (i0 j0 : Nat) (z x1 x2 x3 x4 x5 y1 y2 y3 y4 y5 : Int64), t ∈ [5, 7] ∧ L = [i0, j0] ∧ M = (nQ q pr ph 0 z .null :: nR pr pk pe 1 0 :: nK pk (K i0) x1 x2 x3 x4 x5 :: nE pe (.ref (e i0)) .null .null .null .null .null :: nH ph pj pf 1 :: nK pj (K j0) y1 y2 y3 y4 y5 :: nE pf (.ref (e j0)) .null .null .null .null .null :: [])
  | 10 => ∃ (pr pk pe ph pj pf : Addr) (i0 j0 j1 : Nat) (z x1 x2 x3 x4 x5 y2 y3 y4 y5 : Int64), t ∈ [5] ∧ ¬ (K j1) < (K j0) ∧ L = [i0, j0, j1] ∧ M = (nQ q pr ph 0 z .null :: nR pr pk pe 1 0 :: nK pk (K i0) x1 x2 x3 x4 x5 :: nE pe (.ref (e i0)) .null .null .null .null .null :: nH ph pj pf 2 :: nK pj (K j0) (K j1) y2 y3 y4 y5 :: nE pf (.ref (e j0)) (.ref (e j1)) .null .null .null .null :: [])
  | 11 => ∃ (pr pk pe ph pj pf : Addr) (i0 : Nat) (z x0 x2 x3 x4 x5 y0 y1 y2 y3 y4 y5 : Int64), t ∈ [5, 7] ∧ L = [i0] ∧ M = (nQ q pr ph 0 z .null :: nR pr pk pe 1 1 :: nK pk x0 (K i0) x2 x3 x4 x5 :: nE pe .null (.ref (e i0)) .null .null .null .null :: nH ph pj pf 0 :: nK pj y0 y1 y2 y3 y4 y5 :: nE pf .null .null .null .null .null .null :: [])
  | 12 => ∃ (pr pk pe ph pj pf : Addr) (i0 j0 : Nat) (z x0 x2 x3 x4 x5 y1 y2 y3 y4 y5 : Int64), t ∈ [5, 7] ∧ L = [i0, j0] ∧ M = (nQ q pr ph 0 z .null :: nR pr pk pe 1 1 :: nK pk x0 (K i0) x2 x3 x4 x5 :: nE pe .null (.ref (e i0)) .null .null .null .null :: nH ph pj pf 1 :: nK pj (K j0) y1 y2 y3 y4 y5 :: nE pf (.ref (e j0)) .null .null .null .null .null :: [])
  | 13 => ∃ (pr pk pe ph pj pf : Addr) (i0 j0 j1 : Nat) (z x0 x2 x3 x4 x5 y2 y3 y4 y5 : Int64), t ∈ [5] ∧ ¬ (K j1) < (K j0) ∧ L = [i0, j0, j1] ∧ M = (nQ q pr ph 0 z .null :: nR pr pk pe 1 1 :: nK pk x0 (K i0) x2 x3 x4 x5 :: nE pe .null (.ref (e i0)) .null .null .null .null :: nH ph pj pf 2 :: nK pj (K j0) (K j1) y2 y3 y4 y5 :: nE pf (.ref (e j0)) (.ref (e j1)) .null .null .null .null :: [])
  | 14 => ∃ (pr pk pe ph pj pf : Addr) (i0 : Nat) (z x0 x1 x3 x4 x5 y0 y1 y2 y3 y4 y5 : Int64), t ∈ [7] ∧ L = [i0] ∧ M = (nQ q pr ph 0 z .null :: nR pr pk pe 1 2 :: nK pk x0 x1 (K i0) x3 x4 x5 :: nE pe .null .null (.ref (e i0)) .null .null .null :: nH ph pj pf 0 :: nK pj y0 y1 y2 y3 y4 y5 :: nE pf .null .null .null .null .null .null :: [])
  | 15 => ∃ (pr pk pe ph pj pf : Addr) (i0 j0 : Nat) (z x0 x1 x3 x4 x5 y1 y2 y3 y4 y5 : Int64), t ∈ [7] ∧ L = [i0, j0] ∧ M = (nQ q pr ph 0 z .null :: nR pr pk pe 1 2 :: nK pk x0 x1 (K i0) x3 x4 x5 :: nE pe .null .null (.ref (e i0)) .null .null .null :: nH ph pj pf 1 :: nK pj (K j0) y1 y2 y3 y4 y5 :: nE pf (.ref (e j0)) .null .null .null .null .null :: [])
  | 16 => ∃ (pr pk pe ph pj pf : Addr) (i0 i1 : Nat) (z x2 x3 x4 x5 y0 y1 y2 y3 y4 y5 : Int64), t ∈ [5, 7] ∧ ¬ (K i1) < (K i0) ∧ L = [i0, i1] ∧ M = (nQ q pr ph 0 z .null :: nR pr pk pe 2 0 :: nK pk (K i0) (K i1) x2 x3 x4 x5 :: nE pe (.ref (e i0)) (.ref (e i1)) .null .null .null .null :: nH ph pj pf 0 :: nK pj y0 y1 y2 y3 y4 y5 :: nE pf .null .null .null .null .null .null :: [])
  | 17 => ∃ (pr pk pe ph pj pf : Addr) (i0 i1 j0 : Nat) (z x2 x3 x4 x5 y1 y2 y3 y4 y5 : Int64), t ∈ [5] ∧ ¬ (K i1) < (K i0) ∧ L = [i0, i1, j0] ∧ M = (nQ q pr ph 0 z .null :: nR pr pk pe 2 0 :: nK pk (K i0) (K i1) x2 x3 x4 x5 :: nE pe (.ref (e i0)) (.ref (e i1)) .null .null .null .null :: nH ph pj pf 1 :: nK pj (K j0) y1 y2 y3 y4 y5 :: nE pf (.ref (e j0)) .null .null .null .null .null :: [])
  | 18 => ∃ (pr pk pe ph pj pf : Addr) (i0 i1 : Nat) (z x0 x3 x4 x5 y0 y1 y2 y3 y4 y5 : Int64), t ∈ [5, 7] ∧ ¬ (K i1) < (K i0) ∧ L = [i0, i1] ∧ M = (nQ q pr ph 0 z .null :: nR pr pk pe 2 1 :: nK pk x0 (K i0) (K i1) x3 x4 x5 :: nE pe .null (.ref (e i0)) (.ref (e i1)) .null .null .null :: nH ph pj pf 0 :: nK pj y0 y1 y2 y3 y4 y5 :: nE pf .null .null .null .null .null .null :: [])
  | 19 => ∃ (pr pk pe ph pj pf : Addr) (i0 i1 j0 : Nat) (z x0 x3 x4 x5 y1 y2 y3 y4 y5 : Int64), t ∈ [5] ∧ ¬ (K i1) < (K i0) ∧ L = [i0, i1, j0] ∧ M = (nQ q pr ph 0 z .null :: nR pr pk pe 2 1 :: nK pk x0 (K i0) (K i1) x3 x4 x5 :: nE pe .null (.ref (e i0)) (.ref (e i1)) .null .null .null :: nH ph pj pf 1 :: nK pj (K j0) y1 y2 y3 y4 y5 :: nE pf (.ref (e j0)) .null .null .null .null .null :: [])
  | 20 => ∃ (pr pk pe ph pj pf : Addr) (i0 i1 : Nat) (z x0 x1 x4 x5 y0 y1 y2 y3 y4 y5 : Int64), t ∈ [7] ∧ ¬ (K i1) < (K i0) ∧ L = [i0, i1] ∧ M = (nQ q pr ph 0 z .null :: nR pr pk pe 2 2 :: nK pk x0 x1 (K i0) (K i1) x4 x5 :: nE pe .null .null (.ref (e i0)) (.ref (e i1)) .null .null :: nH ph pj pf 0 :: nK pj y0 y1 y2 y3 y4 y5 :: nE pf .null .null .null .null .null .null :: [])
  | 21 => ∃ (pr pk pe ph pj pf : Addr) (i0 i1 i2 : Nat) (z x3 x4 x5 y0 y1 y2 y3 y4 y5 : Int64), t ∈ [5] ∧ ¬ (K i1) < (K i0) ∧ ¬ (K i2) < (K i1) ∧ L = [i0, i1, i2] ∧ M = (nQ q pr ph 0 z .null :: nR pr pk pe 3 0 :: nK pk (K i0) (K i1) (K i2) x3 x4 x5 :: nE pe (.ref (e i0)) (.ref (e i1)) (.ref (e i2)) .null .null .null :: nH ph pj pf 0 :: nK pj y0 y1 y2 y3 y4 y5 :: nE pf .null .null .null .null .null .null :: [])
  | 22 => ∃ (pr pk pe ph pj pf : Addr) (i0 i1 i2 : Nat) (z x0 x4 x5 y0 y1 y2 y3 y4 y5 : Int64), t ∈ [5] ∧ ¬ (K i1) < (K i0) ∧ ¬ (K i2) < (K i1) ∧ L = [i0, i1, i2] ∧ M = (nQ q pr ph 0 z .null :: nR pr pk pe 3 1 :: nK pk x0 (K i0) (K i1) (K i2) x4 x5 :: nE pe .null (.ref (e i0)) (.ref (e i1)) (.ref (e i2)) .null .null :: nH ph pj pf 0 :: nK pj y0 y1 y2 y3 y4 y5 :: nE pf .null .null .null .null .null .null :: [])
  | 23 => ∃ (pr pk pe ph pj pf : Addr) (w : Nat) (x0 x1 x2 x3 x4 x5 y0 y1 y2 y3 y4 y5 : Int64), t ∈ [1, 6] ∧ L = [w] ∧ M = (nQ q pr ph 1 (K w) (.ref (e w)) :: nR pr pk pe 0 0 :: nK pk x0 x1 x2 x3 x4 x5 :: nE pe .null .null .null .null .null .null :: nH ph pj pf 0 :: nK pj y0 y1 y2 y3 y4 y5 :: nE pf .null .null .null .null .null .null :: [])
  | 24 => ∃ (pr pk pe ph pj pf : Addr) (w : Nat) (x0 x1 x2 x3 x4 x5 y0 y1 y2 y3 y4 y5 : Int64), t ∈ [6] ∧ L = [w] ∧ M = (nQ q pr ph 1 (K w) (.ref (e w)) :: nR pr pk pe 0 1 :: nK pk x0 x1 x2 x3 x4 x5 :: nE pe .null .null .null .null .null .null :: nH ph pj pf 0 :: nK pj y0 y1 y2 y3 y4 y5 :: nE pf .null .null .null .null .null .null :: [])
  | 25 => ∃ (pr pk pe ph pj pf : Addr) (w j0 : Nat) (x0 x1 x2 x3 x4 x5 y1 y2 y3 y4 y5 : Int64), t ∈ [6] ∧ L = [w, j0] ∧ M = (nQ q pr ph 1 (K w) (.ref (e w)) :: nR pr pk pe 0 1 :: nK pk x0 x1 x2 x3 x4 x5 :: nE pe .null .null .null .null .null .null :: nH ph pj pf 1 :: nK pj (K j0) y1 y2 y3 y4 y5 :: nE pf (.ref (e j0)) .null .null .null .null .null :: [])
  | 26 => ∃ (pr pk pe ph pj pf : Addr) (w j0 j1 : Nat) (x0 x1 x2 x3 x4 x5 y2 y3 y4 y5 : Int64), t ∈ [6] ∧ ¬ (K j1) < (K j0) ∧ L = [w, j0, j1] ∧ M = (nQ q pr ph 1 (K w) (.ref (e w)) :: nR pr pk pe 0 1 :: nK pk x0 x1 x2 x3 x4 x5 :: nE pe .null .null .null .null .null .null :: nH ph pj pf 2 :: nK pj (K j0) (K j1) y2 y3 y4 y5 :: nE pf (.ref (e j0)) (.ref (e j1)) .null .null .null .null :: [])
  | 27 => ∃ (pr pk pe ph pj pf : Addr) (w j0 j1 j2 : Nat) (x0 x1 x2 x3 x4 x5 y3 y4 y5 : Int64), t ∈ [6] ∧ ¬ (K j1) < (K j0) ∧ ¬ (K j2) < (K j0) ∧ L = [w, j0, j1, j2] ∧ M = (nQ q pr ph 1 (K w) (.ref (e w)) :: nR pr pk pe 0 1 :: nK pk x0 x1 x2 x3 x4 x5 :: nE pe .null .null .null .null .null .null :: nH ph pj pf 3 :: nK pj (K j0) (K j1) (K j2) y3 y4 y5 :: nE pf (.ref (e j0)) (.ref (e j1)) (.ref (e j2)) .null .null .null :: [])
  | 28 => ∃ (pr pk pe ph pj pf : Addr) (w : Nat) (x0 x1 x2 x3 x4 x5 y0 y1 y2 y3 y4 y5 : Int64), t ∈ [6] ∧ L = [w] ∧ M = (nQ q pr ph 1 (K w) (.ref (e w)) :: nR pr pk pe 0 2 :: nK pk x0 x1 x2 x3 x4 x5 :: nE pe .null .null .null .null .null .null :: nH ph pj pf 0 :: nK pj y0 y1 y2 y3 y4 y5 :: nE pf .null .null .null .null .null .null :: [])
  | 29 => ∃ (pr pk pe ph pj pf : Addr) (w j0 : Nat) (x0 x1 x2 x3 x4 x5 y1 y2 y3 y4 y5 : Int64), t ∈ [6] ∧ L = [w, j0] ∧ M = (nQ q pr ph 1 (K w) (.ref (e w)) :: nR pr pk pe 0 2 :: nK pk x0 x1 x2 x3 x4 x5 :: nE pe .null .null .null .null .null .null :: nH ph pj pf 1 :: nK pj (K j0) y1 y2 y3 y4 y5 :: nE pf (.ref (e j0)) .null .null .null .null .null :: [])
  | 30 => ∃ (pr pk pe ph pj pf : Addr) (w j0 j1 : Nat) (x0 x1 x2 x3 x4 x5 y2 y3 y4 y5 : Int64), t ∈ [6] ∧ ¬ (K j1) < (K j0) ∧ L = [w, j0, j1] ∧ M = (nQ q pr ph 1 (K w) (.ref (e w)) :: nR pr pk pe 0 2 :: nK pk x0 x1 x2 x3 x4 x5 :: nE pe .null .null .null .null .null .null :: nH ph pj pf 2 :: nK pj (K j0) (K j1) y2 y3 y4 y5 :: nE pf (.ref (e j0)) (.ref (e j1)) .null .null .null .null :: [])
  | 31 => ∃ (pr pk pe ph pj pf : Addr) (w i0 : Nat) (x1 x2 x3 x4 x5 y0 y1 y2 y3 y4 y5 : Int64), t ∈ [2, 6] ∧ L = [w, i0] ∧ M = (nQ q pr ph 1 (K w) (.ref (e w)) :: nR pr pk pe 1 0 :: nK pk (K i0) x1 x2 x3 x4 x5 :: nE pe (.ref (e i0)) .null .null .null .null .null :: nH ph pj pf 0 :: nK pj y0 y1 y2 y3 y4 y5 :: nE pf .null .null .null .null .null .null :: [])
  | 32 => ∃ (pr pk pe ph pj pf : Addr) (w i0 j0 : Nat) (x1 x2 x3 x4 x5 y1 y2 y3 y4 y5 : Int64), t ∈ [3, 6] ∧ L = [w, i0, j0] ∧ M = (nQ q pr ph 1 (K w) (.ref (e w)) :: nR pr pk pe 1 0 :: nK pk (K i0) x1 x2 x3 x4 x5 :: nE pe (.ref (e i0)) .null .null .null .null .null :: nH ph pj pf 1 :: nK pj (K j0) y1 y2 y3 y4 y5 :: nE pf (.ref (e j0)) .null .null .null .null .null :: [])
  | 33 => ∃ (pr pk pe ph pj pf : Addr) (w i0 j0 j1 : Nat) (x1 x2 x3 x4 x5 y2 y3 y4 y5 : Int64), t ∈ [4, 6] ∧ ¬ (K j1) < (K j0) ∧ L = [w, i0, j0, j1] ∧ M = (nQ q pr ph 1 (K w) (.ref (e w)) :: nR pr pk pe 1 0 :: nK pk (K i0) x1 x2 x3 x4 x5 :: nE pe (.ref (e i0)) .null .null .null .null .null :: nH ph pj pf 2 :: nK pj (K j0) (K j1) y2 y3 y4 y5 :: nE pf (.ref (e j0)) (.ref (e j1)) .null .null .null .null :: [])
  | 34 => ∃ (pr pk pe ph pj pf : Addr) (w i0 j0 j1 j2 : Nat) (x1 x2 x3 x4 x5 y3 y4 y5 : Int64), t ∈ [6] ∧ ¬ (K j1) < (K j0) ∧ ¬ (K j2) < (K j0) ∧ L = [w, i0, j0, j1, j2] ∧ M = (nQ q pr ph 1 (K w) (.ref (e w)) :: nR pr pk pe 1 0 :: nK pk (K i0) x1 x2 x3 x4 x5 :: nE pe (.ref (e i0)) .null .null .null .null .null :: nH ph pj pf 3 :: nK pj (K j0) (K j1) (K j2) y3 y4 y5 :: nE pf (.ref (e j0)) (.ref (e j1)) (.ref (e j2)) .null .null .null :: [])
  | 35 => ∃ (pr pk pe ph pj pf : Addr) (w i0 : Nat) (x0 x2 x3 x4 x5 y0 y1 y2 y3 y4 y5 : Int64), t ∈ [6] ∧ L = [w, i0] ∧ M = (nQ q pr ph 1 (K w) (.ref (e w)) :: nR pr pk pe 1 1 :: nK pk x0 (K i0) x2 x3 x4 x5 :: nE pe .null (.ref (e i0)) .null .null .null .null :: nH ph pj pf 0 :: nK pj y0 y1 y2 y3 y4 y5 :: nE pf .null .null .null .null .null .null :: [])
  | 36 => ∃ (pr pk pe ph pj pf : Addr) (w i0 j0 : Nat) (x0 x2 x3 x4 x5 y1 y2 y3 y4 y5 : Int64), t ∈ [6] ∧ L = [w, i0, j0] ∧ M = (nQ q pr ph 1 (K w) (.ref (e w)) :: nR pr pk pe 1 1 :: nK pk x0 (K i0) x2 x3 x4 x5 :: nE pe .null (.ref (e i0)) .null .null .null .null :: nH ph pj pf 1 :: nK pj (K j0) y1 y2 y3 y4 y5 :: nE pf (.ref (e j0)) .null .null .null .null .null :: [])
  | 37 => ∃ (pr pk pe ph pj pf : Addr) (w i0 j0 j1 : Nat) (x0 x2 x3 x4 x5 y2 y3 y4 y5 : Int64), t ∈ [6] ∧ ¬ (K j1) < (K j0) ∧ L = [w, i0, j0, j1] ∧ M = (nQ q pr ph 1 (K w) (.ref (e w)) :: nR pr pk pe 1 1 :: nK pk x0 (K i0) x2 x3 x4 x5 :: nE pe .null (.ref (e i0)) .null .null .null .null :: nH ph pj pf 2 :: nK pj (K j0) (K j1) y2 y3 y4 y5 :: nE pf (.ref (e j0)) (.ref (e j1)) .null .null .null .null :: [])
  | 38 => ∃ (pr pk pe ph pj pf : Addr) (w i0 : Nat) (x0 x1 x3 x4 x5 y0 y1 y2 y3 y4 y5 : Int64), t ∈ [6] ∧ L = [w, i0] ∧ M = (nQ q pr ph 1 (K w) (.ref (e w)) :: nR pr pk pe 1 2 :: nK pk x0 x1 (K i0) x3 x4 x5 :: nE pe .null .null (.ref (e i0)) .null .null .null :: nH ph pj pf 0 :: nK pj y0 y1 y2 y3 y4 y5 :: nE pf .null .null .null .null .null .null :: [])
  | 39 => ∃ (pr pk pe ph pj pf : Addr) (w i0 j0 : Nat) (x0 x1 x3 x4 x5 y1 y2 y3 y4 y5 : Int64), t ∈ [6] ∧ L = [w, i0, j0] ∧ M = (nQ q pr ph 1 (K w) (.ref (e w)) :: nR pr pk pe 1 2 :: nK pk x0 x1 (K i0) x3 x4 x5 :: nE pe .null .null (.ref (e i0)) .null .null .null :: nH ph pj pf 1 :: nK pj (K j0) y1 y2 y3 y4 y5 :: nE pf (.ref (e j0)) .null .null .null .null .null :: [])
  | 40 => ∃ (pr pk pe ph pj pf : Addr) (w i0 i1 : Nat) (x2 x3 x4 x5 y0 y1 y2 y3 y4 y5 : Int64), t ∈ [3, 6] ∧ ¬ (K i1) < (K i0) ∧ L = [w, i0, i1] ∧ M = (nQ q pr ph 1 (K w) (.ref (e w)) :: nR pr pk pe 2 0 :: nK pk (K i0) (K i1) x2 x3 x4 x5 :: nE pe (.ref (e i0)) (.ref (e i1)) .null .null .null .null :: nH ph pj pf 0 :: nK pj y0 y1 y2 y3 y4 y5 :: nE pf .null .null .null .null .null .null :: [])
  | 41 => ∃ (pr pk pe ph pj pf : Addr) (w i0 i1 j0 : Nat) (x2 x3 x4 x5 y1 y2 y3 y4 y5 : Int64), t ∈ [4, 6] ∧ ¬ (K i1) < (K i0) ∧ L = [w, i0, i1, j0] ∧ M = (nQ q pr ph 1 (K w) (.ref (e w)) :: nR pr pk pe 2 0 :: nK pk (K i0) (K i1) x2 x3 x4 x5 :: nE pe (.ref (e i0)) (.ref (e i1)) .null .null .null .null :: nH ph pj pf 1 :: nK pj (K j0) y1 y2 y3 y4 y5 :: nE pf (.ref (e j0)) .null .null .null .null .null :: [])
  | 42 => ∃ (pr pk pe ph pj pf : Addr) (w i0 i1 j0 j1 : Nat) (x2 x3 x4 x5 y2 y3 y4 y5 : Int64), t ∈ [6] ∧ ¬ (K i1) < (K i0) ∧ ¬ (K j1) < (K j0) ∧ L = [w, i0, i1, j0, j1] ∧ M = (nQ q pr ph 1 (K w) (.ref (e w)) :: nR pr pk pe 2 0 :: nK pk (K i0) (K i1) x2 x3 x4 x5 :: nE pe (.ref (e i0)) (.ref (e i1)) .null .null .null .null :: nH ph pj pf 2 :: nK pj (K j0) (K j1) y2 y3 y4 y5 :: nE pf (.ref (e j0)) (.ref (e j1)) .null .null .null .null :: [])
  | 43 => ∃ (pr pk pe ph pj pf : Addr) (w i0 i1 : Nat) (x0 x3 x4 x5 y0 y1 y2 y3 y4 y5 : Int64), t ∈ [6] ∧ ¬ (K i1) < (K i0) ∧ L = [w, i0, i1] ∧ M = (nQ q pr ph 1 (K w) (.ref (e w)) :: nR pr pk pe 2 1 :: nK pk x0 (K i0) (K i1) x3 x4 x5 :: nE pe .null (.ref (e i0)) (.ref (e i1)) .null .null .null :: nH ph pj pf 0 :: nK pj y0 y1 y2 y3 y4 y5 :: nE pf .null .null .null .null .null .null :: [])
  | 44 => ∃ (pr pk pe ph pj pf : Addr) (w i0 i1 j0 : Nat) (x0 x3 x4 x5 y1 y2 y3 y4 y5 : Int64), t ∈ [6] ∧ ¬ (K i1) < (K i0) ∧ L = [w, i0, i1, j0] ∧ M = (nQ q pr ph 1 (K w) (.ref (e w)) :: nR pr pk pe 2 1 :: nK pk x0 (K i0) (K i1) x3 x4 x5 :: nE pe .null (.ref (e i0)) (.ref (e i1)) .null .null .null :: nH ph pj pf 1 :: nK pj (K j0) y1 y2 y3 y4 y5 :: nE pf (.ref (e j0)) .null .null .null .null .null :: [])
  | 45 => ∃ (pr pk pe ph pj pf : Addr) (w i0 i1 : Nat) (x0 x1 x4 x5 y0 y1 y2 y3 y4 y5 : Int64), t ∈ [6] ∧ ¬ (K i1) < (K i0) ∧ L = [w, i0, i1] ∧ M = (nQ q pr ph 1 (K w) (.ref (e w)) :: nR pr pk pe 2 2 :: nK pk x0 x1 (K i0) (K i1) x4 x5 :: nE pe .null .null (.ref (e i0)) (.ref (e i1)) .null .null :: nH ph pj pf 0 :: nK pj y0 y1 y2 y3 y4 y5 :: nE pf .null .null .null .null .null .null :: [])
  | 46 => ∃ (pr pk pe ph pj pf : Addr) (w i0 i1 i2 : Nat) (x3 x4 x5 y0 y1 y2 y3 y4 y5 : Int64), t ∈ [4, 6] ∧ ¬ (K i1) < (K i0) ∧ ¬ (K i2) < (K i1) ∧ L = [w, i0, i1, i2] ∧ M = (nQ q pr ph 1 (K w) (.ref (e w)) :: nR pr pk pe 3 0 :: nK pk (K i0) (K i1) (K i2) x3 x4 x5 :: nE pe (.ref (e i0)) (.ref (e i1)) (.ref (e i2)) .null .null .null :: nH ph pj pf 0 :: nK pj y0 y1 y2 y3 y4 y5 :: nE pf .null .null .null .null .null .null :: [])
  | 47 => ∃ (pr pk pe ph pj pf : Addr) (w i0 i1 i2 j0 : Nat) (x3 x4 x5 y1 y2 y3 y4 y5 : Int64), t ∈ [6] ∧ ¬ (K i1) < (K i0) ∧ ¬ (K i2) < (K i1) ∧ L = [w, i0, i1, i2, j0] ∧ M = (nQ q pr ph 1 (K w) (.ref (e w)) :: nR pr pk pe 3 0 :: nK pk (K i0) (K i1) (K i2) x3 x4 x5 :: nE pe (.ref (e i0)) (.ref (e i1)) (.ref (e i2)) .null .null .null :: nH ph pj pf 1 :: nK pj (K j0) y1 y2 y3 y4 y5 :: nE pf (.ref (e j0)) .null .null .null .null .null :: [])
  | 48 => ∃ (pr pk pe ph pj pf : Addr) (w i0 i1 i2 : Nat) (x0 x4 x5 y0 y1 y2 y3 y4 y5 : Int64), t ∈ [6] ∧ ¬ (K i1) < (K i0) ∧ ¬ (K i2) < (K i1) ∧ L = [w, i0, i1, i2] ∧ M = (nQ q pr ph 1 (K w) (.ref (e w)) :: nR pr pk pe 3 1 :: nK pk x0 (K i0) (K i1) (K i2) x4 x5 :: nE pe .null (.ref (e i0)) (.ref (e i1)) (.ref (e i2)) .null .null :: nH ph pj pf 0 :: nK pj y0 y1 y2 y3 y4 y5 :: nE pf .null .null .null .null .null .null :: [])
  | 49 => ∃ (pr pk pe ph pj pf : Addr) (w i0 i1 i2 i3 : Nat) (x4 x5 y0 y1 y2 y3 y4 y5 : Int64), t ∈ [6] ∧ ¬ (K i1) < (K i0) ∧ ¬ (K i2) < (K i1) ∧ ¬ (K i3) < (K i2) ∧ L = [w, i0, i1, i2, i3] ∧ M = (nQ q pr ph 1 (K w) (.ref (e w)) :: nR pr pk pe 4 0 :: nK pk (K i0) (K i1) (K i2) (K i3) x4 x5 :: nE pe (.ref (e i0)) (.ref (e i1)) (.ref (e i2)) (.ref (e i3)) .null .null :: nH ph pj pf 0 :: nK pj y0 y1 y2 y3 y4 y5 :: nE pf .null .null .null .null .null .null :: [])
  | _ => False
def QS (K : Nat → Int64) (e : Nat → Addr) (q : Addr) (t : Nat) (L : List Nat) (M : List Ent) : Prop := (∃ v1 v2 v3 v4 v5 M1, M = (q, oQ v1 v2 v3 v4 v5) :: M1) ∧ ∃ L0 n, L0.Perm L ∧ QSn K e q t L0 M n
theorem QS.exa {Z : State} {h : Heap} {K : Nat → Int64} {e : Nat → Addr} {q : Addr} {t : Nat} {L : List Nat} {M F : List Ent} (hQ : QS K e q t L M) (r : Rep Z h (M ++ F)) : Exa Z h q "com/example/ordered_dispatch/ordereddispatch/SequenceQueue" := by
  obtain ⟨⟨v1, v2, v3, v4, v5, M1, rfl⟩, -⟩ := hQ
  exact r.exa 0 rfl
theorem QS.perm {K : Nat → Int64} {e : Nat → Addr} {q : Addr} {t : Nat} {L L2 : List Nat} {M : List Ent} (hQ : QS K e q t L M) (hL : L.Perm L2) : QS K e q t L2 M := by
  obtain ⟨h1, L0, n, hp, h2⟩ := hQ
  exact ⟨h1, L0, n, hp.trans hL, h2⟩
theorem QS.c0000 {K : Nat → Int64} {e : Nat → Addr} {q : Addr} {t : Nat} {L : List Nat} (ht : t ∈ [0, 5]) (pr pk pe ph pj pf : Addr) (z x0 x1 x2 x3 x4 x5 y0 y1 y2 y3 y4 y5 : Int64)  (hp : List.Perm ([] : List Nat) L) : QS K e q t L (nQ q pr ph 0 z .null :: nR pr pk pe 0 0 :: nK pk x0 x1 x2 x3 x4 x5 :: nE pe .null .null .null .null .null .null :: nH ph pj pf 0 :: nK pj y0 y1 y2 y3 y4 y5 :: nE pf .null .null .null .null .null .null :: []) := ⟨⟨_, _, _, _, _, _, rfl⟩, _, 0, hp, pr, pk, pe, ph, pj, pf, z, x0, x1, x2, x3, x4, x5, y0, y1, y2, y3, y4, y5, ht, rfl, rfl⟩
theorem QS.c0010 {K : Nat → Int64} {e : Nat → Addr} {q : Addr} {t : Nat} {L : List Nat} (ht : t ∈ [7]) (pr pk pe ph pj pf : Addr) (z x0 x1 x2 x3 x4 x5 y0 y1 y2 y3 y4 y5 : Int64)  (hp : List.Perm ([] : List Nat) L) : QS K e q t L (nQ q pr ph 0 z .null :: nR pr pk pe 0 1 :: nK pk x0 x1 x2 x3 x4 x5 :: nE pe .null .null .null .null .null .null :: nH ph pj pf 0 :: nK pj y0 y1 y2 y3 y4 y5 :: nE pf .null .null .null .null .null .null :: []) := ⟨⟨_, _, _, _, _, _, rfl⟩, _, 1, hp, pr, pk, pe, ph, pj, pf, z, x0, x1, x2, x3, x4, x5, y0, y1, y2, y3, y4, y5, ht, rfl, rfl⟩
theorem QS.c0011 {K : Nat → Int64} {e : Nat → Addr} {q : Addr} {t : Nat} {L : List Nat} (ht : t ∈ [5, 7]) (pr pk pe ph pj pf : Addr) (j0 : Nat) (z x0 x1 x2 x3 x4 x5 y1 y2 y3 y4 y5 : Int64)  (hp : List.Perm ([j0] : List Nat) L) : QS K e q t L (nQ q pr ph 0 z .null :: nR pr pk pe 0 1 :: nK pk x0 x1 x2 x3 x4 x5 :: nE pe .null .null .null .null .null .null :: nH ph pj pf 1 :: nK pj (K j0) y1 y2 y3 y4 y5 :: nE pf (.ref (e j0)) .null .null .null .null .null :: []) := ⟨⟨_, _, _, _, _, _, rfl⟩, _, 2, hp, pr, pk, pe, ph, pj, pf, j0, z, x0, x1, x2, x3, x4, x5, y1, y2, y3, y4, y5, ht, rfl, rfl⟩
theorem QS.c0012 {K : Nat → Int64} {e : Nat → Addr} {q : Addr} {t : Nat} {L : List Nat} (ht : t ∈ [5, 7]) (pr pk pe ph pj pf : Addr) (j0 j1 : Nat) (z x0 x1 x2 x3 x4 x5 y2 y3 y4 y5 : Int64) (hv0 : ¬ (K j1) < (K j0)) (hp : List.Perm ([j0, j1] : List Nat) L) : QS K e q t L (nQ q pr ph 0 z .null :: nR pr pk pe 0 1 :: nK pk x0 x1 x2 x3 x4 x5 :: nE pe .null .null .null .null .null .null :: nH ph pj pf 2 :: nK pj (K j0) (K j1) y2 y3 y4 y5 :: nE pf (.ref (e j0)) (.ref (e j1)) .null .null .null .null :: []) := ⟨⟨_, _, _, _, _, _, rfl⟩, _, 3, hp, pr, pk, pe, ph, pj, pf, j0, j1, z, x0, x1, x2, x3, x4, x5, y2, y3, y4, y5, ht, hv0, rfl, rfl⟩
theorem QS.c0013 {K : Nat → Int64} {e : Nat → Addr} {q : Addr} {t : Nat} {L : List Nat} (ht : t ∈ [5]) (pr pk pe ph pj pf : Addr) (j0 j1 j2 : Nat) (z x0 x1 x2 x3 x4 x5 y3 y4 y5 : Int64) (hv0 : ¬ (K j1) < (K j0)) (hv1 : ¬ (K j2) < (K j0)) (hp : List.Perm ([j0, j1, j2] : List Nat) L) : QS K e q t L (nQ q pr ph 0 z .null :: nR pr pk pe 0 1 :: nK pk x0 x1 x2 x3 x4 x5 :: nE pe .null .null .null .null .null .null :: nH ph pj pf 3 :: nK pj (K j0) (K j1) (K j2) y3 y4 y5 :: nE pf (.ref (e j0)) (.ref (e j1)) (.ref (e j2)) .null .null .null :: []) := ⟨⟨_, _, _, _, _, _, rfl⟩, _, 4, hp, pr, pk, pe, ph, pj, pf, j0, j1, j2, z, x0, x1, x2, x3, x4, x5, y3, y4, y5, ht, hv0, hv1, rfl, rfl⟩
theorem QS.c0020 {K : Nat → Int64} {e : Nat → Addr} {q : Addr} {t : Nat} {L : List Nat} (ht : t ∈ [7]) (pr pk pe ph pj pf : Addr) (z x0 x1 x2 x3 x4 x5 y0 y1 y2 y3 y4 y5 : Int64)  (hp : List.Perm ([] : List Nat) L) : QS K e q t L (nQ q pr ph 0 z .null :: nR pr pk pe 0 2 :: nK pk x0 x1 x2 x3 x4 x5 :: nE pe .null .null .null .null .null .null :: nH ph pj pf 0 :: nK pj y0 y1 y2 y3 y4 y5 :: nE pf .null .null .null .null .null .null :: []) := ⟨⟨_, _, _, _, _, _, rfl⟩, _, 5, hp, pr, pk, pe, ph, pj, pf, z, x0, x1, x2, x3, x4, x5, y0, y1, y2, y3, y4, y5, ht, rfl, rfl⟩
theorem QS.c0021 {K : Nat → Int64} {e : Nat → Addr} {q : Addr} {t : Nat} {L : List Nat} (ht : t ∈ [7]) (pr pk pe ph pj pf : Addr) (j0 : Nat) (z x0 x1 x2 x3 x4 x5 y1 y2 y3 y4 y5 : Int64)  (hp : List.Perm ([j0] : List Nat) L) : QS K e q t L (nQ q pr ph 0 z .null :: nR pr pk pe 0 2 :: nK pk x0 x1 x2 x3 x4 x5 :: nE pe .null .null .null .null .null .null :: nH ph pj pf 1 :: nK pj (K j0) y1 y2 y3 y4 y5 :: nE pf (.ref (e j0)) .null .null .null .null .null :: []) := ⟨⟨_, _, _, _, _, _, rfl⟩, _, 6, hp, pr, pk, pe, ph, pj, pf, j0, z, x0, x1, x2, x3, x4, x5, y1, y2, y3, y4, y5, ht, rfl, rfl⟩
theorem QS.c0022 {K : Nat → Int64} {e : Nat → Addr} {q : Addr} {t : Nat} {L : List Nat} (ht : t ∈ [7]) (pr pk pe ph pj pf : Addr) (j0 j1 : Nat) (z x0 x1 x2 x3 x4 x5 y2 y3 y4 y5 : Int64) (hv0 : ¬ (K j1) < (K j0)) (hp : List.Perm ([j0, j1] : List Nat) L) : QS K e q t L (nQ q pr ph 0 z .null :: nR pr pk pe 0 2 :: nK pk x0 x1 x2 x3 x4 x5 :: nE pe .null .null .null .null .null .null :: nH ph pj pf 2 :: nK pj (K j0) (K j1) y2 y3 y4 y5 :: nE pf (.ref (e j0)) (.ref (e j1)) .null .null .null .null :: []) := ⟨⟨_, _, _, _, _, _, rfl⟩, _, 7, hp, pr, pk, pe, ph, pj, pf, j0, j1, z, x0, x1, x2, x3, x4, x5, y2, y3, y4, y5, ht, hv0, rfl, rfl⟩
theorem QS.c0100 {K : Nat → Int64} {e : Nat → Addr} {q : Addr} {t : Nat} {L : List Nat} (ht : t ∈ [5, 7]) (pr pk pe ph pj pf : Addr) (i0 : Nat) (z x1 x2 x3 x4 x5 y0 y1 y2 y3 y4 y5 : Int64)  (hp : List.Perm ([i0] : List Nat) L) : QS K e q t L (nQ q pr ph 0 z .null :: nR pr pk pe 1 0 :: nK pk (K i0) x1 x2 x3 x4 x5 :: nE pe (.ref (e i0)) .null .null .null .null .null :: nH ph pj pf 0 :: nK pj y0 y1 y2 y3 y4 y5 :: nE pf .null .null .null .null .null .null :: []) := ⟨⟨_, _, _, _, _, _, rfl⟩, _, 8, hp, pr, pk, pe, ph, pj, pf, i0, z, x1, x2, x3, x4, x5, y0, y1, y2, y3, y4, y5, ht, rfl, rfl⟩
theorem QS.c0101 {K : Nat → Int64} {e : Nat → Addr} {q : Addr} {t : Nat} {L : List Nat} (ht : t ∈ [5, 7]) (pr pk pe ph pj pf : Addr) (i0 j0 : Nat) (z x1 x2 x3 x4 x5 y1 y2 y3 y4 y5 : Int64)  (hp : List.Perm ([i0, j0] : List Nat) L) : QS K e q t L (nQ q pr ph 0 z .null :: nR pr pk pe 1 0 :: nK pk (K i0) x1 x2 x3 x4 x5 :: nE pe (.ref (e i0)) .null .null .null .null .null :: nH ph pj pf 1 :: nK pj (K j0) y1 y2 y3 y4 y5 :: nE pf (.ref (e j0)) .null .null .null .null .null :: []) := ⟨⟨_, _, _, _, _, _, rfl⟩, _, 9, hp, pr, pk, pe, ph, pj, pf, i0, j0, z, x1, x2, x3, x4, x5, y1, y2, y3, y4, y5, ht, rfl, rfl⟩
theorem QS.c0102 {K : Nat → Int64} {e : Nat → Addr} {q : Addr} {t : Nat} {L : List Nat} (ht : t ∈ [5]) (pr pk pe ph pj pf : Addr) (i0 j0 j1 : Nat) (z x1 x2 x3 x4 x5 y2 y3 y4 y5 : Int64) (hv0 : ¬ (K j1) < (K j0)) (hp : List.Perm ([i0, j0, j1] : List Nat) L) : QS K e q t L (nQ q pr ph 0 z .null :: nR pr pk pe 1 0 :: nK pk (K i0) x1 x2 x3 x4 x5 :: nE pe (.ref (e i0)) .null .null .null .null .null :: nH ph pj pf 2 :: nK pj (K j0) (K j1) y2 y3 y4 y5 :: nE pf (.ref (e j0)) (.ref (e j1)) .null .null .null .null :: []) := ⟨⟨_, _, _, _, _, _, rfl⟩, _, 10, hp, pr, pk, pe, ph, pj, pf, i0, j0, j1, z, x1, x2, x3, x4, x5, y2, y3, y4, y5, ht, hv0, rfl, rfl⟩
theorem QS.c0110 {K : Nat → Int64} {e : Nat → Addr} {q : Addr} {t : Nat} {L : List Nat} (ht : t ∈ [5, 7]) (pr pk pe ph pj pf : Addr) (i0 : Nat) (z x0 x2 x3 x4 x5 y0 y1 y2 y3 y4 y5 : Int64)  (hp : List.Perm ([i0] : List Nat) L) : QS K e q t L (nQ q pr ph 0 z .null :: nR pr pk pe 1 1 :: nK pk x0 (K i0) x2 x3 x4 x5 :: nE pe .null (.ref (e i0)) .null .null .null .null :: nH ph pj pf 0 :: nK pj y0 y1 y2 y3 y4 y5 :: nE pf .null .null .null .null .null .null :: []) := ⟨⟨_, _, _, _, _, _, rfl⟩, _, 11, hp, pr, pk, pe, ph, pj, pf, i0, z, x0, x2, x3, x4, x5, y0, y1, y2, y3, y4, y5, ht, rfl, rfl⟩
theorem QS.c0111 {K : Nat → Int64} {e : Nat → Addr} {q : Addr} {t : Nat} {L : List Nat} (ht : t ∈ [5, 7]) (pr pk pe ph pj pf : Addr) (i0 j0 : Nat) (z x0 x2 x3 x4 x5 y1 y2 y3 y4 y5 : Int64)  (hp : List.Perm ([i0, j0] : List Nat) L) : QS K e q t L (nQ q pr ph 0 z .null :: nR pr pk pe 1 1 :: nK pk x0 (K i0) x2 x3 x4 x5 :: nE pe .null (.ref (e i0)) .null .null .null .null :: nH ph pj pf 1 :: nK pj (K j0) y1 y2 y3 y4 y5 :: nE pf (.ref (e j0)) .null .null .null .null .null :: []) := ⟨⟨_, _, _, _, _, _, rfl⟩, _, 12, hp, pr, pk, pe, ph, pj, pf, i0, j0, z, x0, x2, x3, x4, x5, y1, y2, y3, y4, y5, ht, rfl, rfl⟩
theorem QS.c0112 {K : Nat → Int64} {e : Nat → Addr} {q : Addr} {t : Nat} {L : List Nat} (ht : t ∈ [5]) (pr pk pe ph pj pf : Addr) (i0 j0 j1 : Nat) (z x0 x2 x3 x4 x5 y2 y3 y4 y5 : Int64) (hv0 : ¬ (K j1) < (K j0)) (hp : List.Perm ([i0, j0, j1] : List Nat) L) : QS K e q t L (nQ q pr ph 0 z .null :: nR pr pk pe 1 1 :: nK pk x0 (K i0) x2 x3 x4 x5 :: nE pe .null (.ref (e i0)) .null .null .null .null :: nH ph pj pf 2 :: nK pj (K j0) (K j1) y2 y3 y4 y5 :: nE pf (.ref (e j0)) (.ref (e j1)) .null .null .null .null :: []) := ⟨⟨_, _, _, _, _, _, rfl⟩, _, 13, hp, pr, pk, pe, ph, pj, pf, i0, j0, j1, z, x0, x2, x3, x4, x5, y2, y3, y4, y5, ht, hv0, rfl, rfl⟩
theorem QS.c0120 {K : Nat → Int64} {e : Nat → Addr} {q : Addr} {t : Nat} {L : List Nat} (ht : t ∈ [7]) (pr pk pe ph pj pf : Addr) (i0 : Nat) (z x0 x1 x3 x4 x5 y0 y1 y2 y3 y4 y5 : Int64)  (hp : List.Perm ([i0] : List Nat) L) : QS K e q t L (nQ q pr ph 0 z .null :: nR pr pk pe 1 2 :: nK pk x0 x1 (K i0) x3 x4 x5 :: nE pe .null .null (.ref (e i0)) .null .null .null :: nH ph pj pf 0 :: nK pj y0 y1 y2 y3 y4 y5 :: nE pf .null .null .null .null .null .null :: []) := ⟨⟨_, _, _, _, _, _, rfl⟩, _, 14, hp, pr, pk, pe, ph, pj, pf, i0, z, x0, x1, x3, x4, x5, y0, y1, y2, y3, y4, y5, ht, rfl, rfl⟩
theorem QS.c0121 {K : Nat → Int64} {e : Nat → Addr} {q : Addr} {t : Nat} {L : List Nat} (ht : t ∈ [7]) (pr pk pe ph pj pf : Addr) (i0 j0 : Nat) (z x0 x1 x3 x4 x5 y1 y2 y3 y4 y5 : Int64)  (hp : List.Perm ([i0, j0] : List Nat) L) : QS K e q t L (nQ q pr ph 0 z .null :: nR pr pk pe 1 2 :: nK pk x0 x1 (K i0) x3 x4 x5 :: nE pe .null .null (.ref (e i0)) .null .null .null :: nH ph pj pf 1 :: nK pj (K j0) y1 y2 y3 y4 y5 :: nE pf (.ref (e j0)) .null .null .null .null .null :: []) := ⟨⟨_, _, _, _, _, _, rfl⟩, _, 15, hp, pr, pk, pe, ph, pj, pf, i0, j0, z, x0, x1, x3, x4, x5, y1, y2, y3, y4, y5, ht, rfl, rfl⟩
theorem QS.c0200 {K : Nat → Int64} {e : Nat → Addr} {q : Addr} {t : Nat} {L : List Nat} (ht : t ∈ [5, 7]) (pr pk pe ph pj pf : Addr) (i0 i1 : Nat) (z x2 x3 x4 x5 y0 y1 y2 y3 y4 y5 : Int64) (hv0 : ¬ (K i1) < (K i0)) (hp : List.Perm ([i0, i1] : List Nat) L) : QS K e q t L (nQ q pr ph 0 z .null :: nR pr pk pe 2 0 :: nK pk (K i0) (K i1) x2 x3 x4 x5 :: nE pe (.ref (e i0)) (.ref (e i1)) .null .null .null .null :: nH ph pj pf 0 :: nK pj y0 y1 y2 y3 y4 y5 :: nE pf .null .null .null .null .null .null :: []) := ⟨⟨_, _, _, _, _, _, rfl⟩, _, 16, hp, pr, pk, pe, ph, pj, pf, i0, i1, z, x2, x3, x4, x5, y0, y1, y2, y3, y4, y5, ht, hv0, rfl, rfl⟩
theorem QS.c0201 {K : Nat → Int64} {e : Nat → Addr} {q : Addr} {t : Nat} {L : List Nat} (ht : t ∈ [5]) (pr pk pe ph pj pf : Addr) (i0 i1 j0 : Nat) (z x2 x3 x4 x5 y1 y2 y3 y4 y5 : Int64) (hv0 : ¬ (K i1) < (K i0)) (hp : List.Perm ([i0, i1, j0] : List Nat) L) : QS K e q t L (nQ q pr ph 0 z .null :: nR pr pk pe 2 0 :: nK pk (K i0) (K i1) x2 x3 x4 x5 :: nE pe (.ref (e i0)) (.ref (e i1)) .null .null .null .null :: nH ph pj pf 1 :: nK pj (K j0) y1 y2 y3 y4 y5 :: nE pf (.ref (e j0)) .null .null .null .null .null :: []) := ⟨⟨_, _, _, _, _, _, rfl⟩, _, 17, hp, pr, pk, pe, ph, pj, pf, i0, i1, j0, z, x2, x3, x4, x5, y1, y2, y3, y4, y5, ht, hv0, rfl, rfl⟩
theorem QS.c0210 {K : Nat → Int64} {e : Nat → Addr} {q : Addr} {t : Nat} {L : List Nat} (ht : t ∈ [5, 7]) (pr pk pe ph pj pf : Addr) (i0 i1 : Nat) (z x0 x3 x4 x5 y0 y1 y2 y3 y4 y5 : Int64) (hv0 : ¬ (K i1) < (K i0)) (hp : List.Perm ([i0, i1] : List Nat) L) : QS K e q t L (nQ q pr ph 0 z .null :: nR pr pk pe 2 1 :: nK pk x0 (K i0) (K i1) x3 x4 x5 :: nE pe .null (.ref (e i0)) (.ref (e i1)) .null .null .null :: nH ph pj pf 0 :: nK pj y0 y1 y2 y3 y4 y5 :: nE pf .null .null .null .null .null .null :: []) := ⟨⟨_, _, _, _, _, _, rfl⟩, _, 18, hp, pr, pk, pe, ph, pj, pf, i0, i1, z, x0, x3, x4, x5, y0, y1, y2, y3, y4, y5, ht, hv0, rfl, rfl⟩
theorem QS.c0211 {K : Nat → Int64} {e : Nat → Addr} {q : Addr} {t : Nat} {L : List Nat} (ht : t ∈ [5]) (pr pk pe ph pj pf : Addr) (i0 i1 j0 : Nat) (z x0 x3 x4 x5 y1 y2 y3 y4 y5 : Int64) (hv0 : ¬ (K i1) < (K i0)) (hp : List.Perm ([i0, i1, j0] : List Nat) L) : QS K e q t L (nQ q pr ph 0 z .null :: nR pr pk pe 2 1 :: nK pk x0 (K i0) (K i1) x3 x4 x5 :: nE pe .null (.ref (e i0)) (.ref (e i1)) .null .null .null :: nH ph pj pf 1 :: nK pj (K j0) y1 y2 y3 y4 y5 :: nE pf (.ref (e j0)) .null .null .null .null .null :: []) := ⟨⟨_, _, _, _, _, _, rfl⟩, _, 19, hp, pr, pk, pe, ph, pj, pf, i0, i1, j0, z, x0, x3, x4, x5, y1, y2, y3, y4, y5, ht, hv0, rfl, rfl⟩
theorem QS.c0220 {K : Nat → Int64} {e : Nat → Addr} {q : Addr} {t : Nat} {L : List Nat} (ht : t ∈ [7]) (pr pk pe ph pj pf : Addr) (i0 i1 : Nat) (z x0 x1 x4 x5 y0 y1 y2 y3 y4 y5 : Int64) (hv0 : ¬ (K i1) < (K i0)) (hp : List.Perm ([i0, i1] : List Nat) L) : QS K e q t L (nQ q pr ph 0 z .null :: nR pr pk pe 2 2 :: nK pk x0 x1 (K i0) (K i1) x4 x5 :: nE pe .null .null (.ref (e i0)) (.ref (e i1)) .null .null :: nH ph pj pf 0 :: nK pj y0 y1 y2 y3 y4 y5 :: nE pf .null .null .null .null .null .null :: []) := ⟨⟨_, _, _, _, _, _, rfl⟩, _, 20, hp, pr, pk, pe, ph, pj, pf, i0, i1, z, x0, x1, x4, x5, y0, y1, y2, y3, y4, y5, ht, hv0, rfl, rfl⟩
theorem QS.c0300 {K : Nat → Int64} {e : Nat → Addr} {q : Addr} {t : Nat} {L : List Nat} (ht : t ∈ [5]) (pr pk pe ph pj pf : Addr) (i0 i1 i2 : Nat) (z x3 x4 x5 y0 y1 y2 y3 y4 y5 : Int64) (hv0 : ¬ (K i1) < (K i0)) (hv1 : ¬ (K i2) < (K i1)) (hp : List.Perm ([i0, i1, i2] : List Nat) L) : QS K e q t L (nQ q pr ph 0 z .null :: nR pr pk pe 3 0 :: nK pk (K i0) (K i1) (K i2) x3 x4 x5 :: nE pe (.ref (e i0)) (.ref (e i1)) (.ref (e i2)) .null .null .null :: nH ph pj pf 0 :: nK pj y0 y1 y2 y3 y4 y5 :: nE pf .null .null .null .null .null .null :: []) := ⟨⟨_, _, _, _, _, _, rfl⟩, _, 21, hp, pr, pk, pe, ph, pj, pf, i0, i1, i2, z, x3, x4, x5, y0, y1, y2, y3, y4, y5, ht, hv0, hv1, rfl, rfl⟩
theorem QS.c0310 {K : Nat → Int64} {e : Nat → Addr} {q : Addr} {t : Nat} {L : List Nat} (ht : t ∈ [5]) (pr pk pe ph pj pf : Addr) (i0 i1 i2 : Nat) (z x0 x4 x5 y0 y1 y2 y3 y4 y5 : Int64) (hv0 : ¬ (K i1) < (K i0)) (hv1 : ¬ (K i2) < (K i1)) (hp : List.Perm ([i0, i1, i2] : List Nat) L) : QS K e q t L (nQ q pr ph 0 z .null :: nR pr pk pe 3 1 :: nK pk x0 (K i0) (K i1) (K i2) x4 x5 :: nE pe .null (.ref (e i0)) (.ref (e i1)) (.ref (e i2)) .null .null :: nH ph pj pf 0 :: nK pj y0 y1 y2 y3 y4 y5 :: nE pf .null .null .null .null .null .null :: []) := ⟨⟨_, _, _, _, _, _, rfl⟩, _, 22, hp, pr, pk, pe, ph, pj, pf, i0, i1, i2, z, x0, x4, x5, y0, y1, y2, y3, y4, y5, ht, hv0, hv1, rfl, rfl⟩
theorem QS.c1000 {K : Nat → Int64} {e : Nat → Addr} {q : Addr} {t : Nat} {L : List Nat} (ht : t ∈ [1, 6]) (pr pk pe ph pj pf : Addr) (w : Nat) (x0 x1 x2 x3 x4 x5 y0 y1 y2 y3 y4 y5 : Int64)  (hp : List.Perm ([w] : List Nat) L) : QS K e q t L (nQ q pr ph 1 (K w) (.ref (e w)) :: nR pr pk pe 0 0 :: nK pk x0 x1 x2 x3 x4 x5 :: nE pe .null .null .null .null .null .null :: nH ph pj pf 0 :: nK pj y0 y1 y2 y3 y4 y5 :: nE pf .null .null .null .null .null .null :: []) := ⟨⟨_, _, _, _, _, _, rfl⟩, _, 23, hp, pr, pk, pe, ph, pj, pf, w, x0, x1, x2, x3, x4, x5, y0, y1, y2, y3, y4, y5, ht, rfl, rfl⟩
theorem QS.c1010 {K : Nat → Int64} {e : Nat → Addr} {q : Addr} {t : Nat} {L : List Nat} (ht : t ∈ [6]) (pr pk pe ph pj pf : Addr) (w : Nat) (x0 x1 x2 x3 x4 x5 y0 y1 y2 y3 y4 y5 : Int64)  (hp : List.Perm ([w] : List Nat) L) : QS K e q t L (nQ q pr ph 1 (K w) (.ref (e w)) :: nR pr pk pe 0 1 :: nK pk x0 x1 x2 x3 x4 x5 :: nE pe .null .null .null .null .null .null :: nH ph pj pf 0 :: nK pj y0 y1 y2 y3 y4 y5 :: nE pf .null .null .null .null .null .null :: []) := ⟨⟨_, _, _, _, _, _, rfl⟩, _, 24, hp, pr, pk, pe, ph, pj, pf, w, x0, x1, x2, x3, x4, x5, y0, y1, y2, y3, y4, y5, ht, rfl, rfl⟩
theorem QS.c1011 {K : Nat → Int64} {e : Nat → Addr} {q : Addr} {t : Nat} {L : List Nat} (ht : t ∈ [6]) (pr pk pe ph pj pf : Addr) (w j0 : Nat) (x0 x1 x2 x3 x4 x5 y1 y2 y3 y4 y5 : Int64)  (hp : List.Perm ([w, j0] : List Nat) L) : QS K e q t L (nQ q pr ph 1 (K w) (.ref (e w)) :: nR pr pk pe 0 1 :: nK pk x0 x1 x2 x3 x4 x5 :: nE pe .null .null .null .null .null .null :: nH ph pj pf 1 :: nK pj (K j0) y1 y2 y3 y4 y5 :: nE pf (.ref (e j0)) .null .null .null .null .null :: []) := ⟨⟨_, _, _, _, _, _, rfl⟩, _, 25, hp, pr, pk, pe, ph, pj, pf, w, j0, x0, x1, x2, x3, x4, x5, y1, y2, y3, y4, y5, ht, rfl, rfl⟩
theorem QS.c1012 {K : Nat → Int64} {e : Nat → Addr} {q : Addr} {t : Nat} {L : List Nat} (ht : t ∈ [6]) (pr pk pe ph pj pf : Addr) (w j0 j1 : Nat) (x0 x1 x2 x3 x4 x5 y2 y3 y4 y5 : Int64) (hv0 : ¬ (K j1) < (K j0)) (hp : List.Perm ([w, j0, j1] : List Nat) L) : QS K e q t L (nQ q pr ph 1 (K w) (.ref (e w)) :: nR pr pk pe 0 1 :: nK pk x0 x1 x2 x3 x4 x5 :: nE pe .null .null .null .null .null .null :: nH ph pj pf 2 :: nK pj (K j0) (K j1) y2 y3 y4 y5 :: nE pf (.ref (e j0)) (.ref (e j1)) .null .null .null .null :: []) := ⟨⟨_, _, _, _, _, _, rfl⟩, _, 26, hp, pr, pk, pe, ph, pj, pf, w, j0, j1, x0, x1, x2, x3, x4, x5, y2, y3, y4, y5, ht, hv0, rfl, rfl⟩
theorem QS.c1013 {K : Nat → Int64} {e : Nat → Addr} {q : Addr} {t : Nat} {L : List Nat} (ht : t ∈ [6]) (pr pk pe ph pj pf : Addr) (w j0 j1 j2 : Nat) (x0 x1 x2 x3 x4 x5 y3 y4 y5 : Int64) (hv0 : ¬ (K j1) < (K j0)) (hv1 : ¬ (K j2) < (K j0)) (hp : List.Perm ([w, j0, j1, j2] : List Nat) L) : QS K e q t L (nQ q pr ph 1 (K w) (.ref (e w)) :: nR pr pk pe 0 1 :: nK pk x0 x1 x2 x3 x4 x5 :: nE pe .null .null .null .null .null .null :: nH ph pj pf 3 :: nK pj (K j0) (K j1) (K j2) y3 y4 y5 :: nE pf (.ref (e j0)) (.ref (e j1)) (.ref (e j2)) .null .null .null :: []) := ⟨⟨_, _, _, _, _, _, rfl⟩, _, 27, hp, pr, pk, pe, ph, pj, pf, w, j0, j1, j2, x0, x1, x2, x3, x4, x5, y3, y4, y5, ht, hv0, hv1, rfl, rfl⟩
theorem QS.c1020 {K : Nat → Int64} {e : Nat → Addr} {q : Addr} {t : Nat} {L : List Nat} (ht : t ∈ [6]) (pr pk pe ph pj pf : Addr) (w : Nat) (x0 x1 x2 x3 x4 x5 y0 y1 y2 y3 y4 y5 : Int64)  (hp : List.Perm ([w] : List Nat) L) : QS K e q t L (nQ q pr ph 1 (K w) (.ref (e w)) :: nR pr pk pe 0 2 :: nK pk x0 x1 x2 x3 x4 x5 :: nE pe .null .null .null .null .null .null :: nH ph pj pf 0 :: nK pj y0 y1 y2 y3 y4 y5 :: nE pf .null .null .null .null .null .null :: []) := ⟨⟨_, _, _, _, _, _, rfl⟩, _, 28, hp, pr, pk, pe, ph, pj, pf, w, x0, x1, x2, x3, x4, x5, y0, y1, y2, y3, y4, y5, ht, rfl, rfl⟩
theorem QS.c1021 {K : Nat → Int64} {e : Nat → Addr} {q : Addr} {t : Nat} {L : List Nat} (ht : t ∈ [6]) (pr pk pe ph pj pf : Addr) (w j0 : Nat) (x0 x1 x2 x3 x4 x5 y1 y2 y3 y4 y5 : Int64)  (hp : List.Perm ([w, j0] : List Nat) L) : QS K e q t L (nQ q pr ph 1 (K w) (.ref (e w)) :: nR pr pk pe 0 2 :: nK pk x0 x1 x2 x3 x4 x5 :: nE pe .null .null .null .null .null .null :: nH ph pj pf 1 :: nK pj (K j0) y1 y2 y3 y4 y5 :: nE pf (.ref (e j0)) .null .null .null .null .null :: []) := ⟨⟨_, _, _, _, _, _, rfl⟩, _, 29, hp, pr, pk, pe, ph, pj, pf, w, j0, x0, x1, x2, x3, x4, x5, y1, y2, y3, y4, y5, ht, rfl, rfl⟩
theorem QS.c1022 {K : Nat → Int64} {e : Nat → Addr} {q : Addr} {t : Nat} {L : List Nat} (ht : t ∈ [6]) (pr pk pe ph pj pf : Addr) (w j0 j1 : Nat) (x0 x1 x2 x3 x4 x5 y2 y3 y4 y5 : Int64) (hv0 : ¬ (K j1) < (K j0)) (hp : List.Perm ([w, j0, j1] : List Nat) L) : QS K e q t L (nQ q pr ph 1 (K w) (.ref (e w)) :: nR pr pk pe 0 2 :: nK pk x0 x1 x2 x3 x4 x5 :: nE pe .null .null .null .null .null .null :: nH ph pj pf 2 :: nK pj (K j0) (K j1) y2 y3 y4 y5 :: nE pf (.ref (e j0)) (.ref (e j1)) .null .null .null .null :: []) := ⟨⟨_, _, _, _, _, _, rfl⟩, _, 30, hp, pr, pk, pe, ph, pj, pf, w, j0, j1, x0, x1, x2, x3, x4, x5, y2, y3, y4, y5, ht, hv0, rfl, rfl⟩
theorem QS.c1100 {K : Nat → Int64} {e : Nat → Addr} {q : Addr} {t : Nat} {L : List Nat} (ht : t ∈ [2, 6]) (pr pk pe ph pj pf : Addr) (w i0 : Nat) (x1 x2 x3 x4 x5 y0 y1 y2 y3 y4 y5 : Int64)  (hp : List.Perm ([w, i0] : List Nat) L) : QS K e q t L (nQ q pr ph 1 (K w) (.ref (e w)) :: nR pr pk pe 1 0 :: nK pk (K i0) x1 x2 x3 x4 x5 :: nE pe (.ref (e i0)) .null .null .null .null .null :: nH ph pj pf 0 :: nK pj y0 y1 y2 y3 y4 y5 :: nE pf .null .null .null .null .null .null :: []) := ⟨⟨_, _, _, _, _, _, rfl⟩, _, 31, hp, pr, pk, pe, ph, pj, pf, w, i0, x1, x2, x3, x4, x5, y0, y1, y2, y3, y4, y5, ht, rfl, rfl⟩
theorem QS.c1101 {K : Nat → Int64} {e : Nat → Addr} {q : Addr} {t : Nat} {L : List Nat} (ht : t ∈ [3, 6]) (pr pk pe ph pj pf : Addr) (w i0 j0 : Nat) (x1 x2 x3 x4 x5 y1 y2 y3 y4 y5 : Int64)  (hp : List.Perm ([w, i0, j0] : List Nat) L) : QS K e q t L (nQ q pr ph 1 (K w) (.ref (e w)) :: nR pr pk pe 1 0 :: nK pk (K i0) x1 x2 x3 x4 x5 :: nE pe (.ref (e i0)) .null .null .null .null .null :: nH ph pj pf 1 :: nK pj (K j0) y1 y2 y3 y4 y5 :: nE pf (.ref (e j0)) .null .null .null .null .null :: []) := ⟨⟨_, _, _, _, _, _, rfl⟩, _, 32, hp, pr, pk, pe, ph, pj, pf, w, i0, j0, x1, x2, x3, x4, x5, y1, y2, y3, y4, y5, ht, rfl, rfl⟩
theorem QS.c1102 {K : Nat → Int64} {e : Nat → Addr} {q : Addr} {t : Nat} {L : List Nat} (ht : t ∈ [4, 6]) (pr pk pe ph pj pf : Addr) (w i0 j0 j1 : Nat) (x1 x2 x3 x4 x5 y2 y3 y4 y5 : Int64) (hv0 : ¬ (K j1) < (K j0)) (hp : List.Perm ([w, i0, j0, j1] : List Nat) L) : QS K e q t L (nQ q pr ph 1 (K w) (.ref (e w)) :: nR pr pk pe 1 0 :: nK pk (K i0) x1 x2 x3 x4 x5 :: nE pe (.ref (e i0)) .null .null .null .null .null :: nH ph pj pf 2 :: nK pj (K j0) (K j1) y2 y3 y4 y5 :: nE pf (.ref (e j0)) (.ref (e j1)) .null .null .null .null :: []) := ⟨⟨_, _, _, _, _, _, rfl⟩, _, 33, hp, pr, pk, pe, ph, pj, pf, w, i0, j0, j1, x1, x2, x3, x4, x5, y2, y3, y4, y5, ht, hv0, rfl, rfl⟩
theorem QS.c1103 {K : Nat → Int64} {e : Nat → Addr} {q : Addr} {t : Nat} {L : List Nat} (ht : t ∈ [6]) (pr pk pe ph pj pf : Addr) (w i0 j0 j1 j2 : Nat) (x1 x2 x3 x4 x5 y3 y4 y5 : Int64) (hv0 : ¬ (K j1) < (K j0)) (hv1 : ¬ (K j2) < (K j0)) (hp : List.Perm ([w, i0, j0, j1, j2] : List Nat) L) : QS K e q t L (nQ q pr ph 1 (K w) (.ref (e w)) :: nR pr pk pe 1 0 :: nK pk (K i0) x1 x2 x3 x4 x5 :: nE pe (.ref (e i0)) .null .null .null .null .null :: nH ph pj pf 3 :: nK pj (K j0) (K j1) (K j2) y3 y4 y5 :: nE pf (.ref (e j0)) (.ref (e j1)) (.ref (e j2)) .null .null .null :: []) := ⟨⟨_, _, _, _, _, _, rfl⟩, _, 34, hp, pr, pk, pe, ph, pj, pf, w, i0, j0, j1, j2, x1, x2, x3, x4, x5, y3, y4, y5, ht, hv0, hv1, rfl, rfl⟩
theorem QS.c1110 {K : Nat → Int64} {e : Nat → Addr} {q : Addr} {t : Nat} {L : List Nat} (ht : t ∈ [6]) (pr pk pe ph pj pf : Addr) (w i0 : Nat) (x0 x2 x3 x4 x5 y0 y1 y2 y3 y4 y5 : Int64)  (hp : List.Perm ([w, i0] : List Nat) L) : QS K e q t L (nQ q pr ph 1 (K w) (.ref (e w)) :: nR pr pk pe 1 1 :: nK pk x0 (K i0) x2 x3 x4 x5 :: nE pe .null (.ref (e i0)) .null .null .null .null :: nH ph pj pf 0 :: nK pj y0 y1 y2 y3 y4 y5 :: nE pf .null .null .null .null .null .null :: []) := ⟨⟨_, _, _, _, _, _, rfl⟩, _, 35, hp, pr, pk, pe, ph, pj, pf, w, i0, x0, x2, x3, x4, x5, y0, y1, y2, y3, y4, y5, ht, rfl, rfl⟩
theorem QS.c1111 {K : Nat → Int64} {e : Nat → Addr} {q : Addr} {t : Nat} {L : List Nat} (ht : t ∈ [6]) (pr pk pe ph pj pf : Addr) (w i0 j0 : Nat) (x0 x2 x3 x4 x5 y1 y2 y3 y4 y5 : Int64)  (hp : List.Perm ([w, i0, j0] : List Nat) L) : QS K e q t L (nQ q pr ph 1 (K w) (.ref (e w)) :: nR pr pk pe 1 1 :: nK pk x0 (K i0) x2 x3 x4 x5 :: nE pe .null (.ref (e i0)) .null .null .null .null :: nH ph pj pf 1 :: nK pj (K j0) y1 y2 y3 y4 y5 :: nE pf (.ref (e j0)) .null .null .null .null .null :: []) := ⟨⟨_, _, _, _, _, _, rfl⟩, _, 36, hp, pr, pk, pe, ph, pj, pf, w, i0, j0, x0, x2, x3, x4, x5, y1, y2, y3, y4, y5, ht, rfl, rfl⟩
theorem QS.c1112 {K : Nat → Int64} {e : Nat → Addr} {q : Addr} {t : Nat} {L : List Nat} (ht : t ∈ [6]) (pr pk pe ph pj pf : Addr) (w i0 j0 j1 : Nat) (x0 x2 x3 x4 x5 y2 y3 y4 y5 : Int64) (hv0 : ¬ (K j1) < (K j0)) (hp : List.Perm ([w, i0, j0, j1] : List Nat) L) : QS K e q t L (nQ q pr ph 1 (K w) (.ref (e w)) :: nR pr pk pe 1 1 :: nK pk x0 (K i0) x2 x3 x4 x5 :: nE pe .null (.ref (e i0)) .null .null .null .null :: nH ph pj pf 2 :: nK pj (K j0) (K j1) y2 y3 y4 y5 :: nE pf (.ref (e j0)) (.ref (e j1)) .null .null .null .null :: []) := ⟨⟨_, _, _, _, _, _, rfl⟩, _, 37, hp, pr, pk, pe, ph, pj, pf, w, i0, j0, j1, x0, x2, x3, x4, x5, y2, y3, y4, y5, ht, hv0, rfl, rfl⟩
theorem QS.c1120 {K : Nat → Int64} {e : Nat → Addr} {q : Addr} {t : Nat} {L : List Nat} (ht : t ∈ [6]) (pr pk pe ph pj pf : Addr) (w i0 : Nat) (x0 x1 x3 x4 x5 y0 y1 y2 y3 y4 y5 : Int64)  (hp : List.Perm ([w, i0] : List Nat) L) : QS K e q t L (nQ q pr ph 1 (K w) (.ref (e w)) :: nR pr pk pe 1 2 :: nK pk x0 x1 (K i0) x3 x4 x5 :: nE pe .null .null (.ref (e i0)) .null .null .null :: nH ph pj pf 0 :: nK pj y0 y1 y2 y3 y4 y5 :: nE pf .null .null .null .null .null .null :: []) := ⟨⟨_, _, _, _, _, _, rfl⟩, _, 38, hp, pr, pk, pe, ph, pj, pf, w, i0, x0, x1, x3, x4, x5, y0, y1, y2, y3, y4, y5, ht, rfl, rfl⟩
theorem QS.c1121 {K : Nat → Int64} {e : Nat → Addr} {q : Addr} {t : Nat} {L : List Nat} (ht : t ∈ [6]) (pr pk pe ph pj pf : Addr) (w i0 j0 : Nat) (x0 x1 x3 x4 x5 y1 y2 y3 y4 y5 : Int64)  (hp : List.Perm ([w, i0, j0] : List Nat) L) : QS K e q t L (nQ q pr ph 1 (K w) (.ref (e w)) :: nR pr pk pe 1 2 :: nK pk x0 x1 (K i0) x3 x4 x5 :: nE pe .null .null (.ref (e i0)) .null .null .null :: nH ph pj pf 1 :: nK pj (K j0) y1 y2 y3 y4 y5 :: nE pf (.ref (e j0)) .null .null .null .null .null :: []) := ⟨⟨_, _, _, _, _, _, rfl⟩, _, 39, hp, pr, pk, pe, ph, pj, pf, w, i0, j0, x0, x1, x3, x4, x5, y1, y2, y3, y4, y5, ht, rfl, rfl⟩
theorem QS.c1200 {K : Nat → Int64} {e : Nat → Addr} {q : Addr} {t : Nat} {L : List Nat} (ht : t ∈ [3, 6]) (pr pk pe ph pj pf : Addr) (w i0 i1 : Nat) (x2 x3 x4 x5 y0 y1 y2 y3 y4 y5 : Int64) (hv0 : ¬ (K i1) < (K i0)) (hp : List.Perm ([w, i0, i1] : List Nat) L) : QS K e q t L (nQ q pr ph 1 (K w) (.ref (e w)) :: nR pr pk pe 2 0 :: nK pk (K i0) (K i1) x2 x3 x4 x5 :: nE pe (.ref (e i0)) (.ref (e i1)) .null .null .null .null :: nH ph pj pf 0 :: nK pj y0 y1 y2 y3 y4 y5 :: nE pf .null .null .null .null .null .null :: []) := ⟨⟨_, _, _, _, _, _, rfl⟩, _, 40, hp, pr, pk, pe, ph, pj, pf, w, i0, i1, x2, x3, x4, x5, y0, y1, y2, y3, y4, y5, ht, hv0, rfl, rfl⟩
theorem QS.c1201 {K : Nat → Int64} {e : Nat → Addr} {q : Addr} {t : Nat} {L : List Nat} (ht : t ∈ [4, 6]) (pr pk pe ph pj pf : Addr) (w i0 i1 j0 : Nat) (x2 x3 x4 x5 y1 y2 y3 y4 y5 : Int64) (hv0 : ¬ (K i1) < (K i0)) (hp : List.Perm ([w, i0, i1, j0] : List Nat) L) : QS K e q t L (nQ q pr ph 1 (K w) (.ref (e w)) :: nR pr pk pe 2 0 :: nK pk (K i0) (K i1) x2 x3 x4 x5 :: nE pe (.ref (e i0)) (.ref (e i1)) .null .null .null .null :: nH ph pj pf 1 :: nK pj (K j0) y1 y2 y3 y4 y5 :: nE pf (.ref (e j0)) .null .null .null .null .null :: []) := ⟨⟨_, _, _, _, _, _, rfl⟩, _, 41, hp, pr, pk, pe, ph, pj, pf, w, i0, i1, j0, x2, x3, x4, x5, y1, y2, y3, y4, y5, ht, hv0, rfl, rfl⟩
theorem QS.c1202 {K : Nat → Int64} {e : Nat → Addr} {q : Addr} {t : Nat} {L : List Nat} (ht : t ∈ [6]) (pr pk pe ph pj pf : Addr) (w i0 i1 j0 j1 : Nat) (x2 x3 x4 x5 y2 y3 y4 y5 : Int64) (hv0 : ¬ (K i1) < (K i0)) (hv1 : ¬ (K j1) < (K j0)) (hp : List.Perm ([w, i0, i1, j0, j1] : List Nat) L) : QS K e q t L (nQ q pr ph 1 (K w) (.ref (e w)) :: nR pr pk pe 2 0 :: nK pk (K i0) (K i1) x2 x3 x4 x5 :: nE pe (.ref (e i0)) (.ref (e i1)) .null .null .null .null :: nH ph pj pf 2 :: nK pj (K j0) (K j1) y2 y3 y4 y5 :: nE pf (.ref (e j0)) (.ref (e j1)) .null .null .null .null :: []) := ⟨⟨_, _, _, _, _, _, rfl⟩, _, 42, hp, pr, pk, pe, ph, pj, pf, w, i0, i1, j0, j1, x2, x3, x4, x5, y2, y3, y4, y5, ht, hv0, hv1, rfl, rfl⟩
theorem QS.c1210 {K : Nat → Int64} {e : Nat → Addr} {q : Addr} {t : Nat} {L : List Nat} (ht : t ∈ [6]) (pr pk pe ph pj pf : Addr) (w i0 i1 : Nat) (x0 x3 x4 x5 y0 y1 y2 y3 y4 y5 : Int64) (hv0 : ¬ (K i1) < (K i0)) (hp : List.Perm ([w, i0, i1] : List Nat) L) : QS K e q t L (nQ q pr ph 1 (K w) (.ref (e w)) :: nR pr pk pe 2 1 :: nK pk x0 (K i0) (K i1) x3 x4 x5 :: nE pe .null (.ref (e i0)) (.ref (e i1)) .null .null .null :: nH ph pj pf 0 :: nK pj y0 y1 y2 y3 y4 y5 :: nE pf .null .null .null .null .null .null :: []) := ⟨⟨_, _, _, _, _, _, rfl⟩, _, 43, hp, pr, pk, pe, ph, pj, pf, w, i0, i1, x0, x3, x4, x5, y0, y1, y2, y3, y4, y5, ht, hv0, rfl, rfl⟩
theorem QS.c1211 {K : Nat → Int64} {e : Nat → Addr} {q : Addr} {t : Nat} {L : List Nat} (ht : t ∈ [6]) (pr pk pe ph pj pf : Addr) (w i0 i1 j0 : Nat) (x0 x3 x4 x5 y1 y2 y3 y4 y5 : Int64) (hv0 : ¬ (K i1) < (K i0)) (hp : List.Perm ([w, i0, i1, j0] : List Nat) L) : QS K e q t L (nQ q pr ph 1 (K w) (.ref (e w)) :: nR pr pk pe 2 1 :: nK pk x0 (K i0) (K i1) x3 x4 x5 :: nE pe .null (.ref (e i0)) (.ref (e i1)) .null .null .null :: nH ph pj pf 1 :: nK pj (K j0) y1 y2 y3 y4 y5 :: nE pf (.ref (e j0)) .null .null .null .null .null :: []) := ⟨⟨_, _, _, _, _, _, rfl⟩, _, 44, hp, pr, pk, pe, ph, pj, pf, w, i0, i1, j0, x0, x3, x4, x5, y1, y2, y3, y4, y5, ht, hv0, rfl, rfl⟩
theorem QS.c1220 {K : Nat → Int64} {e : Nat → Addr} {q : Addr} {t : Nat} {L : List Nat} (ht : t ∈ [6]) (pr pk pe ph pj pf : Addr) (w i0 i1 : Nat) (x0 x1 x4 x5 y0 y1 y2 y3 y4 y5 : Int64) (hv0 : ¬ (K i1) < (K i0)) (hp : List.Perm ([w, i0, i1] : List Nat) L) : QS K e q t L (nQ q pr ph 1 (K w) (.ref (e w)) :: nR pr pk pe 2 2 :: nK pk x0 x1 (K i0) (K i1) x4 x5 :: nE pe .null .null (.ref (e i0)) (.ref (e i1)) .null .null :: nH ph pj pf 0 :: nK pj y0 y1 y2 y3 y4 y5 :: nE pf .null .null .null .null .null .null :: []) := ⟨⟨_, _, _, _, _, _, rfl⟩, _, 45, hp, pr, pk, pe, ph, pj, pf, w, i0, i1, x0, x1, x4, x5, y0, y1, y2, y3, y4, y5, ht, hv0, rfl, rfl⟩
theorem QS.c1300 {K : Nat → Int64} {e : Nat → Addr} {q : Addr} {t : Nat} {L : List Nat} (ht : t ∈ [4, 6]) (pr pk pe ph pj pf : Addr) (w i0 i1 i2 : Nat) (x3 x4 x5 y0 y1 y2 y3 y4 y5 : Int64) (hv0 : ¬ (K i1) < (K i0)) (hv1 : ¬ (K i2) < (K i1)) (hp : List.Perm ([w, i0, i1, i2] : List Nat) L) : QS K e q t L (nQ q pr ph 1 (K w) (.ref (e w)) :: nR pr pk pe 3 0 :: nK pk (K i0) (K i1) (K i2) x3 x4 x5 :: nE pe (.ref (e i0)) (.ref (e i1)) (.ref (e i2)) .null .null .null :: nH ph pj pf 0 :: nK pj y0 y1 y2 y3 y4 y5 :: nE pf .null .null .null .null .null .null :: []) := ⟨⟨_, _, _, _, _, _, rfl⟩, _, 46, hp, pr, pk, pe, ph, pj, pf, w, i0, i1, i2, x3, x4, x5, y0, y1, y2, y3, y4, y5, ht, hv0, hv1, rfl, rfl⟩
theorem QS.c1301 {K : Nat → Int64} {e : Nat → Addr} {q : Addr} {t : Nat} {L : List Nat} (ht : t ∈ [6]) (pr pk pe ph pj pf : Addr) (w i0 i1 i2 j0 : Nat) (x3 x4 x5 y1 y2 y3 y4 y5 : Int64) (hv0 : ¬ (K i1) < (K i0)) (hv1 : ¬ (K i2) < (K i1)) (hp : List.Perm ([w, i0, i1, i2, j0] : List Nat) L) : QS K e q t L (nQ q pr ph 1 (K w) (.ref (e w)) :: nR pr pk pe 3 0 :: nK pk (K i0) (K i1) (K i2) x3 x4 x5 :: nE pe (.ref (e i0)) (.ref (e i1)) (.ref (e i2)) .null .null .null :: nH ph pj pf 1 :: nK pj (K j0) y1 y2 y3 y4 y5 :: nE pf (.ref (e j0)) .null .null .null .null .null :: []) := ⟨⟨_, _, _, _, _, _, rfl⟩, _, 47, hp, pr, pk, pe, ph, pj, pf, w, i0, i1, i2, j0, x3, x4, x5, y1, y2, y3, y4, y5, ht, hv0, hv1, rfl, rfl⟩
theorem QS.c1310 {K : Nat → Int64} {e : Nat → Addr} {q : Addr} {t : Nat} {L : List Nat} (ht : t ∈ [6]) (pr pk pe ph pj pf : Addr) (w i0 i1 i2 : Nat) (x0 x4 x5 y0 y1 y2 y3 y4 y5 : Int64) (hv0 : ¬ (K i1) < (K i0)) (hv1 : ¬ (K i2) < (K i1)) (hp : List.Perm ([w, i0, i1, i2] : List Nat) L) : QS K e q t L (nQ q pr ph 1 (K w) (.ref (e w)) :: nR pr pk pe 3 1 :: nK pk x0 (K i0) (K i1) (K i2) x4 x5 :: nE pe .null (.ref (e i0)) (.ref (e i1)) (.ref (e i2)) .null .null :: nH ph pj pf 0 :: nK pj y0 y1 y2 y3 y4 y5 :: nE pf .null .null .null .null .null .null :: []) := ⟨⟨_, _, _, _, _, _, rfl⟩, _, 48, hp, pr, pk, pe, ph, pj, pf, w, i0, i1, i2, x0, x4, x5, y0, y1, y2, y3, y4, y5, ht, hv0, hv1, rfl, rfl⟩
theorem QS.c1400 {K : Nat → Int64} {e : Nat → Addr} {q : Addr} {t : Nat} {L : List Nat} (ht : t ∈ [6]) (pr pk pe ph pj pf : Addr) (w i0 i1 i2 i3 : Nat) (x4 x5 y0 y1 y2 y3 y4 y5 : Int64) (hv0 : ¬ (K i1) < (K i0)) (hv1 : ¬ (K i2) < (K i1)) (hv2 : ¬ (K i3) < (K i2)) (hp : List.Perm ([w, i0, i1, i2, i3] : List Nat) L) : QS K e q t L (nQ q pr ph 1 (K w) (.ref (e w)) :: nR pr pk pe 4 0 :: nK pk (K i0) (K i1) (K i2) (K i3) x4 x5 :: nE pe (.ref (e i0)) (.ref (e i1)) (.ref (e i2)) (.ref (e i3)) .null .null :: nH ph pj pf 0 :: nK pj y0 y1 y2 y3 y4 y5 :: nE pf .null .null .null .null .null .null :: []) := ⟨⟨_, _, _, _, _, _, rfl⟩, _, 49, hp, pr, pk, pe, ph, pj, pf, w, i0, i1, i2, i3, x4, x5, y0, y1, y2, y3, y4, y5, ht, hv0, hv1, hv2, rfl, rfl⟩
theorem d4_0 : decode prog_20_method_2_code 0 = .ok (.aload_n 0, 1) := by decide +kernel
theorem d4_1 : decode prog_20_method_2_code 1 = .ok (.getfield 25, 3) := by decide +kernel
theorem d4_4 : decode prog_20_method_2_code 4 = .ok (.ifCond .eq 15, 3) := by decide +kernel
theorem d4_19 : decode prog_20_method_2_code 19 = .ok (.aload_n 0, 1) := by decide +kernel
theorem d4_20 : decode prog_20_method_2_code 20 = .ok (.iconst 1, 1) := by decide +kernel
theorem d4_21 : decode prog_20_method_2_code 21 = .ok (.putfield 25, 3) := by decide +kernel
theorem d4_24 : decode prog_20_method_2_code 24 = .ok (.aload_n 0, 1) := by decide +kernel
theorem d4_25 : decode prog_20_method_2_code 25 = .ok (.lload_n 1, 1) := by decide +kernel
theorem d4_26 : decode prog_20_method_2_code 26 = .ok (.putfield 29, 3) := by decide +kernel
theorem d4_29 : decode prog_20_method_2_code 29 = .ok (.aload_n 0, 1) := by decide +kernel
theorem d4_30 : decode prog_20_method_2_code 30 = .ok (.aload_n 3, 1) := by decide +kernel
theorem d4_31 : decode prog_20_method_2_code 31 = .ok (.putfield 33, 3) := by decide +kernel
theorem d4_34 : decode prog_20_method_2_code 34 = .ok (.return_, 1) := by decide +kernel
theorem d4_7 : decode prog_20_method_2_code 7 = .ok (.aload_n 0, 1) := by decide +kernel
theorem d4_8 : decode prog_20_method_2_code 8 = .ok (.aload_n 0, 1) := by decide +kernel
theorem d4_9 : decode prog_20_method_2_code 9 = .ok (.getfield 29, 3) := by decide +kernel
theorem d4_12 : decode prog_20_method_2_code 12 = .ok (.aload_n 0, 1) := by decide +kernel
theorem d4_13 : decode prog_20_method_2_code 13 = .ok (.getfield 33, 3) := by decide +kernel
theorem d4_16 : decode prog_20_method_2_code 16 = .ok (.invokevirtual 37, 3) := by decide +kernel
theorem d5_0 : decode prog_20_method_9_code 0 = .ok (.aload_n 0, 1) := by decide +kernel
theorem d5_1 : decode prog_20_method_9_code 1 = .ok (.getfield 12, 3) := by decide +kernel
theorem d5_4 : decode prog_20_method_9_code 4 = .ok (.getfield 41, 3) := by decide +kernel
theorem d5_7 : decode prog_20_method_9_code 7 = .ok (.ifCond .eq 15, 3) := by decide +kernel
theorem d5_22 : decode prog_20_method_9_code 22 = .ok (.aload_n 0, 1) := by decide +kernel
theorem d5_23 : decode prog_20_method_9_code 23 = .ok (.getfield 12, 3) := by decide +kernel
theorem d5_26 : decode prog_20_method_9_code 26 = .ok (.lload_n 1, 1) := by decide +kernel
theorem d5_27 : decode prog_20_method_9_code 27 = .ok (.aload_n 3, 1) := by decide +kernel
theorem d5_28 : decode prog_20_method_9_code 28 = .ok (.invokevirtual 101, 3) := by decide +kernel
theorem d6_0 : decode prog_23_method_3_code 0 = .ok (.aload_n 0, 1) := by decide +kernel
theorem d6_1 : decode prog_23_method_3_code 1 = .ok (.invokevirtual 21, 3) := by decide +kernel
theorem d6_4 : decode prog_23_method_3_code 4 = .ok (.aload_n 0, 1) := by decide +kernel
theorem d6_5 : decode prog_23_method_3_code 5 = .ok (.aload_n 0, 1) := by decide +kernel
theorem d6_6 : decode prog_23_method_3_code 6 = .ok (.getfield 13, 3) := by decide +kernel
theorem d6_9 : decode prog_23_method_3_code 9 = .ok (.invokevirtual 17, 3) := by decide +kernel
theorem d6_12 : decode prog_23_method_3_code 12 = .ok (.istore 4, 2) := by decide +kernel
theorem d6_14 : decode prog_23_method_3_code 14 = .ok (.aload_n 0, 1) := by decide +kernel
theorem d6_15 : decode prog_23_method_3_code 15 = .ok (.getfield 7, 3) := by decide +kernel
theorem d6_18 : decode prog_23_method_3_code 18 = .ok (.iload 4, 2) := by decide +kernel
theorem d6_20 : decode prog_23_method_3_code 20 = .ok (.lload_n 1, 1) := by decide +kernel
theorem d6_21 : decode prog_23_method_3_code 21 = .ok (.lastore, 1) := by decide +kernel
theorem d6_22 : decode prog_23_method_3_code 22 = .ok (.aload_n 0, 1) := by decide +kernel
theorem d6_23 : decode prog_23_method_3_code 23 = .ok (.getfield 24, 3) := by decide +kernel
theorem d6_26 : decode prog_23_method_3_code 26 = .ok (.iload 4, 2) := by decide +kernel
theorem d6_28 : decode prog_23_method_3_code 28 = .ok (.aload_n 3, 1) := by decide +kernel
theorem d6_29 : decode prog_23_method_3_code 29 = .ok (.aastore, 1) := by decide +kernel
theorem d6_30 : decode prog_23_method_3_code 30 = .ok (.aload_n 0, 1) := by decide +kernel
theorem d6_31 : decode prog_23_method_3_code 31 = .ok (.dup, 1) := by decide +kernel
theorem d6_32 : decode prog_23_method_3_code 32 = .ok (.getfield 13, 3) := by decide +kernel
theorem d6_35 : decode prog_23_method_3_code 35 = .ok (.iconst 1, 1) := by decide +kernel
theorem d6_36 : decode prog_23_method_3_code 36 = .ok (.iadd, 1) := by decide +kernel
theorem d6_37 : decode prog_23_method_3_code 37 = .ok (.putfield 13, 3) := by decide +kernel
theorem d6_40 : decode prog_23_method_3_code 40 = .ok (.return_, 1) := by decide +kernel
theorem pn_4 : plainFor yN5 = true := by first | (apply plainFor_of_name; simp [plainName, overriddenIn]; done) | decide +kernel
theorem u_SequenceQueue_Run_add_1 (l : Launch) (Z : State) (a0 : Array Value) (hw : HW Z a0) (F : List Ent) (pA0 pA1 pA2 eA0 : Addr) (kA0 kA1 kA2 kA3 kA4 kA5 kA6 : Int64) (hE_eA0 : XI Z eA0) :
    Met l Z yN5 prog_23_method_3_code 5 none { frames := 1, cells := 0, slots := 0, locals := 14 } #[(.ref pA0), (.long kA0), (.ref eA0)] (nR pA0 pA1 pA2 0 0 :: nK pA1 kA1 kA2 kA3 kA4 kA5 kA6 :: nE pA2 .null .null .null .null .null .null :: F) (fun r M' => (r = none ∧ M' = (nR pA0 pA1 pA2 1 0 :: nK pA1 kA0 kA2 kA3 kA4 kA5 kA6 :: nE pA2 (.ref eA0) .null .null .null .null .null :: F))) := by
  refine Met.of_go pn_4 (Ls := #[.val (.ref pA0), .val (.long kA0), .second, .val (.ref eA0), .unset]) (fun m => rfl) ?_
  intro E C
  refine Go.aloadN C d6_0 rfl rfl rfl ?_
  refine Go.callU C (y := yN4) (z := yN2) (owner := "com/example/ordered_dispatch/ordereddispatch/SequenceQueue$Part") (a := pA0) (as := []) (rest := []) (wd hw 76 rfl) (wd hw 77 rfl) (wd hw 78 rfl) (wd hw 80 rfl) (wd hw 79 rfl) (wd hw 81 rfl) (wd hw 25 rfl) (fun _ r => r.exa 0 rfl) (m_makeRoomR l Z a0 hw _ pA0 pA1 pA2 0 0 kA1 kA2 kA3 kA4 kA5 kA6 (by decide)) rfl d6_1 (q := 4) rfl (by decide) rfl (na := 0) (by decide +kernel) rfl (by decide) (W := 0) rfl (by decide) (by decide) (by decide) (k' := 0) (n' := 0) rfl rfl ?_
  rintro _ _ ⟨rfl, rfl⟩
  show Go _ _ _ _ _ _ _ _ _ _ []
  refine Go.aloadN C d6_4 rfl rfl rfl ?_
  refine Go.aloadN C d6_5 rfl rfl rfl ?_
  refine Go.gv C (wd hw 83 rfl) (wd hw 70 rfl) 0 2 rfl rfl d6_6 rfl ?_
  refine Go.callP C (y := yN1) (a := pA0) (as := [(.int (0 : Int32))]) (rest := []) (wd hw 84 rfl) (wd hw 85 rfl) (sel_priv (y := yN1) (wd hw 17 rfl) (wd hw 85 rfl) (wd hw 86 rfl) (by decide)) (wd hw 86 rfl) (wd hw 87 rfl) (wd hw 18 rfl) (fun _ r => r.exa 0 rfl) (m_slot l Z a0 hw _ pA0 pA1 pA2 0 0 0 0 kA1 kA2 kA3 kA4 kA5 kA6 (by decide) (by decide)) rfl d6_9 (q := 12) rfl (by decide) rfl (na := 1) (by decide +kernel) rfl (by decide) (W := 0) rfl (by decide) (by decide) (by decide) (k' := 0) (n' := 0) rfl rfl ?_
  rintro _ _ ⟨rfl, rfl⟩
  show Go _ _ _ _ _ _ _ _ _ _ [(.int (0 : Int32))]
  refine Go.istore C d6_12 rfl (Ls' := #[.val (.ref pA0), .val (.long kA0), .second, .val (.ref eA0), .val (.int (0 : Int32))]) rfl ?_
  refine Go.aloadN C d6_14 rfl rfl rfl ?_
  refine Go.gv C (wd hw 90 rfl) (wd hw 91 rfl) 0 0 rfl rfl d6_15 rfl ?_
  refine Go.iload C d6_18 rfl rfl ?_
  refine Go.lloadN C d6_20 rfl rfl ?_
  refine Go.lastore C (i := 1) rfl (by decide) (show (0 : Int32).toNatClampNeg < 64 from by decide) (w' := (.long kA0)) rfl d6_21 (q := 22) rfl (M' := (nR pA0 pA1 pA2 0 0 :: nK pA1 kA0 kA2 kA3 kA4 kA5 kA6 :: nE pA2 .null .null .null .null .null .null :: F)) rfl ?_
  refine Go.aloadN C d6_22 rfl rfl rfl ?_
  refine Go.gv C (wd hw 92 rfl) (wd hw 93 rfl) 0 1 rfl rfl d6_23 rfl ?_
  refine Go.iload C d6_26 rfl rfl ?_
  refine Go.aloadN C d6_28 rfl rfl rfl ?_
  refine Go.aastore C (i := 2) rfl (by decide) (show (0 : Int32).toNatClampNeg < 64 from by decide) (fun _ r => Or.inr ⟨_, rfl, Ins.of_exa ((hE_eA0).ext r.1) (wd hw 94 rfl)⟩) d6_29 (q := 30) rfl (M' := (nR pA0 pA1 pA2 0 0 :: nK pA1 kA0 kA2 kA3 kA4 kA5 kA6 :: nE pA2 (.ref eA0) .null .null .null .null .null :: F)) rfl ?_
  refine Go.aloadN C d6_30 rfl rfl rfl ?_
  refine Go.dup C d6_31 rfl rfl ?_
  refine Go.gv C (wd hw 83 rfl) (wd hw 70 rfl) 0 2 rfl rfl d6_32 rfl ?_
  refine Go.iconst C d6_35 rfl (v := (1 : Int32)) rfl ?_
  refine Go.iadd C d6_36 rfl ?_
  refine Go.castI (w := (1 : Int32)) (by decide) ?_
  refine Go.pf C (wd hw 83 rfl) (Via.of (wd hw 70 rfl)) 0 2 rfl rfl (wd hw 71 rfl) (wd hw 17 rfl) (ty := .int) (by decide) rfl rfl d6_37 rfl (M' := (nR pA0 pA1 pA2 1 0 :: nK pA1 kA0 kA2 kA3 kA4 kA5 kA6 :: nE pA2 (.ref eA0) .null .null .null .null .null :: F)) rfl ?_
  refine Go.ret0 C rfl d6_40 (by decide) (by decide) ?_
  exact ⟨rfl, rfl⟩
theorem d5_31 : decode prog_20_method_9_code 31 = .ok (.goto 12, 3) := by decide +kernel
theorem d5_43 : decode prog_20_method_9_code 43 = .ok (.return_, 1) := by decide +kernel
theorem pn_5 : plainFor yN6 = true := by first | (apply plainFor_of_name; simp [plainName, overriddenIn]; done) | decide +kernel
theorem u_SequenceQueue_place_4 (l : Launch) (Z : State) (a0 : Array Value) (hw : HW Z a0) (F : List Ent) (pA0 pA1 pA2 pA3 eA0 eA1 rA0 : Addr) (kA0 kA1 kA2 kA3 kA4 kA5 kA6 kA7 : Int64) (hE_eA0 : XI Z eA0) (hE_eA1 : XI Z eA1) :
    Met l Z yN6 prog_20_method_9_code 4 none { frames := 2, cells := 0, slots := 0, locals := 30 } #[(.ref pA0), (.long kA0), (.ref eA0)] (nQ pA0 pA1 rA0 1 kA1 (.ref eA1) :: nR pA1 pA2 pA3 0 0 :: nK pA2 kA2 kA3 kA4 kA5 kA6 kA7 :: nE pA3 .null .null .null .null .null .null :: F) (fun r M' => (r = none ∧ M' = (nR pA1 pA2 pA3 1 0 :: nK pA2 kA0 kA3 kA4 kA5 kA6 kA7 :: nE pA3 (.ref eA0) .null .null .null .null .null :: nQ pA0 pA1 rA0 1 kA1 (.ref eA1) :: F))) := by
  refine Met.of_go pn_5 (Ls := #[.val (.ref pA0), .val (.long kA0), .second, .val (.ref eA0)]) (fun m => rfl) ?_
  intro E C
  refine Go.aloadN C d5_0 rfl rfl rfl ?_
  refine Go.gf C (wd hw 34 rfl) 0 0 rfl rfl d5_1 rfl ?_
  refine Go.gv C (wd hw 69 rfl) (wd hw 70 rfl) 1 2 rfl rfl d5_4 rfl ?_
  refine Go.ifYes C d5_7 (by decide) (q := 22) rfl (XT.i0_eq_t (by decide)) ?_
  refine Go.aloadN C d5_22 rfl rfl rfl ?_
  refine Go.gf C (wd hw 34 rfl) 0 0 rfl rfl d5_23 rfl ?_
  refine Go.lloadN C d5_26 rfl rfl ?_
  refine Go.aloadN C d5_27 rfl rfl rfl ?_
  refine Go.pick (M' := (nR pA1 pA2 pA3 0 0 :: nK pA2 kA2 kA3 kA4 kA5 kA6 kA7 :: nE pA3 .null .null .null .null .null .null :: nQ pA0 pA1 rA0 1 kA1 (.ref eA1) :: F)) 4 [1, 2, 3, 0] (by decide) (by decide) rfl ?_
  refine Go.callPR C (y := yN5) (a := pA1) (as := [(.long kA0), (.ref eA0)]) (rest := []) (wd hw 72 rfl) (wd hw 73 rfl) (sel_priv (y := yN5) (wd hw 17 rfl) (wd hw 73 rfl) (wd hw 74 rfl) (by decide)) (wd hw 74 rfl) (wd hw 75 rfl) (wd hw 18 rfl) (fun _ r => r.exa 0 rfl) (u_SequenceQueue_Run_add_1 l Z a0 hw _ pA1 pA2 pA3 eA0 kA0 kA2 kA3 kA4 kA5 kA6 kA7 hE_eA0) rfl d5_28 (q := 31) rfl (by decide) rfl (na := 2) (by decide +kernel) rfl (by decide) (W := 0) rfl (by decide) (by decide) (by decide) (k' := 0) (n' := 0) rfl rfl ?_
  rintro _ _ ⟨rfl, rfl⟩
  show Go _ _ _ _ _ _ _ _ _ _ []
  refine Go.goto C d5_31 (by decide) (q := 43) rfl ?_
  refine Go.ret0 C rfl d5_43 (by decide) (by decide) ?_
  exact ⟨rfl, rfl⟩
theorem d5_10 : decode prog_20_method_9_code 10 = .ok (.lload_n 1, 1) := by decide +kernel
theorem d5_11 : decode prog_20_method_9_code 11 = .ok (.aload_n 0, 1) := by decide +kernel
theorem d5_12 : decode prog_20_method_9_code 12 = .ok (.getfield 12, 3) := by decide +kernel
theorem d5_15 : decode prog_20_method_9_code 15 = .ok (.invokevirtual 97, 3) := by decide +kernel
theorem d7_0 : decode prog_23_method_2_code 0 = .ok (.aload_n 0, 1) := by decide +kernel
theorem d7_1 : decode prog_23_method_2_code 1 = .ok (.getfield 7, 3) := by decide +kernel
theorem d7_4 : decode prog_23_method_2_code 4 = .ok (.aload_n 0, 1) := by decide +kernel
theorem d7_5 : decode prog_23_method_2_code 5 = .ok (.aload_n 0, 1) := by decide +kernel
theorem d7_6 : decode prog_23_method_2_code 6 = .ok (.getfield 13, 3) := by decide +kernel
theorem d7_9 : decode prog_23_method_2_code 9 = .ok (.iconst 1, 1) := by decide +kernel
theorem d7_10 : decode prog_23_method_2_code 10 = .ok (.isub, 1) := by decide +kernel
theorem d7_11 : decode prog_23_method_2_code 11 = .ok (.invokevirtual 17, 3) := by decide +kernel
theorem d7_14 : decode prog_23_method_2_code 14 = .ok (.laload, 1) := by decide +kernel
theorem d7_15 : decode prog_23_method_2_code 15 = .ok (.lreturn, 1) := by decide +kernel
theorem pn_6 : plainFor yN7 = true := by first | (apply plainFor_of_name; simp [plainName, overriddenIn]; done) | decide +kernel
theorem u_SequenceQueue_Run_lastKey_7 (l : Launch) (Z : State) (a0 : Array Value) (hw : HW Z a0) (F : List Ent) (pA0 pA1 rA0 : Addr) (kA0 kA1 kA2 kA3 kA4 kA5 : Int64)  :
    Met l Z yN7 prog_23_method_2_code 1 (some .long) { frames := 1, cells := 0, slots := 0, locals := 15 } #[(.ref pA0)] (nR pA0 pA1 rA0 1 0 :: nK pA1 kA0 kA1 kA2 kA3 kA4 kA5 :: F) (fun r M' => (r = (some (.long kA0)) ∧ M' = (nR pA0 pA1 rA0 1 0 :: nK pA1 kA0 kA1 kA2 kA3 kA4 kA5 :: F))) := by
  refine Met.of_go pn_6 (Ls := #[.val (.ref pA0)]) (fun m => rfl) ?_
  intro E C
  refine Go.aloadN C d7_0 rfl rfl rfl ?_
  refine Go.gv C (wd hw 90 rfl) (wd hw 91 rfl) 0 0 rfl rfl d7_1 rfl ?_
  refine Go.aloadN C d7_4 rfl rfl rfl ?_
  refine Go.aloadN C d7_5 rfl rfl rfl ?_
  refine Go.gv C (wd hw 83 rfl) (wd hw 70 rfl) 0 2 rfl rfl d7_6 rfl ?_
  refine Go.iconst C d7_9 rfl (v := (1 : Int32)) rfl ?_
  refine Go.isub C d7_10 rfl ?_
  refine Go.castI (w := (0 : Int32)) (by decide) ?_
  refine Go.callP C (y := yN1) (a := pA0) (as := [(.int (0 : Int32))]) (rest := [(.ref pA1)]) (wd hw 84 rfl) (wd hw 85 rfl) (sel_priv (y := yN1) (wd hw 17 rfl) (wd hw 85 rfl) (wd hw 86 rfl) (by decide)) (wd hw 86 rfl) (wd hw 87 rfl) (wd hw 18 rfl) (fun _ r => r.exa 0 rfl) (m_slot l Z a0 hw _ pA0 pA1 rA0 1 0 0 0 kA0 kA1 kA2 kA3 kA4 kA5 (by decide) (by decide)) rfl d7_11 (q := 14) rfl (by decide) rfl (na := 1) (by decide +kernel) rfl (by decide) (W := 1) rfl (by decide) (by decide) (by decide) (k' := 0) (n' := 0) rfl rfl ?_
  rintro _ _ ⟨rfl, rfl⟩
  show Go _ _ _ _ _ _ _ _ _ _ [(.int (0 : Int32)), (.ref pA1)]
  refine Go.laload C (fun _ r => r.arr 1 rfl) (by decide) (v := (.long kA0)) rfl d7_14 (q := 15) rfl ?_
  refine Go.retL C rfl d7_15 (by decide) (by decide) ?_
  exact ⟨rfl, rfl⟩
theorem d5_18 : decode prog_20_method_9_code 18 = .ok (.lcmp, 1) := by decide +kernel
theorem d5_19 : decode prog_20_method_9_code 19 = .ok (.ifCond .lt 15, 3) := by decide +kernel
theorem d5_34 : decode prog_20_method_9_code 34 = .ok (.aload_n 0, 1) := by decide +kernel
theorem d5_35 : decode prog_20_method_9_code 35 = .ok (.getfield 21, 3) := by decide +kernel
theorem d5_38 : decode prog_20_method_9_code 38 = .ok (.lload_n 1, 1) := by decide +kernel
theorem d5_39 : decode prog_20_method_9_code 39 = .ok (.aload_n 3, 1) := by decide +kernel
theorem d5_40 : decode prog_20_method_9_code 40 = .ok (.invokevirtual 103, 3) := by decide +kernel
theorem d8_0 : decode prog_21_method_2_code 0 = .ok (.aload_n 0, 1) := by decide +kernel
theorem d8_1 : decode prog_21_method_2_code 1 = .ok (.invokevirtual 7, 3) := by decide +kernel
theorem d8_4 : decode prog_21_method_2_code 4 = .ok (.aload_n 0, 1) := by decide +kernel
theorem d8_5 : decode prog_21_method_2_code 5 = .ok (.getfield 12, 3) := by decide +kernel
theorem d8_8 : decode prog_21_method_2_code 8 = .ok (.istore 4, 2) := by decide +kernel
theorem d8_10 : decode prog_21_method_2_code 10 = .ok (.aload_n 0, 1) := by decide +kernel
theorem d8_11 : decode prog_21_method_2_code 11 = .ok (.dup, 1) := by decide +kernel
theorem d8_12 : decode prog_21_method_2_code 12 = .ok (.getfield 12, 3) := by decide +kernel
theorem d8_15 : decode prog_21_method_2_code 15 = .ok (.iconst 1, 1) := by decide +kernel
theorem d8_16 : decode prog_21_method_2_code 16 = .ok (.iadd, 1) := by decide +kernel
theorem d8_17 : decode prog_21_method_2_code 17 = .ok (.putfield 12, 3) := by decide +kernel
theorem d8_20 : decode prog_21_method_2_code 20 = .ok (.iload 4, 2) := by decide +kernel
theorem d8_22 : decode prog_21_method_2_code 22 = .ok (.ifCond .le 61, 3) := by decide +kernel
theorem d8_83 : decode prog_21_method_2_code 83 = .ok (.aload_n 0, 1) := by decide +kernel
theorem d8_84 : decode prog_21_method_2_code 84 = .ok (.getfield 16, 3) := by decide +kernel
theorem d8_87 : decode prog_21_method_2_code 87 = .ok (.iload 4, 2) := by decide +kernel
theorem d8_89 : decode prog_21_method_2_code 89 = .ok (.lload_n 1, 1) := by decide +kernel
theorem d8_90 : decode prog_21_method_2_code 90 = .ok (.lastore, 1) := by decide +kernel
theorem d8_91 : decode prog_21_method_2_code 91 = .ok (.aload_n 0, 1) := by decide +kernel
theorem d8_92 : decode prog_21_method_2_code 92 = .ok (.getfield 20, 3) := by decide +kernel
theorem d8_95 : decode prog_21_method_2_code 95 = .ok (.iload 4, 2) := by decide +kernel
theorem d8_97 : decode prog_21_method_2_code 97 = .ok (.aload_n 3, 1) := by decide +kernel
theorem d8_98 : decode prog_21_method_2_code 98 = .ok (.aastore, 1) := by decide +kernel
theorem d8_99 : decode prog_21_method_2_code 99 = .ok (.return_, 1) := by decide +kernel
theorem pn_7 : plainFor yN9 = true := by first | (apply plainFor_of_name; simp [plainName, overriddenIn]; done) | decide +kernel
theorem u_SequenceQueue_Heap_add_10 (l : Launch) (Z : State) (a0 : Array Value) (hw : HW Z a0) (F : List Ent) (pA0 pA1 pA2 eA0 : Addr) (kA0 kA1 kA2 kA3 kA4 kA5 kA6 : Int64) (hE_eA0 : XI Z eA0) :
    Met l Z yN9 prog_21_method_2_code 6 none { frames := 1, cells := 0, slots := 0, locals := 12 } #[(.ref pA0), (.long kA0), (.ref eA0)] (nH pA0 pA1 pA2 0 :: nK pA1 kA1 kA2 kA3 kA4 kA5 kA6 :: nE pA2 .null .null .null .null .null .null :: F) (fun r M' => (r = none ∧ M' = (nH pA0 pA1 pA2 1 :: nK pA1 kA0 kA2 kA3 kA4 kA5 kA6 :: nE pA2 (.ref eA0) .null .null .null .null .null :: F))) := by
  refine Met.of_go pn_7 (Ls := #[.val (.ref pA0), .val (.long kA0), .second, .val (.ref eA0), .unset, .unset]) (fun m => rfl) ?_
  intro E C
  refine Go.aloadN C d8_0 rfl rfl rfl ?_
  refine Go.callU C (y := yN8) (z := yN2) (owner := "com/example/ordered_dispatch/ordereddispatch/SequenceQueue$Part") (a := pA0) (as := []) (rest := []) (wd hw 123 rfl) (wd hw 124 rfl) (wd hw 78 rfl) (wd hw 125 rfl) (wd hw 79 rfl) (wd hw 81 rfl) (wd hw 25 rfl) (fun _ r => r.exa 0 rfl) (m_makeRoomH l Z a0 hw _ pA0 pA1 pA2 0 0 kA1 kA2 kA3 kA4 kA5 kA6 (by decide)) rfl d8_1 (q := 4) rfl (by decide) rfl (na := 0) (by decide +kernel) rfl (by decide) (W := 0) rfl (by decide) (by decide) (by decide) (k' := 0) (n' := 0) rfl rfl ?_
  rintro _ _ ⟨rfl, rfl⟩
  show Go _ _ _ _ _ _ _ _ _ _ []
  refine Go.aloadN C d8_4 rfl rfl rfl ?_
  refine Go.gv C (wd hw 126 rfl) (wd hw 107 rfl) 0 2 rfl rfl d8_5 rfl ?_
  refine Go.istore C d8_8 rfl (Ls' := #[.val (.ref pA0), .val (.long kA0), .second, .val (.ref eA0), .val (.int (0 : Int32)), .unset]) rfl ?_
  refine Go.aloadN C d8_10 rfl rfl rfl ?_
  refine Go.dup C d8_11 rfl rfl ?_
  refine Go.gv C (wd hw 126 rfl) (wd hw 107 rfl) 0 2 rfl rfl d8_12 rfl ?_
  refine Go.iconst C d8_15 rfl (v := (1 : Int32)) rfl ?_
  refine Go.iadd C d8_16 rfl ?_
  refine Go.castI (w := (1 : Int32)) (by decide) ?_
  refine Go.pf C (wd hw 126 rfl) (Via.of (wd hw 107 rfl)) 0 2 rfl rfl (wd hw 108 rfl) (wd hw 37 rfl) (ty := .int) (by decide) rfl rfl d8_17 rfl (M' := (nH pA0 pA1 pA2 1 :: nK pA1 kA1 kA2 kA3 kA4 kA5 kA6 :: nE pA2 .null .null .null .null .null .null :: F)) rfl ?_
  refine Go.iload C d8_20 rfl rfl ?_
  refine Go.ifYes C d8_22 (by decide) (q := 83) rfl (XT.i0_le_t (by decide)) ?_
  refine Go.aloadN C d8_83 rfl rfl rfl ?_
  refine Go.gv C (wd hw 127 rfl) (wd hw 128 rfl) 0 0 rfl rfl d8_84 rfl ?_
  refine Go.iload C d8_87 rfl rfl ?_
  refine Go.lloadN C d8_89 rfl rfl ?_
  refine Go.lastore C (i := 1) rfl (by decide) (show (0 : Int32).toNatClampNeg < 64 from by decide) (w' := (.long kA0)) rfl d8_90 (q := 91) rfl (M' := (nH pA0 pA1 pA2 1 :: nK pA1 kA0 kA2 kA3 kA4 kA5 kA6 :: nE pA2 .null .null .null .null .null .null :: F)) rfl ?_
  refine Go.aloadN C d8_91 rfl rfl rfl ?_
  refine Go.gv C (wd hw 129 rfl) (wd hw 130 rfl) 0 1 rfl rfl d8_92 rfl ?_
  refine Go.iload C d8_95 rfl rfl ?_
  refine Go.aloadN C d8_97 rfl rfl rfl ?_
  refine Go.aastore C (i := 2) rfl (by decide) (show (0 : Int32).toNatClampNeg < 64 from by decide) (fun _ r => Or.inr ⟨_, rfl, Ins.of_exa ((hE_eA0).ext r.1) (wd hw 94 rfl)⟩) d8_98 (q := 99) rfl (M' := (nH pA0 pA1 pA2 1 :: nK pA1 kA0 kA2 kA3 kA4 kA5 kA6 :: nE pA2 (.ref eA0) .null .null .null .null .null :: F)) rfl ?_
  refine Go.ret0 C rfl d8_99 (by decide) (by decide) ?_
  exact ⟨rfl, rfl⟩
theorem u_SequenceQueue_Run_add_13 (l : Launch) (Z : State) (a0 : Array Value) (hw : HW Z a0) (F : List Ent) (pA0 pA1 pA2 eA0 eA1 : Addr) (kA0 kA1 kA2 kA3 kA4 kA5 kA6 : Int64) (hE_eA0 : XI Z eA0) (hE_eA1 : XI Z eA1) :
    Met l Z yN5 prog_23_method_3_code 5 none { frames := 1, cells := 0, slots := 0, locals := 14 } #[(.ref pA0), (.long kA0), (.ref eA0)] (nR pA0 pA1 pA2 1 0 :: nK pA1 kA1 kA2 kA3 kA4 kA5 kA6 :: nE pA2 (.ref eA1) .null .null .null .null .null :: F) (fun r M' => (r = none ∧ M' = (nR pA0 pA1 pA2 2 0 :: nK pA1 kA1 kA0 kA3 kA4 kA5 kA6 :: nE pA2 (.ref eA1) (.ref eA0) .null .null .null .null :: F))) := by
  refine Met.of_go pn_4 (Ls := #[.val (.ref pA0), .val (.long kA0), .second, .val (.ref eA0), .unset]) (fun m => rfl) ?_
  intro E C
  refine Go.aloadN C d6_0 rfl rfl rfl ?_
  refine Go.callU C (y := yN4) (z := yN2) (owner := "com/example/ordered_dispatch/ordereddispatch/SequenceQueue$Part") (a := pA0) (as := []) (rest := []) (wd hw 76 rfl) (wd hw 77 rfl) (wd hw 78 rfl) (wd hw 80 rfl) (wd hw 79 rfl) (wd hw 81 rfl) (wd hw 25 rfl) (fun _ r => r.exa 0 rfl) (m_makeRoomR l Z a0 hw _ pA0 pA1 pA2 1 0 kA1 kA2 kA3 kA4 kA5 kA6 (by decide)) rfl d6_1 (q := 4) rfl (by decide) rfl (na := 0) (by decide +kernel) rfl (by decide) (W := 0) rfl (by decide) (by decide) (by decide) (k' := 0) (n' := 0) rfl rfl ?_
  rintro _ _ ⟨rfl, rfl⟩
  show Go _ _ _ _ _ _ _ _ _ _ []
  refine Go.aloadN C d6_4 rfl rfl rfl ?_
  refine Go.aloadN C d6_5 rfl rfl rfl ?_
  refine Go.gv C (wd hw 83 rfl) (wd hw 70 rfl) 0 2 rfl rfl d6_6 rfl ?_
  refine Go.callP C (y := yN1) (a := pA0) (as := [(.int (1 : Int32))]) (rest := []) (wd hw 84 rfl) (wd hw 85 rfl) (sel_priv (y := yN1) (wd hw 17 rfl) (wd hw 85 rfl) (wd hw 86 rfl) (by decide)) (wd hw 86 rfl) (wd hw 87 rfl) (wd hw 18 rfl) (fun _ r => r.exa 0 rfl) (m_slot l Z a0 hw _ pA0 pA1 pA2 1 0 1 1 kA1 kA2 kA3 kA4 kA5 kA6 (by decide) (by decide)) rfl d6_9 (q := 12) rfl (by decide) rfl (na := 1) (by decide +kernel) rfl (by decide) (W := 0) rfl (by decide) (by decide) (by decide) (k' := 0) (n' := 0) rfl rfl ?_
  rintro _ _ ⟨rfl, rfl⟩
  show Go _ _ _ _ _ _ _ _ _ _ [(.int (1 : Int32))]
  refine Go.istore C d6_12 rfl (Ls' := #[.val (.ref pA0), .val (.long kA0), .second, .val (.ref eA0), .val (.int (1 : Int32))]) rfl ?_
  refine Go.aloadN C d6_14 rfl rfl rfl ?_
  refine Go.gv C (wd hw 90 rfl) (wd hw 91 rfl) 0 0 rfl rfl d6_15 rfl ?_
  refine Go.iload C d6_18 rfl rfl ?_
  refine Go.lloadN C d6_20 rfl rfl ?_
  refine Go.lastore C (i := 1) rfl (by decide) (show (1 : Int32).toNatClampNeg < 64 from by decide) (w' := (.long kA0)) rfl d6_21 (q := 22) rfl (M' := (nR pA0 pA1 pA2 1 0 :: nK pA1 kA1 kA0 kA3 kA4 kA5 kA6 :: nE pA2 (.ref eA1) .null .null .null .null .null :: F)) rfl ?_
  refine Go.aloadN C d6_22 rfl rfl rfl ?_
  refine Go.gv C (wd hw 92 rfl) (wd hw 93 rfl) 0 1 rfl rfl d6_23 rfl ?_
  refine Go.iload C d6_26 rfl rfl ?_
  refine Go.aloadN C d6_28 rfl rfl rfl ?_
  refine Go.aastore C (i := 2) rfl (by decide) (show (1 : Int32).toNatClampNeg < 64 from by decide) (fun _ r => Or.inr ⟨_, rfl, Ins.of_exa ((hE_eA0).ext r.1) (wd hw 94 rfl)⟩) d6_29 (q := 30) rfl (M' := (nR pA0 pA1 pA2 1 0 :: nK pA1 kA1 kA0 kA3 kA4 kA5 kA6 :: nE pA2 (.ref eA1) (.ref eA0) .null .null .null .null :: F)) rfl ?_
  refine Go.aloadN C d6_30 rfl rfl rfl ?_
  refine Go.dup C d6_31 rfl rfl ?_
  refine Go.gv C (wd hw 83 rfl) (wd hw 70 rfl) 0 2 rfl rfl d6_32 rfl ?_
  refine Go.iconst C d6_35 rfl (v := (1 : Int32)) rfl ?_
  refine Go.iadd C d6_36 rfl ?_
  refine Go.castI (w := (2 : Int32)) (by decide) ?_
  refine Go.pf C (wd hw 83 rfl) (Via.of (wd hw 70 rfl)) 0 2 rfl rfl (wd hw 71 rfl) (wd hw 17 rfl) (ty := .int) (by decide) rfl rfl d6_37 rfl (M' := (nR pA0 pA1 pA2 2 0 :: nK pA1 kA1 kA0 kA3 kA4 kA5 kA6 :: nE pA2 (.ref eA1) (.ref eA0) .null .null .null .null :: F)) rfl ?_
  refine Go.ret0 C rfl d6_40 (by decide) (by decide) ?_
  exact ⟨rfl, rfl⟩
theorem u_SequenceQueue_place_16 (l : Launch) (Z : State) (a0 : Array Value) (hw : HW Z a0) (F : List Ent) (pA0 pA1 pA2 pA3 pA4 pA5 pA6 eA0 eA1 eA2 : Addr) (kA0 kA1 kA2 kA3 kA4 kA5 kA6 kA7 kA8 kA9 kA10 kA11 kA12 kA13 : Int64) (hE_eA0 : XI Z eA0) (hE_eA1 : XI Z eA1) (hE_eA2 : XI Z eA2) :
    Met l Z yN6 prog_20_method_9_code 4 none { frames := 2, cells := 0, slots := 0, locals := 30 } #[(.ref pA0), (.long kA0), (.ref eA0)] (nQ pA0 pA1 pA4 1 kA1 (.ref eA1) :: nR pA1 pA2 pA3 1 0 :: nK pA2 kA2 kA3 kA4 kA5 kA6 kA7 :: nE pA3 (.ref eA2) .null .null .null .null .null :: nH pA4 pA5 pA6 0 :: nK pA5 kA8 kA9 kA10 kA11 kA12 kA13 :: nE pA6 .null .null .null .null .null .null :: F) (fun r M' => ((kA0 < kA2) ∧ r = none ∧ M' = (nH pA4 pA5 pA6 1 :: nK pA5 kA0 kA9 kA10 kA11 kA12 kA13 :: nE pA6 (.ref eA0) .null .null .null .null .null :: nR pA1 pA2 pA3 1 0 :: nK pA2 kA2 kA3 kA4 kA5 kA6 kA7 :: nQ pA0 pA1 pA4 1 kA1 (.ref eA1) :: nE pA3 (.ref eA2) .null .null .null .null .null :: F)) ∨ ((¬ kA0 < kA2) ∧ r = none ∧ M' = (nR pA1 pA2 pA3 2 0 :: nK pA2 kA2 kA0 kA4 kA5 kA6 kA7 :: nE pA3 (.ref eA2) (.ref eA0) .null .null .null .null :: nQ pA0 pA1 pA4 1 kA1 (.ref eA1) :: nH pA4 pA5 pA6 0 :: nK pA5 kA8 kA9 kA10 kA11 kA12 kA13 :: nE pA6 .null .null .null .null .null .null :: F))) := by
  refine Met.of_go pn_5 (Ls := #[.val (.ref pA0), .val (.long kA0), .second, .val (.ref eA0)]) (fun m => rfl) ?_
  intro E C
  refine Go.aloadN C d5_0 rfl rfl rfl ?_
  refine Go.gf C (wd hw 34 rfl) 0 0 rfl rfl d5_1 rfl ?_
  refine Go.gv C (wd hw 69 rfl) (wd hw 70 rfl) 1 2 rfl rfl d5_4 rfl ?_
  refine Go.ifNo C d5_7 (q := 10) rfl (XT.i0_eq_f (by decide)) ?_
  refine Go.lloadN C d5_10 rfl rfl ?_
  refine Go.aloadN C d5_11 rfl rfl rfl ?_
  refine Go.gf C (wd hw 34 rfl) 0 0 rfl rfl d5_12 rfl ?_
  refine Go.pick (M' := (nR pA1 pA2 pA3 1 0 :: nK pA2 kA2 kA3 kA4 kA5 kA6 kA7 :: nQ pA0 pA1 pA4 1 kA1 (.ref eA1) :: nE pA3 (.ref eA2) .null .null .null .null .null :: nH pA4 pA5 pA6 0 :: nK pA5 kA8 kA9 kA10 kA11 kA12 kA13 :: nE pA6 .null .null .null .null .null .null :: F)) 7 [1, 2, 0, 3, 4, 5, 6] (by decide) (by decide) rfl ?_
  refine Go.callPR C (y := yN7) (a := pA1) (as := []) (rest := [(.long kA0)]) (wd hw 115 rfl) (wd hw 116 rfl) (sel_priv (y := yN7) (wd hw 17 rfl) (wd hw 116 rfl) (wd hw 117 rfl) (by decide)) (wd hw 117 rfl) (wd hw 118 rfl) (wd hw 18 rfl) (fun _ r => r.exa 0 rfl) (u_SequenceQueue_Run_lastKey_7 l Z a0 hw _ pA1 pA2 pA3 kA2 kA3 kA4 kA5 kA6 kA7) rfl d5_15 (q := 18) rfl (by decide) rfl (na := 0) (by decide +kernel) rfl (by decide) (W := 2) rfl (by decide) (by decide) (by decide) (k' := 0) (n' := 0) rfl rfl ?_
  rintro _ _ ⟨rfl, rfl⟩
  show Go _ _ _ _ _ _ _ _ _ _ [(.long kA2), (.long kA0)]
  refine Go.lcmpif C d5_18 rfl d5_19 (by decide) (q := 34) rfl (q' := 22) rfl (fun (h18_1 : kA0 < kA2) => ?_) (fun (h18_1 : ¬ kA0 < kA2) => ?_)
  · refine Go.aloadN C d5_34 rfl rfl rfl ?_
    refine Go.gf C (wd hw 45 rfl) 2 1 rfl rfl d5_35 rfl ?_
    refine Go.lloadN C d5_38 rfl rfl ?_
    refine Go.aloadN C d5_39 rfl rfl rfl ?_
    refine Go.pick (M' := (nH pA4 pA5 pA6 0 :: nK pA5 kA8 kA9 kA10 kA11 kA12 kA13 :: nE pA6 .null .null .null .null .null .null :: nR pA1 pA2 pA3 1 0 :: nK pA2 kA2 kA3 kA4 kA5 kA6 kA7 :: nQ pA0 pA1 pA4 1 kA1 (.ref eA1) :: nE pA3 (.ref eA2) .null .null .null .null .null :: F)) 7 [4, 5, 6, 0, 1, 2, 3] (by decide) (by decide) rfl ?_
    refine Go.callPR C (y := yN9) (a := pA4) (as := [(.long kA0), (.ref eA0)]) (rest := []) (wd hw 119 rfl) (wd hw 120 rfl) (sel_priv (y := yN9) (wd hw 37 rfl) (wd hw 120 rfl) (wd hw 121 rfl) (by decide)) (wd hw 121 rfl) (wd hw 122 rfl) (wd hw 38 rfl) (fun _ r => r.exa 0 rfl) (u_SequenceQueue_Heap_add_10 l Z a0 hw _ pA4 pA5 pA6 eA0 kA0 kA8 kA9 kA10 kA11 kA12 kA13 hE_eA0) rfl d5_40 (q := 43) rfl (by decide) rfl (na := 2) (by decide +kernel) rfl (by decide) (W := 0) rfl (by decide) (by decide) (by decide) (k' := 0) (n' := 0) rfl rfl ?_
    rintro _ _ ⟨rfl, rfl⟩
    show Go _ _ _ _ _ _ _ _ _ _ []
    refine Go.ret0 C rfl d5_43 (by decide) (by decide) ?_
    exact Or.inl ⟨h18_1, rfl, rfl⟩
  · refine Go.aloadN C d5_22 rfl rfl rfl ?_
    refine Go.gf C (wd hw 34 rfl) 2 0 rfl rfl d5_23 rfl ?_
    refine Go.lloadN C d5_26 rfl rfl ?_
    refine Go.aloadN C d5_27 rfl rfl rfl ?_
    refine Go.pick (M' := (nR pA1 pA2 pA3 1 0 :: nK pA2 kA2 kA3 kA4 kA5 kA6 kA7 :: nE pA3 (.ref eA2) .null .null .null .null .null :: nQ pA0 pA1 pA4 1 kA1 (.ref eA1) :: nH pA4 pA5 pA6 0 :: nK pA5 kA8 kA9 kA10 kA11 kA12 kA13 :: nE pA6 .null .null .null .null .null .null :: F)) 7 [0, 1, 3, 2, 4, 5, 6] (by decide) (by decide) rfl ?_
    refine Go.callPR C (y := yN5) (a := pA1) (as := [(.long kA0), (.ref eA0)]) (rest := []) (wd hw 72 rfl) (wd hw 73 rfl) (sel_priv (y := yN5) (wd hw 17 rfl) (wd hw 73 rfl) (wd hw 74 rfl) (by decide)) (wd hw 74 rfl) (wd hw 75 rfl) (wd hw 18 rfl) (fun _ r => r.exa 0 rfl) (u_SequenceQueue_Run_add_13 l Z a0 hw _ pA1 pA2 pA3 eA0 eA2 kA0 kA2 kA3 kA4 kA5 kA6 kA7 hE_eA0 hE_eA2) rfl d5_28 (q := 31) rfl (by decide) rfl (na := 2) (by decide +kernel) rfl (by decide) (W := 0) rfl (by decide) (by decide) (by decide) (k' := 0) (n' := 0) rfl rfl ?_
    rintro _ _ ⟨rfl, rfl⟩
    show Go _ _ _ _ _ _ _ _ _ _ []
    refine Go.goto C d5_31 (by decide) (q := 43) rfl ?_
    refine Go.ret0 C rfl d5_43 (by decide) (by decide) ?_
    exact Or.inr (⟨h18_1, rfl, rfl⟩)
theorem d8_25 : decode prog_21_method_2_code 25 = .ok (.iload 4, 2) := by decide +kernel
theorem d8_27 : decode prog_21_method_2_code 27 = .ok (.iconst 1, 1) := by decide +kernel
theorem d8_28 : decode prog_21_method_2_code 28 = .ok (.isub, 1) := by decide +kernel
theorem d8_29 : decode prog_21_method_2_code 29 = .ok (.iconst 1, 1) := by decide +kernel
theorem d8_30 : decode prog_21_method_2_code 30 = .ok (.iushr, 1) := by decide +kernel
theorem d8_31 : decode prog_21_method_2_code 31 = .ok (.istore 5, 2) := by decide +kernel
theorem d8_33 : decode prog_21_method_2_code 33 = .ok (.aload_n 0, 1) := by decide +kernel
theorem d8_34 : decode prog_21_method_2_code 34 = .ok (.getfield 16, 3) := by decide +kernel
theorem d8_37 : decode prog_21_method_2_code 37 = .ok (.iload 5, 2) := by decide +kernel
theorem d8_39 : decode prog_21_method_2_code 39 = .ok (.laload, 1) := by decide +kernel
theorem d8_40 : decode prog_21_method_2_code 40 = .ok (.lload_n 1, 1) := by decide +kernel
theorem d8_41 : decode prog_21_method_2_code 41 = .ok (.lcmp, 1) := by decide +kernel
theorem d8_42 : decode prog_21_method_2_code 42 = .ok (.ifCond .gt 6, 3) := by decide +kernel
theorem d8_48 : decode prog_21_method_2_code 48 = .ok (.aload_n 0, 1) := by decide +kernel
theorem d8_49 : decode prog_21_method_2_code 49 = .ok (.getfield 16, 3) := by decide +kernel
theorem d8_52 : decode prog_21_method_2_code 52 = .ok (.iload 4, 2) := by decide +kernel
theorem d8_54 : decode prog_21_method_2_code 54 = .ok (.aload_n 0, 1) := by decide +kernel
theorem d8_55 : decode prog_21_method_2_code 55 = .ok (.getfield 16, 3) := by decide +kernel
theorem d8_58 : decode prog_21_method_2_code 58 = .ok (.iload 5, 2) := by decide +kernel
theorem d8_60 : decode prog_21_method_2_code 60 = .ok (.laload, 1) := by decide +kernel
theorem d8_61 : decode prog_21_method_2_code 61 = .ok (.lastore, 1) := by decide +kernel
theorem d8_62 : decode prog_21_method_2_code 62 = .ok (.aload_n 0, 1) := by decide +kernel
theorem d8_63 : decode prog_21_method_2_code 63 = .ok (.getfield 20, 3) := by decide +kernel
theorem d8_66 : decode prog_21_method_2_code 66 = .ok (.iload 4, 2) := by decide +kernel
theorem d8_68 : decode prog_21_method_2_code 68 = .ok (.aload_n 0, 1) := by decide +kernel
theorem d8_69 : decode prog_21_method_2_code 69 = .ok (.getfield 20, 3) := by decide +kernel
theorem d8_72 : decode prog_21_method_2_code 72 = .ok (.iload 5, 2) := by decide +kernel
theorem d8_74 : decode prog_21_method_2_code 74 = .ok (.aaload, 1) := by decide +kernel
theorem d8_75 : decode prog_21_method_2_code 75 = .ok (.aastore, 1) := by decide +kernel
theorem d8_76 : decode prog_21_method_2_code 76 = .ok (.iload 5, 2) := by decide +kernel
theorem d8_78 : decode prog_21_method_2_code 78 = .ok (.istore 4, 2) := by decide +kernel
theorem d8_80 : decode prog_21_method_2_code 80 = .ok (.goto (-60), 3) := by decide +kernel
theorem d8_45 : decode prog_21_method_2_code 45 = .ok (.goto 38, 3) := by decide +kernel
theorem u_SequenceQueue_Heap_add_19 (l : Launch) (Z : State) (a0 : Array Value) (hw : HW Z a0) (F : List Ent) (pA0 pA1 pA2 eA0 eA1 : Addr) (kA0 kA1 kA2 kA3 kA4 kA5 kA6 : Int64) (hE_eA0 : XI Z eA0) (hE_eA1 : XI Z eA1) :
    Met l Z yN9 prog_21_method_2_code 6 none { frames := 1, cells := 0, slots := 0, locals := 12 } #[(.ref pA0), (.long kA0), (.ref eA0)] (nH pA0 pA1 pA2 1 :: nK pA1 kA1 kA2 kA3 kA4 kA5 kA6 :: nE pA2 (.ref eA1) .null .null .null .null .null :: F) (fun r M' => ((kA0 < kA1) ∧ r = none ∧ M' = (nH pA0 pA1 pA2 2 :: nK pA1 kA0 kA1 kA3 kA4 kA5 kA6 :: nE pA2 (.ref eA0) (.ref eA1) .null .null .null .null :: F)) ∨ ((¬ kA0 < kA1) ∧ r = none ∧ M' = (nH pA0 pA1 pA2 2 :: nK pA1 kA1 kA0 kA3 kA4 kA5 kA6 :: nE pA2 (.ref eA1) (.ref eA0) .null .null .null .null :: F))) := by
  refine Met.of_go pn_7 (Ls := #[.val (.ref pA0), .val (.long kA0), .second, .val (.ref eA0), .unset, .unset]) (fun m => rfl) ?_
  intro E C
  refine Go.aloadN C d8_0 rfl rfl rfl ?_
  refine Go.callU C (y := yN8) (z := yN2) (owner := "com/example/ordered_dispatch/ordereddispatch/SequenceQueue$Part") (a := pA0) (as := []) (rest := []) (wd hw 123 rfl) (wd hw 124 rfl) (wd hw 78 rfl) (wd hw 125 rfl) (wd hw 79 rfl) (wd hw 81 rfl) (wd hw 25 rfl) (fun _ r => r.exa 0 rfl) (m_makeRoomH l Z a0 hw _ pA0 pA1 pA2 1 0 kA1 kA2 kA3 kA4 kA5 kA6 (by decide)) rfl d8_1 (q := 4) rfl (by decide) rfl (na := 0) (by decide +kernel) rfl (by decide) (W := 0) rfl (by decide) (by decide) (by decide) (k' := 0) (n' := 0) rfl rfl ?_
  rintro _ _ ⟨rfl, rfl⟩
  show Go _ _ _ _ _ _ _ _ _ _ []
  refine Go.aloadN C d8_4 rfl rfl rfl ?_
  refine Go.gv C (wd hw 126 rfl) (wd hw 107 rfl) 0 2 rfl rfl d8_5 rfl ?_
  refine Go.istore C d8_8 rfl (Ls' := #[.val (.ref pA0), .val (.long kA0), .second, .val (.ref eA0), .val (.int (1 : Int32)), .unset]) rfl ?_
  refine Go.aloadN C d8_10 rfl rfl rfl ?_
  refine Go.dup C d8_11 rfl rfl ?_
  refine Go.gv C (wd hw 126 rfl) (wd hw 107 rfl) 0 2 rfl rfl d8_12 rfl ?_
  refine Go.iconst C d8_15 rfl (v := (1 : Int32)) rfl ?_
  refine Go.iadd C d8_16 rfl ?_
  refine Go.castI (w := (2 : Int32)) (by decide) ?_
  refine Go.pf C (wd hw 126 rfl) (Via.of (wd hw 107 rfl)) 0 2 rfl rfl (wd hw 108 rfl) (wd hw 37 rfl) (ty := .int) (by decide) rfl rfl d8_17 rfl (M' := (nH pA0 pA1 pA2 2 :: nK pA1 kA1 kA2 kA3 kA4 kA5 kA6 :: nE pA2 (.ref eA1) .null .null .null .null .null :: F)) rfl ?_
  refine Go.iload C d8_20 rfl rfl ?_
  refine Go.ifNo C d8_22 (q := 25) rfl (XT.i0_le_f (by decide)) ?_
  refine Go.iload C d8_25 rfl rfl ?_
  refine Go.iconst C d8_27 rfl (v := (1 : Int32)) rfl ?_
  refine Go.isub C d8_28 rfl ?_
  refine Go.castI (w := (0 : Int32)) (by decide) ?_
  refine Go.iconst C d8_29 rfl (v := (1 : Int32)) rfl ?_
  refine Go.iushr C d8_30 rfl ?_
  refine Go.castI (w := (0 : Int32)) (by decide) ?_
  refine Go.istore C d8_31 rfl (Ls' := #[.val (.ref pA0), .val (.long kA0), .second, .val (.ref eA0), .val (.int (1 : Int32)), .val (.int (0 : Int32))]) rfl ?_
  refine Go.aloadN C d8_33 rfl rfl rfl ?_
  refine Go.gv C (wd hw 127 rfl) (wd hw 128 rfl) 0 0 rfl rfl d8_34 rfl ?_
  refine Go.iload C d8_37 rfl rfl ?_
  refine Go.laload C (fun _ r => r.arr 1 rfl) (by decide) (v := (.long kA1)) rfl d8_39 (q := 40) rfl ?_
  refine Go.lloadN C d8_40 rfl rfl ?_
  refine Go.lcmpif C d8_41 rfl d8_42 (by decide) (q := 48) rfl (q' := 45) rfl (fun (h41_1 : kA0 < kA1) => ?_) (fun (h41_1 : ¬ kA0 < kA1) => ?_)
  · refine Go.aloadN C d8_48 rfl rfl rfl ?_
    refine Go.gv C (wd hw 127 rfl) (wd hw 128 rfl) 0 0 rfl rfl d8_49 rfl ?_
    refine Go.iload C d8_52 rfl rfl ?_
    refine Go.aloadN C d8_54 rfl rfl rfl ?_
    refine Go.gv C (wd hw 127 rfl) (wd hw 128 rfl) 0 0 rfl rfl d8_55 rfl ?_
    refine Go.iload C d8_58 rfl rfl ?_
    refine Go.laload C (fun _ r => r.arr 1 rfl) (by decide) (v := (.long kA1)) rfl d8_60 (q := 61) rfl ?_
    refine Go.lastore C (i := 1) rfl (by decide) (show (1 : Int32).toNatClampNeg < 64 from by decide) (w' := (.long kA1)) rfl d8_61 (q := 62) rfl (M' := (nH pA0 pA1 pA2 2 :: nK pA1 kA1 kA1 kA3 kA4 kA5 kA6 :: nE pA2 (.ref eA1) .null .null .null .null .null :: F)) rfl ?_
    refine Go.aloadN C d8_62 rfl rfl rfl ?_
    refine Go.gv C (wd hw 129 rfl) (wd hw 130 rfl) 0 1 rfl rfl d8_63 rfl ?_
    refine Go.iload C d8_66 rfl rfl ?_
    refine Go.aloadN C d8_68 rfl rfl rfl ?_
    refine Go.gv C (wd hw 129 rfl) (wd hw 130 rfl) 0 1 rfl rfl d8_69 rfl ?_
    refine Go.iload C d8_72 rfl rfl ?_
    refine Go.aaload C (fun _ r => r.arr 2 rfl) rfl (by decide) (v := (.ref eA1)) rfl d8_74 (q := 75) rfl ?_
    refine Go.aastore C (i := 2) rfl (by decide) (show (1 : Int32).toNatClampNeg < 64 from by decide) (fun _ r => Or.inr ⟨_, rfl, Ins.of_exa ((hE_eA1).ext r.1) (wd hw 94 rfl)⟩) d8_75 (q := 76) rfl (M' := (nH pA0 pA1 pA2 2 :: nK pA1 kA1 kA1 kA3 kA4 kA5 kA6 :: nE pA2 (.ref eA1) (.ref eA1) .null .null .null .null :: F)) rfl ?_
    refine Go.iload C d8_76 rfl rfl ?_
    refine Go.istore C d8_78 rfl (Ls' := #[.val (.ref pA0), .val (.long kA0), .second, .val (.ref eA0), .val (.int (0 : Int32)), .val (.int (0 : Int32))]) rfl ?_
    refine Go.goto C d8_80 (by decide) (q := 20) rfl ?_
    refine Go.iload C d8_20 rfl rfl ?_
    refine Go.ifYes C d8_22 (by decide) (q := 83) rfl (XT.i0_le_t (by decide)) ?_
    refine Go.aloadN C d8_83 rfl rfl rfl ?_
    refine Go.gv C (wd hw 127 rfl) (wd hw 128 rfl) 0 0 rfl rfl d8_84 rfl ?_
    refine Go.iload C d8_87 rfl rfl ?_
    refine Go.lloadN C d8_89 rfl rfl ?_
    refine Go.lastore C (i := 1) rfl (by decide) (show (0 : Int32).toNatClampNeg < 64 from by decide) (w' := (.long kA0)) rfl d8_90 (q := 91) rfl (M' := (nH pA0 pA1 pA2 2 :: nK pA1 kA0 kA1 kA3 kA4 kA5 kA6 :: nE pA2 (.ref eA1) (.ref eA1) .null .null .null .null :: F)) rfl ?_
    refine Go.aloadN C d8_91 rfl rfl rfl ?_
    refine Go.gv C (wd hw 129 rfl) (wd hw 130 rfl) 0 1 rfl rfl d8_92 rfl ?_
    refine Go.iload C d8_95 rfl rfl ?_
    refine Go.aloadN C d8_97 rfl rfl rfl ?_
    refine Go.aastore C (i := 2) rfl (by decide) (show (0 : Int32).toNatClampNeg < 64 from by decide) (fun _ r => Or.inr ⟨_, rfl, Ins.of_exa ((hE_eA0).ext r.1) (wd hw 94 rfl)⟩) d8_98 (q := 99) rfl (M' := (nH pA0 pA1 pA2 2 :: nK pA1 kA0 kA1 kA3 kA4 kA5 kA6 :: nE pA2 (.ref eA0) (.ref eA1) .null .null .null .null :: F)) rfl ?_
    refine Go.ret0 C rfl d8_99 (by decide) (by decide) ?_
    exact Or.inl ⟨h41_1, rfl, rfl⟩
  · refine Go.goto C d8_45 (by decide) (q := 83) rfl ?_
    refine Go.aloadN C d8_83 rfl rfl rfl ?_
    refine Go.gv C (wd hw 127 rfl) (wd hw 128 rfl) 0 0 rfl rfl d8_84 rfl ?_
    refine Go.iload C d8_87 rfl rfl ?_
    refine Go.lloadN C d8_89 rfl rfl ?_
    refine Go.lastore C (i := 1) rfl (by decide) (show (1 : Int32).toNatClampNeg < 64 from by decide) (w' := (.long kA0)) rfl d8_90 (q := 91) rfl (M' := (nH pA0 pA1 pA2 2 :: nK pA1 kA1 kA0 kA3 kA4 kA5 kA6 :: nE pA2 (.ref eA1) .null .null .null .null .null :: F)) rfl ?_
    refine Go.aloadN C d8_91 rfl rfl rfl ?_
    refine Go.gv C (wd hw 129 rfl) (wd hw 130 rfl) 0 1 rfl rfl d8_92 rfl ?_
    refine Go.iload C d8_95 rfl rfl ?_
    refine Go.aloadN C d8_97 rfl rfl rfl ?_
    refine Go.aastore C (i := 2) rfl (by decide) (show (1 : Int32).toNatClampNeg < 64 from by decide) (fun _ r => Or.inr ⟨_, rfl, Ins.of_exa ((hE_eA0).ext r.1) (wd hw 94 rfl)⟩) d8_98 (q := 99) rfl (M' := (nH pA0 pA1 pA2 2 :: nK pA1 kA1 kA0 kA3 kA4 kA5 kA6 :: nE pA2 (.ref eA1) (.ref eA0) .null .null .null .null :: F)) rfl ?_
    refine Go.ret0 C rfl d8_99 (by decide) (by decide) ?_
    exact Or.inr (⟨h41_1, rfl, rfl⟩)
theorem u_SequenceQueue_place_22 (l : Launch) (Z : State) (a0 : Array Value) (hw : HW Z a0) (F : List Ent) (pA0 pA1 pA2 pA3 pA4 pA5 pA6 eA0 eA1 eA2 eA3 : Addr) (kA0 kA1 kA2 kA3 kA4 kA5 kA6 kA7 kA8 kA9 kA10 kA11 kA12 kA13 : Int64) (hE_eA0 : XI Z eA0) (hE_eA1 : XI Z eA1) (hE_eA2 : XI Z eA2) (hE_eA3 : XI Z eA3) :
    Met l Z yN6 prog_20_method_9_code 4 none { frames := 2, cells := 0, slots := 0, locals := 30 } #[(.ref pA0), (.long kA0), (.ref eA0)] (nQ pA0 pA1 pA4 1 kA1 (.ref eA1) :: nR pA1 pA2 pA3 1 0 :: nK pA2 kA2 kA3 kA4 kA5 kA6 kA7 :: nE pA3 (.ref eA2) .null .null .null .null .null :: nH pA4 pA5 pA6 1 :: nK pA5 kA8 kA9 kA10 kA11 kA12 kA13 :: nE pA6 (.ref eA3) .null .null .null .null .null :: F) (fun r M' => ((kA0 < kA2) ∧ (kA0 < kA8) ∧ r = none ∧ M' = (nH pA4 pA5 pA6 2 :: nK pA5 kA0 kA8 kA10 kA11 kA12 kA13 :: nE pA6 (.ref eA0) (.ref eA3) .null .null .null .null :: nR pA1 pA2 pA3 1 0 :: nK pA2 kA2 kA3 kA4 kA5 kA6 kA7 :: nQ pA0 pA1 pA4 1 kA1 (.ref eA1) :: nE pA3 (.ref eA2) .null .null .null .null .null :: F)) ∨ ((kA0 < kA2) ∧ (¬ kA0 < kA8) ∧ r = none ∧ M' = (nH pA4 pA5 pA6 2 :: nK pA5 kA8 kA0 kA10 kA11 kA12 kA13 :: nE pA6 (.ref eA3) (.ref eA0) .null .null .null .null :: nR pA1 pA2 pA3 1 0 :: nK pA2 kA2 kA3 kA4 kA5 kA6 kA7 :: nQ pA0 pA1 pA4 1 kA1 (.ref eA1) :: nE pA3 (.ref eA2) .null .null .null .null .null :: F)) ∨ ((¬ kA0 < kA2) ∧ r = none ∧ M' = (nR pA1 pA2 pA3 2 0 :: nK pA2 kA2 kA0 kA4 kA5 kA6 kA7 :: nE pA3 (.ref eA2) (.ref eA0) .null .null .null .null :: nQ pA0 pA1 pA4 1 kA1 (.ref eA1) :: nH pA4 pA5 pA6 1 :: nK pA5 kA8 kA9 kA10 kA11 kA12 kA13 :: nE pA6 (.ref eA3) .null .null .null .null .null :: F))) := by
  refine Met.of_go pn_5 (Ls := #[.val (.ref pA0), .val (.long kA0), .second, .val (.ref eA0)]) (fun m => rfl) ?_
  intro E C
  refine Go.aloadN C d5_0 rfl rfl rfl ?_
  refine Go.gf C (wd hw 34 rfl) 0 0 rfl rfl d5_1 rfl ?_
  refine Go.gv C (wd hw 69 rfl) (wd hw 70 rfl) 1 2 rfl rfl d5_4 rfl ?_
  refine Go.ifNo C d5_7 (q := 10) rfl (XT.i0_eq_f (by decide)) ?_
  refine Go.lloadN C d5_10 rfl rfl ?_
  refine Go.aloadN C d5_11 rfl rfl rfl ?_
  refine Go.gf C (wd hw 34 rfl) 0 0 rfl rfl d5_12 rfl ?_
  refine Go.pick (M' := (nR pA1 pA2 pA3 1 0 :: nK pA2 kA2 kA3 kA4 kA5 kA6 kA7 :: nQ pA0 pA1 pA4 1 kA1 (.ref eA1) :: nE pA3 (.ref eA2) .null .null .null .null .null :: nH pA4 pA5 pA6 1 :: nK pA5 kA8 kA9 kA10 kA11 kA12 kA13 :: nE pA6 (.ref eA3) .null .null .null .null .null :: F)) 7 [1, 2, 0, 3, 4, 5, 6] (by decide) (by decide) rfl ?_
  refine Go.callPR C (y := yN7) (a := pA1) (as := []) (rest := [(.long kA0)]) (wd hw 115 rfl) (wd hw 116 rfl) (sel_priv (y := yN7) (wd hw 17 rfl) (wd hw 116 rfl) (wd hw 117 rfl) (by decide)) (wd hw 117 rfl) (wd hw 118 rfl) (wd hw 18 rfl) (fun _ r => r.exa 0 rfl) (u_SequenceQueue_Run_lastKey_7 l Z a0 hw _ pA1 pA2 pA3 kA2 kA3 kA4 kA5 kA6 kA7) rfl d5_15 (q := 18) rfl (by decide) rfl (na := 0) (by decide +kernel) rfl (by decide) (W := 2) rfl (by decide) (by decide) (by decide) (k' := 0) (n' := 0) rfl rfl ?_
  rintro _ _ ⟨rfl, rfl⟩
  show Go _ _ _ _ _ _ _ _ _ _ [(.long kA2), (.long kA0)]
  refine Go.lcmpif C d5_18 rfl d5_19 (by decide) (q := 34) rfl (q' := 22) rfl (fun (h18_1 : kA0 < kA2) => ?_) (fun (h18_1 : ¬ kA0 < kA2) => ?_)
  · refine Go.aloadN C d5_34 rfl rfl rfl ?_
    refine Go.gf C (wd hw 45 rfl) 2 1 rfl rfl d5_35 rfl ?_
    refine Go.lloadN C d5_38 rfl rfl ?_
    refine Go.aloadN C d5_39 rfl rfl rfl ?_
    refine Go.pick (M' := (nH pA4 pA5 pA6 1 :: nK pA5 kA8 kA9 kA10 kA11 kA12 kA13 :: nE pA6 (.ref eA3) .null .null .null .null .null :: nR pA1 pA2 pA3 1 0 :: nK pA2 kA2 kA3 kA4 kA5 kA6 kA7 :: nQ pA0 pA1 pA4 1 kA1 (.ref eA1) :: nE pA3 (.ref eA2) .null .null .null .null .null :: F)) 7 [4, 5, 6, 0, 1, 2, 3] (by decide) (by decide) rfl ?_
    refine Go.callPR C (y := yN9) (a := pA4) (as := [(.long kA0), (.ref eA0)]) (rest := []) (wd hw 119 rfl) (wd hw 120 rfl) (sel_priv (y := yN9) (wd hw 37 rfl) (wd hw 120 rfl) (wd hw 121 rfl) (by decide)) (wd hw 121 rfl) (wd hw 122 rfl) (wd hw 38 rfl) (fun _ r => r.exa 0 rfl) (u_SequenceQueue_Heap_add_19 l Z a0 hw _ pA4 pA5 pA6 eA0 eA3 kA0 kA8 kA9 kA10 kA11 kA12 kA13 hE_eA0 hE_eA3) rfl d5_40 (q := 43) rfl (by decide) rfl (na := 2) (by decide +kernel) rfl (by decide) (W := 0) rfl (by decide) (by decide) (by decide) (k' := 0) (n' := 0) rfl rfl ?_
    rintro _ _ (⟨hc1, rfl, rfl⟩ | ⟨hc2, rfl, rfl⟩)
    · show Go _ _ _ _ _ _ _ _ _ _ []
      refine Go.ret0 C rfl d5_43 (by decide) (by decide) ?_
      exact Or.inl ⟨h18_1, hc1, rfl, rfl⟩
    · show Go _ _ _ _ _ _ _ _ _ _ []
      refine Go.ret0 C rfl d5_43 (by decide) (by decide) ?_
      exact Or.inr (Or.inl ⟨h18_1, hc2, rfl, rfl⟩)
  · refine Go.aloadN C d5_22 rfl rfl rfl ?_
    refine Go.gf C (wd hw 34 rfl) 2 0 rfl rfl d5_23 rfl ?_
    refine Go.lloadN C d5_26 rfl rfl ?_
    refine Go.aloadN C d5_27 rfl rfl rfl ?_
    refine Go.pick (M' := (nR pA1 pA2 pA3 1 0 :: nK pA2 kA2 kA3 kA4 kA5 kA6 kA7 :: nE pA3 (.ref eA2) .null .null .null .null .null :: nQ pA0 pA1 pA4 1 kA1 (.ref eA1) :: nH pA4 pA5 pA6 1 :: nK pA5 kA8 kA9 kA10 kA11 kA12 kA13 :: nE pA6 (.ref eA3) .null .null .null .null .null :: F)) 7 [0, 1, 3, 2, 4, 5, 6] (by decide) (by decide) rfl ?_
    refine Go.callPR C (y := yN5) (a := pA1) (as := [(.long kA0), (.ref eA0)]) (rest := []) (wd hw 72 rfl) (wd hw 73 rfl) (sel_priv (y := yN5) (wd hw 17 rfl) (wd hw 73 rfl) (wd hw 74 rfl) (by decide)) (wd hw 74 rfl) (wd hw 75 rfl) (wd hw 18 rfl) (fun _ r => r.exa 0 rfl) (u_SequenceQueue_Run_add_13 l Z a0 hw _ pA1 pA2 pA3 eA0 eA2 kA0 kA2 kA3 kA4 kA5 kA6 kA7 hE_eA0 hE_eA2) rfl d5_28 (q := 31) rfl (by decide) rfl (na := 2) (by decide +kernel) rfl (by decide) (W := 0) rfl (by decide) (by decide) (by decide) (k' := 0) (n' := 0) rfl rfl ?_
    rintro _ _ ⟨rfl, rfl⟩
    show Go _ _ _ _ _ _ _ _ _ _ []
    refine Go.goto C d5_31 (by decide) (q := 43) rfl ?_
    refine Go.ret0 C rfl d5_43 (by decide) (by decide) ?_
    exact Or.inr (Or.inr (⟨h18_1, rfl, rfl⟩))
theorem u_SequenceQueue_Heap_add_25 (l : Launch) (Z : State) (a0 : Array Value) (hw : HW Z a0) (F : List Ent) (pA0 pA1 pA2 eA0 eA1 eA2 : Addr) (kA0 kA1 kA2 kA3 kA4 kA5 kA6 : Int64) (hE_eA0 : XI Z eA0) (hE_eA1 : XI Z eA1) (hE_eA2 : XI Z eA2) :
    Met l Z yN9 prog_21_method_2_code 6 none { frames := 1, cells := 0, slots := 0, locals := 12 } #[(.ref pA0), (.long kA0), (.ref eA0)] (nH pA0 pA1 pA2 2 :: nK pA1 kA1 kA2 kA3 kA4 kA5 kA6 :: nE pA2 (.ref eA1) (.ref eA2) .null .null .null .null :: F) (fun r M' => ((kA0 < kA1) ∧ r = none ∧ M' = (nH pA0 pA1 pA2 3 :: nK pA1 kA0 kA2 kA1 kA4 kA5 kA6 :: nE pA2 (.ref eA0) (.ref eA2) (.ref eA1) .null .null .null :: F)) ∨ ((¬ kA0 < kA1) ∧ r = none ∧ M' = (nH pA0 pA1 pA2 3 :: nK pA1 kA1 kA2 kA0 kA4 kA5 kA6 :: nE pA2 (.ref eA1) (.ref eA2) (.ref eA0) .null .null .null :: F))) := by
  refine Met.of_go pn_7 (Ls := #[.val (.ref pA0), .val (.long kA0), .second, .val (.ref eA0), .unset, .unset]) (fun m => rfl) ?_
  intro E C
  refine Go.aloadN C d8_0 rfl rfl rfl ?_
  refine Go.callU C (y := yN8) (z := yN2) (owner := "com/example/ordered_dispatch/ordereddispatch/SequenceQueue$Part") (a := pA0) (as := []) (rest := []) (wd hw 123 rfl) (wd hw 124 rfl) (wd hw 78 rfl) (wd hw 125 rfl) (wd hw 79 rfl) (wd hw 81 rfl) (wd hw 25 rfl) (fun _ r => r.exa 0 rfl) (m_makeRoomH l Z a0 hw _ pA0 pA1 pA2 2 0 kA1 kA2 kA3 kA4 kA5 kA6 (by decide)) rfl d8_1 (q := 4) rfl (by decide) rfl (na := 0) (by decide +kernel) rfl (by decide) (W := 0) rfl (by decide) (by decide) (by decide) (k' := 0) (n' := 0) rfl rfl ?_
  rintro _ _ ⟨rfl, rfl⟩
  show Go _ _ _ _ _ _ _ _ _ _ []
  refine Go.aloadN C d8_4 rfl rfl rfl ?_
  refine Go.gv C (wd hw 126 rfl) (wd hw 107 rfl) 0 2 rfl rfl d8_5 rfl ?_
  refine Go.istore C d8_8 rfl (Ls' := #[.val (.ref pA0), .val (.long kA0), .second, .val (.ref eA0), .val (.int (2 : Int32)), .unset]) rfl ?_
  refine Go.aloadN C d8_10 rfl rfl rfl ?_
  refine Go.dup C d8_11 rfl rfl ?_
  refine Go.gv C (wd hw 126 rfl) (wd hw 107 rfl) 0 2 rfl rfl d8_12 rfl ?_
  refine Go.iconst C d8_15 rfl (v := (1 : Int32)) rfl ?_
  refine Go.iadd C d8_16 rfl ?_
  refine Go.castI (w := (3 : Int32)) (by decide) ?_
  refine Go.pf C (wd hw 126 rfl) (Via.of (wd hw 107 rfl)) 0 2 rfl rfl (wd hw 108 rfl) (wd hw 37 rfl) (ty := .int) (by decide) rfl rfl d8_17 rfl (M' := (nH pA0 pA1 pA2 3 :: nK pA1 kA1 kA2 kA3 kA4 kA5 kA6 :: nE pA2 (.ref eA1) (.ref eA2) .null .null .null .null :: F)) rfl ?_
  refine Go.iload C d8_20 rfl rfl ?_
  refine Go.ifNo C d8_22 (q := 25) rfl (XT.i0_le_f (by decide)) ?_
  refine Go.iload C d8_25 rfl rfl ?_
  refine Go.iconst C d8_27 rfl (v := (1 : Int32)) rfl ?_
  refine Go.isub C d8_28 rfl ?_
  refine Go.castI (w := (1 : Int32)) (by decide) ?_
  refine Go.iconst C d8_29 rfl (v := (1 : Int32)) rfl ?_
  refine Go.iushr C d8_30 rfl ?_
  refine Go.castI (w := (0 : Int32)) (by decide) ?_
  refine Go.istore C d8_31 rfl (Ls' := #[.val (.ref pA0), .val (.long kA0), .second, .val (.ref eA0), .val (.int (2 : Int32)), .val (.int (0 : Int32))]) rfl ?_
  refine Go.aloadN C d8_33 rfl rfl rfl ?_
  refine Go.gv C (wd hw 127 rfl) (wd hw 128 rfl) 0 0 rfl rfl d8_34 rfl ?_
  refine Go.iload C d8_37 rfl rfl ?_
  refine Go.laload C (fun _ r => r.arr 1 rfl) (by decide) (v := (.long kA1)) rfl d8_39 (q := 40) rfl ?_
  refine Go.lloadN C d8_40 rfl rfl ?_
  refine Go.lcmpif C d8_41 rfl d8_42 (by decide) (q := 48) rfl (q' := 45) rfl (fun (h41_1 : kA0 < kA1) => ?_) (fun (h41_1 : ¬ kA0 < kA1) => ?_)
  · refine Go.aloadN C d8_48 rfl rfl rfl ?_
    refine Go.gv C (wd hw 127 rfl) (wd hw 128 rfl) 0 0 rfl rfl d8_49 rfl ?_
    refine Go.iload C d8_52 rfl rfl ?_
    refine Go.aloadN C d8_54 rfl rfl rfl ?_
    refine Go.gv C (wd hw 127 rfl) (wd hw 128 rfl) 0 0 rfl rfl d8_55 rfl ?_
    refine Go.iload C d8_58 rfl rfl ?_
    refine Go.laload C (fun _ r => r.arr 1 rfl) (by decide) (v := (.long kA1)) rfl d8_60 (q := 61) rfl ?_
    refine Go.lastore C (i := 1) rfl (by decide) (show (2 : Int32).toNatClampNeg < 64 from by decide) (w' := (.long kA1)) rfl d8_61 (q := 62) rfl (M' := (nH pA0 pA1 pA2 3 :: nK pA1 kA1 kA2 kA1 kA4 kA5 kA6 :: nE pA2 (.ref eA1) (.ref eA2) .null .null .null .null :: F)) rfl ?_
    refine Go.aloadN C d8_62 rfl rfl rfl ?_
    refine Go.gv C (wd hw 129 rfl) (wd hw 130 rfl) 0 1 rfl rfl d8_63 rfl ?_
    refine Go.iload C d8_66 rfl rfl ?_
    refine Go.aloadN C d8_68 rfl rfl rfl ?_
    refine Go.gv C (wd hw 129 rfl) (wd hw 130 rfl) 0 1 rfl rfl d8_69 rfl ?_
    refine Go.iload C d8_72 rfl rfl ?_
    refine Go.aaload C (fun _ r => r.arr 2 rfl) rfl (by decide) (v := (.ref eA1)) rfl d8_74 (q := 75) rfl ?_
    refine Go.aastore C (i := 2) rfl (by decide) (show (2 : Int32).toNatClampNeg < 64 from by decide) (fun _ r => Or.inr ⟨_, rfl, Ins.of_exa ((hE_eA1).ext r.1) (wd hw 94 rfl)⟩) d8_75 (q := 76) rfl (M' := (nH pA0 pA1 pA2 3 :: nK pA1 kA1 kA2 kA1 kA4 kA5 kA6 :: nE pA2 (.ref eA1) (.ref eA2) (.ref eA1) .null .null .null :: F)) rfl ?_
    refine Go.iload C d8_76 rfl rfl ?_
    refine Go.istore C d8_78 rfl (Ls' := #[.val (.ref pA0), .val (.long kA0), .second, .val (.ref eA0), .val (.int (0 : Int32)), .val (.int (0 : Int32))]) rfl ?_
    refine Go.goto C d8_80 (by decide) (q := 20) rfl ?_
    refine Go.iload C d8_20 rfl rfl ?_
    refine Go.ifYes C d8_22 (by decide) (q := 83) rfl (XT.i0_le_t (by decide)) ?_
    refine Go.aloadN C d8_83 rfl rfl rfl ?_
    refine Go.gv C (wd hw 127 rfl) (wd hw 128 rfl) 0 0 rfl rfl d8_84 rfl ?_
    refine Go.iload C d8_87 rfl rfl ?_
    refine Go.lloadN C d8_89 rfl rfl ?_
    refine Go.lastore C (i := 1) rfl (by decide) (show (0 : Int32).toNatClampNeg < 64 from by decide) (w' := (.long kA0)) rfl d8_90 (q := 91) rfl (M' := (nH pA0 pA1 pA2 3 :: nK pA1 kA0 kA2 kA1 kA4 kA5 kA6 :: nE pA2 (.ref eA1) (.ref eA2) (.ref eA1) .null .null .null :: F)) rfl ?_
    refine Go.aloadN C d8_91 rfl rfl rfl ?_
    refine Go.gv C (wd hw 129 rfl) (wd hw 130 rfl) 0 1 rfl rfl d8_92 rfl ?_
    refine Go.iload C d8_95 rfl rfl ?_
    refine Go.aloadN C d8_97 rfl rfl rfl ?_
    refine Go.aastore C (i := 2) rfl (by decide) (show (0 : Int32).toNatClampNeg < 64 from by decide) (fun _ r => Or.inr ⟨_, rfl, Ins.of_exa ((hE_eA0).ext r.1) (wd hw 94 rfl)⟩) d8_98 (q := 99) rfl (M' := (nH pA0 pA1 pA2 3 :: nK pA1 kA0 kA2 kA1 kA4 kA5 kA6 :: nE pA2 (.ref eA0) (.ref eA2) (.ref eA1) .null .null .null :: F)) rfl ?_
    refine Go.ret0 C rfl d8_99 (by decide) (by decide) ?_
    exact Or.inl ⟨h41_1, rfl, rfl⟩
  · refine Go.goto C d8_45 (by decide) (q := 83) rfl ?_
    refine Go.aloadN C d8_83 rfl rfl rfl ?_
    refine Go.gv C (wd hw 127 rfl) (wd hw 128 rfl) 0 0 rfl rfl d8_84 rfl ?_
    refine Go.iload C d8_87 rfl rfl ?_
    refine Go.lloadN C d8_89 rfl rfl ?_
    refine Go.lastore C (i := 1) rfl (by decide) (show (2 : Int32).toNatClampNeg < 64 from by decide) (w' := (.long kA0)) rfl d8_90 (q := 91) rfl (M' := (nH pA0 pA1 pA2 3 :: nK pA1 kA1 kA2 kA0 kA4 kA5 kA6 :: nE pA2 (.ref eA1) (.ref eA2) .null .null .null .null :: F)) rfl ?_
    refine Go.aloadN C d8_91 rfl rfl rfl ?_
    refine Go.gv C (wd hw 129 rfl) (wd hw 130 rfl) 0 1 rfl rfl d8_92 rfl ?_
    refine Go.iload C d8_95 rfl rfl ?_
    refine Go.aloadN C d8_97 rfl rfl rfl ?_
    refine Go.aastore C (i := 2) rfl (by decide) (show (2 : Int32).toNatClampNeg < 64 from by decide) (fun _ r => Or.inr ⟨_, rfl, Ins.of_exa ((hE_eA0).ext r.1) (wd hw 94 rfl)⟩) d8_98 (q := 99) rfl (M' := (nH pA0 pA1 pA2 3 :: nK pA1 kA1 kA2 kA0 kA4 kA5 kA6 :: nE pA2 (.ref eA1) (.ref eA2) (.ref eA0) .null .null .null :: F)) rfl ?_
    refine Go.ret0 C rfl d8_99 (by decide) (by decide) ?_
    exact Or.inr (⟨h41_1, rfl, rfl⟩)
theorem u_SequenceQueue_place_28 (l : Launch) (Z : State) (a0 : Array Value) (hw : HW Z a0) (F : List Ent) (pA0 pA1 pA2 pA3 pA4 pA5 pA6 eA0 eA1 eA2 eA3 eA4 : Addr) (kA0 kA1 kA2 kA3 kA4 kA5 kA6 kA7 kA8 kA9 kA10 kA11 kA12 kA13 : Int64) (hE_eA0 : XI Z eA0) (hE_eA1 : XI Z eA1) (hE_eA2 : XI Z eA2) (hE_eA3 : XI Z eA3) (hE_eA4 : XI Z eA4) :
    Met l Z yN6 prog_20_method_9_code 4 none { frames := 2, cells := 0, slots := 0, locals := 30 } #[(.ref pA0), (.long kA0), (.ref eA0)] (nQ pA0 pA1 pA4 1 kA1 (.ref eA1) :: nR pA1 pA2 pA3 1 0 :: nK pA2 kA2 kA3 kA4 kA5 kA6 kA7 :: nE pA3 (.ref eA2) .null .null .null .null .null :: nH pA4 pA5 pA6 2 :: nK pA5 kA8 kA9 kA10 kA11 kA12 kA13 :: nE pA6 (.ref eA3) (.ref eA4) .null .null .null .null :: F) (fun r M' => ((kA0 < kA2) ∧ (kA0 < kA8) ∧ r = none ∧ M' = (nH pA4 pA5 pA6 3 :: nK pA5 kA0 kA9 kA8 kA11 kA12 kA13 :: nE pA6 (.ref eA0) (.ref eA4) (.ref eA3) .null .null .null :: nR pA1 pA2 pA3 1 0 :: nK pA2 kA2 kA3 kA4 kA5 kA6 kA7 :: nQ pA0 pA1 pA4 1 kA1 (.ref eA1) :: nE pA3 (.ref eA2) .null .null .null .null .null :: F)) ∨ ((kA0 < kA2) ∧ (¬ kA0 < kA8) ∧ r = none ∧ M' = (nH pA4 pA5 pA6 3 :: nK pA5 kA8 kA9 kA0 kA11 kA12 kA13 :: nE pA6 (.ref eA3) (.ref eA4) (.ref eA0) .null .null .null :: nR pA1 pA2 pA3 1 0 :: nK pA2 kA2 kA3 kA4 kA5 kA6 kA7 :: nQ pA0 pA1 pA4 1 kA1 (.ref eA1) :: nE pA3 (.ref eA2) .null .null .null .null .null :: F)) ∨ ((¬ kA0 < kA2) ∧ r = none ∧ M' = (nR pA1 pA2 pA3 2 0 :: nK pA2 kA2 kA0 kA4 kA5 kA6 kA7 :: nE pA3 (.ref eA2) (.ref eA0) .null .null .null .null :: nQ pA0 pA1 pA4 1 kA1 (.ref eA1) :: nH pA4 pA5 pA6 2 :: nK pA5 kA8 kA9 kA10 kA11 kA12 kA13 :: nE pA6 (.ref eA3) (.ref eA4) .null .null .null .null :: F))) := by
  refine Met.of_go pn_5 (Ls := #[.val (.ref pA0), .val (.long kA0), .second, .val (.ref eA0)]) (fun m => rfl) ?_
  intro E C
  refine Go.aloadN C d5_0 rfl rfl rfl ?_
  refine Go.gf C (wd hw 34 rfl) 0 0 rfl rfl d5_1 rfl ?_
  refine Go.gv C (wd hw 69 rfl) (wd hw 70 rfl) 1 2 rfl rfl d5_4 rfl ?_
  refine Go.ifNo C d5_7 (q := 10) rfl (XT.i0_eq_f (by decide)) ?_
  refine Go.lloadN C d5_10 rfl rfl ?_
  refine Go.aloadN C d5_11 rfl rfl rfl ?_
  refine Go.gf C (wd hw 34 rfl) 0 0 rfl rfl d5_12 rfl ?_
  refine Go.pick (M' := (nR pA1 pA2 pA3 1 0 :: nK pA2 kA2 kA3 kA4 kA5 kA6 kA7 :: nQ pA0 pA1 pA4 1 kA1 (.ref eA1) :: nE pA3 (.ref eA2) .null .null .null .null .null :: nH pA4 pA5 pA6 2 :: nK pA5 kA8 kA9 kA10 kA11 kA12 kA13 :: nE pA6 (.ref eA3) (.ref eA4) .null .null .null .null :: F)) 7 [1, 2, 0, 3, 4, 5, 6] (by decide) (by decide) rfl ?_
  refine Go.callPR C (y := yN7) (a := pA1) (as := []) (rest := [(.long kA0)]) (wd hw 115 rfl) (wd hw 116 rfl) (sel_priv (y := yN7) (wd hw 17 rfl) (wd hw 116 rfl) (wd hw 117 rfl) (by decide)) (wd hw 117 rfl) (wd hw 118 rfl) (wd hw 18 rfl) (fun _ r => r.exa 0 rfl) (u_SequenceQueue_Run_lastKey_7 l Z a0 hw _ pA1 pA2 pA3 kA2 kA3 kA4 kA5 kA6 kA7) rfl d5_15 (q := 18) rfl (by decide) rfl (na := 0) (by decide +kernel) rfl (by decide) (W := 2) rfl (by decide) (by decide) (by decide) (k' := 0) (n' := 0) rfl rfl ?_
  rintro _ _ ⟨rfl, rfl⟩
  show Go _ _ _ _ _ _ _ _ _ _ [(.long kA2), (.long kA0)]
  refine Go.lcmpif C d5_18 rfl d5_19 (by decide) (q := 34) rfl (q' := 22) rfl (fun (h18_1 : kA0 < kA2) => ?_) (fun (h18_1 : ¬ kA0 < kA2) => ?_)
  · refine Go.aloadN C d5_34 rfl rfl rfl ?_
    refine Go.gf C (wd hw 45 rfl) 2 1 rfl rfl d5_35 rfl ?_
    refine Go.lloadN C d5_38 rfl rfl ?_
    refine Go.aloadN C d5_39 rfl rfl rfl ?_
    refine Go.pick (M' := (nH pA4 pA5 pA6 2 :: nK pA5 kA8 kA9 kA10 kA11 kA12 kA13 :: nE pA6 (.ref eA3) (.ref eA4) .null .null .null .null :: nR pA1 pA2 pA3 1 0 :: nK pA2 kA2 kA3 kA4 kA5 kA6 kA7 :: nQ pA0 pA1 pA4 1 kA1 (.ref eA1) :: nE pA3 (.ref eA2) .null .null .null .null .null :: F)) 7 [4, 5, 6, 0, 1, 2, 3] (by decide) (by decide) rfl ?_
    refine Go.callPR C (y := yN9) (a := pA4) (as := [(.long kA0), (.ref eA0)]) (rest := []) (wd hw 119 rfl) (wd hw 120 rfl) (sel_priv (y := yN9) (wd hw 37 rfl) (wd hw 120 rfl) (wd hw 121 rfl) (by decide)) (wd hw 121 rfl) (wd hw 122 rfl) (wd hw 38 rfl) (fun _ r => r.exa 0 rfl) (u_SequenceQueue_Heap_add_25 l Z a0 hw _ pA4 pA5 pA6 eA0 eA3 eA4 kA0 kA8 kA9 kA10 kA11 kA12 kA13 hE_eA0 hE_eA3 hE_eA4) rfl d5_40 (q := 43) rfl (by decide) rfl (na := 2) (by decide +kernel) rfl (by decide) (W := 0) rfl (by decide) (by decide) (by decide) (k' := 0) (n' := 0) rfl rfl ?_
    rintro _ _ (⟨hc1, rfl, rfl⟩ | ⟨hc2, rfl, rfl⟩)
    · show Go _ _ _ _ _ _ _ _ _ _ []
      refine Go.ret0 C rfl d5_43 (by decide) (by decide) ?_
      exact Or.inl ⟨h18_1, hc1, rfl, rfl⟩
    · show Go _ _ _ _ _ _ _ _ _ _ []
      refine Go.ret0 C rfl d5_43 (by decide) (by decide) ?_
      exact Or.inr (Or.inl ⟨h18_1, hc2, rfl, rfl⟩)
  · refine Go.aloadN C d5_22 rfl rfl rfl ?_
    refine Go.gf C (wd hw 34 rfl) 2 0 rfl rfl d5_23 rfl ?_
    refine Go.lloadN C d5_26 rfl rfl ?_
    refine Go.aloadN C d5_27 rfl rfl rfl ?_
    refine Go.pick (M' := (nR pA1 pA2 pA3 1 0 :: nK pA2 kA2 kA3 kA4 kA5 kA6 kA7 :: nE pA3 (.ref eA2) .null .null .null .null .null :: nQ pA0 pA1 pA4 1 kA1 (.ref eA1) :: nH pA4 pA5 pA6 2 :: nK pA5 kA8 kA9 kA10 kA11 kA12 kA13 :: nE pA6 (.ref eA3) (.ref eA4) .null .null .null .null :: F)) 7 [0, 1, 3, 2, 4, 5, 6] (by decide) (by decide) rfl ?_
    refine Go.callPR C (y := yN5) (a := pA1) (as := [(.long kA0), (.ref eA0)]) (rest := []) (wd hw 72 rfl) (wd hw 73 rfl) (sel_priv (y := yN5) (wd hw 17 rfl) (wd hw 73 rfl) (wd hw 74 rfl) (by decide)) (wd hw 74 rfl) (wd hw 75 rfl) (wd hw 18 rfl) (fun _ r => r.exa 0 rfl) (u_SequenceQueue_Run_add_13 l Z a0 hw _ pA1 pA2 pA3 eA0 eA2 kA0 kA2 kA3 kA4 kA5 kA6 kA7 hE_eA0 hE_eA2) rfl d5_28 (q := 31) rfl (by decide) rfl (na := 2) (by decide +kernel) rfl (by decide) (W := 0) rfl (by decide) (by decide) (by decide) (k' := 0) (n' := 0) rfl rfl ?_
    rintro _ _ ⟨rfl, rfl⟩
    show Go _ _ _ _ _ _ _ _ _ _ []
    refine Go.goto C d5_31 (by decide) (q := 43) rfl ?_
    refine Go.ret0 C rfl d5_43 (by decide) (by decide) ?_
    exact Or.inr (Or.inr (⟨h18_1, rfl, rfl⟩))
theorem u_SequenceQueue_Run_lastKey_31 (l : Launch) (Z : State) (a0 : Array Value) (hw : HW Z a0) (F : List Ent) (pA0 pA1 rA0 : Addr) (kA0 kA1 kA2 kA3 kA4 kA5 : Int64)  :
    Met l Z yN7 prog_23_method_2_code 1 (some .long) { frames := 1, cells := 0, slots := 0, locals := 15 } #[(.ref pA0)] (nR pA0 pA1 rA0 2 0 :: nK pA1 kA0 kA1 kA2 kA3 kA4 kA5 :: F) (fun r M' => (r = (some (.long kA1)) ∧ M' = (nR pA0 pA1 rA0 2 0 :: nK pA1 kA0 kA1 kA2 kA3 kA4 kA5 :: F))) := by
  refine Met.of_go pn_6 (Ls := #[.val (.ref pA0)]) (fun m => rfl) ?_
  intro E C
  refine Go.aloadN C d7_0 rfl rfl rfl ?_
  refine Go.gv C (wd hw 90 rfl) (wd hw 91 rfl) 0 0 rfl rfl d7_1 rfl ?_
  refine Go.aloadN C d7_4 rfl rfl rfl ?_
  refine Go.aloadN C d7_5 rfl rfl rfl ?_
  refine Go.gv C (wd hw 83 rfl) (wd hw 70 rfl) 0 2 rfl rfl d7_6 rfl ?_
  refine Go.iconst C d7_9 rfl (v := (1 : Int32)) rfl ?_
  refine Go.isub C d7_10 rfl ?_
  refine Go.castI (w := (1 : Int32)) (by decide) ?_
  refine Go.callP C (y := yN1) (a := pA0) (as := [(.int (1 : Int32))]) (rest := [(.ref pA1)]) (wd hw 84 rfl) (wd hw 85 rfl) (sel_priv (y := yN1) (wd hw 17 rfl) (wd hw 85 rfl) (wd hw 86 rfl) (by decide)) (wd hw 86 rfl) (wd hw 87 rfl) (wd hw 18 rfl) (fun _ r => r.exa 0 rfl) (m_slot l Z a0 hw _ pA0 pA1 rA0 2 0 1 1 kA0 kA1 kA2 kA3 kA4 kA5 (by decide) (by decide)) rfl d7_11 (q := 14) rfl (by decide) rfl (na := 1) (by decide +kernel) rfl (by decide) (W := 1) rfl (by decide) (by decide) (by decide) (k' := 0) (n' := 0) rfl rfl ?_
  rintro _ _ ⟨rfl, rfl⟩
  show Go _ _ _ _ _ _ _ _ _ _ [(.int (1 : Int32)), (.ref pA1)]
  refine Go.laload C (fun _ r => r.arr 1 rfl) (by decide) (v := (.long kA1)) rfl d7_14 (q := 15) rfl ?_
  refine Go.retL C rfl d7_15 (by decide) (by decide) ?_
  exact ⟨rfl, rfl⟩
theorem u_SequenceQueue_Run_add_34 (l : Launch) (Z : State) (a0 : Array Value) (hw : HW Z a0) (F : List Ent) (pA0 pA1 pA2 eA0 eA1 eA2 : Addr) (kA0 kA1 kA2 kA3 kA4 kA5 kA6 : Int64) (hE_eA0 : XI Z eA0) (hE_eA1 : XI Z eA1) (hE_eA2 : XI Z eA2) :
    Met l Z yN5 prog_23_method_3_code 5 none { frames := 1, cells := 0, slots := 0, locals := 14 } #[(.ref pA0), (.long kA0), (.ref eA0)] (nR pA0 pA1 pA2 2 0 :: nK pA1 kA1 kA2 kA3 kA4 kA5 kA6 :: nE pA2 (.ref eA1) (.ref eA2) .null .null .null .null :: F) (fun r M' => (r = none ∧ M' = (nR pA0 pA1 pA2 3 0 :: nK pA1 kA1 kA2 kA0 kA4 kA5 kA6 :: nE pA2 (.ref eA1) (.ref eA2) (.ref eA0) .null .null .null :: F))) := by
  refine Met.of_go pn_4 (Ls := #[.val (.ref pA0), .val (.long kA0), .second, .val (.ref eA0), .unset]) (fun m => rfl) ?_
  intro E C
  refine Go.aloadN C d6_0 rfl rfl rfl ?_
  refine Go.callU C (y := yN4) (z := yN2) (owner := "com/example/ordered_dispatch/ordereddispatch/SequenceQueue$Part") (a := pA0) (as := []) (rest := []) (wd hw 76 rfl) (wd hw 77 rfl) (wd hw 78 rfl) (wd hw 80 rfl) (wd hw 79 rfl) (wd hw 81 rfl) (wd hw 25 rfl) (fun _ r => r.exa 0 rfl) (m_makeRoomR l Z a0 hw _ pA0 pA1 pA2 2 0 kA1 kA2 kA3 kA4 kA5 kA6 (by decide)) rfl d6_1 (q := 4) rfl (by decide) rfl (na := 0) (by decide +kernel) rfl (by decide) (W := 0) rfl (by decide) (by decide) (by decide) (k' := 0) (n' := 0) rfl rfl ?_
  rintro _ _ ⟨rfl, rfl⟩
  show Go _ _ _ _ _ _ _ _ _ _ []
  refine Go.aloadN C d6_4 rfl rfl rfl ?_
  refine Go.aloadN C d6_5 rfl rfl rfl ?_
  refine Go.gv C (wd hw 83 rfl) (wd hw 70 rfl) 0 2 rfl rfl d6_6 rfl ?_
  refine Go.callP C (y := yN1) (a := pA0) (as := [(.int (2 : Int32))]) (rest := []) (wd hw 84 rfl) (wd hw 85 rfl) (sel_priv (y := yN1) (wd hw 17 rfl) (wd hw 85 rfl) (wd hw 86 rfl) (by decide)) (wd hw 86 rfl) (wd hw 87 rfl) (wd hw 18 rfl) (fun _ r => r.exa 0 rfl) (m_slot l Z a0 hw _ pA0 pA1 pA2 2 0 2 2 kA1 kA2 kA3 kA4 kA5 kA6 (by decide) (by decide)) rfl d6_9 (q := 12) rfl (by decide) rfl (na := 1) (by decide +kernel) rfl (by decide) (W := 0) rfl (by decide) (by decide) (by decide) (k' := 0) (n' := 0) rfl rfl ?_
  rintro _ _ ⟨rfl, rfl⟩
  show Go _ _ _ _ _ _ _ _ _ _ [(.int (2 : Int32))]
  refine Go.istore C d6_12 rfl (Ls' := #[.val (.ref pA0), .val (.long kA0), .second, .val (.ref eA0), .val (.int (2 : Int32))]) rfl ?_
  refine Go.aloadN C d6_14 rfl rfl rfl ?_
  refine Go.gv C (wd hw 90 rfl) (wd hw 91 rfl) 0 0 rfl rfl d6_15 rfl ?_
  refine Go.iload C d6_18 rfl rfl ?_
  refine Go.lloadN C d6_20 rfl rfl ?_
  refine Go.lastore C (i := 1) rfl (by decide) (show (2 : Int32).toNatClampNeg < 64 from by decide) (w' := (.long kA0)) rfl d6_21 (q := 22) rfl (M' := (nR pA0 pA1 pA2 2 0 :: nK pA1 kA1 kA2 kA0 kA4 kA5 kA6 :: nE pA2 (.ref eA1) (.ref eA2) .null .null .null .null :: F)) rfl ?_
  refine Go.aloadN C d6_22 rfl rfl rfl ?_
  refine Go.gv C (wd hw 92 rfl) (wd hw 93 rfl) 0 1 rfl rfl d6_23 rfl ?_
  refine Go.iload C d6_26 rfl rfl ?_
  refine Go.aloadN C d6_28 rfl rfl rfl ?_
  refine Go.aastore C (i := 2) rfl (by decide) (show (2 : Int32).toNatClampNeg < 64 from by decide) (fun _ r => Or.inr ⟨_, rfl, Ins.of_exa ((hE_eA0).ext r.1) (wd hw 94 rfl)⟩) d6_29 (q := 30) rfl (M' := (nR pA0 pA1 pA2 2 0 :: nK pA1 kA1 kA2 kA0 kA4 kA5 kA6 :: nE pA2 (.ref eA1) (.ref eA2) (.ref eA0) .null .null .null :: F)) rfl ?_
  refine Go.aloadN C d6_30 rfl rfl rfl ?_
  refine Go.dup C d6_31 rfl rfl ?_
  refine Go.gv C (wd hw 83 rfl) (wd hw 70 rfl) 0 2 rfl rfl d6_32 rfl ?_
  refine Go.iconst C d6_35 rfl (v := (1 : Int32)) rfl ?_
  refine Go.iadd C d6_36 rfl ?_
  refine Go.castI (w := (3 : Int32)) (by decide) ?_
  refine Go.pf C (wd hw 83 rfl) (Via.of (wd hw 70 rfl)) 0 2 rfl rfl (wd hw 71 rfl) (wd hw 17 rfl) (ty := .int) (by decide) rfl rfl d6_37 rfl (M' := (nR pA0 pA1 pA2 3 0 :: nK pA1 kA1 kA2 kA0 kA4 kA5 kA6 :: nE pA2 (.ref eA1) (.ref eA2) (.ref eA0) .null .null .null :: F)) rfl ?_
  refine Go.ret0 C rfl d6_40 (by decide) (by decide) ?_
  exact ⟨rfl, rfl⟩
theorem u_SequenceQueue_place_37 (l : Launch) (Z : State) (a0 : Array Value) (hw : HW Z a0) (F : List Ent) (pA0 pA1 pA2 pA3 pA4 pA5 pA6 eA0 eA1 eA2 eA3 : Addr) (kA0 kA1 kA2 kA3 kA4 kA5 kA6 kA7 kA8 kA9 kA10 kA11 kA12 kA13 : Int64) (hE_eA0 : XI Z eA0) (hE_eA1 : XI Z eA1) (hE_eA2 : XI Z eA2) (hE_eA3 : XI Z eA3) :
    Met l Z yN6 prog_20_method_9_code 4 none { frames := 2, cells := 0, slots := 0, locals := 30 } #[(.ref pA0), (.long kA0), (.ref eA0)] (nQ pA0 pA1 pA4 1 kA1 (.ref eA1) :: nR pA1 pA2 pA3 2 0 :: nK pA2 kA2 kA3 kA4 kA5 kA6 kA7 :: nE pA3 (.ref eA2) (.ref eA3) .null .null .null .null :: nH pA4 pA5 pA6 0 :: nK pA5 kA8 kA9 kA10 kA11 kA12 kA13 :: nE pA6 .null .null .null .null .null .null :: F) (fun r M' => ((kA0 < kA3) ∧ r = none ∧ M' = (nH pA4 pA5 pA6 1 :: nK pA5 kA0 kA9 kA10 kA11 kA12 kA13 :: nE pA6 (.ref eA0) .null .null .null .null .null :: nR pA1 pA2 pA3 2 0 :: nK pA2 kA2 kA3 kA4 kA5 kA6 kA7 :: nQ pA0 pA1 pA4 1 kA1 (.ref eA1) :: nE pA3 (.ref eA2) (.ref eA3) .null .null .null .null :: F)) ∨ ((¬ kA0 < kA3) ∧ r = none ∧ M' = (nR pA1 pA2 pA3 3 0 :: nK pA2 kA2 kA3 kA0 kA5 kA6 kA7 :: nE pA3 (.ref eA2) (.ref eA3) (.ref eA0) .null .null .null :: nQ pA0 pA1 pA4 1 kA1 (.ref eA1) :: nH pA4 pA5 pA6 0 :: nK pA5 kA8 kA9 kA10 kA11 kA12 kA13 :: nE pA6 .null .null .null .null .null .null :: F))) := by
  refine Met.of_go pn_5 (Ls := #[.val (.ref pA0), .val (.long kA0), .second, .val (.ref eA0)]) (fun m => rfl) ?_
  intro E C
  refine Go.aloadN C d5_0 rfl rfl rfl ?_
  refine Go.gf C (wd hw 34 rfl) 0 0 rfl rfl d5_1 rfl ?_
  refine Go.gv C (wd hw 69 rfl) (wd hw 70 rfl) 1 2 rfl rfl d5_4 rfl ?_
  refine Go.ifNo C d5_7 (q := 10) rfl (XT.i0_eq_f (by decide)) ?_
  refine Go.lloadN C d5_10 rfl rfl ?_
  refine Go.aloadN C d5_11 rfl rfl rfl ?_
  refine Go.gf C (wd hw 34 rfl) 0 0 rfl rfl d5_12 rfl ?_
  refine Go.pick (M' := (nR pA1 pA2 pA3 2 0 :: nK pA2 kA2 kA3 kA4 kA5 kA6 kA7 :: nQ pA0 pA1 pA4 1 kA1 (.ref eA1) :: nE pA3 (.ref eA2) (.ref eA3) .null .null .null .null :: nH pA4 pA5 pA6 0 :: nK pA5 kA8 kA9 kA10 kA11 kA12 kA13 :: nE pA6 .null .null .null .null .null .null :: F)) 7 [1, 2, 0, 3, 4, 5, 6] (by decide) (by decide) rfl ?_
  refine Go.callPR C (y := yN7) (a := pA1) (as := []) (rest := [(.long kA0)]) (wd hw 115 rfl) (wd hw 116 rfl) (sel_priv (y := yN7) (wd hw 17 rfl) (wd hw 116 rfl) (wd hw 117 rfl) (by decide)) (wd hw 117 rfl) (wd hw 118 rfl) (wd hw 18 rfl) (fun _ r => r.exa 0 rfl) (u_SequenceQueue_Run_lastKey_31 l Z a0 hw _ pA1 pA2 pA3 kA2 kA3 kA4 kA5 kA6 kA7) rfl d5_15 (q := 18) rfl (by decide) rfl (na := 0) (by decide +kernel) rfl (by decide) (W := 2) rfl (by decide) (by decide) (by decide) (k' := 0) (n' := 0) rfl rfl ?_
  rintro _ _ ⟨rfl, rfl⟩
  show Go _ _ _ _ _ _ _ _ _ _ [(.long kA3), (.long kA0)]
  refine Go.lcmpif C d5_18 rfl d5_19 (by decide) (q := 34) rfl (q' := 22) rfl (fun (h18_1 : kA0 < kA3) => ?_) (fun (h18_1 : ¬ kA0 < kA3) => ?_)
  · refine Go.aloadN C d5_34 rfl rfl rfl ?_
    refine Go.gf C (wd hw 45 rfl) 2 1 rfl rfl d5_35 rfl ?_
    refine Go.lloadN C d5_38 rfl rfl ?_
    refine Go.aloadN C d5_39 rfl rfl rfl ?_
    refine Go.pick (M' := (nH pA4 pA5 pA6 0 :: nK pA5 kA8 kA9 kA10 kA11 kA12 kA13 :: nE pA6 .null .null .null .null .null .null :: nR pA1 pA2 pA3 2 0 :: nK pA2 kA2 kA3 kA4 kA5 kA6 kA7 :: nQ pA0 pA1 pA4 1 kA1 (.ref eA1) :: nE pA3 (.ref eA2) (.ref eA3) .null .null .null .null :: F)) 7 [4, 5, 6, 0, 1, 2, 3] (by decide) (by decide) rfl ?_
    refine Go.callPR C (y := yN9) (a := pA4) (as := [(.long kA0), (.ref eA0)]) (rest := []) (wd hw 119 rfl) (wd hw 120 rfl) (sel_priv (y := yN9) (wd hw 37 rfl) (wd hw 120 rfl) (wd hw 121 rfl) (by decide)) (wd hw 121 rfl) (wd hw 122 rfl) (wd hw 38 rfl) (fun _ r => r.exa 0 rfl) (u_SequenceQueue_Heap_add_10 l Z a0 hw _ pA4 pA5 pA6 eA0 kA0 kA8 kA9 kA10 kA11 kA12 kA13 hE_eA0) rfl d5_40 (q := 43) rfl (by decide) rfl (na := 2) (by decide +kernel) rfl (by decide) (W := 0) rfl (by decide) (by decide) (by decide) (k' := 0) (n' := 0) rfl rfl ?_
    rintro _ _ ⟨rfl, rfl⟩
    show Go _ _ _ _ _ _ _ _ _ _ []
    refine Go.ret0 C rfl d5_43 (by decide) (by decide) ?_
    exact Or.inl ⟨h18_1, rfl, rfl⟩
  · refine Go.aloadN C d5_22 rfl rfl rfl ?_
    refine Go.gf C (wd hw 34 rfl) 2 0 rfl rfl d5_23 rfl ?_
    refine Go.lloadN C d5_26 rfl rfl ?_
    refine Go.aloadN C d5_27 rfl rfl rfl ?_
    refine Go.pick (M' := (nR pA1 pA2 pA3 2 0 :: nK pA2 kA2 kA3 kA4 kA5 kA6 kA7 :: nE pA3 (.ref eA2) (.ref eA3) .null .null .null .null :: nQ pA0 pA1 pA4 1 kA1 (.ref eA1) :: nH pA4 pA5 pA6 0 :: nK pA5 kA8 kA9 kA10 kA11 kA12 kA13 :: nE pA6 .null .null .null .null .null .null :: F)) 7 [0, 1, 3, 2, 4, 5, 6] (by decide) (by decide) rfl ?_
    refine Go.callPR C (y := yN5) (a := pA1) (as := [(.long kA0), (.ref eA0)]) (rest := []) (wd hw 72 rfl) (wd hw 73 rfl) (sel_priv (y := yN5) (wd hw 17 rfl) (wd hw 73 rfl) (wd hw 74 rfl) (by decide)) (wd hw 74 rfl) (wd hw 75 rfl) (wd hw 18 rfl) (fun _ r => r.exa 0 rfl) (u_SequenceQueue_Run_add_34 l Z a0 hw _ pA1 pA2 pA3 eA0 eA2 eA3 kA0 kA2 kA3 kA4 kA5 kA6 kA7 hE_eA0 hE_eA2 hE_eA3) rfl d5_28 (q := 31) rfl (by decide) rfl (na := 2) (by decide +kernel) rfl (by decide) (W := 0) rfl (by decide) (by decide) (by decide) (k' := 0) (n' := 0) rfl rfl ?_
    rintro _ _ ⟨rfl, rfl⟩
    show Go _ _ _ _ _ _ _ _ _ _ []
    refine Go.goto C d5_31 (by decide) (q := 43) rfl ?_
    refine Go.ret0 C rfl d5_43 (by decide) (by decide) ?_
    exact Or.inr (⟨h18_1, rfl, rfl⟩)
theorem u_SequenceQueue_place_40 (l : Launch) (Z : State) (a0 : Array Value) (hw : HW Z a0) (F : List Ent) (pA0 pA1 pA2 pA3 pA4 pA5 pA6 eA0 eA1 eA2 eA3 eA4 : Addr) (kA0 kA1 kA2 kA3 kA4 kA5 kA6 kA7 kA8 kA9 kA10 kA11 kA12 kA13 : Int64) (hE_eA0 : XI Z eA0) (hE_eA1 : XI Z eA1) (hE_eA2 : XI Z eA2) (hE_eA3 : XI Z eA3) (hE_eA4 : XI Z eA4) :
    Met l Z yN6 prog_20_method_9_code 4 none { frames := 2, cells := 0, slots := 0, locals := 30 } #[(.ref pA0), (.long kA0), (.ref eA0)] (nQ pA0 pA1 pA4 1 kA1 (.ref eA1) :: nR pA1 pA2 pA3 2 0 :: nK pA2 kA2 kA3 kA4 kA5 kA6 kA7 :: nE pA3 (.ref eA2) (.ref eA3) .null .null .null .null :: nH pA4 pA5 pA6 1 :: nK pA5 kA8 kA9 kA10 kA11 kA12 kA13 :: nE pA6 (.ref eA4) .null .null .null .null .null :: F) (fun r M' => ((kA0 < kA3) ∧ (kA0 < kA8) ∧ r = none ∧ M' = (nH pA4 pA5 pA6 2 :: nK pA5 kA0 kA8 kA10 kA11 kA12 kA13 :: nE pA6 (.ref eA0) (.ref eA4) .null .null .null .null :: nR pA1 pA2 pA3 2 0 :: nK pA2 kA2 kA3 kA4 kA5 kA6 kA7 :: nQ pA0 pA1 pA4 1 kA1 (.ref eA1) :: nE pA3 (.ref eA2) (.ref eA3) .null .null .null .null :: F)) ∨ ((kA0 < kA3) ∧ (¬ kA0 < kA8) ∧ r = none ∧ M' = (nH pA4 pA5 pA6 2 :: nK pA5 kA8 kA0 kA10 kA11 kA12 kA13 :: nE pA6 (.ref eA4) (.ref eA0) .null .null .null .null :: nR pA1 pA2 pA3 2 0 :: nK pA2 kA2 kA3 kA4 kA5 kA6 kA7 :: nQ pA0 pA1 pA4 1 kA1 (.ref eA1) :: nE pA3 (.ref eA2) (.ref eA3) .null .null .null .null :: F)) ∨ ((¬ kA0 < kA3) ∧ r = none ∧ M' = (nR pA1 pA2 pA3 3 0 :: nK pA2 kA2 kA3 kA0 kA5 kA6 kA7 :: nE pA3 (.ref eA2) (.ref eA3) (.ref eA0) .null .null .null :: nQ pA0 pA1 pA4 1 kA1 (.ref eA1) :: nH pA4 pA5 pA6 1 :: nK pA5 kA8 kA9 kA10 kA11 kA12 kA13 :: nE pA6 (.ref eA4) .null .null .null .null .null :: F))) := by
  refine Met.of_go pn_5 (Ls := #[.val (.ref pA0), .val (.long kA0), .second, .val (.ref eA0)]) (fun m => rfl) ?_
  intro E C
  refine Go.aloadN C d5_0 rfl rfl rfl ?_
  refine Go.gf C (wd hw 34 rfl) 0 0 rfl rfl d5_1 rfl ?_
  refine Go.gv C (wd hw 69 rfl) (wd hw 70 rfl) 1 2 rfl rfl d5_4 rfl ?_
  refine Go.ifNo C d5_7 (q := 10) rfl (XT.i0_eq_f (by decide)) ?_
  refine Go.lloadN C d5_10 rfl rfl ?_
  refine Go.aloadN C d5_11 rfl rfl rfl ?_
  refine Go.gf C (wd hw 34 rfl) 0 0 rfl rfl d5_12 rfl ?_
  refine Go.pick (M' := (nR pA1 pA2 pA3 2 0 :: nK pA2 kA2 kA3 kA4 kA5 kA6 kA7 :: nQ pA0 pA1 pA4 1 kA1 (.ref eA1) :: nE pA3 (.ref eA2) (.ref eA3) .null .null .null .null :: nH pA4 pA5 pA6 1 :: nK pA5 kA8 kA9 kA10 kA11 kA12 kA13 :: nE pA6 (.ref eA4) .null .null .null .null .null :: F)) 7 [1, 2, 0, 3, 4, 5, 6] (by decide) (by decide) rfl ?_
  refine Go.callPR C (y := yN7) (a := pA1) (as := []) (rest := [(.long kA0)]) (wd hw 115 rfl) (wd hw 116 rfl) (sel_priv (y := yN7) (wd hw 17 rfl) (wd hw 116 rfl) (wd hw 117 rfl) (by decide)) (wd hw 117 rfl) (wd hw 118 rfl) (wd hw 18 rfl) (fun _ r => r.exa 0 rfl) (u_SequenceQueue_Run_lastKey_31 l Z a0 hw _ pA1 pA2 pA3 kA2 kA3 kA4 kA5 kA6 kA7) rfl d5_15 (q := 18) rfl (by decide) rfl (na := 0) (by decide +kernel) rfl (by decide) (W := 2) rfl (by decide) (by decide) (by decide) (k' := 0) (n' := 0) rfl rfl ?_
  rintro _ _ ⟨rfl, rfl⟩
  show Go _ _ _ _ _ _ _ _ _ _ [(.long kA3), (.long kA0)]
  refine Go.lcmpif C d5_18 rfl d5_19 (by decide) (q := 34) rfl (q' := 22) rfl (fun (h18_1 : kA0 < kA3) => ?_) (fun (h18_1 : ¬ kA0 < kA3) => ?_)
  · refine Go.aloadN C d5_34 rfl rfl rfl ?_
    refine Go.gf C (wd hw 45 rfl) 2 1 rfl rfl d5_35 rfl ?_
    refine Go.lloadN C d5_38 rfl rfl ?_
    refine Go.aloadN C d5_39 rfl rfl rfl ?_
    refine Go.pick (M' := (nH pA4 pA5 pA6 1 :: nK pA5 kA8 kA9 kA10 kA11 kA12 kA13 :: nE pA6 (.ref eA4) .null .null .null .null .null :: nR pA1 pA2 pA3 2 0 :: nK pA2 kA2 kA3 kA4 kA5 kA6 kA7 :: nQ pA0 pA1 pA4 1 kA1 (.ref eA1) :: nE pA3 (.ref eA2) (.ref eA3) .null .null .null .null :: F)) 7 [4, 5, 6, 0, 1, 2, 3] (by decide) (by decide) rfl ?_
    refine Go.callPR C (y := yN9) (a := pA4) (as := [(.long kA0), (.ref eA0)]) (rest := []) (wd hw 119 rfl) (wd hw 120 rfl) (sel_priv (y := yN9) (wd hw 37 rfl) (wd hw 120 rfl) (wd hw 121 rfl) (by decide)) (wd hw 121 rfl) (wd hw 122 rfl) (wd hw 38 rfl) (fun _ r => r.exa 0 rfl) (u_SequenceQueue_Heap_add_19 l Z a0 hw _ pA4 pA5 pA6 eA0 eA4 kA0 kA8 kA9 kA10 kA11 kA12 kA13 hE_eA0 hE_eA4) rfl d5_40 (q := 43) rfl (by decide) rfl (na := 2) (by decide +kernel) rfl (by decide) (W := 0) rfl (by decide) (by decide) (by decide) (k' := 0) (n' := 0) rfl rfl ?_
    rintro _ _ (⟨hc1, rfl, rfl⟩ | ⟨hc2, rfl, rfl⟩)
    · show Go _ _ _ _ _ _ _ _ _ _ []
      refine Go.ret0 C rfl d5_43 (by decide) (by decide) ?_
      exact Or.inl ⟨h18_1, hc1, rfl, rfl⟩
    · show Go _ _ _ _ _ _ _ _ _ _ []
      refine Go.ret0 C rfl d5_43 (by decide) (by decide) ?_
      exact Or.inr (Or.inl ⟨h18_1, hc2, rfl, rfl⟩)
  · refine Go.aloadN C d5_22 rfl rfl rfl ?_
    refine Go.gf C (wd hw 34 rfl) 2 0 rfl rfl d5_23 rfl ?_
    refine Go.lloadN C d5_26 rfl rfl ?_
    refine Go.aloadN C d5_27 rfl rfl rfl ?_
    refine Go.pick (M' := (nR pA1 pA2 pA3 2 0 :: nK pA2 kA2 kA3 kA4 kA5 kA6 kA7 :: nE pA3 (.ref eA2) (.ref eA3) .null .null .null .null :: nQ pA0 pA1 pA4 1 kA1 (.ref eA1) :: nH pA4 pA5 pA6 1 :: nK pA5 kA8 kA9 kA10 kA11 kA12 kA13 :: nE pA6 (.ref eA4) .null .null .null .null .null :: F)) 7 [0, 1, 3, 2, 4, 5, 6] (by decide) (by decide) rfl ?_
    refine Go.callPR C (y := yN5) (a := pA1) (as := [(.long kA0), (.ref eA0)]) (rest := []) (wd hw 72 rfl) (wd hw 73 rfl) (sel_priv (y := yN5) (wd hw 17 rfl) (wd hw 73 rfl) (wd hw 74 rfl) (by decide)) (wd hw 74 rfl) (wd hw 75 rfl) (wd hw 18 rfl) (fun _ r => r.exa 0 rfl) (u_SequenceQueue_Run_add_34 l Z a0 hw _ pA1 pA2 pA3 eA0 eA2 eA3 kA0 kA2 kA3 kA4 kA5 kA6 kA7 hE_eA0 hE_eA2 hE_eA3) rfl d5_28 (q := 31) rfl (by decide) rfl (na := 2) (by decide +kernel) rfl (by decide) (W := 0) rfl (by decide) (by decide) (by decide) (k' := 0) (n' := 0) rfl rfl ?_
    rintro _ _ ⟨rfl, rfl⟩
    show Go _ _ _ _ _ _ _ _ _ _ []
    refine Go.goto C d5_31 (by decide) (q := 43) rfl ?_
    refine Go.ret0 C rfl d5_43 (by decide) (by decide) ?_
    exact Or.inr (Or.inr (⟨h18_1, rfl, rfl⟩))
theorem u_SequenceQueue_Run_lastKey_43 (l : Launch) (Z : State) (a0 : Array Value) (hw : HW Z a0) (F : List Ent) (pA0 pA1 rA0 : Addr) (kA0 kA1 kA2 kA3 kA4 kA5 : Int64)  :
    Met l Z yN7 prog_23_method_2_code 1 (some .long) { frames := 1, cells := 0, slots := 0, locals := 15 } #[(.ref pA0)] (nR pA0 pA1 rA0 3 0 :: nK pA1 kA0 kA1 kA2 kA3 kA4 kA5 :: F) (fun r M' => (r = (some (.long kA2)) ∧ M' = (nR pA0 pA1 rA0 3 0 :: nK pA1 kA0 kA1 kA2 kA3 kA4 kA5 :: F))) := by
  refine Met.of_go pn_6 (Ls := #[.val (.ref pA0)]) (fun m => rfl) ?_
  intro E C
  refine Go.aloadN C d7_0 rfl rfl rfl ?_
  refine Go.gv C (wd hw 90 rfl) (wd hw 91 rfl) 0 0 rfl rfl d7_1 rfl ?_
  refine Go.aloadN C d7_4 rfl rfl rfl ?_
  refine Go.aloadN C d7_5 rfl rfl rfl ?_
  refine Go.gv C (wd hw 83 rfl) (wd hw 70 rfl) 0 2 rfl rfl d7_6 rfl ?_
  refine Go.iconst C d7_9 rfl (v := (1 : Int32)) rfl ?_
  refine Go.isub C d7_10 rfl ?_
  refine Go.castI (w := (2 : Int32)) (by decide) ?_
  refine Go.callP C (y := yN1) (a := pA0) (as := [(.int (2 : Int32))]) (rest := [(.ref pA1)]) (wd hw 84 rfl) (wd hw 85 rfl) (sel_priv (y := yN1) (wd hw 17 rfl) (wd hw 85 rfl) (wd hw 86 rfl) (by decide)) (wd hw 86 rfl) (wd hw 87 rfl) (wd hw 18 rfl) (fun _ r => r.exa 0 rfl) (m_slot l Z a0 hw _ pA0 pA1 rA0 3 0 2 2 kA0 kA1 kA2 kA3 kA4 kA5 (by decide) (by decide)) rfl d7_11 (q := 14) rfl (by decide) rfl (na := 1) (by decide +kernel) rfl (by decide) (W := 1) rfl (by decide) (by decide) (by decide) (k' := 0) (n' := 0) rfl rfl ?_
  rintro _ _ ⟨rfl, rfl⟩
  show Go _ _ _ _ _ _ _ _ _ _ [(.int (2 : Int32)), (.ref pA1)]
  refine Go.laload C (fun _ r => r.arr 1 rfl) (by decide) (v := (.long kA2)) rfl d7_14 (q := 15) rfl ?_
  refine Go.retL C rfl d7_15 (by decide) (by decide) ?_
  exact ⟨rfl, rfl⟩
theorem u_SequenceQueue_Run_add_46 (l : Launch) (Z : State) (a0 : Array Value) (hw : HW Z a0) (F : List Ent) (pA0 pA1 pA2 eA0 eA1 eA2 eA3 : Addr) (kA0 kA1 kA2 kA3 kA4 kA5 kA6 : Int64) (hE_eA0 : XI Z eA0) (hE_eA1 : XI Z eA1) (hE_eA2 : XI Z eA2) (hE_eA3 : XI Z eA3) :
    Met l Z yN5 prog_23_method_3_code 5 none { frames := 1, cells := 0, slots := 0, locals := 14 } #[(.ref pA0), (.long kA0), (.ref eA0)] (nR pA0 pA1 pA2 3 0 :: nK pA1 kA1 kA2 kA3 kA4 kA5 kA6 :: nE pA2 (.ref eA1) (.ref eA2) (.ref eA3) .null .null .null :: F) (fun r M' => (r = none ∧ M' = (nR pA0 pA1 pA2 4 0 :: nK pA1 kA1 kA2 kA3 kA0 kA5 kA6 :: nE pA2 (.ref eA1) (.ref eA2) (.ref eA3) (.ref eA0) .null .null :: F))) := by
  refine Met.of_go pn_4 (Ls := #[.val (.ref pA0), .val (.long kA0), .second, .val (.ref eA0), .unset]) (fun m => rfl) ?_
  intro E C
  refine Go.aloadN C d6_0 rfl rfl rfl ?_
  refine Go.callU C (y := yN4) (z := yN2) (owner := "com/example/ordered_dispatch/ordereddispatch/SequenceQueue$Part") (a := pA0) (as := []) (rest := []) (wd hw 76 rfl) (wd hw 77 rfl) (wd hw 78 rfl) (wd hw 80 rfl) (wd hw 79 rfl) (wd hw 81 rfl) (wd hw 25 rfl) (fun _ r => r.exa 0 rfl) (m_makeRoomR l Z a0 hw _ pA0 pA1 pA2 3 0 kA1 kA2 kA3 kA4 kA5 kA6 (by decide)) rfl d6_1 (q := 4) rfl (by decide) rfl (na := 0) (by decide +kernel) rfl (by decide) (W := 0) rfl (by decide) (by decide) (by decide) (k' := 0) (n' := 0) rfl rfl ?_
  rintro _ _ ⟨rfl, rfl⟩
  show Go _ _ _ _ _ _ _ _ _ _ []
  refine Go.aloadN C d6_4 rfl rfl rfl ?_
  refine Go.aloadN C d6_5 rfl rfl rfl ?_
  refine Go.gv C (wd hw 83 rfl) (wd hw 70 rfl) 0 2 rfl rfl d6_6 rfl ?_
  refine Go.callP C (y := yN1) (a := pA0) (as := [(.int (3 : Int32))]) (rest := []) (wd hw 84 rfl) (wd hw 85 rfl) (sel_priv (y := yN1) (wd hw 17 rfl) (wd hw 85 rfl) (wd hw 86 rfl) (by decide)) (wd hw 86 rfl) (wd hw 87 rfl) (wd hw 18 rfl) (fun _ r => r.exa 0 rfl) (m_slot l Z a0 hw _ pA0 pA1 pA2 3 0 3 3 kA1 kA2 kA3 kA4 kA5 kA6 (by decide) (by decide)) rfl d6_9 (q := 12) rfl (by decide) rfl (na := 1) (by decide +kernel) rfl (by decide) (W := 0) rfl (by decide) (by decide) (by decide) (k' := 0) (n' := 0) rfl rfl ?_
  rintro _ _ ⟨rfl, rfl⟩
  show Go _ _ _ _ _ _ _ _ _ _ [(.int (3 : Int32))]
  refine Go.istore C d6_12 rfl (Ls' := #[.val (.ref pA0), .val (.long kA0), .second, .val (.ref eA0), .val (.int (3 : Int32))]) rfl ?_
  refine Go.aloadN C d6_14 rfl rfl rfl ?_
  refine Go.gv C (wd hw 90 rfl) (wd hw 91 rfl) 0 0 rfl rfl d6_15 rfl ?_
  refine Go.iload C d6_18 rfl rfl ?_
  refine Go.lloadN C d6_20 rfl rfl ?_
  refine Go.lastore C (i := 1) rfl (by decide) (show (3 : Int32).toNatClampNeg < 64 from by decide) (w' := (.long kA0)) rfl d6_21 (q := 22) rfl (M' := (nR pA0 pA1 pA2 3 0 :: nK pA1 kA1 kA2 kA3 kA0 kA5 kA6 :: nE pA2 (.ref eA1) (.ref eA2) (.ref eA3) .null .null .null :: F)) rfl ?_
  refine Go.aloadN C d6_22 rfl rfl rfl ?_
  refine Go.gv C (wd hw 92 rfl) (wd hw 93 rfl) 0 1 rfl rfl d6_23 rfl ?_
  refine Go.iload C d6_26 rfl rfl ?_
  refine Go.aloadN C d6_28 rfl rfl rfl ?_
  refine Go.aastore C (i := 2) rfl (by decide) (show (3 : Int32).toNatClampNeg < 64 from by decide) (fun _ r => Or.inr ⟨_, rfl, Ins.of_exa ((hE_eA0).ext r.1) (wd hw 94 rfl)⟩) d6_29 (q := 30) rfl (M' := (nR pA0 pA1 pA2 3 0 :: nK pA1 kA1 kA2 kA3 kA0 kA5 kA6 :: nE pA2 (.ref eA1) (.ref eA2) (.ref eA3) (.ref eA0) .null .null :: F)) rfl ?_
  refine Go.aloadN C d6_30 rfl rfl rfl ?_
  refine Go.dup C d6_31 rfl rfl ?_
  refine Go.gv C (wd hw 83 rfl) (wd hw 70 rfl) 0 2 rfl rfl d6_32 rfl ?_
  refine Go.iconst C d6_35 rfl (v := (1 : Int32)) rfl ?_
  refine Go.iadd C d6_36 rfl ?_
  refine Go.castI (w := (4 : Int32)) (by decide) ?_
  refine Go.pf C (wd hw 83 rfl) (Via.of (wd hw 70 rfl)) 0 2 rfl rfl (wd hw 71 rfl) (wd hw 17 rfl) (ty := .int) (by decide) rfl rfl d6_37 rfl (M' := (nR pA0 pA1 pA2 4 0 :: nK pA1 kA1 kA2 kA3 kA0 kA5 kA6 :: nE pA2 (.ref eA1) (.ref eA2) (.ref eA3) (.ref eA0) .null .null :: F)) rfl ?_
  refine Go.ret0 C rfl d6_40 (by decide) (by decide) ?_
  exact ⟨rfl, rfl⟩
theorem u_SequenceQueue_place_49 (l : Launch) (Z : State) (a0 : Array Value) (hw : HW Z a0) (F : List Ent) (pA0 pA1 pA2 pA3 pA4 pA5 pA6 eA0 eA1 eA2 eA3 eA4 : Addr) (kA0 kA1 kA2 kA3 kA4 kA5 kA6 kA7 kA8 kA9 kA10 kA11 kA12 kA13 : Int64) (hE_eA0 : XI Z eA0) (hE_eA1 : XI Z eA1) (hE_eA2 : XI Z eA2) (hE_eA3 : XI Z eA3) (hE_eA4 : XI Z eA4) :
    Met l Z yN6 prog_20_method_9_code 4 none { frames := 2, cells := 0, slots := 0, locals := 30 } #[(.ref pA0), (.long kA0), (.ref eA0)] (nQ pA0 pA1 pA4 1 kA1 (.ref eA1) :: nR pA1 pA2 pA3 3 0 :: nK pA2 kA2 kA3 kA4 kA5 kA6 kA7 :: nE pA3 (.ref eA2) (.ref eA3) (.ref eA4) .null .null .null :: nH pA4 pA5 pA6 0 :: nK pA5 kA8 kA9 kA10 kA11 kA12 kA13 :: nE pA6 .null .null .null .null .null .null :: F) (fun r M' => ((kA0 < kA4) ∧ r = none ∧ M' = (nH pA4 pA5 pA6 1 :: nK pA5 kA0 kA9 kA10 kA11 kA12 kA13 :: nE pA6 (.ref eA0) .null .null .null .null .null :: nR pA1 pA2 pA3 3 0 :: nK pA2 kA2 kA3 kA4 kA5 kA6 kA7 :: nQ pA0 pA1 pA4 1 kA1 (.ref eA1) :: nE pA3 (.ref eA2) (.ref eA3) (.ref eA4) .null .null .null :: F)) ∨ ((¬ kA0 < kA4) ∧ r = none ∧ M' = (nR pA1 pA2 pA3 4 0 :: nK pA2 kA2 kA3 kA4 kA0 kA6 kA7 :: nE pA3 (.ref eA2) (.ref eA3) (.ref eA4) (.ref eA0) .null .null :: nQ pA0 pA1 pA4 1 kA1 (.ref eA1) :: nH pA4 pA5 pA6 0 :: nK pA5 kA8 kA9 kA10 kA11 kA12 kA13 :: nE pA6 .null .null .null .null .null .null :: F))) := by
  refine Met.of_go pn_5 (Ls := #[.val (.ref pA0), .val (.long kA0), .second, .val (.ref eA0)]) (fun m => rfl) ?_
  intro E C
  refine Go.aloadN C d5_0 rfl rfl rfl ?_
  refine Go.gf C (wd hw 34 rfl) 0 0 rfl rfl d5_1 rfl ?_
  refine Go.gv C (wd hw 69 rfl) (wd hw 70 rfl) 1 2 rfl rfl d5_4 rfl ?_
  refine Go.ifNo C d5_7 (q := 10) rfl (XT.i0_eq_f (by decide)) ?_
  refine Go.lloadN C d5_10 rfl rfl ?_
  refine Go.aloadN C d5_11 rfl rfl rfl ?_
  refine Go.gf C (wd hw 34 rfl) 0 0 rfl rfl d5_12 rfl ?_
  refine Go.pick (M' := (nR pA1 pA2 pA3 3 0 :: nK pA2 kA2 kA3 kA4 kA5 kA6 kA7 :: nQ pA0 pA1 pA4 1 kA1 (.ref eA1) :: nE pA3 (.ref eA2) (.ref eA3) (.ref eA4) .null .null .null :: nH pA4 pA5 pA6 0 :: nK pA5 kA8 kA9 kA10 kA11 kA12 kA13 :: nE pA6 .null .null .null .null .null .null :: F)) 7 [1, 2, 0, 3, 4, 5, 6] (by decide) (by decide) rfl ?_
  refine Go.callPR C (y := yN7) (a := pA1) (as := []) (rest := [(.long kA0)]) (wd hw 115 rfl) (wd hw 116 rfl) (sel_priv (y := yN7) (wd hw 17 rfl) (wd hw 116 rfl) (wd hw 117 rfl) (by decide)) (wd hw 117 rfl) (wd hw 118 rfl) (wd hw 18 rfl) (fun _ r => r.exa 0 rfl) (u_SequenceQueue_Run_lastKey_43 l Z a0 hw _ pA1 pA2 pA3 kA2 kA3 kA4 kA5 kA6 kA7) rfl d5_15 (q := 18) rfl (by decide) rfl (na := 0) (by decide +kernel) rfl (by decide) (W := 2) rfl (by decide) (by decide) (by decide) (k' := 0) (n' := 0) rfl rfl ?_
  rintro _ _ ⟨rfl, rfl⟩
  show Go _ _ _ _ _ _ _ _ _ _ [(.long kA4), (.long kA0)]
  refine Go.lcmpif C d5_18 rfl d5_19 (by decide) (q := 34) rfl (q' := 22) rfl (fun (h18_1 : kA0 < kA4) => ?_) (fun (h18_1 : ¬ kA0 < kA4) => ?_)
  · refine Go.aloadN C d5_34 rfl rfl rfl ?_
    refine Go.gf C (wd hw 45 rfl) 2 1 rfl rfl d5_35 rfl ?_
    refine Go.lloadN C d5_38 rfl rfl ?_
    refine Go.aloadN C d5_39 rfl rfl rfl ?_
    refine Go.pick (M' := (nH pA4 pA5 pA6 0 :: nK pA5 kA8 kA9 kA10 kA11 kA12 kA13 :: nE pA6 .null .null .null .null .null .null :: nR pA1 pA2 pA3 3 0 :: nK pA2 kA2 kA3 kA4 kA5 kA6 kA7 :: nQ pA0 pA1 pA4 1 kA1 (.ref eA1) :: nE pA3 (.ref eA2) (.ref eA3) (.ref eA4) .null .null .null :: F)) 7 [4, 5, 6, 0, 1, 2, 3] (by decide) (by decide) rfl ?_
    refine Go.callPR C (y := yN9) (a := pA4) (as := [(.long kA0), (.ref eA0)]) (rest := []) (wd hw 119 rfl) (wd hw 120 rfl) (sel_priv (y := yN9) (wd hw 37 rfl) (wd hw 120 rfl) (wd hw 121 rfl) (by decide)) (wd hw 121 rfl) (wd hw 122 rfl) (wd hw 38 rfl) (fun _ r => r.exa 0 rfl) (u_SequenceQueue_Heap_add_10 l Z a0 hw _ pA4 pA5 pA6 eA0 kA0 kA8 kA9 kA10 kA11 kA12 kA13 hE_eA0) rfl d5_40 (q := 43) rfl (by decide) rfl (na := 2) (by decide +kernel) rfl (by decide) (W := 0) rfl (by decide) (by decide) (by decide) (k' := 0) (n' := 0) rfl rfl ?_
    rintro _ _ ⟨rfl, rfl⟩
    show Go _ _ _ _ _ _ _ _ _ _ []
    refine Go.ret0 C rfl d5_43 (by decide) (by decide) ?_
    exact Or.inl ⟨h18_1, rfl, rfl⟩
  · refine Go.aloadN C d5_22 rfl rfl rfl ?_
    refine Go.gf C (wd hw 34 rfl) 2 0 rfl rfl d5_23 rfl ?_
    refine Go.lloadN C d5_26 rfl rfl ?_
    refine Go.aloadN C d5_27 rfl rfl rfl ?_
    refine Go.pick (M' := (nR pA1 pA2 pA3 3 0 :: nK pA2 kA2 kA3 kA4 kA5 kA6 kA7 :: nE pA3 (.ref eA2) (.ref eA3) (.ref eA4) .null .null .null :: nQ pA0 pA1 pA4 1 kA1 (.ref eA1) :: nH pA4 pA5 pA6 0 :: nK pA5 kA8 kA9 kA10 kA11 kA12 kA13 :: nE pA6 .null .null .null .null .null .null :: F)) 7 [0, 1, 3, 2, 4, 5, 6] (by decide) (by decide) rfl ?_
    refine Go.callPR C (y := yN5) (a := pA1) (as := [(.long kA0), (.ref eA0)]) (rest := []) (wd hw 72 rfl) (wd hw 73 rfl) (sel_priv (y := yN5) (wd hw 17 rfl) (wd hw 73 rfl) (wd hw 74 rfl) (by decide)) (wd hw 74 rfl) (wd hw 75 rfl) (wd hw 18 rfl) (fun _ r => r.exa 0 rfl) (u_SequenceQueue_Run_add_46 l Z a0 hw _ pA1 pA2 pA3 eA0 eA2 eA3 eA4 kA0 kA2 kA3 kA4 kA5 kA6 kA7 hE_eA0 hE_eA2 hE_eA3 hE_eA4) rfl d5_28 (q := 31) rfl (by decide) rfl (na := 2) (by decide +kernel) rfl (by decide) (W := 0) rfl (by decide) (by decide) (by decide) (k' := 0) (n' := 0) rfl rfl ?_
    rintro _ _ ⟨rfl, rfl⟩
    show Go _ _ _ _ _ _ _ _ _ _ []
    refine Go.goto C d5_31 (by decide) (q := 43) rfl ?_
    refine Go.ret0 C rfl d5_43 (by decide) (by decide) ?_
    exact Or.inr (⟨h18_1, rfl, rfl⟩)
theorem d9_0 : decode prog_20_method_3_code 0 = .ok (.aload_n 0, 1) := by decide +kernel
theorem d9_1 : decode prog_20_method_3_code 1 = .ok (.getfield 25, 3) := by decide +kernel
theorem d9_4 : decode prog_20_method_3_code 4 = .ok (.ifCond .eq 71, 3) := by decide +kernel
theorem d9_75 : decode prog_20_method_3_code 75 = .ok (.aload_n 0, 1) := by decide +kernel
theorem d9_76 : decode prog_20_method_3_code 76 = .ok (.getfield 25, 3) := by decide +kernel
theorem d9_79 : decode prog_20_method_3_code 79 = .ok (.ifCond .eq 15, 3) := by decide +kernel
theorem d9_94 : decode prog_20_method_3_code 94 = .ok (.aload_n 0, 1) := by decide +kernel
theorem d9_95 : decode prog_20_method_3_code 95 = .ok (.getfield 21, 3) := by decide +kernel
theorem d9_98 : decode prog_20_method_3_code 98 = .ok (.getfield 52, 3) := by decide +kernel
theorem d9_101 : decode prog_20_method_3_code 101 = .ok (.ifCond .eq 41, 3) := by decide +kernel
theorem d9_104 : decode prog_20_method_3_code 104 = .ok (.aload_n 0, 1) := by decide +kernel
theorem d9_105 : decode prog_20_method_3_code 105 = .ok (.getfield 12, 3) := by decide +kernel
theorem d9_108 : decode prog_20_method_3_code 108 = .ok (.getfield 41, 3) := by decide +kernel
theorem d9_111 : decode prog_20_method_3_code 111 = .ok (.ifCond .le 42, 3) := by decide +kernel
theorem d9_153 : decode prog_20_method_3_code 153 = .ok (.aload_n 0, 1) := by decide +kernel
theorem d9_154 : decode prog_20_method_3_code 154 = .ok (.getfield 21, 3) := by decide +kernel
theorem d9_157 : decode prog_20_method_3_code 157 = .ok (.invokevirtual 58, 3) := by decide +kernel
theorem d10_0 : decode prog_21_method_3_code 0 = .ok (.aload_n 0, 1) := by decide +kernel
theorem d10_1 : decode prog_21_method_3_code 1 = .ok (.getfield 20, 3) := by decide +kernel
theorem d10_4 : decode prog_21_method_3_code 4 = .ok (.iconst 0, 1) := by decide +kernel
theorem d10_5 : decode prog_21_method_3_code 5 = .ok (.aaload, 1) := by decide +kernel
theorem d10_6 : decode prog_21_method_3_code 6 = .ok (.astore_n 1, 1) := by decide +kernel
theorem d10_7 : decode prog_21_method_3_code 7 = .ok (.aload_n 0, 1) := by decide +kernel
theorem d10_8 : decode prog_21_method_3_code 8 = .ok (.dup, 1) := by decide +kernel
theorem d10_9 : decode prog_21_method_3_code 9 = .ok (.getfield 12, 3) := by decide +kernel
theorem d10_12 : decode prog_21_method_3_code 12 = .ok (.iconst 1, 1) := by decide +kernel
theorem d10_13 : decode prog_21_method_3_code 13 = .ok (.isub, 1) := by decide +kernel
theorem d10_14 : decode prog_21_method_3_code 14 = .ok (.putfield 12, 3) := by decide +kernel
theorem d10_17 : decode prog_21_method_3_code 17 = .ok (.aload_n 0, 1) := by decide +kernel
theorem d10_18 : decode prog_21_method_3_code 18 = .ok (.getfield 16, 3) := by decide +kernel
theorem d10_21 : decode prog_21_method_3_code 21 = .ok (.aload_n 0, 1) := by decide +kernel
theorem d10_22 : decode prog_21_method_3_code 22 = .ok (.getfield 12, 3) := by decide +kernel
theorem d10_25 : decode prog_21_method_3_code 25 = .ok (.laload, 1) := by decide +kernel
theorem d10_26 : decode prog_21_method_3_code 26 = .ok (.lstore_n 2, 1) := by decide +kernel
theorem d10_27 : decode prog_21_method_3_code 27 = .ok (.aload_n 0, 1) := by decide +kernel
theorem d10_28 : decode prog_21_method_3_code 28 = .ok (.getfield 20, 3) := by decide +kernel
theorem d10_31 : decode prog_21_method_3_code 31 = .ok (.aload_n 0, 1) := by decide +kernel
theorem d10_32 : decode prog_21_method_3_code 32 = .ok (.getfield 12, 3) := by decide +kernel
theorem d10_35 : decode prog_21_method_3_code 35 = .ok (.aaload, 1) := by decide +kernel
theorem d10_36 : decode prog_21_method_3_code 36 = .ok (.astore 4, 2) := by decide +kernel
theorem d10_38 : decode prog_21_method_3_code 38 = .ok (.aload_n 0, 1) := by decide +kernel
theorem d10_39 : decode prog_21_method_3_code 39 = .ok (.getfield 20, 3) := by decide +kernel
theorem d10_42 : decode prog_21_method_3_code 42 = .ok (.aload_n 0, 1) := by decide +kernel
theorem d10_43 : decode prog_21_method_3_code 43 = .ok (.getfield 12, 3) := by decide +kernel
theorem d10_46 : decode prog_21_method_3_code 46 = .ok (.aconst_null, 1) := by decide +kernel
theorem d10_47 : decode prog_21_method_3_code 47 = .ok (.aastore, 1) := by decide +kernel
theorem d10_48 : decode prog_21_method_3_code 48 = .ok (.aload_n 0, 1) := by decide +kernel
theorem d10_49 : decode prog_21_method_3_code 49 = .ok (.getfield 12, 3) := by decide +kernel
theorem d10_52 : decode prog_21_method_3_code 52 = .ok (.ifCond .le 130, 3) := by decide +kernel
theorem d10_182 : decode prog_21_method_3_code 182 = .ok (.aload_n 0, 1) := by decide +kernel
theorem d10_183 : decode prog_21_method_3_code 183 = .ok (.invokevirtual 24, 3) := by decide +kernel
theorem d10_186 : decode prog_21_method_3_code 186 = .ok (.aload_n 1, 1) := by decide +kernel
theorem d10_187 : decode prog_21_method_3_code 187 = .ok (.areturn, 1) := by decide +kernel
theorem pn_8 : plainFor yN11 = true := by first | (apply plainFor_of_name; simp [plainName, overriddenIn]; done) | decide +kernel
theorem u_SequenceQueue_Heap_poll_52 (l : Launch) (Z : State) (a0 : Array Value) (hw : HW Z a0) (F : List Ent) (pA0 pA1 pA2 eA0 : Addr) (kA0 kA1 kA2 kA3 kA4 kA5 : Int64) (hE_eA0 : XI Z eA0) :
    Met l Z yN11 prog_21_method_3_code 8 (some (.object "java/lang/Object")) { frames := 1, cells := 0, slots := 0, locals := 12 } #[(.ref pA0)] (nH pA0 pA1 pA2 1 :: nK pA1 kA0 kA1 kA2 kA3 kA4 kA5 :: nE pA2 (.ref eA0) .null .null .null .null .null :: F) (fun r M' => (r = (some (.ref eA0)) ∧ M' = (nH pA0 pA1 pA2 0 :: nK pA1 kA0 kA1 kA2 kA3 kA4 kA5 :: nE pA2 .null .null .null .null .null .null :: F))) := by
  refine Met.of_go pn_8 (Ls := #[.val (.ref pA0), .unset, .unset, .unset, .unset, .unset, .unset, .unset]) (fun m => rfl) ?_
  intro E C
  refine Go.aloadN C d10_0 rfl rfl rfl ?_
  refine Go.gv C (wd hw 129 rfl) (wd hw 130 rfl) 0 1 rfl rfl d10_1 rfl ?_
  refine Go.iconst C d10_4 rfl (v := (0 : Int32)) rfl ?_
  refine Go.aaload C (fun _ r => r.arr 2 rfl) rfl (by decide) (v := (.ref eA0)) rfl d10_5 (q := 6) rfl ?_
  refine Go.astoreN C d10_6 rfl rfl (Ls' := #[.val (.ref pA0), .val (.ref eA0), .unset, .unset, .unset, .unset, .unset, .unset]) rfl ?_
  refine Go.aloadN C d10_7 rfl rfl rfl ?_
  refine Go.dup C d10_8 rfl rfl ?_
  refine Go.gv C (wd hw 126 rfl) (wd hw 107 rfl) 0 2 rfl rfl d10_9 rfl ?_
  refine Go.iconst C d10_12 rfl (v := (1 : Int32)) rfl ?_
  refine Go.isub C d10_13 rfl ?_
  refine Go.castI (w := (0 : Int32)) (by decide) ?_
  refine Go.pf C (wd hw 126 rfl) (Via.of (wd hw 107 rfl)) 0 2 rfl rfl (wd hw 108 rfl) (wd hw 37 rfl) (ty := .int) (by decide) rfl rfl d10_14 rfl (M' := (nH pA0 pA1 pA2 0 :: nK pA1 kA0 kA1 kA2 kA3 kA4 kA5 :: nE pA2 (.ref eA0) .null .null .null .null .null :: F)) rfl ?_
  refine Go.aloadN C d10_17 rfl rfl rfl ?_
  refine Go.gv C (wd hw 127 rfl) (wd hw 128 rfl) 0 0 rfl rfl d10_18 rfl ?_
  refine Go.aloadN C d10_21 rfl rfl rfl ?_
  refine Go.gv C (wd hw 126 rfl) (wd hw 107 rfl) 0 2 rfl rfl d10_22 rfl ?_
  refine Go.laload C (fun _ r => r.arr 1 rfl) (by decide) (v := (.long kA0)) rfl d10_25 (q := 26) rfl ?_
  refine Go.lstoreN C d10_26 rfl (Ls' := #[.val (.ref pA0), .val (.ref eA0), .val (.long kA0), .second, .unset, .unset, .unset, .unset]) rfl ?_
  refine Go.aloadN C d10_27 rfl rfl rfl ?_
  refine Go.gv C (wd hw 129 rfl) (wd hw 130 rfl) 0 1 rfl rfl d10_28 rfl ?_
  refine Go.aloadN C d10_31 rfl rfl rfl ?_
  refine Go.gv C (wd hw 126 rfl) (wd hw 107 rfl) 0 2 rfl rfl d10_32 rfl ?_
  refine Go.aaload C (fun _ r => r.arr 2 rfl) rfl (by decide) (v := (.ref eA0)) rfl d10_35 (q := 36) rfl ?_
  refine Go.astore C d10_36 rfl rfl (Ls' := #[.val (.ref pA0), .val (.ref eA0), .val (.long kA0), .second, .val (.ref eA0), .unset, .unset, .unset]) rfl ?_
  refine Go.aloadN C d10_38 rfl rfl rfl ?_
  refine Go.gv C (wd hw 129 rfl) (wd hw 130 rfl) 0 1 rfl rfl d10_39 rfl ?_
  refine Go.aloadN C d10_42 rfl rfl rfl ?_
  refine Go.gv C (wd hw 126 rfl) (wd hw 107 rfl) 0 2 rfl rfl d10_43 rfl ?_
  refine Go.aconstNull C d10_46 rfl ?_
  refine Go.aastore C (i := 2) rfl (by decide) (show (0 : Int32).toNatClampNeg < 64 from by decide) (fun _ _ => Or.inl rfl) d10_47 (q := 48) rfl (M' := (nH pA0 pA1 pA2 0 :: nK pA1 kA0 kA1 kA2 kA3 kA4 kA5 :: nE pA2 .null .null .null .null .null .null :: F)) rfl ?_
  refine Go.aloadN C d10_48 rfl rfl rfl ?_
  refine Go.gv C (wd hw 126 rfl) (wd hw 107 rfl) 0 2 rfl rfl d10_49 rfl ?_
  refine Go.ifYes C d10_52 (by decide) (q := 182) rfl (XT.i0_le_t (by decide)) ?_
  refine Go.aloadN C d10_182 rfl rfl rfl ?_
  refine Go.callU C (y := yN10) (z := yN3) (owner := "com/example/ordered_dispatch/ordereddispatch/SequenceQueue$Part") (a := pA0) (as := []) (rest := []) (wd hw 144 rfl) (wd hw 145 rfl) (wd hw 146 rfl) (wd hw 148 rfl) (wd hw 147 rfl) (wd hw 149 rfl) (wd hw 25 rfl) (fun _ r => r.exa 0 rfl) (m_giveBackH l Z a0 hw _ pA0 pA1 pA2 0 0 kA0 kA1 kA2 kA3 kA4 kA5 (by decide)) rfl d10_183 (q := 186) rfl (by decide) rfl (na := 0) (by decide +kernel) rfl (by decide) (W := 0) rfl (by decide) (by decide) (by decide) (k' := 0) (n' := 0) rfl rfl ?_
  rintro _ _ ⟨rfl, rfl⟩
  show Go _ _ _ _ _ _ _ _ _ _ []
  refine Go.aloadN C d10_186 rfl rfl rfl ?_
  refine Go.retA C rfl rfl rfl d10_187 (by decide) (by decide) ?_
  exact ⟨rfl, rfl⟩
theorem d9_160 : decode prog_20_method_3_code 160 = .ok (.astore_n 1, 1) := by decide +kernel
theorem d9_161 : decode prog_20_method_3_code 161 = .ok (.aload_n 0, 1) := by decide +kernel
theorem d9_162 : decode prog_20_method_3_code 162 = .ok (.iconst 0, 1) := by decide +kernel
theorem d9_163 : decode prog_20_method_3_code 163 = .ok (.putfield 25, 3) := by decide +kernel
theorem d9_166 : decode prog_20_method_3_code 166 = .ok (.aload_n 0, 1) := by decide +kernel
theorem d9_167 : decode prog_20_method_3_code 167 = .ok (.aconst_null, 1) := by decide +kernel
theorem d9_168 : decode prog_20_method_3_code 168 = .ok (.putfield 33, 3) := by decide +kernel
theorem d9_171 : decode prog_20_method_3_code 171 = .ok (.aload_n 1, 1) := by decide +kernel
theorem d9_172 : decode prog_20_method_3_code 172 = .ok (.astore_n 2, 1) := by decide +kernel
theorem d9_173 : decode prog_20_method_3_code 173 = .ok (.aload_n 2, 1) := by decide +kernel
theorem d9_174 : decode prog_20_method_3_code 174 = .ok (.areturn, 1) := by decide +kernel
theorem d10_55 : decode prog_21_method_3_code 55 = .ok (.iconst 0, 1) := by decide +kernel
theorem d10_56 : decode prog_21_method_3_code 56 = .ok (.istore 5, 2) := by decide +kernel
theorem d10_58 : decode prog_21_method_3_code 58 = .ok (.aload_n 0, 1) := by decide +kernel
theorem d10_59 : decode prog_21_method_3_code 59 = .ok (.getfield 12, 3) := by decide +kernel
theorem d10_62 : decode prog_21_method_3_code 62 = .ok (.iconst 1, 1) := by decide +kernel
theorem d10_63 : decode prog_21_method_3_code 63 = .ok (.iushr, 1) := by decide +kernel
theorem d10_64 : decode prog_21_method_3_code 64 = .ok (.istore 6, 2) := by decide +kernel
theorem d10_66 : decode prog_21_method_3_code 66 = .ok (.iload 5, 2) := by decide +kernel
theorem d10_68 : decode prog_21_method_3_code 68 = .ok (.iload 6, 2) := by decide +kernel
theorem d10_70 : decode prog_21_method_3_code 70 = .ok (.if_icmp .ge 95, 3) := by decide +kernel
theorem d10_165 : decode prog_21_method_3_code 165 = .ok (.aload_n 0, 1) := by decide +kernel
theorem d10_166 : decode prog_21_method_3_code 166 = .ok (.getfield 16, 3) := by decide +kernel
theorem d10_169 : decode prog_21_method_3_code 169 = .ok (.iload 5, 2) := by decide +kernel
theorem d10_171 : decode prog_21_method_3_code 171 = .ok (.lload_n 2, 1) := by decide +kernel
theorem d10_172 : decode prog_21_method_3_code 172 = .ok (.lastore, 1) := by decide +kernel
theorem d10_173 : decode prog_21_method_3_code 173 = .ok (.aload_n 0, 1) := by decide +kernel
theorem d10_174 : decode prog_21_method_3_code 174 = .ok (.getfield 20, 3) := by decide +kernel
theorem d10_177 : decode prog_21_method_3_code 177 = .ok (.iload 5, 2) := by decide +kernel
theorem d10_179 : decode prog_21_method_3_code 179 = .ok (.aload 4, 2) := by decide +kernel
theorem d10_181 : decode prog_21_method_3_code 181 = .ok (.aastore, 1) := by decide +kernel
theorem u_SequenceQueue_Heap_poll_55 (l : Launch) (Z : State) (a0 : Array Value) (hw : HW Z a0) (F : List Ent) (pA0 pA1 pA2 eA0 eA1 : Addr) (kA0 kA1 kA2 kA3 kA4 kA5 : Int64) (hE_eA0 : XI Z eA0) (hE_eA1 : XI Z eA1) :
    Met l Z yN11 prog_21_method_3_code 8 (some (.object "java/lang/Object")) { frames := 1, cells := 0, slots := 0, locals := 12 } #[(.ref pA0)] (nH pA0 pA1 pA2 2 :: nK pA1 kA0 kA1 kA2 kA3 kA4 kA5 :: nE pA2 (.ref eA0) (.ref eA1) .null .null .null .null :: F) (fun r M' => (r = (some (.ref eA0)) ∧ M' = (nH pA0 pA1 pA2 1 :: nK pA1 kA1 kA1 kA2 kA3 kA4 kA5 :: nE pA2 (.ref eA1) .null .null .null .null .null :: F))) := by
  refine Met.of_go pn_8 (Ls := #[.val (.ref pA0), .unset, .unset, .unset, .unset, .unset, .unset, .unset]) (fun m => rfl) ?_
  intro E C
  refine Go.aloadN C d10_0 rfl rfl rfl ?_
  refine Go.gv C (wd hw 129 rfl) (wd hw 130 rfl) 0 1 rfl rfl d10_1 rfl ?_
  refine Go.iconst C d10_4 rfl (v := (0 : Int32)) rfl ?_
  refine Go.aaload C (fun _ r => r.arr 2 rfl) rfl (by decide) (v := (.ref eA0)) rfl d10_5 (q := 6) rfl ?_
  refine Go.astoreN C d10_6 rfl rfl (Ls' := #[.val (.ref pA0), .val (.ref eA0), .unset, .unset, .unset, .unset, .unset, .unset]) rfl ?_
  refine Go.aloadN C d10_7 rfl rfl rfl ?_
  refine Go.dup C d10_8 rfl rfl ?_
  refine Go.gv C (wd hw 126 rfl) (wd hw 107 rfl) 0 2 rfl rfl d10_9 rfl ?_
  refine Go.iconst C d10_12 rfl (v := (1 : Int32)) rfl ?_
  refine Go.isub C d10_13 rfl ?_
  refine Go.castI (w := (1 : Int32)) (by decide) ?_
  refine Go.pf C (wd hw 126 rfl) (Via.of (wd hw 107 rfl)) 0 2 rfl rfl (wd hw 108 rfl) (wd hw 37 rfl) (ty := .int) (by decide) rfl rfl d10_14 rfl (M' := (nH pA0 pA1 pA2 1 :: nK pA1 kA0 kA1 kA2 kA3 kA4 kA5 :: nE pA2 (.ref eA0) (.ref eA1) .null .null .null .null :: F)) rfl ?_
  refine Go.aloadN C d10_17 rfl rfl rfl ?_
  refine Go.gv C (wd hw 127 rfl) (wd hw 128 rfl) 0 0 rfl rfl d10_18 rfl ?_
  refine Go.aloadN C d10_21 rfl rfl rfl ?_
  refine Go.gv C (wd hw 126 rfl) (wd hw 107 rfl) 0 2 rfl rfl d10_22 rfl ?_
  refine Go.laload C (fun _ r => r.arr 1 rfl) (by decide) (v := (.long kA1)) rfl d10_25 (q := 26) rfl ?_
  refine Go.lstoreN C d10_26 rfl (Ls' := #[.val (.ref pA0), .val (.ref eA0), .val (.long kA1), .second, .unset, .unset, .unset, .unset]) rfl ?_
  refine Go.aloadN C d10_27 rfl rfl rfl ?_
  refine Go.gv C (wd hw 129 rfl) (wd hw 130 rfl) 0 1 rfl rfl d10_28 rfl ?_
  refine Go.aloadN C d10_31 rfl rfl rfl ?_
  refine Go.gv C (wd hw 126 rfl) (wd hw 107 rfl) 0 2 rfl rfl d10_32 rfl ?_
  refine Go.aaload C (fun _ r => r.arr 2 rfl) rfl (by decide) (v := (.ref eA1)) rfl d10_35 (q := 36) rfl ?_
  refine Go.astore C d10_36 rfl rfl (Ls' := #[.val (.ref pA0), .val (.ref eA0), .val (.long kA1), .second, .val (.ref eA1), .unset, .unset, .unset]) rfl ?_
  refine Go.aloadN C d10_38 rfl rfl rfl ?_
  refine Go.gv C (wd hw 129 rfl) (wd hw 130 rfl) 0 1 rfl rfl d10_39 rfl ?_
  refine Go.aloadN C d10_42 rfl rfl rfl ?_
  refine Go.gv C (wd hw 126 rfl) (wd hw 107 rfl) 0 2 rfl rfl d10_43 rfl ?_
  refine Go.aconstNull C d10_46 rfl ?_
  refine Go.aastore C (i := 2) rfl (by decide) (show (1 : Int32).toNatClampNeg < 64 from by decide) (fun _ _ => Or.inl rfl) d10_47 (q := 48) rfl (M' := (nH pA0 pA1 pA2 1 :: nK pA1 kA0 kA1 kA2 kA3 kA4 kA5 :: nE pA2 (.ref eA0) .null .null .null .null .null :: F)) rfl ?_
  refine Go.aloadN C d10_48 rfl rfl rfl ?_
  refine Go.gv C (wd hw 126 rfl) (wd hw 107 rfl) 0 2 rfl rfl d10_49 rfl ?_
  refine Go.ifNo C d10_52 (q := 55) rfl (XT.i0_le_f (by decide)) ?_
  refine Go.iconst C d10_55 rfl (v := (0 : Int32)) rfl ?_
  refine Go.istore C d10_56 rfl (Ls' := #[.val (.ref pA0), .val (.ref eA0), .val (.long kA1), .second, .val (.ref eA1), .val (.int (0 : Int32)), .unset, .unset]) rfl ?_
  refine Go.aloadN C d10_58 rfl rfl rfl ?_
  refine Go.gv C (wd hw 126 rfl) (wd hw 107 rfl) 0 2 rfl rfl d10_59 rfl ?_
  refine Go.iconst C d10_62 rfl (v := (1 : Int32)) rfl ?_
  refine Go.iushr C d10_63 rfl ?_
  refine Go.castI (w := (0 : Int32)) (by decide) ?_
  refine Go.istore C d10_64 rfl (Ls' := #[.val (.ref pA0), .val (.ref eA0), .val (.long kA1), .second, .val (.ref eA1), .val (.int (0 : Int32)), .val (.int (0 : Int32)), .unset]) rfl ?_
  refine Go.iload C d10_66 rfl rfl ?_
  refine Go.iload C d10_68 rfl rfl ?_
  refine Go.icmpYes C d10_70 (by decide) (q := 165) rfl (XT.ii_ge_t (by decide)) ?_
  refine Go.aloadN C d10_165 rfl rfl rfl ?_
  refine Go.gv C (wd hw 127 rfl) (wd hw 128 rfl) 0 0 rfl rfl d10_166 rfl ?_
  refine Go.iload C d10_169 rfl rfl ?_
  refine Go.lloadN C d10_171 rfl rfl ?_
  refine Go.lastore C (i := 1) rfl (by decide) (show (0 : Int32).toNatClampNeg < 64 from by decide) (w' := (.long kA1)) rfl d10_172 (q := 173) rfl (M' := (nH pA0 pA1 pA2 1 :: nK pA1 kA1 kA1 kA2 kA3 kA4 kA5 :: nE pA2 (.ref eA0) .null .null .null .null .null :: F)) rfl ?_
  refine Go.aloadN C d10_173 rfl rfl rfl ?_
  refine Go.gv C (wd hw 129 rfl) (wd hw 130 rfl) 0 1 rfl rfl d10_174 rfl ?_
  refine Go.iload C d10_177 rfl rfl ?_
  refine Go.aload C d10_179 rfl rfl rfl ?_
  refine Go.aastore C (i := 2) rfl (by decide) (show (0 : Int32).toNatClampNeg < 64 from by decide) (fun _ r => Or.inr ⟨_, rfl, Ins.of_exa ((hE_eA1).ext r.1) (wd hw 94 rfl)⟩) d10_181 (q := 182) rfl (M' := (nH pA0 pA1 pA2 1 :: nK pA1 kA1 kA1 kA2 kA3 kA4 kA5 :: nE pA2 (.ref eA1) .null .null .null .null .null :: F)) rfl ?_
  refine Go.aloadN C d10_182 rfl rfl rfl ?_
  refine Go.callU C (y := yN10) (z := yN3) (owner := "com/example/ordered_dispatch/ordereddispatch/SequenceQueue$Part") (a := pA0) (as := []) (rest := []) (wd hw 144 rfl) (wd hw 145 rfl) (wd hw 146 rfl) (wd hw 148 rfl) (wd hw 147 rfl) (wd hw 149 rfl) (wd hw 25 rfl) (fun _ r => r.exa 0 rfl) (m_giveBackH l Z a0 hw _ pA0 pA1 pA2 1 0 kA1 kA1 kA2 kA3 kA4 kA5 (by decide)) rfl d10_183 (q := 186) rfl (by decide) rfl (na := 0) (by decide +kernel) rfl (by decide) (W := 0) rfl (by decide) (by decide) (by decide) (k' := 0) (n' := 0) rfl rfl ?_
  rintro _ _ ⟨rfl, rfl⟩
  show Go _ _ _ _ _ _ _ _ _ _ []
  refine Go.aloadN C d10_186 rfl rfl rfl ?_
  refine Go.retA C rfl rfl rfl d10_187 (by decide) (by decide) ?_
  exact ⟨rfl, rfl⟩
theorem d10_73 : decode prog_21_method_3_code 73 = .ok (.iconst 2, 1) := by decide +kernel
theorem d10_74 : decode prog_21_method_3_code 74 = .ok (.iload 5, 2) := by decide +kernel
theorem d10_76 : decode prog_21_method_3_code 76 = .ok (.imul, 1) := by decide +kernel
theorem d10_77 : decode prog_21_method_3_code 77 = .ok (.iconst 1, 1) := by decide +kernel
theorem d10_78 : decode prog_21_method_3_code 78 = .ok (.iadd, 1) := by decide +kernel
theorem d10_79 : decode prog_21_method_3_code 79 = .ok (.istore 7, 2) := by decide +kernel
theorem d10_81 : decode prog_21_method_3_code 81 = .ok (.iload 7, 2) := by decide +kernel
theorem d10_83 : decode prog_21_method_3_code 83 = .ok (.iconst 1, 1) := by decide +kernel
theorem d10_84 : decode prog_21_method_3_code 84 = .ok (.iadd, 1) := by decide +kernel
theorem d10_85 : decode prog_21_method_3_code 85 = .ok (.aload_n 0, 1) := by decide +kernel
theorem d10_86 : decode prog_21_method_3_code 86 = .ok (.getfield 12, 3) := by decide +kernel
theorem d10_89 : decode prog_21_method_3_code 89 = .ok (.if_icmp .ge 26, 3) := by decide +kernel
theorem d10_115 : decode prog_21_method_3_code 115 = .ok (.lload_n 2, 1) := by decide +kernel
theorem d10_116 : decode prog_21_method_3_code 116 = .ok (.aload_n 0, 1) := by decide +kernel
theorem d10_117 : decode prog_21_method_3_code 117 = .ok (.getfield 16, 3) := by decide +kernel
theorem d10_120 : decode prog_21_method_3_code 120 = .ok (.iload 7, 2) := by decide +kernel
theorem d10_122 : decode prog_21_method_3_code 122 = .ok (.laload, 1) := by decide +kernel
theorem d10_123 : decode prog_21_method_3_code 123 = .ok (.lcmp, 1) := by decide +kernel
theorem d10_124 : decode prog_21_method_3_code 124 = .ok (.ifCond .gt 6, 3) := by decide +kernel
theorem d10_130 : decode prog_21_method_3_code 130 = .ok (.aload_n 0, 1) := by decide +kernel
theorem d10_131 : decode prog_21_method_3_code 131 = .ok (.getfield 16, 3) := by decide +kernel
theorem d10_134 : decode prog_21_method_3_code 134 = .ok (.iload 5, 2) := by decide +kernel
theorem d10_136 : decode prog_21_method_3_code 136 = .ok (.aload_n 0, 1) := by decide +kernel
theorem d10_137 : decode prog_21_method_3_code 137 = .ok (.getfield 16, 3) := by decide +kernel
theorem d10_140 : decode prog_21_method_3_code 140 = .ok (.iload 7, 2) := by decide +kernel
theorem d10_142 : decode prog_21_method_3_code 142 = .ok (.laload, 1) := by decide +kernel
theorem d10_143 : decode prog_21_method_3_code 143 = .ok (.lastore, 1) := by decide +kernel
theorem d10_144 : decode prog_21_method_3_code 144 = .ok (.aload_n 0, 1) := by decide +kernel
theorem d10_145 : decode prog_21_method_3_code 145 = .ok (.getfield 20, 3) := by decide +kernel
theorem d10_148 : decode prog_21_method_3_code 148 = .ok (.iload 5, 2) := by decide +kernel
theorem d10_150 : decode prog_21_method_3_code 150 = .ok (.aload_n 0, 1) := by decide +kernel
theorem d10_151 : decode prog_21_method_3_code 151 = .ok (.getfield 20, 3) := by decide +kernel
theorem d10_154 : decode prog_21_method_3_code 154 = .ok (.iload 7, 2) := by decide +kernel
theorem d10_156 : decode prog_21_method_3_code 156 = .ok (.aaload, 1) := by decide +kernel
theorem d10_157 : decode prog_21_method_3_code 157 = .ok (.aastore, 1) := by decide +kernel
theorem d10_158 : decode prog_21_method_3_code 158 = .ok (.iload 7, 2) := by decide +kernel
theorem d10_160 : decode prog_21_method_3_code 160 = .ok (.istore 5, 2) := by decide +kernel
theorem d10_162 : decode prog_21_method_3_code 162 = .ok (.goto (-96), 3) := by decide +kernel
theorem d10_127 : decode prog_21_method_3_code 127 = .ok (.goto 38, 3) := by decide +kernel
theorem u_SequenceQueue_Heap_poll_58 (l : Launch) (Z : State) (a0 : Array Value) (hw : HW Z a0) (F : List Ent) (pA0 pA1 pA2 eA0 eA1 eA2 : Addr) (kA0 kA1 kA2 kA3 kA4 kA5 : Int64) (hE_eA0 : XI Z eA0) (hE_eA1 : XI Z eA1) (hE_eA2 : XI Z eA2) :
    Met l Z yN11 prog_21_method_3_code 8 (some (.object "java/lang/Object")) { frames := 1, cells := 0, slots := 0, locals := 12 } #[(.ref pA0)] (nH pA0 pA1 pA2 3 :: nK pA1 kA0 kA1 kA2 kA3 kA4 kA5 :: nE pA2 (.ref eA0) (.ref eA1) (.ref eA2) .null .null .null :: F) (fun r M' => ((kA1 < kA2) ∧ r = (some (.ref eA0)) ∧ M' = (nH pA0 pA1 pA2 2 :: nK pA1 kA1 kA2 kA2 kA3 kA4 kA5 :: nE pA2 (.ref eA1) (.ref eA2) .null .null .null .null :: F)) ∨ ((¬ kA1 < kA2) ∧ r = (some (.ref eA0)) ∧ M' = (nH pA0 pA1 pA2 2 :: nK pA1 kA2 kA1 kA2 kA3 kA4 kA5 :: nE pA2 (.ref eA2) (.ref eA1) .null .null .null .null :: F))) := by
  refine Met.of_go pn_8 (Ls := #[.val (.ref pA0), .unset, .unset, .unset, .unset, .unset, .unset, .unset]) (fun m => rfl) ?_
  intro E C
  refine Go.aloadN C d10_0 rfl rfl rfl ?_
  refine Go.gv C (wd hw 129 rfl) (wd hw 130 rfl) 0 1 rfl rfl d10_1 rfl ?_
  refine Go.iconst C d10_4 rfl (v := (0 : Int32)) rfl ?_
  refine Go.aaload C (fun _ r => r.arr 2 rfl) rfl (by decide) (v := (.ref eA0)) rfl d10_5 (q := 6) rfl ?_
  refine Go.astoreN C d10_6 rfl rfl (Ls' := #[.val (.ref pA0), .val (.ref eA0), .unset, .unset, .unset, .unset, .unset, .unset]) rfl ?_
  refine Go.aloadN C d10_7 rfl rfl rfl ?_
  refine Go.dup C d10_8 rfl rfl ?_
  refine Go.gv C (wd hw 126 rfl) (wd hw 107 rfl) 0 2 rfl rfl d10_9 rfl ?_
  refine Go.iconst C d10_12 rfl (v := (1 : Int32)) rfl ?_
  refine Go.isub C d10_13 rfl ?_
  refine Go.castI (w := (2 : Int32)) (by decide) ?_
  refine Go.pf C (wd hw 126 rfl) (Via.of (wd hw 107 rfl)) 0 2 rfl rfl (wd hw 108 rfl) (wd hw 37 rfl) (ty := .int) (by decide) rfl rfl d10_14 rfl (M' := (nH pA0 pA1 pA2 2 :: nK pA1 kA0 kA1 kA2 kA3 kA4 kA5 :: nE pA2 (.ref eA0) (.ref eA1) (.ref eA2) .null .null .null :: F)) rfl ?_
  refine Go.aloadN C d10_17 rfl rfl rfl ?_
  refine Go.gv C (wd hw 127 rfl) (wd hw 128 rfl) 0 0 rfl rfl d10_18 rfl ?_
  refine Go.aloadN C d10_21 rfl rfl rfl ?_
  refine Go.gv C (wd hw 126 rfl) (wd hw 107 rfl) 0 2 rfl rfl d10_22 rfl ?_
  refine Go.laload C (fun _ r => r.arr 1 rfl) (by decide) (v := (.long kA2)) rfl d10_25 (q := 26) rfl ?_
  refine Go.lstoreN C d10_26 rfl (Ls' := #[.val (.ref pA0), .val (.ref eA0), .val (.long kA2), .second, .unset, .unset, .unset, .unset]) rfl ?_
  refine Go.aloadN C d10_27 rfl rfl rfl ?_
  refine Go.gv C (wd hw 129 rfl) (wd hw 130 rfl) 0 1 rfl rfl d10_28 rfl ?_
  refine Go.aloadN C d10_31 rfl rfl rfl ?_
  refine Go.gv C (wd hw 126 rfl) (wd hw 107 rfl) 0 2 rfl rfl d10_32 rfl ?_
  refine Go.aaload C (fun _ r => r.arr 2 rfl) rfl (by decide) (v := (.ref eA2)) rfl d10_35 (q := 36) rfl ?_
  refine Go.astore C d10_36 rfl rfl (Ls' := #[.val (.ref pA0), .val (.ref eA0), .val (.long kA2), .second, .val (.ref eA2), .unset, .unset, .unset]) rfl ?_
  refine Go.aloadN C d10_38 rfl rfl rfl ?_
  refine Go.gv C (wd hw 129 rfl) (wd hw 130 rfl) 0 1 rfl rfl d10_39 rfl ?_
  refine Go.aloadN C d10_42 rfl rfl rfl ?_
  refine Go.gv C (wd hw 126 rfl) (wd hw 107 rfl) 0 2 rfl rfl d10_43 rfl ?_
  refine Go.aconstNull C d10_46 rfl ?_
  refine Go.aastore C (i := 2) rfl (by decide) (show (2 : Int32).toNatClampNeg < 64 from by decide) (fun _ _ => Or.inl rfl) d10_47 (q := 48) rfl (M' := (nH pA0 pA1 pA2 2 :: nK pA1 kA0 kA1 kA2 kA3 kA4 kA5 :: nE pA2 (.ref eA0) (.ref eA1) .null .null .null .null :: F)) rfl ?_
  refine Go.aloadN C d10_48 rfl rfl rfl ?_
  refine Go.gv C (wd hw 126 rfl) (wd hw 107 rfl) 0 2 rfl rfl d10_49 rfl ?_
  refine Go.ifNo C d10_52 (q := 55) rfl (XT.i0_le_f (by decide)) ?_
  refine Go.iconst C d10_55 rfl (v := (0 : Int32)) rfl ?_
  refine Go.istore C d10_56 rfl (Ls' := #[.val (.ref pA0), .val (.ref eA0), .val (.long kA2), .second, .val (.ref eA2), .val (.int (0 : Int32)), .unset, .unset]) rfl ?_
  refine Go.aloadN C d10_58 rfl rfl rfl ?_
  refine Go.gv C (wd hw 126 rfl) (wd hw 107 rfl) 0 2 rfl rfl d10_59 rfl ?_
  refine Go.iconst C d10_62 rfl (v := (1 : Int32)) rfl ?_
  refine Go.iushr C d10_63 rfl ?_
  refine Go.castI (w := (1 : Int32)) (by decide) ?_
  refine Go.istore C d10_64 rfl (Ls' := #[.val (.ref pA0), .val (.ref eA0), .val (.long kA2), .second, .val (.ref eA2), .val (.int (0 : Int32)), .val (.int (1 : Int32)), .unset]) rfl ?_
  refine Go.iload C d10_66 rfl rfl ?_
  refine Go.iload C d10_68 rfl rfl ?_
  refine Go.icmpNo C d10_70 (q := 73) rfl (XT.ii_ge_f (by decide)) ?_
  refine Go.iconst C d10_73 rfl (v := (2 : Int32)) rfl ?_
  refine Go.iload C d10_74 rfl rfl ?_
  refine Go.imul C d10_76 rfl ?_
  refine Go.castI (w := (0 : Int32)) (by decide) ?_
  refine Go.iconst C d10_77 rfl (v := (1 : Int32)) rfl ?_
  refine Go.iadd C d10_78 rfl ?_
  refine Go.castI (w := (1 : Int32)) (by decide) ?_
  refine Go.istore C d10_79 rfl (Ls' := #[.val (.ref pA0), .val (.ref eA0), .val (.long kA2), .second, .val (.ref eA2), .val (.int (0 : Int32)), .val (.int (1 : Int32)), .val (.int (1 : Int32))]) rfl ?_
  refine Go.iload C d10_81 rfl rfl ?_
  refine Go.iconst C d10_83 rfl (v := (1 : Int32)) rfl ?_
  refine Go.iadd C d10_84 rfl ?_
  refine Go.castI (w := (2 : Int32)) (by decide) ?_
  refine Go.aloadN C d10_85 rfl rfl rfl ?_
  refine Go.gv C (wd hw 126 rfl) (wd hw 107 rfl) 0 2 rfl rfl d10_86 rfl ?_
  refine Go.icmpYes C d10_89 (by decide) (q := 115) rfl (XT.ii_ge_t (by decide)) ?_
  refine Go.lloadN C d10_115 rfl rfl ?_
  refine Go.aloadN C d10_116 rfl rfl rfl ?_
  refine Go.gv C (wd hw 127 rfl) (wd hw 128 rfl) 0 0 rfl rfl d10_117 rfl ?_
  refine Go.iload C d10_120 rfl rfl ?_
  refine Go.laload C (fun _ r => r.arr 1 rfl) (by decide) (v := (.long kA1)) rfl d10_122 (q := 123) rfl ?_
  refine Go.lcmpif C d10_123 rfl d10_124 (by decide) (q := 130) rfl (q' := 127) rfl (fun (h123_1 : kA1 < kA2) => ?_) (fun (h123_1 : ¬ kA1 < kA2) => ?_)
  · refine Go.aloadN C d10_130 rfl rfl rfl ?_
    refine Go.gv C (wd hw 127 rfl) (wd hw 128 rfl) 0 0 rfl rfl d10_131 rfl ?_
    refine Go.iload C d10_134 rfl rfl ?_
    refine Go.aloadN C d10_136 rfl rfl rfl ?_
    refine Go.gv C (wd hw 127 rfl) (wd hw 128 rfl) 0 0 rfl rfl d10_137 rfl ?_
    refine Go.iload C d10_140 rfl rfl ?_
    refine Go.laload C (fun _ r => r.arr 1 rfl) (by decide) (v := (.long kA1)) rfl d10_142 (q := 143) rfl ?_
    refine Go.lastore C (i := 1) rfl (by decide) (show (0 : Int32).toNatClampNeg < 64 from by decide) (w' := (.long kA1)) rfl d10_143 (q := 144) rfl (M' := (nH pA0 pA1 pA2 2 :: nK pA1 kA1 kA1 kA2 kA3 kA4 kA5 :: nE pA2 (.ref eA0) (.ref eA1) .null .null .null .null :: F)) rfl ?_
    refine Go.aloadN C d10_144 rfl rfl rfl ?_
    refine Go.gv C (wd hw 129 rfl) (wd hw 130 rfl) 0 1 rfl rfl d10_145 rfl ?_
    refine Go.iload C d10_148 rfl rfl ?_
    refine Go.aloadN C d10_150 rfl rfl rfl ?_
    refine Go.gv C (wd hw 129 rfl) (wd hw 130 rfl) 0 1 rfl rfl d10_151 rfl ?_
    refine Go.iload C d10_154 rfl rfl ?_
    refine Go.aaload C (fun _ r => r.arr 2 rfl) rfl (by decide) (v := (.ref eA1)) rfl d10_156 (q := 157) rfl ?_
    refine Go.aastore C (i := 2) rfl (by decide) (show (0 : Int32).toNatClampNeg < 64 from by decide) (fun _ r => Or.inr ⟨_, rfl, Ins.of_exa ((hE_eA1).ext r.1) (wd hw 94 rfl)⟩) d10_157 (q := 158) rfl (M' := (nH pA0 pA1 pA2 2 :: nK pA1 kA1 kA1 kA2 kA3 kA4 kA5 :: nE pA2 (.ref eA1) (.ref eA1) .null .null .null .null :: F)) rfl ?_
    refine Go.iload C d10_158 rfl rfl ?_
    refine Go.istore C d10_160 rfl (Ls' := #[.val (.ref pA0), .val (.ref eA0), .val (.long kA2), .second, .val (.ref eA2), .val (.int (1 : Int32)), .val (.int (1 : Int32)), .val (.int (1 : Int32))]) rfl ?_
    refine Go.goto C d10_162 (by decide) (q := 66) rfl ?_
    refine Go.iload C d10_66 rfl rfl ?_
    refine Go.iload C d10_68 rfl rfl ?_
    refine Go.icmpYes C d10_70 (by decide) (q := 165) rfl (XT.ii_ge_t (by decide)) ?_
    refine Go.aloadN C d10_165 rfl rfl rfl ?_
    refine Go.gv C (wd hw 127 rfl) (wd hw 128 rfl) 0 0 rfl rfl d10_166 rfl ?_
    refine Go.iload C d10_169 rfl rfl ?_
    refine Go.lloadN C d10_171 rfl rfl ?_
    refine Go.lastore C (i := 1) rfl (by decide) (show (1 : Int32).toNatClampNeg < 64 from by decide) (w' := (.long kA2)) rfl d10_172 (q := 173) rfl (M' := (nH pA0 pA1 pA2 2 :: nK pA1 kA1 kA2 kA2 kA3 kA4 kA5 :: nE pA2 (.ref eA1) (.ref eA1) .null .null .null .null :: F)) rfl ?_
    refine Go.aloadN C d10_173 rfl rfl rfl ?_
    refine Go.gv C (wd hw 129 rfl) (wd hw 130 rfl) 0 1 rfl rfl d10_174 rfl ?_
    refine Go.iload C d10_177 rfl rfl ?_
    refine Go.aload C d10_179 rfl rfl rfl ?_
    refine Go.aastore C (i := 2) rfl (by decide) (show (1 : Int32).toNatClampNeg < 64 from by decide) (fun _ r => Or.inr ⟨_, rfl, Ins.of_exa ((hE_eA2).ext r.1) (wd hw 94 rfl)⟩) d10_181 (q := 182) rfl (M' := (nH pA0 pA1 pA2 2 :: nK pA1 kA1 kA2 kA2 kA3 kA4 kA5 :: nE pA2 (.ref eA1) (.ref eA2) .null .null .null .null :: F)) rfl ?_
    refine Go.aloadN C d10_182 rfl rfl rfl ?_
    refine Go.callU C (y := yN10) (z := yN3) (owner := "com/example/ordered_dispatch/ordereddispatch/SequenceQueue$Part") (a := pA0) (as := []) (rest := []) (wd hw 144 rfl) (wd hw 145 rfl) (wd hw 146 rfl) (wd hw 148 rfl) (wd hw 147 rfl) (wd hw 149 rfl) (wd hw 25 rfl) (fun _ r => r.exa 0 rfl) (m_giveBackH l Z a0 hw _ pA0 pA1 pA2 2 0 kA1 kA2 kA2 kA3 kA4 kA5 (by decide)) rfl d10_183 (q := 186) rfl (by decide) rfl (na := 0) (by decide +kernel) rfl (by decide) (W := 0) rfl (by decide) (by decide) (by decide) (k' := 0) (n' := 0) rfl rfl ?_
    rintro _ _ ⟨rfl, rfl⟩
    show Go _ _ _ _ _ _ _ _ _ _ []
    refine Go.aloadN C d10_186 rfl rfl rfl ?_
    refine Go.retA C rfl rfl rfl d10_187 (by decide) (by decide) ?_
    exact Or.inl ⟨h123_1, rfl, rfl⟩
  · refine Go.goto C d10_127 (by decide) (q := 165) rfl ?_
    refine Go.aloadN C d10_165 rfl rfl rfl ?_
    refine Go.gv C (wd hw 127 rfl) (wd hw 128 rfl) 0 0 rfl rfl d10_166 rfl ?_
    refine Go.iload C d10_169 rfl rfl ?_
    refine Go.lloadN C d10_171 rfl rfl ?_
    refine Go.lastore C (i := 1) rfl (by decide) (show (0 : Int32).toNatClampNeg < 64 from by decide) (w' := (.long kA2)) rfl d10_172 (q := 173) rfl (M' := (nH pA0 pA1 pA2 2 :: nK pA1 kA2 kA1 kA2 kA3 kA4 kA5 :: nE pA2 (.ref eA0) (.ref eA1) .null .null .null .null :: F)) rfl ?_
    refine Go.aloadN C d10_173 rfl rfl rfl ?_
    refine Go.gv C (wd hw 129 rfl) (wd hw 130 rfl) 0 1 rfl rfl d10_174 rfl ?_
    refine Go.iload C d10_177 rfl rfl ?_
    refine Go.aload C d10_179 rfl rfl rfl ?_
    refine Go.aastore C (i := 2) rfl (by decide) (show (0 : Int32).toNatClampNeg < 64 from by decide) (fun _ r => Or.inr ⟨_, rfl, Ins.of_exa ((hE_eA2).ext r.1) (wd hw 94 rfl)⟩) d10_181 (q := 182) rfl (M' := (nH pA0 pA1 pA2 2 :: nK pA1 kA2 kA1 kA2 kA3 kA4 kA5 :: nE pA2 (.ref eA2) (.ref eA1) .null .null .null .null :: F)) rfl ?_
    refine Go.aloadN C d10_182 rfl rfl rfl ?_
    refine Go.callU C (y := yN10) (z := yN3) (owner := "com/example/ordered_dispatch/ordereddispatch/SequenceQueue$Part") (a := pA0) (as := []) (rest := []) (wd hw 144 rfl) (wd hw 145 rfl) (wd hw 146 rfl) (wd hw 148 rfl) (wd hw 147 rfl) (wd hw 149 rfl) (wd hw 25 rfl) (fun _ r => r.exa 0 rfl) (m_giveBackH l Z a0 hw _ pA0 pA1 pA2 2 0 kA2 kA1 kA2 kA3 kA4 kA5 (by decide)) rfl d10_183 (q := 186) rfl (by decide) rfl (na := 0) (by decide +kernel) rfl (by decide) (W := 0) rfl (by decide) (by decide) (by decide) (k' := 0) (n' := 0) rfl rfl ?_
    rintro _ _ ⟨rfl, rfl⟩
    show Go _ _ _ _ _ _ _ _ _ _ []
    refine Go.aloadN C d10_186 rfl rfl rfl ?_
    refine Go.retA C rfl rfl rfl d10_187 (by decide) (by decide) ?_
    exact Or.inr (⟨h123_1, rfl, rfl⟩)
theorem d9_142 : decode prog_20_method_3_code 142 = .ok (.aload_n 0, 1) := by decide +kernel
theorem d9_143 : decode prog_20_method_3_code 143 = .ok (.getfield 12, 3) := by decide +kernel
theorem d9_146 : decode prog_20_method_3_code 146 = .ok (.invokevirtual 54, 3) := by decide +kernel
theorem d11_0 : decode prog_23_method_4_code 0 = .ok (.aload_n 0, 1) := by decide +kernel
theorem d11_1 : decode prog_23_method_4_code 1 = .ok (.getfield 24, 3) := by decide +kernel
theorem d11_4 : decode prog_23_method_4_code 4 = .ok (.aload_n 0, 1) := by decide +kernel
theorem d11_5 : decode prog_23_method_4_code 5 = .ok (.getfield 28, 3) := by decide +kernel
theorem d11_8 : decode prog_23_method_4_code 8 = .ok (.aaload, 1) := by decide +kernel
theorem d11_9 : decode prog_23_method_4_code 9 = .ok (.astore_n 1, 1) := by decide +kernel
theorem d11_10 : decode prog_23_method_4_code 10 = .ok (.aload_n 0, 1) := by decide +kernel
theorem d11_11 : decode prog_23_method_4_code 11 = .ok (.getfield 13, 3) := by decide +kernel
theorem d11_14 : decode prog_23_method_4_code 14 = .ok (.ifCond .le 36, 3) := by decide +kernel
theorem d11_17 : decode prog_23_method_4_code 17 = .ok (.aload_n 0, 1) := by decide +kernel
theorem d11_18 : decode prog_23_method_4_code 18 = .ok (.getfield 24, 3) := by decide +kernel
theorem d11_21 : decode prog_23_method_4_code 21 = .ok (.aload_n 0, 1) := by decide +kernel
theorem d11_22 : decode prog_23_method_4_code 22 = .ok (.getfield 28, 3) := by decide +kernel
theorem d11_25 : decode prog_23_method_4_code 25 = .ok (.aconst_null, 1) := by decide +kernel
theorem d11_26 : decode prog_23_method_4_code 26 = .ok (.aastore, 1) := by decide +kernel
theorem d11_27 : decode prog_23_method_4_code 27 = .ok (.aload_n 0, 1) := by decide +kernel
theorem d11_28 : decode prog_23_method_4_code 28 = .ok (.aload_n 0, 1) := by decide +kernel
theorem d11_29 : decode prog_23_method_4_code 29 = .ok (.iconst 1, 1) := by decide +kernel
theorem d11_30 : decode prog_23_method_4_code 30 = .ok (.invokevirtual 17, 3) := by decide +kernel
theorem d11_33 : decode prog_23_method_4_code 33 = .ok (.putfield 28, 3) := by decide +kernel
theorem d11_36 : decode prog_23_method_4_code 36 = .ok (.aload_n 0, 1) := by decide +kernel
theorem d11_37 : decode prog_23_method_4_code 37 = .ok (.dup, 1) := by decide +kernel
theorem d11_38 : decode prog_23_method_4_code 38 = .ok (.getfield 13, 3) := by decide +kernel
theorem d11_41 : decode prog_23_method_4_code 41 = .ok (.iconst 1, 1) := by decide +kernel
theorem d11_42 : decode prog_23_method_4_code 42 = .ok (.isub, 1) := by decide +kernel
theorem d11_43 : decode prog_23_method_4_code 43 = .ok (.putfield 13, 3) := by decide +kernel
theorem d11_46 : decode prog_23_method_4_code 46 = .ok (.aload_n 0, 1) := by decide +kernel
theorem d11_47 : decode prog_23_method_4_code 47 = .ok (.invokevirtual 31, 3) := by decide +kernel
theorem d11_50 : decode prog_23_method_4_code 50 = .ok (.aload_n 1, 1) := by decide +kernel
theorem d11_51 : decode prog_23_method_4_code 51 = .ok (.areturn, 1) := by decide +kernel
theorem pn_9 : plainFor yN13 = true := by first | (apply plainFor_of_name; simp [plainName, overriddenIn]; done) | decide +kernel
theorem u_SequenceQueue_Run_poll_61 (l : Launch) (Z : State) (a0 : Array Value) (hw : HW Z a0) (F : List Ent) (pA0 pA1 pA2 eA0 : Addr) (kA0 kA1 kA2 kA3 kA4 kA5 : Int64) (hE_eA0 : XI Z eA0) :
    Met l Z yN13 prog_23_method_4_code 2 (some (.object "java/lang/Object")) { frames := 1, cells := 0, slots := 0, locals := 15 } #[(.ref pA0)] (nR pA0 pA1 pA2 1 0 :: nK pA1 kA0 kA1 kA2 kA3 kA4 kA5 :: nE pA2 (.ref eA0) .null .null .null .null .null :: F) (fun r M' => (r = (some (.ref eA0)) ∧ M' = (nR pA0 pA1 pA2 0 1 :: nK pA1 kA0 kA1 kA2 kA3 kA4 kA5 :: nE pA2 .null .null .null .null .null .null :: F))) := by
  refine Met.of_go pn_9 (Ls := #[.val (.ref pA0), .unset]) (fun m => rfl) ?_
  intro E C
  refine Go.aloadN C d11_0 rfl rfl rfl ?_
  refine Go.gv C (wd hw 92 rfl) (wd hw 93 rfl) 0 1 rfl rfl d11_1 rfl ?_
  refine Go.aloadN C d11_4 rfl rfl rfl ?_
  refine Go.gf C (wd hw 88 rfl) 0 3 rfl rfl d11_5 rfl ?_
  refine Go.aaload C (fun _ r => r.arr 2 rfl) rfl (by decide) (v := (.ref eA0)) rfl d11_8 (q := 9) rfl ?_
  refine Go.astoreN C d11_9 rfl rfl (Ls' := #[.val (.ref pA0), .val (.ref eA0)]) rfl ?_
  refine Go.aloadN C d11_10 rfl rfl rfl ?_
  refine Go.gv C (wd hw 83 rfl) (wd hw 70 rfl) 0 2 rfl rfl d11_11 rfl ?_
  refine Go.ifNo C d11_14 (q := 17) rfl (XT.i0_le_f (by decide)) ?_
  refine Go.aloadN C d11_17 rfl rfl rfl ?_
  refine Go.gv C (wd hw 92 rfl) (wd hw 93 rfl) 0 1 rfl rfl d11_18 rfl ?_
  refine Go.aloadN C d11_21 rfl rfl rfl ?_
  refine Go.gf C (wd hw 88 rfl) 0 3 rfl rfl d11_22 rfl ?_
  refine Go.aconstNull C d11_25 rfl ?_
  refine Go.aastore C (i := 2) rfl (by decide) (show (0 : Int32).toNatClampNeg < 64 from by decide) (fun _ _ => Or.inl rfl) d11_26 (q := 27) rfl (M' := (nR pA0 pA1 pA2 1 0 :: nK pA1 kA0 kA1 kA2 kA3 kA4 kA5 :: nE pA2 .null .null .null .null .null .null :: F)) rfl ?_
  refine Go.aloadN C d11_27 rfl rfl rfl ?_
  refine Go.aloadN C d11_28 rfl rfl rfl ?_
  refine Go.iconst C d11_29 rfl (v := (1 : Int32)) rfl ?_
  refine Go.callP C (y := yN1) (a := pA0) (as := [(.int (1 : Int32))]) (rest := [(.ref pA0)]) (wd hw 84 rfl) (wd hw 85 rfl) (sel_priv (y := yN1) (wd hw 17 rfl) (wd hw 85 rfl) (wd hw 86 rfl) (by decide)) (wd hw 86 rfl) (wd hw 87 rfl) (wd hw 18 rfl) (fun _ r => r.exa 0 rfl) (m_slot l Z a0 hw _ pA0 pA1 pA2 1 0 1 1 kA0 kA1 kA2 kA3 kA4 kA5 (by decide) (by decide)) rfl d11_30 (q := 33) rfl (by decide) rfl (na := 1) (by decide +kernel) rfl (by decide) (W := 1) rfl (by decide) (by decide) (by decide) (k' := 0) (n' := 0) rfl rfl ?_
  rintro _ _ ⟨rfl, rfl⟩
  show Go _ _ _ _ _ _ _ _ _ _ [(.int (1 : Int32)), (.ref pA0)]
  refine Go.pf C (wd hw 88 rfl) Via.refl 0 3 rfl rfl (wd hw 89 rfl) (wd hw 17 rfl) (ty := .int) (by decide) rfl rfl d11_33 rfl (M' := (nR pA0 pA1 pA2 1 1 :: nK pA1 kA0 kA1 kA2 kA3 kA4 kA5 :: nE pA2 .null .null .null .null .null .null :: F)) rfl ?_
  refine Go.aloadN C d11_36 rfl rfl rfl ?_
  refine Go.dup C d11_37 rfl rfl ?_
  refine Go.gv C (wd hw 83 rfl) (wd hw 70 rfl) 0 2 rfl rfl d11_38 rfl ?_
  refine Go.iconst C d11_41 rfl (v := (1 : Int32)) rfl ?_
  refine Go.isub C d11_42 rfl ?_
  refine Go.castI (w := (0 : Int32)) (by decide) ?_
  refine Go.pf C (wd hw 83 rfl) (Via.of (wd hw 70 rfl)) 0 2 rfl rfl (wd hw 71 rfl) (wd hw 17 rfl) (ty := .int) (by decide) rfl rfl d11_43 rfl (M' := (nR pA0 pA1 pA2 0 1 :: nK pA1 kA0 kA1 kA2 kA3 kA4 kA5 :: nE pA2 .null .null .null .null .null .null :: F)) rfl ?_
  refine Go.aloadN C d11_46 rfl rfl rfl ?_
  refine Go.callU C (y := yN12) (z := yN3) (owner := "com/example/ordered_dispatch/ordereddispatch/SequenceQueue$Part") (a := pA0) (as := []) (rest := []) (wd hw 163 rfl) (wd hw 164 rfl) (wd hw 146 rfl) (wd hw 165 rfl) (wd hw 147 rfl) (wd hw 149 rfl) (wd hw 25 rfl) (fun _ r => r.exa 0 rfl) (m_giveBackR l Z a0 hw _ pA0 pA1 pA2 0 1 kA0 kA1 kA2 kA3 kA4 kA5 (by decide)) rfl d11_47 (q := 50) rfl (by decide) rfl (na := 0) (by decide +kernel) rfl (by decide) (W := 0) rfl (by decide) (by decide) (by decide) (k' := 0) (n' := 0) rfl rfl ?_
  rintro _ _ ⟨rfl, rfl⟩
  show Go _ _ _ _ _ _ _ _ _ _ []
  refine Go.aloadN C d11_50 rfl rfl rfl ?_
  refine Go.retA C rfl rfl rfl d11_51 (by decide) (by decide) ?_
  exact ⟨rfl, rfl⟩
theorem d9_149 : decode prog_20_method_3_code 149 = .ok (.astore_n 1, 1) := by decide +kernel
theorem d9_150 : decode prog_20_method_3_code 150 = .ok (.goto 11, 3) := by decide +kernel
theorem d9_114 : decode prog_20_method_3_code 114 = .ok (.aload_n 0, 1) := by decide +kernel
theorem d9_115 : decode prog_20_method_3_code 115 = .ok (.getfield 12, 3) := by decide +kernel
theorem d9_118 : decode prog_20_method_3_code 118 = .ok (.getfield 45, 3) := by decide +kernel
theorem d9_121 : decode prog_20_method_3_code 121 = .ok (.aload_n 0, 1) := by decide +kernel
theorem d9_122 : decode prog_20_method_3_code 122 = .ok (.getfield 12, 3) := by decide +kernel
theorem d9_125 : decode prog_20_method_3_code 125 = .ok (.getfield 49, 3) := by decide +kernel
theorem d9_128 : decode prog_20_method_3_code 128 = .ok (.laload, 1) := by decide +kernel
theorem d9_129 : decode prog_20_method_3_code 129 = .ok (.aload_n 0, 1) := by decide +kernel
theorem d9_130 : decode prog_20_method_3_code 130 = .ok (.getfield 21, 3) := by decide +kernel
theorem d9_133 : decode prog_20_method_3_code 133 = .ok (.getfield 53, 3) := by decide +kernel
theorem d9_136 : decode prog_20_method_3_code 136 = .ok (.iconst 0, 1) := by decide +kernel
theorem d9_137 : decode prog_20_method_3_code 137 = .ok (.laload, 1) := by decide +kernel
theorem d9_138 : decode prog_20_method_3_code 138 = .ok (.lcmp, 1) := by decide +kernel
theorem d9_139 : decode prog_20_method_3_code 139 = .ok (.ifCond .gt 14, 3) := by decide +kernel
theorem u_SequenceQueue_Run_poll_64 (l : Launch) (Z : State) (a0 : Array Value) (hw : HW Z a0) (F : List Ent) (pA0 pA1 pA2 eA0 : Addr) (kA0 kA1 kA2 kA3 kA4 kA5 : Int64) (hE_eA0 : XI Z eA0) :
    Met l Z yN13 prog_23_method_4_code 2 (some (.object "java/lang/Object")) { frames := 1, cells := 0, slots := 0, locals := 15 } #[(.ref pA0)] (nR pA0 pA1 pA2 1 1 :: nK pA1 kA0 kA1 kA2 kA3 kA4 kA5 :: nE pA2 .null (.ref eA0) .null .null .null .null :: F) (fun r M' => (r = (some (.ref eA0)) ∧ M' = (nR pA0 pA1 pA2 0 2 :: nK pA1 kA0 kA1 kA2 kA3 kA4 kA5 :: nE pA2 .null .null .null .null .null .null :: F))) := by
  refine Met.of_go pn_9 (Ls := #[.val (.ref pA0), .unset]) (fun m => rfl) ?_
  intro E C
  refine Go.aloadN C d11_0 rfl rfl rfl ?_
  refine Go.gv C (wd hw 92 rfl) (wd hw 93 rfl) 0 1 rfl rfl d11_1 rfl ?_
  refine Go.aloadN C d11_4 rfl rfl rfl ?_
  refine Go.gf C (wd hw 88 rfl) 0 3 rfl rfl d11_5 rfl ?_
  refine Go.aaload C (fun _ r => r.arr 2 rfl) rfl (by decide) (v := (.ref eA0)) rfl d11_8 (q := 9) rfl ?_
  refine Go.astoreN C d11_9 rfl rfl (Ls' := #[.val (.ref pA0), .val (.ref eA0)]) rfl ?_
  refine Go.aloadN C d11_10 rfl rfl rfl ?_
  refine Go.gv C (wd hw 83 rfl) (wd hw 70 rfl) 0 2 rfl rfl d11_11 rfl ?_
  refine Go.ifNo C d11_14 (q := 17) rfl (XT.i0_le_f (by decide)) ?_
  refine Go.aloadN C d11_17 rfl rfl rfl ?_
  refine Go.gv C (wd hw 92 rfl) (wd hw 93 rfl) 0 1 rfl rfl d11_18 rfl ?_
  refine Go.aloadN C d11_21 rfl rfl rfl ?_
  refine Go.gf C (wd hw 88 rfl) 0 3 rfl rfl d11_22 rfl ?_
  refine Go.aconstNull C d11_25 rfl ?_
  refine Go.aastore C (i := 2) rfl (by decide) (show (1 : Int32).toNatClampNeg < 64 from by decide) (fun _ _ => Or.inl rfl) d11_26 (q := 27) rfl (M' := (nR pA0 pA1 pA2 1 1 :: nK pA1 kA0 kA1 kA2 kA3 kA4 kA5 :: nE pA2 .null .null .null .null .null .null :: F)) rfl ?_
  refine Go.aloadN C d11_27 rfl rfl rfl ?_
  refine Go.aloadN C d11_28 rfl rfl rfl ?_
  refine Go.iconst C d11_29 rfl (v := (1 : Int32)) rfl ?_
  refine Go.callP C (y := yN1) (a := pA0) (as := [(.int (1 : Int32))]) (rest := [(.ref pA0)]) (wd hw 84 rfl) (wd hw 85 rfl) (sel_priv (y := yN1) (wd hw 17 rfl) (wd hw 85 rfl) (wd hw 86 rfl) (by decide)) (wd hw 86 rfl) (wd hw 87 rfl) (wd hw 18 rfl) (fun _ r => r.exa 0 rfl) (m_slot l Z a0 hw _ pA0 pA1 pA2 1 1 1 2 kA0 kA1 kA2 kA3 kA4 kA5 (by decide) (by decide)) rfl d11_30 (q := 33) rfl (by decide) rfl (na := 1) (by decide +kernel) rfl (by decide) (W := 1) rfl (by decide) (by decide) (by decide) (k' := 0) (n' := 0) rfl rfl ?_
  rintro _ _ ⟨rfl, rfl⟩
  show Go _ _ _ _ _ _ _ _ _ _ [(.int (2 : Int32)), (.ref pA0)]
  refine Go.pf C (wd hw 88 rfl) Via.refl 0 3 rfl rfl (wd hw 89 rfl) (wd hw 17 rfl) (ty := .int) (by decide) rfl rfl d11_33 rfl (M' := (nR pA0 pA1 pA2 1 2 :: nK pA1 kA0 kA1 kA2 kA3 kA4 kA5 :: nE pA2 .null .null .null .null .null .null :: F)) rfl ?_
  refine Go.aloadN C d11_36 rfl rfl rfl ?_
  refine Go.dup C d11_37 rfl rfl ?_
  refine Go.gv C (wd hw 83 rfl) (wd hw 70 rfl) 0 2 rfl rfl d11_38 rfl ?_
  refine Go.iconst C d11_41 rfl (v := (1 : Int32)) rfl ?_
  refine Go.isub C d11_42 rfl ?_
  refine Go.castI (w := (0 : Int32)) (by decide) ?_
  refine Go.pf C (wd hw 83 rfl) (Via.of (wd hw 70 rfl)) 0 2 rfl rfl (wd hw 71 rfl) (wd hw 17 rfl) (ty := .int) (by decide) rfl rfl d11_43 rfl (M' := (nR pA0 pA1 pA2 0 2 :: nK pA1 kA0 kA1 kA2 kA3 kA4 kA5 :: nE pA2 .null .null .null .null .null .null :: F)) rfl ?_
  refine Go.aloadN C d11_46 rfl rfl rfl ?_
  refine Go.callU C (y := yN12) (z := yN3) (owner := "com/example/ordered_dispatch/ordereddispatch/SequenceQueue$Part") (a := pA0) (as := []) (rest := []) (wd hw 163 rfl) (wd hw 164 rfl) (wd hw 146 rfl) (wd hw 165 rfl) (wd hw 147 rfl) (wd hw 149 rfl) (wd hw 25 rfl) (fun _ r => r.exa 0 rfl) (m_giveBackR l Z a0 hw _ pA0 pA1 pA2 0 2 kA0 kA1 kA2 kA3 kA4 kA5 (by decide)) rfl d11_47 (q := 50) rfl (by decide) rfl (na := 0) (by decide +kernel) rfl (by decide) (W := 0) rfl (by decide) (by decide) (by decide) (k' := 0) (n' := 0) rfl rfl ?_
  rintro _ _ ⟨rfl, rfl⟩
  show Go _ _ _ _ _ _ _ _ _ _ []
  refine Go.aloadN C d11_50 rfl rfl rfl ?_
  refine Go.retA C rfl rfl rfl d11_51 (by decide) (by decide) ?_
  exact ⟨rfl, rfl⟩
theorem u_SequenceQueue_Run_poll_67 (l : Launch) (Z : State) (a0 : Array Value) (hw : HW Z a0) (F : List Ent) (pA0 pA1 pA2 eA0 eA1 : Addr) (kA0 kA1 kA2 kA3 kA4 kA5 : Int64) (hE_eA0 : XI Z eA0) (hE_eA1 : XI Z eA1) :
    Met l Z yN13 prog_23_method_4_code 2 (some (.object "java/lang/Object")) { frames := 1, cells := 0, slots := 0, locals := 15 } #[(.ref pA0)] (nR pA0 pA1 pA2 2 0 :: nK pA1 kA0 kA1 kA2 kA3 kA4 kA5 :: nE pA2 (.ref eA0) (.ref eA1) .null .null .null .null :: F) (fun r M' => (r = (some (.ref eA0)) ∧ M' = (nR pA0 pA1 pA2 1 1 :: nK pA1 kA0 kA1 kA2 kA3 kA4 kA5 :: nE pA2 .null (.ref eA1) .null .null .null .null :: F))) := by
  refine Met.of_go pn_9 (Ls := #[.val (.ref pA0), .unset]) (fun m => rfl) ?_
  intro E C
  refine Go.aloadN C d11_0 rfl rfl rfl ?_
  refine Go.gv C (wd hw 92 rfl) (wd hw 93 rfl) 0 1 rfl rfl d11_1 rfl ?_
  refine Go.aloadN C d11_4 rfl rfl rfl ?_
  refine Go.gf C (wd hw 88 rfl) 0 3 rfl rfl d11_5 rfl ?_
  refine Go.aaload C (fun _ r => r.arr 2 rfl) rfl (by decide) (v := (.ref eA0)) rfl d11_8 (q := 9) rfl ?_
  refine Go.astoreN C d11_9 rfl rfl (Ls' := #[.val (.ref pA0), .val (.ref eA0)]) rfl ?_
  refine Go.aloadN C d11_10 rfl rfl rfl ?_
  refine Go.gv C (wd hw 83 rfl) (wd hw 70 rfl) 0 2 rfl rfl d11_11 rfl ?_
  refine Go.ifNo C d11_14 (q := 17) rfl (XT.i0_le_f (by decide)) ?_
  refine Go.aloadN C d11_17 rfl rfl rfl ?_
  refine Go.gv C (wd hw 92 rfl) (wd hw 93 rfl) 0 1 rfl rfl d11_18 rfl ?_
  refine Go.aloadN C d11_21 rfl rfl rfl ?_
  refine Go.gf C (wd hw 88 rfl) 0 3 rfl rfl d11_22 rfl ?_
  refine Go.aconstNull C d11_25 rfl ?_
  refine Go.aastore C (i := 2) rfl (by decide) (show (0 : Int32).toNatClampNeg < 64 from by decide) (fun _ _ => Or.inl rfl) d11_26 (q := 27) rfl (M' := (nR pA0 pA1 pA2 2 0 :: nK pA1 kA0 kA1 kA2 kA3 kA4 kA5 :: nE pA2 .null (.ref eA1) .null .null .null .null :: F)) rfl ?_
  refine Go.aloadN C d11_27 rfl rfl rfl ?_
  refine Go.aloadN C d11_28 rfl rfl rfl ?_
  refine Go.iconst C d11_29 rfl (v := (1 : Int32)) rfl ?_
  refine Go.callP C (y := yN1) (a := pA0) (as := [(.int (1 : Int32))]) (rest := [(.ref pA0)]) (wd hw 84 rfl) (wd hw 85 rfl) (sel_priv (y := yN1) (wd hw 17 rfl) (wd hw 85 rfl) (wd hw 86 rfl) (by decide)) (wd hw 86 rfl) (wd hw 87 rfl) (wd hw 18 rfl) (fun _ r => r.exa 0 rfl) (m_slot l Z a0 hw _ pA0 pA1 pA2 2 0 1 1 kA0 kA1 kA2 kA3 kA4 kA5 (by decide) (by decide)) rfl d11_30 (q := 33) rfl (by decide) rfl (na := 1) (by decide +kernel) rfl (by decide) (W := 1) rfl (by decide) (by decide) (by decide) (k' := 0) (n' := 0) rfl rfl ?_
  rintro _ _ ⟨rfl, rfl⟩
  show Go _ _ _ _ _ _ _ _ _ _ [(.int (1 : Int32)), (.ref pA0)]
  refine Go.pf C (wd hw 88 rfl) Via.refl 0 3 rfl rfl (wd hw 89 rfl) (wd hw 17 rfl) (ty := .int) (by decide) rfl rfl d11_33 rfl (M' := (nR pA0 pA1 pA2 2 1 :: nK pA1 kA0 kA1 kA2 kA3 kA4 kA5 :: nE pA2 .null (.ref eA1) .null .null .null .null :: F)) rfl ?_
  refine Go.aloadN C d11_36 rfl rfl rfl ?_
  refine Go.dup C d11_37 rfl rfl ?_
  refine Go.gv C (wd hw 83 rfl) (wd hw 70 rfl) 0 2 rfl rfl d11_38 rfl ?_
  refine Go.iconst C d11_41 rfl (v := (1 : Int32)) rfl ?_
  refine Go.isub C d11_42 rfl ?_
  refine Go.castI (w := (1 : Int32)) (by decide) ?_
  refine Go.pf C (wd hw 83 rfl) (Via.of (wd hw 70 rfl)) 0 2 rfl rfl (wd hw 71 rfl) (wd hw 17 rfl) (ty := .int) (by decide) rfl rfl d11_43 rfl (M' := (nR pA0 pA1 pA2 1 1 :: nK pA1 kA0 kA1 kA2 kA3 kA4 kA5 :: nE pA2 .null (.ref eA1) .null .null .null .null :: F)) rfl ?_
  refine Go.aloadN C d11_46 rfl rfl rfl ?_
  refine Go.callU C (y := yN12) (z := yN3) (owner := "com/example/ordered_dispatch/ordereddispatch/SequenceQueue$Part") (a := pA0) (as := []) (rest := []) (wd hw 163 rfl) (wd hw 164 rfl) (wd hw 146 rfl) (wd hw 165 rfl) (wd hw 147 rfl) (wd hw 149 rfl) (wd hw 25 rfl) (fun _ r => r.exa 0 rfl) (m_giveBackR l Z a0 hw _ pA0 pA1 pA2 1 1 kA0 kA1 kA2 kA3 kA4 kA5 (by decide)) rfl d11_47 (q := 50) rfl (by decide) rfl (na := 0) (by decide +kernel) rfl (by decide) (W := 0) rfl (by decide) (by decide) (by decide) (k' := 0) (n' := 0) rfl rfl ?_
  rintro _ _ ⟨rfl, rfl⟩
  show Go _ _ _ _ _ _ _ _ _ _ []
  refine Go.aloadN C d11_50 rfl rfl rfl ?_
  refine Go.retA C rfl rfl rfl d11_51 (by decide) (by decide) ?_
  exact ⟨rfl, rfl⟩
theorem u_SequenceQueue_Run_poll_70 (l : Launch) (Z : State) (a0 : Array Value) (hw : HW Z a0) (F : List Ent) (pA0 pA1 pA2 eA0 eA1 : Addr) (kA0 kA1 kA2 kA3 kA4 kA5 : Int64) (hE_eA0 : XI Z eA0) (hE_eA1 : XI Z eA1) :
    Met l Z yN13 prog_23_method_4_code 2 (some (.object "java/lang/Object")) { frames := 1, cells := 0, slots := 0, locals := 15 } #[(.ref pA0)] (nR pA0 pA1 pA2 2 1 :: nK pA1 kA0 kA1 kA2 kA3 kA4 kA5 :: nE pA2 .null (.ref eA0) (.ref eA1) .null .null .null :: F) (fun r M' => (r = (some (.ref eA0)) ∧ M' = (nR pA0 pA1 pA2 1 2 :: nK pA1 kA0 kA1 kA2 kA3 kA4 kA5 :: nE pA2 .null .null (.ref eA1) .null .null .null :: F))) := by
  refine Met.of_go pn_9 (Ls := #[.val (.ref pA0), .unset]) (fun m => rfl) ?_
  intro E C
  refine Go.aloadN C d11_0 rfl rfl rfl ?_
  refine Go.gv C (wd hw 92 rfl) (wd hw 93 rfl) 0 1 rfl rfl d11_1 rfl ?_
  refine Go.aloadN C d11_4 rfl rfl rfl ?_
  refine Go.gf C (wd hw 88 rfl) 0 3 rfl rfl d11_5 rfl ?_
  refine Go.aaload C (fun _ r => r.arr 2 rfl) rfl (by decide) (v := (.ref eA0)) rfl d11_8 (q := 9) rfl ?_
  refine Go.astoreN C d11_9 rfl rfl (Ls' := #[.val (.ref pA0), .val (.ref eA0)]) rfl ?_
  refine Go.aloadN C d11_10 rfl rfl rfl ?_
  refine Go.gv C (wd hw 83 rfl) (wd hw 70 rfl) 0 2 rfl rfl d11_11 rfl ?_
  refine Go.ifNo C d11_14 (q := 17) rfl (XT.i0_le_f (by decide)) ?_
  refine Go.aloadN C d11_17 rfl rfl rfl ?_
  refine Go.gv C (wd hw 92 rfl) (wd hw 93 rfl) 0 1 rfl rfl d11_18 rfl ?_
  refine Go.aloadN C d11_21 rfl rfl rfl ?_
  refine Go.gf C (wd hw 88 rfl) 0 3 rfl rfl d11_22 rfl ?_
  refine Go.aconstNull C d11_25 rfl ?_
  refine Go.aastore C (i := 2) rfl (by decide) (show (1 : Int32).toNatClampNeg < 64 from by decide) (fun _ _ => Or.inl rfl) d11_26 (q := 27) rfl (M' := (nR pA0 pA1 pA2 2 1 :: nK pA1 kA0 kA1 kA2 kA3 kA4 kA5 :: nE pA2 .null .null (.ref eA1) .null .null .null :: F)) rfl ?_
  refine Go.aloadN C d11_27 rfl rfl rfl ?_
  refine Go.aloadN C d11_28 rfl rfl rfl ?_
  refine Go.iconst C d11_29 rfl (v := (1 : Int32)) rfl ?_
  refine Go.callP C (y := yN1) (a := pA0) (as := [(.int (1 : Int32))]) (rest := [(.ref pA0)]) (wd hw 84 rfl) (wd hw 85 rfl) (sel_priv (y := yN1) (wd hw 17 rfl) (wd hw 85 rfl) (wd hw 86 rfl) (by decide)) (wd hw 86 rfl) (wd hw 87 rfl) (wd hw 18 rfl) (fun _ r => r.exa 0 rfl) (m_slot l Z a0 hw _ pA0 pA1 pA2 2 1 1 2 kA0 kA1 kA2 kA3 kA4 kA5 (by decide) (by decide)) rfl d11_30 (q := 33) rfl (by decide) rfl (na := 1) (by decide +kernel) rfl (by decide) (W := 1) rfl (by decide) (by decide) (by decide) (k' := 0) (n' := 0) rfl rfl ?_
  rintro _ _ ⟨rfl, rfl⟩
  show Go _ _ _ _ _ _ _ _ _ _ [(.int (2 : Int32)), (.ref pA0)]
  refine Go.pf C (wd hw 88 rfl) Via.refl 0 3 rfl rfl (wd hw 89 rfl) (wd hw 17 rfl) (ty := .int) (by decide) rfl rfl d11_33 rfl (M' := (nR pA0 pA1 pA2 2 2 :: nK pA1 kA0 kA1 kA2 kA3 kA4 kA5 :: nE pA2 .null .null (.ref eA1) .null .null .null :: F)) rfl ?_
  refine Go.aloadN C d11_36 rfl rfl rfl ?_
  refine Go.dup C d11_37 rfl rfl ?_
  refine Go.gv C (wd hw 83 rfl) (wd hw 70 rfl) 0 2 rfl rfl d11_38 rfl ?_
  refine Go.iconst C d11_41 rfl (v := (1 : Int32)) rfl ?_
  refine Go.isub C d11_42 rfl ?_
  refine Go.castI (w := (1 : Int32)) (by decide) ?_
  refine Go.pf C (wd hw 83 rfl) (Via.of (wd hw 70 rfl)) 0 2 rfl rfl (wd hw 71 rfl) (wd hw 17 rfl) (ty := .int) (by decide) rfl rfl d11_43 rfl (M' := (nR pA0 pA1 pA2 1 2 :: nK pA1 kA0 kA1 kA2 kA3 kA4 kA5 :: nE pA2 .null .null (.ref eA1) .null .null .null :: F)) rfl ?_
  refine Go.aloadN C d11_46 rfl rfl rfl ?_
  refine Go.callU C (y := yN12) (z := yN3) (owner := "com/example/ordered_dispatch/ordereddispatch/SequenceQueue$Part") (a := pA0) (as := []) (rest := []) (wd hw 163 rfl) (wd hw 164 rfl) (wd hw 146 rfl) (wd hw 165 rfl) (wd hw 147 rfl) (wd hw 149 rfl) (wd hw 25 rfl) (fun _ r => r.exa 0 rfl) (m_giveBackR l Z a0 hw _ pA0 pA1 pA2 1 2 kA0 kA1 kA2 kA3 kA4 kA5 (by decide)) rfl d11_47 (q := 50) rfl (by decide) rfl (na := 0) (by decide +kernel) rfl (by decide) (W := 0) rfl (by decide) (by decide) (by decide) (k' := 0) (n' := 0) rfl rfl ?_
  rintro _ _ ⟨rfl, rfl⟩
  show Go _ _ _ _ _ _ _ _ _ _ []
  refine Go.aloadN C d11_50 rfl rfl rfl ?_
  refine Go.retA C rfl rfl rfl d11_51 (by decide) (by decide) ?_
  exact ⟨rfl, rfl⟩
theorem u_SequenceQueue_Run_poll_73 (l : Launch) (Z : State) (a0 : Array Value) (hw : HW Z a0) (F : List Ent) (pA0 pA1 pA2 eA0 eA1 eA2 : Addr) (kA0 kA1 kA2 kA3 kA4 kA5 : Int64) (hE_eA0 : XI Z eA0) (hE_eA1 : XI Z eA1) (hE_eA2 : XI Z eA2) :
    Met l Z yN13 prog_23_method_4_code 2 (some (.object "java/lang/Object")) { frames := 1, cells := 0, slots := 0, locals := 15 } #[(.ref pA0)] (nR pA0 pA1 pA2 3 0 :: nK pA1 kA0 kA1 kA2 kA3 kA4 kA5 :: nE pA2 (.ref eA0) (.ref eA1) (.ref eA2) .null .null .null :: F) (fun r M' => (r = (some (.ref eA0)) ∧ M' = (nR pA0 pA1 pA2 2 1 :: nK pA1 kA0 kA1 kA2 kA3 kA4 kA5 :: nE pA2 .null (.ref eA1) (.ref eA2) .null .null .null :: F))) := by
  refine Met.of_go pn_9 (Ls := #[.val (.ref pA0), .unset]) (fun m => rfl) ?_
  intro E C
  refine Go.aloadN C d11_0 rfl rfl rfl ?_
  refine Go.gv C (wd hw 92 rfl) (wd hw 93 rfl) 0 1 rfl rfl d11_1 rfl ?_
  refine Go.aloadN C d11_4 rfl rfl rfl ?_
  refine Go.gf C (wd hw 88 rfl) 0 3 rfl rfl d11_5 rfl ?_
  refine Go.aaload C (fun _ r => r.arr 2 rfl) rfl (by decide) (v := (.ref eA0)) rfl d11_8 (q := 9) rfl ?_
  refine Go.astoreN C d11_9 rfl rfl (Ls' := #[.val (.ref pA0), .val (.ref eA0)]) rfl ?_
  refine Go.aloadN C d11_10 rfl rfl rfl ?_
  refine Go.gv C (wd hw 83 rfl) (wd hw 70 rfl) 0 2 rfl rfl d11_11 rfl ?_
  refine Go.ifNo C d11_14 (q := 17) rfl (XT.i0_le_f (by decide)) ?_
  refine Go.aloadN C d11_17 rfl rfl rfl ?_
  refine Go.gv C (wd hw 92 rfl) (wd hw 93 rfl) 0 1 rfl rfl d11_18 rfl ?_
  refine Go.aloadN C d11_21 rfl rfl rfl ?_
  refine Go.gf C (wd hw 88 rfl) 0 3 rfl rfl d11_22 rfl ?_
  refine Go.aconstNull C d11_25 rfl ?_
  refine Go.aastore C (i := 2) rfl (by decide) (show (0 : Int32).toNatClampNeg < 64 from by decide) (fun _ _ => Or.inl rfl) d11_26 (q := 27) rfl (M' := (nR pA0 pA1 pA2 3 0 :: nK pA1 kA0 kA1 kA2 kA3 kA4 kA5 :: nE pA2 .null (.ref eA1) (.ref eA2) .null .null .null :: F)) rfl ?_
  refine Go.aloadN C d11_27 rfl rfl rfl ?_
  refine Go.aloadN C d11_28 rfl rfl rfl ?_
  refine Go.iconst C d11_29 rfl (v := (1 : Int32)) rfl ?_
  refine Go.callP C (y := yN1) (a := pA0) (as := [(.int (1 : Int32))]) (rest := [(.ref pA0)]) (wd hw 84 rfl) (wd hw 85 rfl) (sel_priv (y := yN1) (wd hw 17 rfl) (wd hw 85 rfl) (wd hw 86 rfl) (by decide)) (wd hw 86 rfl) (wd hw 87 rfl) (wd hw 18 rfl) (fun _ r => r.exa 0 rfl) (m_slot l Z a0 hw _ pA0 pA1 pA2 3 0 1 1 kA0 kA1 kA2 kA3 kA4 kA5 (by decide) (by decide)) rfl d11_30 (q := 33) rfl (by decide) rfl (na := 1) (by decide +kernel) rfl (by decide) (W := 1) rfl (by decide) (by decide) (by decide) (k' := 0) (n' := 0) rfl rfl ?_
  rintro _ _ ⟨rfl, rfl⟩
  show Go _ _ _ _ _ _ _ _ _ _ [(.int (1 : Int32)), (.ref pA0)]
  refine Go.pf C (wd hw 88 rfl) Via.refl 0 3 rfl rfl (wd hw 89 rfl) (wd hw 17 rfl) (ty := .int) (by decide) rfl rfl d11_33 rfl (M' := (nR pA0 pA1 pA2 3 1 :: nK pA1 kA0 kA1 kA2 kA3 kA4 kA5 :: nE pA2 .null (.ref eA1) (.ref eA2) .null .null .null :: F)) rfl ?_
  refine Go.aloadN C d11_36 rfl rfl rfl ?_
  refine Go.dup C d11_37 rfl rfl ?_
  refine Go.gv C (wd hw 83 rfl) (wd hw 70 rfl) 0 2 rfl rfl d11_38 rfl ?_
  refine Go.iconst C d11_41 rfl (v := (1 : Int32)) rfl ?_
  refine Go.isub C d11_42 rfl ?_
  refine Go.castI (w := (2 : Int32)) (by decide) ?_
  refine Go.pf C (wd hw 83 rfl) (Via.of (wd hw 70 rfl)) 0 2 rfl rfl (wd hw 71 rfl) (wd hw 17 rfl) (ty := .int) (by decide) rfl rfl d11_43 rfl (M' := (nR pA0 pA1 pA2 2 1 :: nK pA1 kA0 kA1 kA2 kA3 kA4 kA5 :: nE pA2 .null (.ref eA1) (.ref eA2) .null .null .null :: F)) rfl ?_
  refine Go.aloadN C d11_46 rfl rfl rfl ?_
  refine Go.callU C (y := yN12) (z := yN3) (owner := "com/example/ordered_dispatch/ordereddispatch/SequenceQueue$Part") (a := pA0) (as := []) (rest := []) (wd hw 163 rfl) (wd hw 164 rfl) (wd hw 146 rfl) (wd hw 165 rfl) (wd hw 147 rfl) (wd hw 149 rfl) (wd hw 25 rfl) (fun _ r => r.exa 0 rfl) (m_giveBackR l Z a0 hw _ pA0 pA1 pA2 2 1 kA0 kA1 kA2 kA3 kA4 kA5 (by decide)) rfl d11_47 (q := 50) rfl (by decide) rfl (na := 0) (by decide +kernel) rfl (by decide) (W := 0) rfl (by decide) (by decide) (by decide) (k' := 0) (n' := 0) rfl rfl ?_
  rintro _ _ ⟨rfl, rfl⟩
  show Go _ _ _ _ _ _ _ _ _ _ []
  refine Go.aloadN C d11_50 rfl rfl rfl ?_
  refine Go.retA C rfl rfl rfl d11_51 (by decide) (by decide) ?_
  exact ⟨rfl, rfl⟩
theorem u_SequenceQueue_Run_poll_76 (l : Launch) (Z : State) (a0 : Array Value) (hw : HW Z a0) (F : List Ent) (pA0 pA1 pA2 eA0 eA1 eA2 : Addr) (kA0 kA1 kA2 kA3 kA4 kA5 : Int64) (hE_eA0 : XI Z eA0) (hE_eA1 : XI Z eA1) (hE_eA2 : XI Z eA2) :
    Met l Z yN13 prog_23_method_4_code 2 (some (.object "java/lang/Object")) { frames := 1, cells := 0, slots := 0, locals := 15 } #[(.ref pA0)] (nR pA0 pA1 pA2 3 1 :: nK pA1 kA0 kA1 kA2 kA3 kA4 kA5 :: nE pA2 .null (.ref eA0) (.ref eA1) (.ref eA2) .null .null :: F) (fun r M' => (r = (some (.ref eA0)) ∧ M' = (nR pA0 pA1 pA2 2 2 :: nK pA1 kA0 kA1 kA2 kA3 kA4 kA5 :: nE pA2 .null .null (.ref eA1) (.ref eA2) .null .null :: F))) := by
  refine Met.of_go pn_9 (Ls := #[.val (.ref pA0), .unset]) (fun m => rfl) ?_
  intro E C
  refine Go.aloadN C d11_0 rfl rfl rfl ?_
  refine Go.gv C (wd hw 92 rfl) (wd hw 93 rfl) 0 1 rfl rfl d11_1 rfl ?_
  refine Go.aloadN C d11_4 rfl rfl rfl ?_
  refine Go.gf C (wd hw 88 rfl) 0 3 rfl rfl d11_5 rfl ?_
  refine Go.aaload C (fun _ r => r.arr 2 rfl) rfl (by decide) (v := (.ref eA0)) rfl d11_8 (q := 9) rfl ?_
  refine Go.astoreN C d11_9 rfl rfl (Ls' := #[.val (.ref pA0), .val (.ref eA0)]) rfl ?_
  refine Go.aloadN C d11_10 rfl rfl rfl ?_
  refine Go.gv C (wd hw 83 rfl) (wd hw 70 rfl) 0 2 rfl rfl d11_11 rfl ?_
  refine Go.ifNo C d11_14 (q := 17) rfl (XT.i0_le_f (by decide)) ?_
  refine Go.aloadN C d11_17 rfl rfl rfl ?_
  refine Go.gv C (wd hw 92 rfl) (wd hw 93 rfl) 0 1 rfl rfl d11_18 rfl ?_
  refine Go.aloadN C d11_21 rfl rfl rfl ?_
  refine Go.gf C (wd hw 88 rfl) 0 3 rfl rfl d11_22 rfl ?_
  refine Go.aconstNull C d11_25 rfl ?_
  refine Go.aastore C (i := 2) rfl (by decide) (show (1 : Int32).toNatClampNeg < 64 from by decide) (fun _ _ => Or.inl rfl) d11_26 (q := 27) rfl (M' := (nR pA0 pA1 pA2 3 1 :: nK pA1 kA0 kA1 kA2 kA3 kA4 kA5 :: nE pA2 .null .null (.ref eA1) (.ref eA2) .null .null :: F)) rfl ?_
  refine Go.aloadN C d11_27 rfl rfl rfl ?_
  refine Go.aloadN C d11_28 rfl rfl rfl ?_
  refine Go.iconst C d11_29 rfl (v := (1 : Int32)) rfl ?_
  refine Go.callP C (y := yN1) (a := pA0) (as := [(.int (1 : Int32))]) (rest := [(.ref pA0)]) (wd hw 84 rfl) (wd hw 85 rfl) (sel_priv (y := yN1) (wd hw 17 rfl) (wd hw 85 rfl) (wd hw 86 rfl) (by decide)) (wd hw 86 rfl) (wd hw 87 rfl) (wd hw 18 rfl) (fun _ r => r.exa 0 rfl) (m_slot l Z a0 hw _ pA0 pA1 pA2 3 1 1 2 kA0 kA1 kA2 kA3 kA4 kA5 (by decide) (by decide)) rfl d11_30 (q := 33) rfl (by decide) rfl (na := 1) (by decide +kernel) rfl (by decide) (W := 1) rfl (by decide) (by decide) (by decide) (k' := 0) (n' := 0) rfl rfl ?_
  rintro _ _ ⟨rfl, rfl⟩
  show Go _ _ _ _ _ _ _ _ _ _ [(.int (2 : Int32)), (.ref pA0)]
  refine Go.pf C (wd hw 88 rfl) Via.refl 0 3 rfl rfl (wd hw 89 rfl) (wd hw 17 rfl) (ty := .int) (by decide) rfl rfl d11_33 rfl (M' := (nR pA0 pA1 pA2 3 2 :: nK pA1 kA0 kA1 kA2 kA3 kA4 kA5 :: nE pA2 .null .null (.ref eA1) (.ref eA2) .null .null :: F)) rfl ?_
  refine Go.aloadN C d11_36 rfl rfl rfl ?_
  refine Go.dup C d11_37 rfl rfl ?_
  refine Go.gv C (wd hw 83 rfl) (wd hw 70 rfl) 0 2 rfl rfl d11_38 rfl ?_
  refine Go.iconst C d11_41 rfl (v := (1 : Int32)) rfl ?_
  refine Go.isub C d11_42 rfl ?_
  refine Go.castI (w := (2 : Int32)) (by decide) ?_
  refine Go.pf C (wd hw 83 rfl) (Via.of (wd hw 70 rfl)) 0 2 rfl rfl (wd hw 71 rfl) (wd hw 17 rfl) (ty := .int) (by decide) rfl rfl d11_43 rfl (M' := (nR pA0 pA1 pA2 2 2 :: nK pA1 kA0 kA1 kA2 kA3 kA4 kA5 :: nE pA2 .null .null (.ref eA1) (.ref eA2) .null .null :: F)) rfl ?_
  refine Go.aloadN C d11_46 rfl rfl rfl ?_
  refine Go.callU C (y := yN12) (z := yN3) (owner := "com/example/ordered_dispatch/ordereddispatch/SequenceQueue$Part") (a := pA0) (as := []) (rest := []) (wd hw 163 rfl) (wd hw 164 rfl) (wd hw 146 rfl) (wd hw 165 rfl) (wd hw 147 rfl) (wd hw 149 rfl) (wd hw 25 rfl) (fun _ r => r.exa 0 rfl) (m_giveBackR l Z a0 hw _ pA0 pA1 pA2 2 2 kA0 kA1 kA2 kA3 kA4 kA5 (by decide)) rfl d11_47 (q := 50) rfl (by decide) rfl (na := 0) (by decide +kernel) rfl (by decide) (W := 0) rfl (by decide) (by decide) (by decide) (k' := 0) (n' := 0) rfl rfl ?_
  rintro _ _ ⟨rfl, rfl⟩
  show Go _ _ _ _ _ _ _ _ _ _ []
  refine Go.aloadN C d11_50 rfl rfl rfl ?_
  refine Go.retA C rfl rfl rfl d11_51 (by decide) (by decide) ?_
  exact ⟨rfl, rfl⟩
theorem d9_7 : decode prog_20_method_3_code 7 = .ok (.aload_n 0, 1) := by decide +kernel
theorem d9_8 : decode prog_20_method_3_code 8 = .ok (.getfield 12, 3) := by decide +kernel
theorem d9_11 : decode prog_20_method_3_code 11 = .ok (.getfield 41, 3) := by decide +kernel
theorem d9_14 : decode prog_20_method_3_code 14 = .ok (.ifCond .eq 26, 3) := by decide +kernel
theorem d9_40 : decode prog_20_method_3_code 40 = .ok (.aload_n 0, 1) := by decide +kernel
theorem d9_41 : decode prog_20_method_3_code 41 = .ok (.getfield 21, 3) := by decide +kernel
theorem d9_44 : decode prog_20_method_3_code 44 = .ok (.getfield 52, 3) := by decide +kernel
theorem d9_47 : decode prog_20_method_3_code 47 = .ok (.ifCond .eq 20, 3) := by decide +kernel
theorem d9_67 : decode prog_20_method_3_code 67 = .ok (.aload_n 0, 1) := by decide +kernel
theorem d9_68 : decode prog_20_method_3_code 68 = .ok (.getfield 33, 3) := by decide +kernel
theorem d9_71 : decode prog_20_method_3_code 71 = .ok (.astore_n 1, 1) := by decide +kernel
theorem d9_72 : decode prog_20_method_3_code 72 = .ok (.goto 89, 3) := by decide +kernel
theorem d9_17 : decode prog_20_method_3_code 17 = .ok (.aload_n 0, 1) := by decide +kernel
theorem d9_18 : decode prog_20_method_3_code 18 = .ok (.getfield 29, 3) := by decide +kernel
theorem d9_21 : decode prog_20_method_3_code 21 = .ok (.aload_n 0, 1) := by decide +kernel
theorem d9_22 : decode prog_20_method_3_code 22 = .ok (.getfield 12, 3) := by decide +kernel
theorem d9_25 : decode prog_20_method_3_code 25 = .ok (.getfield 45, 3) := by decide +kernel
theorem d9_28 : decode prog_20_method_3_code 28 = .ok (.aload_n 0, 1) := by decide +kernel
theorem d9_29 : decode prog_20_method_3_code 29 = .ok (.getfield 12, 3) := by decide +kernel
theorem d9_32 : decode prog_20_method_3_code 32 = .ok (.getfield 49, 3) := by decide +kernel
theorem d9_35 : decode prog_20_method_3_code 35 = .ok (.laload, 1) := by decide +kernel
theorem d9_36 : decode prog_20_method_3_code 36 = .ok (.lcmp, 1) := by decide +kernel
theorem d9_37 : decode prog_20_method_3_code 37 = .ok (.ifCond .gt 38, 3) := by decide +kernel
theorem d9_82 : decode prog_20_method_3_code 82 = .ok (.aload_n 0, 1) := by decide +kernel
theorem d9_83 : decode prog_20_method_3_code 83 = .ok (.aload_n 0, 1) := by decide +kernel
theorem d9_84 : decode prog_20_method_3_code 84 = .ok (.getfield 29, 3) := by decide +kernel
theorem d9_87 : decode prog_20_method_3_code 87 = .ok (.aload_n 0, 1) := by decide +kernel
theorem d9_88 : decode prog_20_method_3_code 88 = .ok (.getfield 33, 3) := by decide +kernel
theorem d9_91 : decode prog_20_method_3_code 91 = .ok (.invokevirtual 37, 3) := by decide +kernel
theorem d9_50 : decode prog_20_method_3_code 50 = .ok (.aload_n 0, 1) := by decide +kernel
theorem d9_51 : decode prog_20_method_3_code 51 = .ok (.getfield 29, 3) := by decide +kernel
theorem d9_54 : decode prog_20_method_3_code 54 = .ok (.aload_n 0, 1) := by decide +kernel
theorem d9_55 : decode prog_20_method_3_code 55 = .ok (.getfield 21, 3) := by decide +kernel
theorem d9_58 : decode prog_20_method_3_code 58 = .ok (.getfield 53, 3) := by decide +kernel
theorem d9_61 : decode prog_20_method_3_code 61 = .ok (.iconst 0, 1) := by decide +kernel
theorem d9_62 : decode prog_20_method_3_code 62 = .ok (.laload, 1) := by decide +kernel
theorem d9_63 : decode prog_20_method_3_code 63 = .ok (.lcmp, 1) := by decide +kernel
theorem d9_64 : decode prog_20_method_3_code 64 = .ok (.ifCond .gt 11, 3) := by decide +kernel
theorem u_SequenceQueue_Run_poll_79 (l : Launch) (Z : State) (a0 : Array Value) (hw : HW Z a0) (F : List Ent) (pA0 pA1 pA2 eA0 eA1 eA2 eA3 : Addr) (kA0 kA1 kA2 kA3 kA4 kA5 : Int64) (hE_eA0 : XI Z eA0) (hE_eA1 : XI Z eA1) (hE_eA2 : XI Z eA2) (hE_eA3 : XI Z eA3) :
    Met l Z yN13 prog_23_method_4_code 2 (some (.object "java/lang/Object")) { frames := 1, cells := 0, slots := 0, locals := 15 } #[(.ref pA0)] (nR pA0 pA1 pA2 4 0 :: nK pA1 kA0 kA1 kA2 kA3 kA4 kA5 :: nE pA2 (.ref eA0) (.ref eA1) (.ref eA2) (.ref eA3) .null .null :: F) (fun r M' => (r = (some (.ref eA0)) ∧ M' = (nR pA0 pA1 pA2 3 1 :: nK pA1 kA0 kA1 kA2 kA3 kA4 kA5 :: nE pA2 .null (.ref eA1) (.ref eA2) (.ref eA3) .null .null :: F))) := by
  refine Met.of_go pn_9 (Ls := #[.val (.ref pA0), .unset]) (fun m => rfl) ?_
  intro E C
  refine Go.aloadN C d11_0 rfl rfl rfl ?_
  refine Go.gv C (wd hw 92 rfl) (wd hw 93 rfl) 0 1 rfl rfl d11_1 rfl ?_
  refine Go.aloadN C d11_4 rfl rfl rfl ?_
  refine Go.gf C (wd hw 88 rfl) 0 3 rfl rfl d11_5 rfl ?_
  refine Go.aaload C (fun _ r => r.arr 2 rfl) rfl (by decide) (v := (.ref eA0)) rfl d11_8 (q := 9) rfl ?_
  refine Go.astoreN C d11_9 rfl rfl (Ls' := #[.val (.ref pA0), .val (.ref eA0)]) rfl ?_
  refine Go.aloadN C d11_10 rfl rfl rfl ?_
  refine Go.gv C (wd hw 83 rfl) (wd hw 70 rfl) 0 2 rfl rfl d11_11 rfl ?_
  refine Go.ifNo C d11_14 (q := 17) rfl (XT.i0_le_f (by decide)) ?_
  refine Go.aloadN C d11_17 rfl rfl rfl ?_
  refine Go.gv C (wd hw 92 rfl) (wd hw 93 rfl) 0 1 rfl rfl d11_18 rfl ?_
  refine Go.aloadN C d11_21 rfl rfl rfl ?_
  refine Go.gf C (wd hw 88 rfl) 0 3 rfl rfl d11_22 rfl ?_
  refine Go.aconstNull C d11_25 rfl ?_
  refine Go.aastore C (i := 2) rfl (by decide) (show (0 : Int32).toNatClampNeg < 64 from by decide) (fun _ _ => Or.inl rfl) d11_26 (q := 27) rfl (M' := (nR pA0 pA1 pA2 4 0 :: nK pA1 kA0 kA1 kA2 kA3 kA4 kA5 :: nE pA2 .null (.ref eA1) (.ref eA2) (.ref eA3) .null .null :: F)) rfl ?_
  refine Go.aloadN C d11_27 rfl rfl rfl ?_
  refine Go.aloadN C d11_28 rfl rfl rfl ?_
  refine Go.iconst C d11_29 rfl (v := (1 : Int32)) rfl ?_
  refine Go.callP C (y := yN1) (a := pA0) (as := [(.int (1 : Int32))]) (rest := [(.ref pA0)]) (wd hw 84 rfl) (wd hw 85 rfl) (sel_priv (y := yN1) (wd hw 17 rfl) (wd hw 85 rfl) (wd hw 86 rfl) (by decide)) (wd hw 86 rfl) (wd hw 87 rfl) (wd hw 18 rfl) (fun _ r => r.exa 0 rfl) (m_slot l Z a0 hw _ pA0 pA1 pA2 4 0 1 1 kA0 kA1 kA2 kA3 kA4 kA5 (by decide) (by decide)) rfl d11_30 (q := 33) rfl (by decide) rfl (na := 1) (by decide +kernel) rfl (by decide) (W := 1) rfl (by decide) (by decide) (by decide) (k' := 0) (n' := 0) rfl rfl ?_
  rintro _ _ ⟨rfl, rfl⟩
  show Go _ _ _ _ _ _ _ _ _ _ [(.int (1 : Int32)), (.ref pA0)]
  refine Go.pf C (wd hw 88 rfl) Via.refl 0 3 rfl rfl (wd hw 89 rfl) (wd hw 17 rfl) (ty := .int) (by decide) rfl rfl d11_33 rfl (M' := (nR pA0 pA1 pA2 4 1 :: nK pA1 kA0 kA1 kA2 kA3 kA4 kA5 :: nE pA2 .null (.ref eA1) (.ref eA2) (.ref eA3) .null .null :: F)) rfl ?_
  refine Go.aloadN C d11_36 rfl rfl rfl ?_
  refine Go.dup C d11_37 rfl rfl ?_
  refine Go.gv C (wd hw 83 rfl) (wd hw 70 rfl) 0 2 rfl rfl d11_38 rfl ?_
  refine Go.iconst C d11_41 rfl (v := (1 : Int32)) rfl ?_
  refine Go.isub C d11_42 rfl ?_
  refine Go.castI (w := (3 : Int32)) (by decide) ?_
  refine Go.pf C (wd hw 83 rfl) (Via.of (wd hw 70 rfl)) 0 2 rfl rfl (wd hw 71 rfl) (wd hw 17 rfl) (ty := .int) (by decide) rfl rfl d11_43 rfl (M' := (nR pA0 pA1 pA2 3 1 :: nK pA1 kA0 kA1 kA2 kA3 kA4 kA5 :: nE pA2 .null (.ref eA1) (.ref eA2) (.ref eA3) .null .null :: F)) rfl ?_
  refine Go.aloadN C d11_46 rfl rfl rfl ?_
  refine Go.callU C (y := yN12) (z := yN3) (owner := "com/example/ordered_dispatch/ordereddispatch/SequenceQueue$Part") (a := pA0) (as := []) (rest := []) (wd hw 163 rfl) (wd hw 164 rfl) (wd hw 146 rfl) (wd hw 165 rfl) (wd hw 147 rfl) (wd hw 149 rfl) (wd hw 25 rfl) (fun _ r => r.exa 0 rfl) (m_giveBackR l Z a0 hw _ pA0 pA1 pA2 3 1 kA0 kA1 kA2 kA3 kA4 kA5 (by decide)) rfl d11_47 (q := 50) rfl (by decide) rfl (na := 0) (by decide +kernel) rfl (by decide) (W := 0) rfl (by decide) (by decide) (by decide) (k' := 0) (n' := 0) rfl rfl ?_
  rintro _ _ ⟨rfl, rfl⟩
  show Go _ _ _ _ _ _ _ _ _ _ []
  refine Go.aloadN C d11_50 rfl rfl rfl ?_
  refine Go.retA C rfl rfl rfl d11_51 (by decide) (by decide) ?_
  exact ⟨rfl, rfl⟩
theorem d12_0 : decode prog_20_method_5_code 0 = .ok (.ldc2_w 61, 3) := by decide +kernel
theorem d12_3 : decode prog_20_method_5_code 3 = .ok (.lstore_n 1, 1) := by decide +kernel
theorem d12_4 : decode prog_20_method_5_code 4 = .ok (.aload_n 0, 1) := by decide +kernel
theorem d12_5 : decode prog_20_method_5_code 5 = .ok (.getfield 25, 3) := by decide +kernel
theorem d12_8 : decode prog_20_method_5_code 8 = .ok (.ifCond .eq 8, 3) := by decide +kernel
theorem d12_16 : decode prog_20_method_5_code 16 = .ok (.aload_n 0, 1) := by decide +kernel
theorem d12_17 : decode prog_20_method_5_code 17 = .ok (.getfield 12, 3) := by decide +kernel
theorem d12_20 : decode prog_20_method_5_code 20 = .ok (.getfield 41, 3) := by decide +kernel
theorem d12_23 : decode prog_20_method_5_code 23 = .ok (.ifCond .le 23, 3) := by decide +kernel
theorem d12_46 : decode prog_20_method_5_code 46 = .ok (.aload_n 0, 1) := by decide +kernel
theorem d12_47 : decode prog_20_method_5_code 47 = .ok (.getfield 21, 3) := by decide +kernel
theorem d12_50 : decode prog_20_method_5_code 50 = .ok (.getfield 52, 3) := by decide +kernel
theorem d12_53 : decode prog_20_method_5_code 53 = .ok (.ifCond .le 17, 3) := by decide +kernel
theorem d12_70 : decode prog_20_method_5_code 70 = .ok (.lload_n 1, 1) := by decide +kernel
theorem d12_71 : decode prog_20_method_5_code 71 = .ok (.lreturn, 1) := by decide +kernel
theorem d12_56 : decode prog_20_method_5_code 56 = .ok (.lload_n 1, 1) := by decide +kernel
theorem d12_57 : decode prog_20_method_5_code 57 = .ok (.aload_n 0, 1) := by decide +kernel
theorem d12_58 : decode prog_20_method_5_code 58 = .ok (.getfield 21, 3) := by decide +kernel
theorem d12_61 : decode prog_20_method_5_code 61 = .ok (.getfield 53, 3) := by decide +kernel
theorem d12_64 : decode prog_20_method_5_code 64 = .ok (.iconst 0, 1) := by decide +kernel
theorem d12_65 : decode prog_20_method_5_code 65 = .ok (.laload, 1) := by decide +kernel
theorem d12_66 : decode prog_20_method_5_code 66 = .ok (.invokestatic 63, 3) := by decide +kernel
theorem d12_69 : decode prog_20_method_5_code 69 = .ok (.lstore_n 1, 1) := by decide +kernel
theorem d12_26 : decode prog_20_method_5_code 26 = .ok (.lload_n 1, 1) := by decide +kernel
theorem d12_27 : decode prog_20_method_5_code 27 = .ok (.aload_n 0, 1) := by decide +kernel
theorem d12_28 : decode prog_20_method_5_code 28 = .ok (.getfield 12, 3) := by decide +kernel
theorem d12_31 : decode prog_20_method_5_code 31 = .ok (.getfield 45, 3) := by decide +kernel
theorem d12_34 : decode prog_20_method_5_code 34 = .ok (.aload_n 0, 1) := by decide +kernel
theorem d12_35 : decode prog_20_method_5_code 35 = .ok (.getfield 12, 3) := by decide +kernel
theorem d12_38 : decode prog_20_method_5_code 38 = .ok (.getfield 49, 3) := by decide +kernel
theorem d12_41 : decode prog_20_method_5_code 41 = .ok (.laload, 1) := by decide +kernel
theorem d12_42 : decode prog_20_method_5_code 42 = .ok (.invokestatic 63, 3) := by decide +kernel
theorem d12_45 : decode prog_20_method_5_code 45 = .ok (.lstore_n 1, 1) := by decide +kernel
theorem d12_11 : decode prog_20_method_5_code 11 = .ok (.aload_n 0, 1) := by decide +kernel
theorem d12_12 : decode prog_20_method_5_code 12 = .ok (.getfield 29, 3) := by decide +kernel
theorem d12_15 : decode prog_20_method_5_code 15 = .ok (.lstore_n 1, 1) := by decide +kernel
theorem pn_10 : plainFor yN14 = true := by first | (apply plainFor_of_name; simp [plainName, overriddenIn]; done) | decide +kernel
theorem u_SequenceQueue_add_82 (l : Launch) (Z : State) (a0 : Array Value) (hw : HW Z a0) (F : List Ent) (pA0 eA0 rA0 rA1 : Addr) (kA0 kA1 : Int64) (hE_eA0 : XI Z eA0) :
    Met l Z yN14 prog_20_method_2_code 4 none { frames := 3, cells := 0, slots := 0, locals := 45 } #[(.ref pA0), (.long kA0), (.ref eA0)] (nQ pA0 rA0 rA1 0 kA1 .null :: F) (fun r M' => (r = none ∧ M' = (nQ pA0 rA0 rA1 1 kA0 (.ref eA0) :: F))) := by
  refine Met.of_go pn_10 (Ls := #[.val (.ref pA0), .val (.long kA0), .second, .val (.ref eA0)]) (fun m => rfl) ?_
  intro E C
  refine Go.aloadN C d4_0 rfl rfl rfl ?_
  refine Go.gf C (wd hw 59 rfl) 0 2 rfl rfl d4_1 rfl ?_
  refine Go.ifYes C d4_4 (by decide) (q := 19) rfl (XT.i0_eq_t (by decide)) ?_
  refine Go.aloadN C d4_19 rfl rfl rfl ?_
  refine Go.iconst C d4_20 rfl (v := (1 : Int32)) rfl ?_
  refine Go.pf C (wd hw 59 rfl) Via.refl 0 2 rfl rfl (wd hw 60 rfl) (wd hw 8 rfl) (ty := .boolean) (by decide) rfl rfl d4_21 rfl (M' := (nQ pA0 rA0 rA1 1 kA1 .null :: F)) rfl ?_
  refine Go.aloadN C d4_24 rfl rfl rfl ?_
  refine Go.lloadN C d4_25 rfl rfl ?_
  refine Go.pf C (wd hw 61 rfl) Via.refl 0 3 rfl rfl (wd hw 62 rfl) (wd hw 8 rfl) (ty := .long) (by decide) rfl rfl d4_26 rfl (M' := (nQ pA0 rA0 rA1 1 kA0 .null :: F)) rfl ?_
  refine Go.aloadN C d4_29 rfl rfl rfl ?_
  refine Go.aloadN C d4_30 rfl rfl rfl ?_
  refine Go.pf C (wd hw 63 rfl) Via.refl 0 4 rfl rfl (wd hw 64 rfl) (wd hw 8 rfl) (ty := (.object "java/lang/Object")) (by decide) rfl rfl d4_31 rfl (M' := (nQ pA0 rA0 rA1 1 kA0 (.ref eA0) :: F)) rfl ?_
  refine Go.ret0 C rfl d4_34 (by decide) (by decide) ?_
  exact ⟨rfl, rfl⟩
theorem u_SequenceQueue_add_84 (l : Launch) (Z : State) (a0 : Array Value) (hw : HW Z a0) (F : List Ent) (pA0 pA1 pA2 pA3 pA4 pA5 pA6 eA0 eA1 : Addr) (kA0 kA1 kA2 kA3 kA4 kA5 kA6 kA7 kA8 kA9 kA10 kA11 kA12 kA13 : Int64) (hE_eA0 : XI Z eA0) (hE_eA1 : XI Z eA1) :
    Met l Z yN14 prog_20_method_2_code 4 none { frames := 3, cells := 0, slots := 0, locals := 45 } #[(.ref pA0), (.long kA0), (.ref eA0)] (nQ pA0 pA1 pA4 1 kA1 (.ref eA1) :: nR pA1 pA2 pA3 0 0 :: nK pA2 kA2 kA3 kA4 kA5 kA6 kA7 :: nE pA3 .null .null .null .null .null .null :: nH pA4 pA5 pA6 0 :: nK pA5 kA8 kA9 kA10 kA11 kA12 kA13 :: nE pA6 .null .null .null .null .null .null :: F) (fun r M' => (r = none ∧ M' = (nQ pA0 pA1 pA4 1 kA0 (.ref eA0) :: nR pA1 pA2 pA3 1 0 :: nK pA2 kA1 kA3 kA4 kA5 kA6 kA7 :: nE pA3 (.ref eA1) .null .null .null .null .null :: nH pA4 pA5 pA6 0 :: nK pA5 kA8 kA9 kA10 kA11 kA12 kA13 :: nE pA6 .null .null .null .null .null .null :: F))) := by
  refine Met.of_go pn_10 (Ls := #[.val (.ref pA0), .val (.long kA0), .second, .val (.ref eA0)]) (fun m => rfl) ?_
  intro E C
  refine Go.aloadN C d4_0 rfl rfl rfl ?_
  refine Go.gf C (wd hw 59 rfl) 0 2 rfl rfl d4_1 rfl ?_
  refine Go.ifNo C d4_4 (q := 7) rfl (XT.i0_eq_f (by decide)) ?_
  refine Go.aloadN C d4_7 rfl rfl rfl ?_
  refine Go.aloadN C d4_8 rfl rfl rfl ?_
  refine Go.gf C (wd hw 61 rfl) 0 3 rfl rfl d4_9 rfl ?_
  refine Go.aloadN C d4_12 rfl rfl rfl ?_
  refine Go.gf C (wd hw 63 rfl) 0 4 rfl rfl d4_13 rfl ?_
  refine Go.callP C (y := yN6) (a := pA0) (as := [(.long kA1), (.ref eA1)]) (rest := []) (wd hw 65 rfl) (wd hw 66 rfl) (sel_priv (y := yN6) (wd hw 8 rfl) (wd hw 66 rfl) (wd hw 67 rfl) (by decide)) (wd hw 67 rfl) (wd hw 68 rfl) (wd hw 9 rfl) (fun _ r => r.exa 0 rfl) (u_SequenceQueue_place_4 l Z a0 hw _ pA0 pA1 pA2 pA3 eA1 eA1 pA4 kA1 kA1 kA2 kA3 kA4 kA5 kA6 kA7 hE_eA1 hE_eA1) rfl d4_16 (q := 19) rfl (by decide) rfl (na := 2) (by decide +kernel) rfl (by decide) (W := 0) rfl (by decide) (by decide) (by decide) (k' := 0) (n' := 0) rfl rfl ?_
  rintro _ _ ⟨rfl, rfl⟩
  show Go _ _ _ _ _ _ _ _ _ _ []
  refine Go.aloadN C d4_19 rfl rfl rfl ?_
  refine Go.iconst C d4_20 rfl (v := (1 : Int32)) rfl ?_
  refine Go.pf C (wd hw 59 rfl) Via.refl 3 2 rfl rfl (wd hw 60 rfl) (wd hw 8 rfl) (ty := .boolean) (by decide) rfl rfl d4_21 rfl (M' := (nR pA1 pA2 pA3 1 0 :: nK pA2 kA1 kA3 kA4 kA5 kA6 kA7 :: nE pA3 (.ref eA1) .null .null .null .null .null :: nQ pA0 pA1 pA4 1 kA1 (.ref eA1) :: nH pA4 pA5 pA6 0 :: nK pA5 kA8 kA9 kA10 kA11 kA12 kA13 :: nE pA6 .null .null .null .null .null .null :: F)) rfl ?_
  refine Go.aloadN C d4_24 rfl rfl rfl ?_
  refine Go.lloadN C d4_25 rfl rfl ?_
  refine Go.pf C (wd hw 61 rfl) Via.refl 3 3 rfl rfl (wd hw 62 rfl) (wd hw 8 rfl) (ty := .long) (by decide) rfl rfl d4_26 rfl (M' := (nR pA1 pA2 pA3 1 0 :: nK pA2 kA1 kA3 kA4 kA5 kA6 kA7 :: nE pA3 (.ref eA1) .null .null .null .null .null :: nQ pA0 pA1 pA4 1 kA0 (.ref eA1) :: nH pA4 pA5 pA6 0 :: nK pA5 kA8 kA9 kA10 kA11 kA12 kA13 :: nE pA6 .null .null .null .null .null .null :: F)) rfl ?_
  refine Go.aloadN C d4_29 rfl rfl rfl ?_
  refine Go.aloadN C d4_30 rfl rfl rfl ?_
  refine Go.pf C (wd hw 63 rfl) Via.refl 3 4 rfl rfl (wd hw 64 rfl) (wd hw 8 rfl) (ty := (.object "java/lang/Object")) (by decide) rfl rfl d4_31 rfl (M' := (nR pA1 pA2 pA3 1 0 :: nK pA2 kA1 kA3 kA4 kA5 kA6 kA7 :: nE pA3 (.ref eA1) .null .null .null .null .null :: nQ pA0 pA1 pA4 1 kA0 (.ref eA0) :: nH pA4 pA5 pA6 0 :: nK pA5 kA8 kA9 kA10 kA11 kA12 kA13 :: nE pA6 .null .null .null .null .null .null :: F)) rfl ?_
  refine Go.pick (M' := (nQ pA0 pA1 pA4 1 kA0 (.ref eA0) :: nR pA1 pA2 pA3 1 0 :: nK pA2 kA1 kA3 kA4 kA5 kA6 kA7 :: nE pA3 (.ref eA1) .null .null .null .null .null :: nH pA4 pA5 pA6 0 :: nK pA5 kA8 kA9 kA10 kA11 kA12 kA13 :: nE pA6 .null .null .null .null .null .null :: F)) 7 [3, 0, 1, 2, 4, 5, 6] (by decide) (by decide) rfl ?_
  refine Go.ret0 C rfl d4_34 (by decide) (by decide) ?_
  exact ⟨rfl, rfl⟩
theorem u_SequenceQueue_add_86 (l : Launch) (Z : State) (a0 : Array Value) (hw : HW Z a0) (F : List Ent) (pA0 pA1 pA2 pA3 pA4 pA5 pA6 eA0 eA1 eA2 : Addr) (kA0 kA1 kA2 kA3 kA4 kA5 kA6 kA7 kA8 kA9 kA10 kA11 kA12 kA13 : Int64) (hE_eA0 : XI Z eA0) (hE_eA1 : XI Z eA1) (hE_eA2 : XI Z eA2) :
    Met l Z yN14 prog_20_method_2_code 4 none { frames := 3, cells := 0, slots := 0, locals := 45 } #[(.ref pA0), (.long kA0), (.ref eA0)] (nQ pA0 pA1 pA4 1 kA1 (.ref eA1) :: nR pA1 pA2 pA3 1 0 :: nK pA2 kA2 kA3 kA4 kA5 kA6 kA7 :: nE pA3 (.ref eA2) .null .null .null .null .null :: nH pA4 pA5 pA6 0 :: nK pA5 kA8 kA9 kA10 kA11 kA12 kA13 :: nE pA6 .null .null .null .null .null .null :: F) (fun r M' => ((kA1 < kA2) ∧ r = none ∧ M' = (nQ pA0 pA1 pA4 1 kA0 (.ref eA0) :: nR pA1 pA2 pA3 1 0 :: nK pA2 kA2 kA3 kA4 kA5 kA6 kA7 :: nE pA3 (.ref eA2) .null .null .null .null .null :: nH pA4 pA5 pA6 1 :: nK pA5 kA1 kA9 kA10 kA11 kA12 kA13 :: nE pA6 (.ref eA1) .null .null .null .null .null :: F)) ∨ ((¬ kA1 < kA2) ∧ r = none ∧ M' = (nQ pA0 pA1 pA4 1 kA0 (.ref eA0) :: nR pA1 pA2 pA3 2 0 :: nK pA2 kA2 kA1 kA4 kA5 kA6 kA7 :: nE pA3 (.ref eA2) (.ref eA1) .null .null .null .null :: nH pA4 pA5 pA6 0 :: nK pA5 kA8 kA9 kA10 kA11 kA12 kA13 :: nE pA6 .null .null .null .null .null .null :: F))) := by
  refine Met.of_go pn_10 (Ls := #[.val (.ref pA0), .val (.long kA0), .second, .val (.ref eA0)]) (fun m => rfl) ?_
  intro E C
  refine Go.aloadN C d4_0 rfl rfl rfl ?_
  refine Go.gf C (wd hw 59 rfl) 0 2 rfl rfl d4_1 rfl ?_
  refine Go.ifNo C d4_4 (q := 7) rfl (XT.i0_eq_f (by decide)) ?_
  refine Go.aloadN C d4_7 rfl rfl rfl ?_
  refine Go.aloadN C d4_8 rfl rfl rfl ?_
  refine Go.gf C (wd hw 61 rfl) 0 3 rfl rfl d4_9 rfl ?_
  refine Go.aloadN C d4_12 rfl rfl rfl ?_
  refine Go.gf C (wd hw 63 rfl) 0 4 rfl rfl d4_13 rfl ?_
  refine Go.callP C (y := yN6) (a := pA0) (as := [(.long kA1), (.ref eA1)]) (rest := []) (wd hw 65 rfl) (wd hw 66 rfl) (sel_priv (y := yN6) (wd hw 8 rfl) (wd hw 66 rfl) (wd hw 67 rfl) (by decide)) (wd hw 67 rfl) (wd hw 68 rfl) (wd hw 9 rfl) (fun _ r => r.exa 0 rfl) (u_SequenceQueue_place_16 l Z a0 hw _ pA0 pA1 pA2 pA3 pA4 pA5 pA6 eA1 eA1 eA2 kA1 kA1 kA2 kA3 kA4 kA5 kA6 kA7 kA8 kA9 kA10 kA11 kA12 kA13 hE_eA1 hE_eA1 hE_eA2) rfl d4_16 (q := 19) rfl (by decide) rfl (na := 2) (by decide +kernel) rfl (by decide) (W := 0) rfl (by decide) (by decide) (by decide) (k' := 0) (n' := 0) rfl rfl ?_
  rintro _ _ (⟨hc1, rfl, rfl⟩ | ⟨hc2, rfl, rfl⟩)
  · show Go _ _ _ _ _ _ _ _ _ _ []
    refine Go.aloadN C d4_19 rfl rfl rfl ?_
    refine Go.iconst C d4_20 rfl (v := (1 : Int32)) rfl ?_
    refine Go.pf C (wd hw 59 rfl) Via.refl 5 2 rfl rfl (wd hw 60 rfl) (wd hw 8 rfl) (ty := .boolean) (by decide) rfl rfl d4_21 rfl (M' := (nH pA4 pA5 pA6 1 :: nK pA5 kA1 kA9 kA10 kA11 kA12 kA13 :: nE pA6 (.ref eA1) .null .null .null .null .null :: nR pA1 pA2 pA3 1 0 :: nK pA2 kA2 kA3 kA4 kA5 kA6 kA7 :: nQ pA0 pA1 pA4 1 kA1 (.ref eA1) :: nE pA3 (.ref eA2) .null .null .null .null .null :: F)) rfl ?_
    refine Go.aloadN C d4_24 rfl rfl rfl ?_
    refine Go.lloadN C d4_25 rfl rfl ?_
    refine Go.pf C (wd hw 61 rfl) Via.refl 5 3 rfl rfl (wd hw 62 rfl) (wd hw 8 rfl) (ty := .long) (by decide) rfl rfl d4_26 rfl (M' := (nH pA4 pA5 pA6 1 :: nK pA5 kA1 kA9 kA10 kA11 kA12 kA13 :: nE pA6 (.ref eA1) .null .null .null .null .null :: nR pA1 pA2 pA3 1 0 :: nK pA2 kA2 kA3 kA4 kA5 kA6 kA7 :: nQ pA0 pA1 pA4 1 kA0 (.ref eA1) :: nE pA3 (.ref eA2) .null .null .null .null .null :: F)) rfl ?_
    refine Go.aloadN C d4_29 rfl rfl rfl ?_
    refine Go.aloadN C d4_30 rfl rfl rfl ?_
    refine Go.pf C (wd hw 63 rfl) Via.refl 5 4 rfl rfl (wd hw 64 rfl) (wd hw 8 rfl) (ty := (.object "java/lang/Object")) (by decide) rfl rfl d4_31 rfl (M' := (nH pA4 pA5 pA6 1 :: nK pA5 kA1 kA9 kA10 kA11 kA12 kA13 :: nE pA6 (.ref eA1) .null .null .null .null .null :: nR pA1 pA2 pA3 1 0 :: nK pA2 kA2 kA3 kA4 kA5 kA6 kA7 :: nQ pA0 pA1 pA4 1 kA0 (.ref eA0) :: nE pA3 (.ref eA2) .null .null .null .null .null :: F)) rfl ?_
    refine Go.pick (M' := (nQ pA0 pA1 pA4 1 kA0 (.ref eA0) :: nR pA1 pA2 pA3 1 0 :: nK pA2 kA2 kA3 kA4 kA5 kA6 kA7 :: nE pA3 (.ref eA2) .null .null .null .null .null :: nH pA4 pA5 pA6 1 :: nK pA5 kA1 kA9 kA10 kA11 kA12 kA13 :: nE pA6 (.ref eA1) .null .null .null .null .null :: F)) 7 [5, 3, 4, 6, 0, 1, 2] (by decide) (by decide) rfl ?_
    refine Go.ret0 C rfl d4_34 (by decide) (by decide) ?_
    exact Or.inl ⟨hc1, rfl, rfl⟩
  · show Go _ _ _ _ _ _ _ _ _ _ []
    refine Go.aloadN C d4_19 rfl rfl rfl ?_
    refine Go.iconst C d4_20 rfl (v := (1 : Int32)) rfl ?_
    refine Go.pf C (wd hw 59 rfl) Via.refl 3 2 rfl rfl (wd hw 60 rfl) (wd hw 8 rfl) (ty := .boolean) (by decide) rfl rfl d4_21 rfl (M' := (nR pA1 pA2 pA3 2 0 :: nK pA2 kA2 kA1 kA4 kA5 kA6 kA7 :: nE pA3 (.ref eA2) (.ref eA1) .null .null .null .null :: nQ pA0 pA1 pA4 1 kA1 (.ref eA1) :: nH pA4 pA5 pA6 0 :: nK pA5 kA8 kA9 kA10 kA11 kA12 kA13 :: nE pA6 .null .null .null .null .null .null :: F)) rfl ?_
    refine Go.aloadN C d4_24 rfl rfl rfl ?_
    refine Go.lloadN C d4_25 rfl rfl ?_
    refine Go.pf C (wd hw 61 rfl) Via.refl 3 3 rfl rfl (wd hw 62 rfl) (wd hw 8 rfl) (ty := .long) (by decide) rfl rfl d4_26 rfl (M' := (nR pA1 pA2 pA3 2 0 :: nK pA2 kA2 kA1 kA4 kA5 kA6 kA7 :: nE pA3 (.ref eA2) (.ref eA1) .null .null .null .null :: nQ pA0 pA1 pA4 1 kA0 (.ref eA1) :: nH pA4 pA5 pA6 0 :: nK pA5 kA8 kA9 kA10 kA11 kA12 kA13 :: nE pA6 .null .null .null .null .null .null :: F)) rfl ?_
    refine Go.aloadN C d4_29 rfl rfl rfl ?_
    refine Go.aloadN C d4_30 rfl rfl rfl ?_
    refine Go.pf C (wd hw 63 rfl) Via.refl 3 4 rfl rfl (wd hw 64 rfl) (wd hw 8 rfl) (ty := (.object "java/lang/Object")) (by decide) rfl rfl d4_31 rfl (M' := (nR pA1 pA2 pA3 2 0 :: nK pA2 kA2 kA1 kA4 kA5 kA6 kA7 :: nE pA3 (.ref eA2) (.ref eA1) .null .null .null .null :: nQ pA0 pA1 pA4 1 kA0 (.ref eA0) :: nH pA4 pA5 pA6 0 :: nK pA5 kA8 kA9 kA10 kA11 kA12 kA13 :: nE pA6 .null .null .null .null .null .null :: F)) rfl ?_
    refine Go.pick (M' := (nQ pA0 pA1 pA4 1 kA0 (.ref eA0) :: nR pA1 pA2 pA3 2 0 :: nK pA2 kA2 kA1 kA4 kA5 kA6 kA7 :: nE pA3 (.ref eA2) (.ref eA1) .null .null .null .null :: nH pA4 pA5 pA6 0 :: nK pA5 kA8 kA9 kA10 kA11 kA12 kA13 :: nE pA6 .null .null .null .null .null .null :: F)) 7 [3, 0, 1, 2, 4, 5, 6] (by decide) (by decide) rfl ?_
    refine Go.ret0 C rfl d4_34 (by decide) (by decide) ?_
    exact Or.inr (⟨hc2, rfl, rfl⟩)
theorem u_SequenceQueue_add_88 (l : Launch) (Z : State) (a0 : Array Value) (hw : HW Z a0) (F : List Ent) (pA0 pA1 pA2 pA3 pA4 pA5 pA6 eA0 eA1 eA2 eA3 : Addr) (kA0 kA1 kA2 kA3 kA4 kA5 kA6 kA7 kA8 kA9 kA10 kA11 kA12 kA13 : Int64) (hE_eA0 : XI Z eA0) (hE_eA1 : XI Z eA1) (hE_eA2 : XI Z eA2) (hE_eA3 : XI Z eA3) :
    Met l Z yN14 prog_20_method_2_code 4 none { frames := 3, cells := 0, slots := 0, locals := 45 } #[(.ref pA0), (.long kA0), (.ref eA0)] (nQ pA0 pA1 pA4 1 kA1 (.ref eA1) :: nR pA1 pA2 pA3 1 0 :: nK pA2 kA2 kA3 kA4 kA5 kA6 kA7 :: nE pA3 (.ref eA2) .null .null .null .null .null :: nH pA4 pA5 pA6 1 :: nK pA5 kA8 kA9 kA10 kA11 kA12 kA13 :: nE pA6 (.ref eA3) .null .null .null .null .null :: F) (fun r M' => ((kA1 < kA2) ∧ (kA1 < kA8) ∧ r = none ∧ M' = (nQ pA0 pA1 pA4 1 kA0 (.ref eA0) :: nR pA1 pA2 pA3 1 0 :: nK pA2 kA2 kA3 kA4 kA5 kA6 kA7 :: nE pA3 (.ref eA2) .null .null .null .null .null :: nH pA4 pA5 pA6 2 :: nK pA5 kA1 kA8 kA10 kA11 kA12 kA13 :: nE pA6 (.ref eA1) (.ref eA3) .null .null .null .null :: F)) ∨ ((kA1 < kA2) ∧ (¬ kA1 < kA8) ∧ r = none ∧ M' = (nQ pA0 pA1 pA4 1 kA0 (.ref eA0) :: nR pA1 pA2 pA3 1 0 :: nK pA2 kA2 kA3 kA4 kA5 kA6 kA7 :: nE pA3 (.ref eA2) .null .null .null .null .null :: nH pA4 pA5 pA6 2 :: nK pA5 kA8 kA1 kA10 kA11 kA12 kA13 :: nE pA6 (.ref eA3) (.ref eA1) .null .null .null .null :: F)) ∨ ((¬ kA1 < kA2) ∧ r = none ∧ M' = (nQ pA0 pA1 pA4 1 kA0 (.ref eA0) :: nR pA1 pA2 pA3 2 0 :: nK pA2 kA2 kA1 kA4 kA5 kA6 kA7 :: nE pA3 (.ref eA2) (.ref eA1) .null .null .null .null :: nH pA4 pA5 pA6 1 :: nK pA5 kA8 kA9 kA10 kA11 kA12 kA13 :: nE pA6 (.ref eA3) .null .null .null .null .null :: F))) := by
  refine Met.of_go pn_10 (Ls := #[.val (.ref pA0), .val (.long kA0), .second, .val (.ref eA0)]) (fun m => rfl) ?_
  intro E C
  refine Go.aloadN C d4_0 rfl rfl rfl ?_
  refine Go.gf C (wd hw 59 rfl) 0 2 rfl rfl d4_1 rfl ?_
  refine Go.ifNo C d4_4 (q := 7) rfl (XT.i0_eq_f (by decide)) ?_
  refine Go.aloadN C d4_7 rfl rfl rfl ?_
  refine Go.aloadN C d4_8 rfl rfl rfl ?_
  refine Go.gf C (wd hw 61 rfl) 0 3 rfl rfl d4_9 rfl ?_
  refine Go.aloadN C d4_12 rfl rfl rfl ?_
  refine Go.gf C (wd hw 63 rfl) 0 4 rfl rfl d4_13 rfl ?_
  refine Go.callP C (y := yN6) (a := pA0) (as := [(.long kA1), (.ref eA1)]) (rest := []) (wd hw 65 rfl) (wd hw 66 rfl) (sel_priv (y := yN6) (wd hw 8 rfl) (wd hw 66 rfl) (wd hw 67 rfl) (by decide)) (wd hw 67 rfl) (wd hw 68 rfl) (wd hw 9 rfl) (fun _ r => r.exa 0 rfl) (u_SequenceQueue_place_22 l Z a0 hw _ pA0 pA1 pA2 pA3 pA4 pA5 pA6 eA1 eA1 eA2 eA3 kA1 kA1 kA2 kA3 kA4 kA5 kA6 kA7 kA8 kA9 kA10 kA11 kA12 kA13 hE_eA1 hE_eA1 hE_eA2 hE_eA3) rfl d4_16 (q := 19) rfl (by decide) rfl (na := 2) (by decide +kernel) rfl (by decide) (W := 0) rfl (by decide) (by decide) (by decide) (k' := 0) (n' := 0) rfl rfl ?_
  rintro _ _ (⟨hc3, hc4, rfl, rfl⟩ | ⟨hc5, hc6, rfl, rfl⟩ | ⟨hc7, rfl, rfl⟩)
  · show Go _ _ _ _ _ _ _ _ _ _ []
    refine Go.aloadN C d4_19 rfl rfl rfl ?_
    refine Go.iconst C d4_20 rfl (v := (1 : Int32)) rfl ?_
    refine Go.pf C (wd hw 59 rfl) Via.refl 5 2 rfl rfl (wd hw 60 rfl) (wd hw 8 rfl) (ty := .boolean) (by decide) rfl rfl d4_21 rfl (M' := (nH pA4 pA5 pA6 2 :: nK pA5 kA1 kA8 kA10 kA11 kA12 kA13 :: nE pA6 (.ref eA1) (.ref eA3) .null .null .null .null :: nR pA1 pA2 pA3 1 0 :: nK pA2 kA2 kA3 kA4 kA5 kA6 kA7 :: nQ pA0 pA1 pA4 1 kA1 (.ref eA1) :: nE pA3 (.ref eA2) .null .null .null .null .null :: F)) rfl ?_
    refine Go.aloadN C d4_24 rfl rfl rfl ?_
    refine Go.lloadN C d4_25 rfl rfl ?_
    refine Go.pf C (wd hw 61 rfl) Via.refl 5 3 rfl rfl (wd hw 62 rfl) (wd hw 8 rfl) (ty := .long) (by decide) rfl rfl d4_26 rfl (M' := (nH pA4 pA5 pA6 2 :: nK pA5 kA1 kA8 kA10 kA11 kA12 kA13 :: nE pA6 (.ref eA1) (.ref eA3) .null .null .null .null :: nR pA1 pA2 pA3 1 0 :: nK pA2 kA2 kA3 kA4 kA5 kA6 kA7 :: nQ pA0 pA1 pA4 1 kA0 (.ref eA1) :: nE pA3 (.ref eA2) .null .null .null .null .null :: F)) rfl ?_
    refine Go.aloadN C d4_29 rfl rfl rfl ?_
    refine Go.aloadN C d4_30 rfl rfl rfl ?_
    refine Go.pf C (wd hw 63 rfl) Via.refl 5 4 rfl rfl (wd hw 64 rfl) (wd hw 8 rfl) (ty := (.object "java/lang/Object")) (by decide) rfl rfl d4_31 rfl (M' := (nH pA4 pA5 pA6 2 :: nK pA5 kA1 kA8 kA10 kA11 kA12 kA13 :: nE pA6 (.ref eA1) (.ref eA3) .null .null .null .null :: nR pA1 pA2 pA3 1 0 :: nK pA2 kA2 kA3 kA4 kA5 kA6 kA7 :: nQ pA0 pA1 pA4 1 kA0 (.ref eA0) :: nE pA3 (.ref eA2) .null .null .null .null .null :: F)) rfl ?_
    refine Go.pick (M' := (nQ pA0 pA1 pA4 1 kA0 (.ref eA0) :: nR pA1 pA2 pA3 1 0 :: nK pA2 kA2 kA3 kA4 kA5 kA6 kA7 :: nE pA3 (.ref eA2) .null .null .null .null .null :: nH pA4 pA5 pA6 2 :: nK pA5 kA1 kA8 kA10 kA11 kA12 kA13 :: nE pA6 (.ref eA1) (.ref eA3) .null .null .null .null :: F)) 7 [5, 3, 4, 6, 0, 1, 2] (by decide) (by decide) rfl ?_
    refine Go.ret0 C rfl d4_34 (by decide) (by decide) ?_
    exact Or.inl ⟨hc3, hc4, rfl, rfl⟩
  · show Go _ _ _ _ _ _ _ _ _ _ []
    refine Go.aloadN C d4_19 rfl rfl rfl ?_
    refine Go.iconst C d4_20 rfl (v := (1 : Int32)) rfl ?_
    refine Go.pf C (wd hw 59 rfl) Via.refl 5 2 rfl rfl (wd hw 60 rfl) (wd hw 8 rfl) (ty := .boolean) (by decide) rfl rfl d4_21 rfl (M' := (nH pA4 pA5 pA6 2 :: nK pA5 kA8 kA1 kA10 kA11 kA12 kA13 :: nE pA6 (.ref eA3) (.ref eA1) .null .null .null .null :: nR pA1 pA2 pA3 1 0 :: nK pA2 kA2 kA3 kA4 kA5 kA6 kA7 :: nQ pA0 pA1 pA4 1 kA1 (.ref eA1) :: nE pA3 (.ref eA2) .null .null .null .null .null :: F)) rfl ?_
    refine Go.aloadN C d4_24 rfl rfl rfl ?_
    refine Go.lloadN C d4_25 rfl rfl ?_
    refine Go.pf C (wd hw 61 rfl) Via.refl 5 3 rfl rfl (wd hw 62 rfl) (wd hw 8 rfl) (ty := .long) (by decide) rfl rfl d4_26 rfl (M' := (nH pA4 pA5 pA6 2 :: nK pA5 kA8 kA1 kA10 kA11 kA12 kA13 :: nE pA6 (.ref eA3) (.ref eA1) .null .null .null .null :: nR pA1 pA2 pA3 1 0 :: nK pA2 kA2 kA3 kA4 kA5 kA6 kA7 :: nQ pA0 pA1 pA4 1 kA0 (.ref eA1) :: nE pA3 (.ref eA2) .null .null .null .null .null :: F)) rfl ?_
    refine Go.aloadN C d4_29 rfl rfl rfl ?_
    refine Go.aloadN C d4_30 rfl rfl rfl ?_
    refine Go.pf C (wd hw 63 rfl) Via.refl 5 4 rfl rfl (wd hw 64 rfl) (wd hw 8 rfl) (ty := (.object "java/lang/Object")) (by decide) rfl rfl d4_31 rfl (M' := (nH pA4 pA5 pA6 2 :: nK pA5 kA8 kA1 kA10 kA11 kA12 kA13 :: nE pA6 (.ref eA3) (.ref eA1) .null .null .null .null :: nR pA1 pA2 pA3 1 0 :: nK pA2 kA2 kA3 kA4 kA5 kA6 kA7 :: nQ pA0 pA1 pA4 1 kA0 (.ref eA0) :: nE pA3 (.ref eA2) .null .null .null .null .null :: F)) rfl ?_
    refine Go.pick (M' := (nQ pA0 pA1 pA4 1 kA0 (.ref eA0) :: nR pA1 pA2 pA3 1 0 :: nK pA2 kA2 kA3 kA4 kA5 kA6 kA7 :: nE pA3 (.ref eA2) .null .null .null .null .null :: nH pA4 pA5 pA6 2 :: nK pA5 kA8 kA1 kA10 kA11 kA12 kA13 :: nE pA6 (.ref eA3) (.ref eA1) .null .null .null .null :: F)) 7 [5, 3, 4, 6, 0, 1, 2] (by decide) (by decide) rfl ?_
    refine Go.ret0 C rfl d4_34 (by decide) (by decide) ?_
    exact Or.inr (Or.inl ⟨hc5, hc6, rfl, rfl⟩)
  · show Go _ _ _ _ _ _ _ _ _ _ []
    refine Go.aloadN C d4_19 rfl rfl rfl ?_
    refine Go.iconst C d4_20 rfl (v := (1 : Int32)) rfl ?_
    refine Go.pf C (wd hw 59 rfl) Via.refl 3 2 rfl rfl (wd hw 60 rfl) (wd hw 8 rfl) (ty := .boolean) (by decide) rfl rfl d4_21 rfl (M' := (nR pA1 pA2 pA3 2 0 :: nK pA2 kA2 kA1 kA4 kA5 kA6 kA7 :: nE pA3 (.ref eA2) (.ref eA1) .null .null .null .null :: nQ pA0 pA1 pA4 1 kA1 (.ref eA1) :: nH pA4 pA5 pA6 1 :: nK pA5 kA8 kA9 kA10 kA11 kA12 kA13 :: nE pA6 (.ref eA3) .null .null .null .null .null :: F)) rfl ?_
    refine Go.aloadN C d4_24 rfl rfl rfl ?_
    refine Go.lloadN C d4_25 rfl rfl ?_
    refine Go.pf C (wd hw 61 rfl) Via.refl 3 3 rfl rfl (wd hw 62 rfl) (wd hw 8 rfl) (ty := .long) (by decide) rfl rfl d4_26 rfl (M' := (nR pA1 pA2 pA3 2 0 :: nK pA2 kA2 kA1 kA4 kA5 kA6 kA7 :: nE pA3 (.ref eA2) (.ref eA1) .null .null .null .null :: nQ pA0 pA1 pA4 1 kA0 (.ref eA1) :: nH pA4 pA5 pA6 1 :: nK pA5 kA8 kA9 kA10 kA11 kA12 kA13 :: nE pA6 (.ref eA3) .null .null .null .null .null :: F)) rfl ?_
    refine Go.aloadN C d4_29 rfl rfl rfl ?_
    refine Go.aloadN C d4_30 rfl rfl rfl ?_
    refine Go.pf C (wd hw 63 rfl) Via.refl 3 4 rfl rfl (wd hw 64 rfl) (wd hw 8 rfl) (ty := (.object "java/lang/Object")) (by decide) rfl rfl d4_31 rfl (M' := (nR pA1 pA2 pA3 2 0 :: nK pA2 kA2 kA1 kA4 kA5 kA6 kA7 :: nE pA3 (.ref eA2) (.ref eA1) .null .null .null .null :: nQ pA0 pA1 pA4 1 kA0 (.ref eA0) :: nH pA4 pA5 pA6 1 :: nK pA5 kA8 kA9 kA10 kA11 kA12 kA13 :: nE pA6 (.ref eA3) .null .null .null .null .null :: F)) rfl ?_
    refine Go.pick (M' := (nQ pA0 pA1 pA4 1 kA0 (.ref eA0) :: nR pA1 pA2 pA3 2 0 :: nK pA2 kA2 kA1 kA4 kA5 kA6 kA7 :: nE pA3 (.ref eA2) (.ref eA1) .null .null .null .null :: nH pA4 pA5 pA6 1 :: nK pA5 kA8 kA9 kA10 kA11 kA12 kA13 :: nE pA6 (.ref eA3) .null .null .null .null .null :: F)) 7 [3, 0, 1, 2, 4, 5, 6] (by decide) (by decide) rfl ?_
    refine Go.ret0 C rfl d4_34 (by decide) (by decide) ?_
    exact Or.inr (Or.inr (⟨hc7, rfl, rfl⟩))
theorem u_SequenceQueue_add_90 (l : Launch) (Z : State) (a0 : Array Value) (hw : HW Z a0) (F : List Ent) (pA0 pA1 pA2 pA3 pA4 pA5 pA6 eA0 eA1 eA2 eA3 : Addr) (kA0 kA1 kA2 kA3 kA4 kA5 kA6 kA7 kA8 kA9 kA10 kA11 kA12 kA13 : Int64) (hE_eA0 : XI Z eA0) (hE_eA1 : XI Z eA1) (hE_eA2 : XI Z eA2) (hE_eA3 : XI Z eA3) (hK0 : ¬ kA3 < kA2) :
    Met l Z yN14 prog_20_method_2_code 4 none { frames := 3, cells := 0, slots := 0, locals := 45 } #[(.ref pA0), (.long kA0), (.ref eA0)] (nQ pA0 pA1 pA4 1 kA1 (.ref eA1) :: nR pA1 pA2 pA3 2 0 :: nK pA2 kA2 kA3 kA4 kA5 kA6 kA7 :: nE pA3 (.ref eA2) (.ref eA3) .null .null .null .null :: nH pA4 pA5 pA6 0 :: nK pA5 kA8 kA9 kA10 kA11 kA12 kA13 :: nE pA6 .null .null .null .null .null .null :: F) (fun r M' => ((kA1 < kA3) ∧ r = none ∧ M' = (nQ pA0 pA1 pA4 1 kA0 (.ref eA0) :: nR pA1 pA2 pA3 2 0 :: nK pA2 kA2 kA3 kA4 kA5 kA6 kA7 :: nE pA3 (.ref eA2) (.ref eA3) .null .null .null .null :: nH pA4 pA5 pA6 1 :: nK pA5 kA1 kA9 kA10 kA11 kA12 kA13 :: nE pA6 (.ref eA1) .null .null .null .null .null :: F)) ∨ ((¬ kA1 < kA3) ∧ r = none ∧ M' = (nQ pA0 pA1 pA4 1 kA0 (.ref eA0) :: nR pA1 pA2 pA3 3 0 :: nK pA2 kA2 kA3 kA1 kA5 kA6 kA7 :: nE pA3 (.ref eA2) (.ref eA3) (.ref eA1) .null .null .null :: nH pA4 pA5 pA6 0 :: nK pA5 kA8 kA9 kA10 kA11 kA12 kA13 :: nE pA6 .null .null .null .null .null .null :: F))) := by
  refine Met.of_go pn_10 (Ls := #[.val (.ref pA0), .val (.long kA0), .second, .val (.ref eA0)]) (fun m => rfl) ?_
  intro E C
  refine Go.aloadN C d4_0 rfl rfl rfl ?_
  refine Go.gf C (wd hw 59 rfl) 0 2 rfl rfl d4_1 rfl ?_
  refine Go.ifNo C d4_4 (q := 7) rfl (XT.i0_eq_f (by decide)) ?_
  refine Go.aloadN C d4_7 rfl rfl rfl ?_
  refine Go.aloadN C d4_8 rfl rfl rfl ?_
  refine Go.gf C (wd hw 61 rfl) 0 3 rfl rfl d4_9 rfl ?_
  refine Go.aloadN C d4_12 rfl rfl rfl ?_
  refine Go.gf C (wd hw 63 rfl) 0 4 rfl rfl d4_13 rfl ?_
  refine Go.callP C (y := yN6) (a := pA0) (as := [(.long kA1), (.ref eA1)]) (rest := []) (wd hw 65 rfl) (wd hw 66 rfl) (sel_priv (y := yN6) (wd hw 8 rfl) (wd hw 66 rfl) (wd hw 67 rfl) (by decide)) (wd hw 67 rfl) (wd hw 68 rfl) (wd hw 9 rfl) (fun _ r => r.exa 0 rfl) (u_SequenceQueue_place_37 l Z a0 hw _ pA0 pA1 pA2 pA3 pA4 pA5 pA6 eA1 eA1 eA2 eA3 kA1 kA1 kA2 kA3 kA4 kA5 kA6 kA7 kA8 kA9 kA10 kA11 kA12 kA13 hE_eA1 hE_eA1 hE_eA2 hE_eA3) rfl d4_16 (q := 19) rfl (by decide) rfl (na := 2) (by decide +kernel) rfl (by decide) (W := 0) rfl (by decide) (by decide) (by decide) (k' := 0) (n' := 0) rfl rfl ?_
  rintro _ _ (⟨hc8, rfl, rfl⟩ | ⟨hc9, rfl, rfl⟩)
  · show Go _ _ _ _ _ _ _ _ _ _ []
    refine Go.aloadN C d4_19 rfl rfl rfl ?_
    refine Go.iconst C d4_20 rfl (v := (1 : Int32)) rfl ?_
    refine Go.pf C (wd hw 59 rfl) Via.refl 5 2 rfl rfl (wd hw 60 rfl) (wd hw 8 rfl) (ty := .boolean) (by decide) rfl rfl d4_21 rfl (M' := (nH pA4 pA5 pA6 1 :: nK pA5 kA1 kA9 kA10 kA11 kA12 kA13 :: nE pA6 (.ref eA1) .null .null .null .null .null :: nR pA1 pA2 pA3 2 0 :: nK pA2 kA2 kA3 kA4 kA5 kA6 kA7 :: nQ pA0 pA1 pA4 1 kA1 (.ref eA1) :: nE pA3 (.ref eA2) (.ref eA3) .null .null .null .null :: F)) rfl ?_
    refine Go.aloadN C d4_24 rfl rfl rfl ?_
    refine Go.lloadN C d4_25 rfl rfl ?_
    refine Go.pf C (wd hw 61 rfl) Via.refl 5 3 rfl rfl (wd hw 62 rfl) (wd hw 8 rfl) (ty := .long) (by decide) rfl rfl d4_26 rfl (M' := (nH pA4 pA5 pA6 1 :: nK pA5 kA1 kA9 kA10 kA11 kA12 kA13 :: nE pA6 (.ref eA1) .null .null .null .null .null :: nR pA1 pA2 pA3 2 0 :: nK pA2 kA2 kA3 kA4 kA5 kA6 kA7 :: nQ pA0 pA1 pA4 1 kA0 (.ref eA1) :: nE pA3 (.ref eA2) (.ref eA3) .null .null .null .null :: F)) rfl ?_
    refine Go.aloadN C d4_29 rfl rfl rfl ?_
    refine Go.aloadN C d4_30 rfl rfl rfl ?_
    refine Go.pf C (wd hw 63 rfl) Via.refl 5 4 rfl rfl (wd hw 64 rfl) (wd hw 8 rfl) (ty := (.object "java/lang/Object")) (by decide) rfl rfl d4_31 rfl (M' := (nH pA4 pA5 pA6 1 :: nK pA5 kA1 kA9 kA10 kA11 kA12 kA13 :: nE pA6 (.ref eA1) .null .null .null .null .null :: nR pA1 pA2 pA3 2 0 :: nK pA2 kA2 kA3 kA4 kA5 kA6 kA7 :: nQ pA0 pA1 pA4 1 kA0 (.ref eA0) :: nE pA3 (.ref eA2) (.ref eA3) .null .null .null .null :: F)) rfl ?_
    refine Go.pick (M' := (nQ pA0 pA1 pA4 1 kA0 (.ref eA0) :: nR pA1 pA2 pA3 2 0 :: nK pA2 kA2 kA3 kA4 kA5 kA6 kA7 :: nE pA3 (.ref eA2) (.ref eA3) .null .null .null .null :: nH pA4 pA5 pA6 1 :: nK pA5 kA1 kA9 kA10 kA11 kA12 kA13 :: nE pA6 (.ref eA1) .null .null .null .null .null :: F)) 7 [5, 3, 4, 6, 0, 1, 2] (by decide) (by decide) rfl ?_
    refine Go.ret0 C rfl d4_34 (by decide) (by decide) ?_
    exact Or.inl ⟨hc8, rfl, rfl⟩
  · show Go _ _ _ _ _ _ _ _ _ _ []
    refine Go.aloadN C d4_19 rfl rfl rfl ?_
    refine Go.iconst C d4_20 rfl (v := (1 : Int32)) rfl ?_
    refine Go.pf C (wd hw 59 rfl) Via.refl 3 2 rfl rfl (wd hw 60 rfl) (wd hw 8 rfl) (ty := .boolean) (by decide) rfl rfl d4_21 rfl (M' := (nR pA1 pA2 pA3 3 0 :: nK pA2 kA2 kA3 kA1 kA5 kA6 kA7 :: nE pA3 (.ref eA2) (.ref eA3) (.ref eA1) .null .null .null :: nQ pA0 pA1 pA4 1 kA1 (.ref eA1) :: nH pA4 pA5 pA6 0 :: nK pA5 kA8 kA9 kA10 kA11 kA12 kA13 :: nE pA6 .null .null .null .null .null .null :: F)) rfl ?_
    refine Go.aloadN C d4_24 rfl rfl rfl ?_
    refine Go.lloadN C d4_25 rfl rfl ?_
    refine Go.pf C (wd hw 61 rfl) Via.refl 3 3 rfl rfl (wd hw 62 rfl) (wd hw 8 rfl) (ty := .long) (by decide) rfl rfl d4_26 rfl (M' := (nR pA1 pA2 pA3 3 0 :: nK pA2 kA2 kA3 kA1 kA5 kA6 kA7 :: nE pA3 (.ref eA2) (.ref eA3) (.ref eA1) .null .null .null :: nQ pA0 pA1 pA4 1 kA0 (.ref eA1) :: nH pA4 pA5 pA6 0 :: nK pA5 kA8 kA9 kA10 kA11 kA12 kA13 :: nE pA6 .null .null .null .null .null .null :: F)) rfl ?_
    refine Go.aloadN C d4_29 rfl rfl rfl ?_
    refine Go.aloadN C d4_30 rfl rfl rfl ?_
    refine Go.pf C (wd hw 63 rfl) Via.refl 3 4 rfl rfl (wd hw 64 rfl) (wd hw 8 rfl) (ty := (.object "java/lang/Object")) (by decide) rfl rfl d4_31 rfl (M' := (nR pA1 pA2 pA3 3 0 :: nK pA2 kA2 kA3 kA1 kA5 kA6 kA7 :: nE pA3 (.ref eA2) (.ref eA3) (.ref eA1) .null .null .null :: nQ pA0 pA1 pA4 1 kA0 (.ref eA0) :: nH pA4 pA5 pA6 0 :: nK pA5 kA8 kA9 kA10 kA11 kA12 kA13 :: nE pA6 .null .null .null .null .null .null :: F)) rfl ?_
    refine Go.pick (M' := (nQ pA0 pA1 pA4 1 kA0 (.ref eA0) :: nR pA1 pA2 pA3 3 0 :: nK pA2 kA2 kA3 kA1 kA5 kA6 kA7 :: nE pA3 (.ref eA2) (.ref eA3) (.ref eA1) .null .null .null :: nH pA4 pA5 pA6 0 :: nK pA5 kA8 kA9 kA10 kA11 kA12 kA13 :: nE pA6 .null .null .null .null .null .null :: F)) 7 [3, 0, 1, 2, 4, 5, 6] (by decide) (by decide) rfl ?_
    refine Go.ret0 C rfl d4_34 (by decide) (by decide) ?_
    exact Or.inr (⟨hc9, rfl, rfl⟩)
theorem own_addA (l : Launch) (Z : State) (a0 : Array Value) (hw : ∀ d ∈ tables_1, d.before a0 Z = true) (F : List Ent) (K : Nat → Int64) (e : Nat → Addr) (hE : ∀ i, Exa Z Z.heap (e i) "java/lang/Integer") (q : Addr) {t : Nat} {L : List Nat} {M : List Ent} (i : Nat) (ht0 : t ∈ [0, 1, 2, 3]) (hQ : QS K e q t L M) :
    Met l Z yN14 prog_20_method_2_code 4 none { frames := 3, cells := 0, slots := 0, locals := 45 } #[(.ref q), (.long (K i)), (.ref (e i))] (M ++ F) (fun r M' => r = none ∧ ∃ M2, QS K e q (t + 1) (i :: L) M2 ∧ M' = M2 ++ F) := by
  obtain ⟨-, L0, n, hp, h⟩ := hQ
  match n, h with
  | 0, h =>
    obtain ⟨pr, pk, pe, ph, pj, pf, z, x0, x1, x2, x3, x4, x5, y0, y1, y2, y3, y4, y5, ht, rfl, rfl⟩ := h
   
    obtain rfl : t = 0 := by simp at ht ht0; omega
    refine Met.mono (u_SequenceQueue_add_82 l Z a0 hw _ q (e i) pr ph (K i) z (hE i)) ?_
    rintro _ _ ⟨rfl, rfl⟩
    · exact ⟨rfl, _, QS.c1000 (by decide) pr pk pe ph pj pf i x0 x1 x2 x3 x4 x5 y0 y1 y2 y3 y4 y5  (((by rw [List.perm_iff_count]; intro a; simp only [List.count_cons, List.count_nil] <;> omega) : List.Perm ([i] : List Nat) (i :: [])).trans (hp.cons i)), rfl⟩
  | 1, h =>
    obtain ⟨pr, pk, pe, ph, pj, pf, z, x0, x1, x2, x3, x4, x5, y0, y1, y2, y3, y4, y5, ht, rfl, rfl⟩ := h
    exact absurd ht0 (by simp at ht ⊢; omega)
  | 2, h =>
    obtain ⟨pr, pk, pe, ph, pj, pf, j0, z, x0, x1, x2, x3, x4, x5, y1, y2, y3, y4, y5, ht, rfl, rfl⟩ := h
    exact absurd ht0 (by simp at ht ⊢; omega)
  | 3, h =>
    obtain ⟨pr, pk, pe, ph, pj, pf, j0, j1, z, x0, x1, x2, x3, x4, x5, y2, y3, y4, y5, ht, hv0, rfl, rfl⟩ := h
    exact absurd ht0 (by simp at ht ⊢; omega)
  | 4, h =>
    obtain ⟨pr, pk, pe, ph, pj, pf, j0, j1, j2, z, x0, x1, x2, x3, x4, x5, y3, y4, y5, ht, hv0, hv1, rfl, rfl⟩ := h
    exact absurd ht0 (by simp at ht ⊢; omega)
  | 5, h =>
    obtain ⟨pr, pk, pe, ph, pj, pf, z, x0, x1, x2, x3, x4, x5, y0, y1, y2, y3, y4, y5, ht, rfl, rfl⟩ := h
    exact absurd ht0 (by simp at ht ⊢; omega)
  | 6, h =>
    obtain ⟨pr, pk, pe, ph, pj, pf, j0, z, x0, x1, x2, x3, x4, x5, y1, y2, y3, y4, y5, ht, rfl, rfl⟩ := h
    exact absurd ht0 (by simp at ht ⊢; omega)
  | 7, h =>
    obtain ⟨pr, pk, pe, ph, pj, pf, j0, j1, z, x0, x1, x2, x3, x4, x5, y2, y3, y4, y5, ht, hv0, rfl, rfl⟩ := h
    exact absurd ht0 (by simp at ht ⊢; omega)
  | 8, h =>
    obtain ⟨pr, pk, pe, ph, pj, pf, i0, z, x1, x2, x3, x4, x5, y0, y1, y2, y3, y4, y5, ht, rfl, rfl⟩ := h
    exact absurd ht0 (by simp at ht ⊢; omega)
  | 9, h =>
    obtain ⟨pr, pk, pe, ph, pj, pf, i0, j0, z, x1, x2, x3, x4, x5, y1, y2, y3, y4, y5, ht, rfl, rfl⟩ := h
    exact absurd ht0 (by simp at ht ⊢; omega)
  | 10, h =>
    obtain ⟨pr, pk, pe, ph, pj, pf, i0, j0, j1, z, x1, x2, x3, x4, x5, y2, y3, y4, y5, ht, hv0, rfl, rfl⟩ := h
    exact absurd ht0 (by simp at ht ⊢; omega)
  | 11, h =>
    obtain ⟨pr, pk, pe, ph, pj, pf, i0, z, x0, x2, x3, x4, x5, y0, y1, y2, y3, y4, y5, ht, rfl, rfl⟩ := h
    exact absurd ht0 (by simp at ht ⊢; omega)
  | 12, h =>
    obtain ⟨pr, pk, pe, ph, pj, pf, i0, j0, z, x0, x2, x3, x4, x5, y1, y2, y3, y4, y5, ht, rfl, rfl⟩ := h
    exact absurd ht0 (by simp at ht ⊢; omega)
  | 13, h =>
    obtain ⟨pr, pk, pe, ph, pj, pf, i0, j0, j1, z, x0, x2, x3, x4, x5, y2, y3, y4, y5, ht, hv0, rfl, rfl⟩ := h
    exact absurd ht0 (by simp at ht ⊢; omega)
  | 14, h =>
    obtain ⟨pr, pk, pe, ph, pj, pf, i0, z, x0, x1, x3, x4, x5, y0, y1, y2, y3, y4, y5, ht, rfl, rfl⟩ := h
    exact absurd ht0 (by simp at ht ⊢; omega)
  | 15, h =>
    obtain ⟨pr, pk, pe, ph, pj, pf, i0, j0, z, x0, x1, x3, x4, x5, y1, y2, y3, y4, y5, ht, rfl, rfl⟩ := h
    exact absurd ht0 (by simp at ht ⊢; omega)
  | 16, h =>
    obtain ⟨pr, pk, pe, ph, pj, pf, i0, i1, z, x2, x3, x4, x5, y0, y1, y2, y3, y4, y5, ht, hv0, rfl, rfl⟩ := h
    exact absurd ht0 (by simp at ht ⊢; omega)
  | 17, h =>
    obtain ⟨pr, pk, pe, ph, pj, pf, i0, i1, j0, z, x2, x3, x4, x5, y1, y2, y3, y4, y5, ht, hv0, rfl, rfl⟩ := h
    exact absurd ht0 (by simp at ht ⊢; omega)
  | 18, h =>
    obtain ⟨pr, pk, pe, ph, pj, pf, i0, i1, z, x0, x3, x4, x5, y0, y1, y2, y3, y4, y5, ht, hv0, rfl, rfl⟩ := h
    exact absurd ht0 (by simp at ht ⊢; omega)
  | 19, h =>
    obtain ⟨pr, pk, pe, ph, pj, pf, i0, i1, j0, z, x0, x3, x4, x5, y1, y2, y3, y4, y5, ht, hv0, rfl, rfl⟩ := h
    exact absurd ht0 (by simp at ht ⊢; omega)
  | 20, h =>
    obtain ⟨pr, pk, pe, ph, pj, pf, i0, i1, z, x0, x1, x4, x5, y0, y1, y2, y3, y4, y5, ht, hv0, rfl, rfl⟩ := h
    exact absurd ht0 (by simp at ht ⊢; omega)
  | 21, h =>
    obtain ⟨pr, pk, pe, ph, pj, pf, i0, i1, i2, z, x3, x4, x5, y0, y1, y2, y3, y4, y5, ht, hv0, hv1, rfl, rfl⟩ := h
    exact absurd ht0 (by simp at ht ⊢; omega)
  | 22, h =>
    obtain ⟨pr, pk, pe, ph, pj, pf, i0, i1, i2, z, x0, x4, x5, y0, y1, y2, y3, y4, y5, ht, hv0, hv1, rfl, rfl⟩ := h
    exact absurd ht0 (by simp at ht ⊢; omega)
  | 23, h =>
    obtain ⟨pr, pk, pe, ph, pj, pf, w, x0, x1, x2, x3, x4, x5, y0, y1, y2, y3, y4, y5, ht, rfl, rfl⟩ := h
   
    obtain rfl : t = 1 := by simp at ht ht0; omega
    refine Met.mono (u_SequenceQueue_add_84 l Z a0 hw _ q pr pk pe ph pj pf (e i) (e w) (K i) (K w) x0 x1 x2 x3 x4 x5 y0 y1 y2 y3 y4 y5 (hE i) (hE w)) ?_
    rintro _ _ ⟨rfl, rfl⟩
    · exact ⟨rfl, _, QS.c1100 (by decide) pr pk pe ph pj pf i w x1 x2 x3 x4 x5 y0 y1 y2 y3 y4 y5  (((by rw [List.perm_iff_count]; intro a; simp only [List.count_cons, List.count_nil] <;> omega) : List.Perm ([i, w] : List Nat) (i :: [w])).trans (hp.cons i)), rfl⟩
  | 24, h =>
    obtain ⟨pr, pk, pe, ph, pj, pf, w, x0, x1, x2, x3, x4, x5, y0, y1, y2, y3, y4, y5, ht, rfl, rfl⟩ := h
    exact absurd ht0 (by simp at ht ⊢; omega)
  | 25, h =>
    obtain ⟨pr, pk, pe, ph, pj, pf, w, j0, x0, x1, x2, x3, x4, x5, y1, y2, y3, y4, y5, ht, rfl, rfl⟩ := h
    exact absurd ht0 (by simp at ht ⊢; omega)
  | 26, h =>
    obtain ⟨pr, pk, pe, ph, pj, pf, w, j0, j1, x0, x1, x2, x3, x4, x5, y2, y3, y4, y5, ht, hv0, rfl, rfl⟩ := h
    exact absurd ht0 (by simp at ht ⊢; omega)
  | 27, h =>
    obtain ⟨pr, pk, pe, ph, pj, pf, w, j0, j1, j2, x0, x1, x2, x3, x4, x5, y3, y4, y5, ht, hv0, hv1, rfl, rfl⟩ := h
    exact absurd ht0 (by simp at ht ⊢; omega)
  | 28, h =>
    obtain ⟨pr, pk, pe, ph, pj, pf, w, x0, x1, x2, x3, x4, x5, y0, y1, y2, y3, y4, y5, ht, rfl, rfl⟩ := h
    exact absurd ht0 (by simp at ht ⊢; omega)
  | 29, h =>
    obtain ⟨pr, pk, pe, ph, pj, pf, w, j0, x0, x1, x2, x3, x4, x5, y1, y2, y3, y4, y5, ht, rfl, rfl⟩ := h
    exact absurd ht0 (by simp at ht ⊢; omega)
  | 30, h =>
    obtain ⟨pr, pk, pe, ph, pj, pf, w, j0, j1, x0, x1, x2, x3, x4, x5, y2, y3, y4, y5, ht, hv0, rfl, rfl⟩ := h
    exact absurd ht0 (by simp at ht ⊢; omega)
  | 31, h =>
    obtain ⟨pr, pk, pe, ph, pj, pf, w, i0, x1, x2, x3, x4, x5, y0, y1, y2, y3, y4, y5, ht, rfl, rfl⟩ := h
   
    obtain rfl : t = 2 := by simp at ht ht0; omega
    refine Met.mono (u_SequenceQueue_add_86 l Z a0 hw _ q pr pk pe ph pj pf (e i) (e w) (e i0) (K i) (K w) (K i0) x1 x2 x3 x4 x5 y0 y1 y2 y3 y4 y5 (hE i) (hE w) (hE i0)) ?_
    rintro _ _ (⟨hc1, rfl, rfl⟩ | ⟨hc2, rfl, rfl⟩)
    · exact ⟨rfl, _, QS.c1101 (by decide) pr pk pe ph pj pf i i0 w x1 x2 x3 x4 x5 y1 y2 y3 y4 y5  (((by rw [List.perm_iff_count]; intro a; simp only [List.count_cons, List.count_nil] <;> omega) : List.Perm ([i, i0, w] : List Nat) (i :: [w, i0])).trans (hp.cons i)), rfl⟩
    · exact ⟨rfl, _, QS.c1200 (by decide) pr pk pe ph pj pf i i0 w x2 x3 x4 x5 y0 y1 y2 y3 y4 y5 (by simp only [Int64.lt_iff_toInt_lt] at hc2 ⊢; omega) (((by rw [List.perm_iff_count]; intro a; simp only [List.count_cons, List.count_nil] <;> omega) : List.Perm ([i, i0, w] : List Nat) (i :: [w, i0])).trans (hp.cons i)), rfl⟩
  | 32, h =>
    obtain ⟨pr, pk, pe, ph, pj, pf, w, i0, j0, x1, x2, x3, x4, x5, y1, y2, y3, y4, y5, ht, rfl, rfl⟩ := h
   
    obtain rfl : t = 3 := by simp at ht ht0; omega
    refine Met.mono (u_SequenceQueue_add_88 l Z a0 hw _ q pr pk pe ph pj pf (e i) (e w) (e i0) (e j0) (K i) (K w) (K i0) x1 x2 x3 x4 x5 (K j0) y1 y2 y3 y4 y5 (hE i) (hE w) (hE i0) (hE j0)) ?_
    rintro _ _ (⟨hc3, hc4, rfl, rfl⟩ | ⟨hc5, hc6, rfl, rfl⟩ | ⟨hc7, rfl, rfl⟩)
    · exact ⟨rfl, _, QS.c1102 (by decide) pr pk pe ph pj pf i i0 w j0 x1 x2 x3 x4 x5 y2 y3 y4 y5 (by simp only [Int64.lt_iff_toInt_lt] at hc3 hc4 ⊢; omega) (((by rw [List.perm_iff_count]; intro a; simp only [List.count_cons, List.count_nil] <;> omega) : List.Perm ([i, i0, w, j0] : List Nat) (i :: [w, i0, j0])).trans (hp.cons i)), rfl⟩
    · exact ⟨rfl, _, QS.c1102 (by decide) pr pk pe ph pj pf i i0 j0 w x1 x2 x3 x4 x5 y2 y3 y4 y5 (by simp only [Int64.lt_iff_toInt_lt] at hc5 hc6 ⊢; omega) (((by rw [List.perm_iff_count]; intro a; simp only [List.count_cons, List.count_nil] <;> omega) : List.Perm ([i, i0, j0, w] : List Nat) (i :: [w, i0, j0])).trans (hp.cons i)), rfl⟩
    · exact ⟨rfl, _, QS.c1201 (by decide) pr pk pe ph pj pf i i0 w j0 x2 x3 x4 x5 y1 y2 y3 y4 y5 (by simp only [Int64.lt_iff_toInt_lt] at hc7 ⊢; omega) (((by rw [List.perm_iff_count]; intro a; simp only [List.count_cons, List.count_nil] <;> omega) : List.Perm ([i, i0, w, j0] : List Nat) (i :: [w, i0, j0])).trans (hp.cons i)), rfl⟩
  | 33, h =>
    obtain ⟨pr, pk, pe, ph, pj, pf, w, i0, j0, j1, x1, x2, x3, x4, x5, y2, y3, y4, y5, ht, hv0, rfl, rfl⟩ := h
    exact absurd ht0 (by simp at ht ⊢; omega)
  | 34, h =>
    obtain ⟨pr, pk, pe, ph, pj, pf, w, i0, j0, j1, j2, x1, x2, x3, x4, x5, y3, y4, y5, ht, hv0, hv1, rfl, rfl⟩ := h
    exact absurd ht0 (by simp at ht ⊢; omega)
  | 35, h =>
    obtain ⟨pr, pk, pe, ph, pj, pf, w, i0, x0, x2, x3, x4, x5, y0, y1, y2, y3, y4, y5, ht, rfl, rfl⟩ := h
    exact absurd ht0 (by simp at ht ⊢; omega)
  | 36, h =>
    obtain ⟨pr, pk, pe, ph, pj, pf, w, i0, j0, x0, x2, x3, x4, x5, y1, y2, y3, y4, y5, ht, rfl, rfl⟩ := h
    exact absurd ht0 (by simp at ht ⊢; omega)
  | 37, h =>
    obtain ⟨pr, pk, pe, ph, pj, pf, w, i0, j0, j1, x0, x2, x3, x4, x5, y2, y3, y4, y5, ht, hv0, rfl, rfl⟩ := h
    exact absurd ht0 (by simp at ht ⊢; omega)
  | 38, h =>
    obtain ⟨pr, pk, pe, ph, pj, pf, w, i0, x0, x1, x3, x4, x5, y0, y1, y2, y3, y4, y5, ht, rfl, rfl⟩ := h
    exact absurd ht0 (by simp at ht ⊢; omega)
  | 39, h =>
    obtain ⟨pr, pk, pe, ph, pj, pf, w, i0, j0, x0, x1, x3, x4, x5, y1, y2, y3, y4, y5, ht, rfl, rfl⟩ := h
    exact absurd ht0 (by simp at ht ⊢; omega)
  | 40, h =>
    obtain ⟨pr, pk, pe, ph, pj, pf, w, i0, i1, x2, x3, x4, x5, y0, y1, y2, y3, y4, y5, ht, hv0, rfl, rfl⟩ := h
   
    obtain rfl : t = 3 := by simp at ht ht0; omega
    refine Met.mono (u_SequenceQueue_add_90 l Z a0 hw _ q pr pk pe ph pj pf (e i) (e w) (e i0) (e i1) (K i) (K w) (K i0) (K i1) x2 x3 x4 x5 y0 y1 y2 y3 y4 y5 (hE i) (hE w) (hE i0) (hE i1) hv0) ?_
    rintro _ _ (⟨hc8, rfl, rfl⟩ | ⟨hc9, rfl, rfl⟩)
    · exact ⟨rfl, _, QS.c1201 (by decide) pr pk pe ph pj pf i i0 i1 w x2 x3 x4 x5 y1 y2 y3 y4 y5 (by simp only [Int64.lt_iff_toInt_lt] at hv0 hc8 ⊢; omega) (((by rw [List.perm_iff_count]; intro a; simp only [List.count_cons, List.count_nil] <;> omega) : List.Perm ([i, i0, i1, w] : List Nat) (i :: [w, i0, i1])).trans (hp.cons i)), rfl⟩
    · exact ⟨rfl, _, QS.c1300 (by decide) pr pk pe ph pj pf i i0 i1 w x3 x4 x5 y0 y1 y2 y3 y4 y5 (by simp only [Int64.lt_iff_toInt_lt] at hv0 hc9 ⊢; omega) (by simp only [Int64.lt_iff_toInt_lt] at hv0 hc9 ⊢; omega) (((by rw [List.perm_iff_count]; intro a; simp only [List.count_cons, List.count_nil] <;> omega) : List.Perm ([i, i0, i1, w] : List Nat) (i :: [w, i0, i1])).trans (hp.cons i)), rfl⟩
  | 41, h =>
    obtain ⟨pr, pk, pe, ph, pj, pf, w, i0, i1, j0, x2, x3, x4, x5, y1, y2, y3, y4, y5, ht, hv0, rfl, rfl⟩ := h
    exact absurd ht0 (by simp at ht ⊢; omega)
  | 42, h =>
    obtain ⟨pr, pk, pe, ph, pj, pf, w, i0, i1, j0, j1, x2, x3, x4, x5, y2, y3, y4, y5, ht, hv0, hv1, rfl, rfl⟩ := h
    exact absurd ht0 (by simp at ht ⊢; omega)
  | 43, h =>
    obtain ⟨pr, pk, pe, ph, pj, pf, w, i0, i1, x0, x3, x4, x5, y0, y1, y2, y3, y4, y5, ht, hv0, rfl, rfl⟩ := h
    exact absurd ht0 (by simp at ht ⊢; omega)
  | 44, h =>
    obtain ⟨pr, pk, pe, ph, pj, pf, w, i0, i1, j0, x0, x3, x4, x5, y1, y2, y3, y4, y5, ht, hv0, rfl, rfl⟩ := h
    exact absurd ht0 (by simp at ht ⊢; omega)
  | 45, h =>
    obtain ⟨pr, pk, pe, ph, pj, pf, w, i0, i1, x0, x1, x4, x5, y0, y1, y2, y3, y4, y5, ht, hv0, rfl, rfl⟩ := h
    exact absurd ht0 (by simp at ht ⊢; omega)
  | 46, h =>
    obtain ⟨pr, pk, pe, ph, pj, pf, w, i0, i1, i2, x3, x4, x5, y0, y1, y2, y3, y4, y5, ht, hv0, hv1, rfl, rfl⟩ := h
    exact absurd ht0 (by simp at ht ⊢; omega)
  | 47, h =>
    obtain ⟨pr, pk, pe, ph, pj, pf, w, i0, i1, i2, j0, x3, x4, x5, y1, y2, y3, y4, y5, ht, hv0, hv1, rfl, rfl⟩ := h
    exact absurd ht0 (by simp at ht ⊢; omega)
  | 48, h =>
    obtain ⟨pr, pk, pe, ph, pj, pf, w, i0, i1, i2, x0, x4, x5, y0, y1, y2, y3, y4, y5, ht, hv0, hv1, rfl, rfl⟩ := h
    exact absurd ht0 (by simp at ht ⊢; omega)
  | 49, h =>
    obtain ⟨pr, pk, pe, ph, pj, pf, w, i0, i1, i2, i3, x4, x5, y0, y1, y2, y3, y4, y5, ht, hv0, hv1, hv2, rfl, rfl⟩ := h
    exact absurd ht0 (by simp at ht ⊢; omega)
  | (_ + 50), h => exact (h : False).elim
theorem u_SequenceQueue_add_114 (l : Launch) (Z : State) (a0 : Array Value) (hw : HW Z a0) (F : List Ent) (pA0 pA1 pA2 pA3 pA4 pA5 pA6 eA0 eA1 eA2 eA3 eA4 : Addr) (kA0 kA1 kA2 kA3 kA4 kA5 kA6 kA7 kA8 kA9 kA10 kA11 kA12 kA13 : Int64) (hE_eA0 : XI Z eA0) (hE_eA1 : XI Z eA1) (hE_eA2 : XI Z eA2) (hE_eA3 : XI Z eA3) (hE_eA4 : XI Z eA4) (hK0 : ¬ kA9 < kA8) :
    Met l Z yN14 prog_20_method_2_code 4 none { frames := 3, cells := 0, slots := 0, locals := 45 } #[(.ref pA0), (.long kA0), (.ref eA0)] (nQ pA0 pA1 pA4 1 kA1 (.ref eA1) :: nR pA1 pA2 pA3 1 0 :: nK pA2 kA2 kA3 kA4 kA5 kA6 kA7 :: nE pA3 (.ref eA2) .null .null .null .null .null :: nH pA4 pA5 pA6 2 :: nK pA5 kA8 kA9 kA10 kA11 kA12 kA13 :: nE pA6 (.ref eA3) (.ref eA4) .null .null .null .null :: F) (fun r M' => ((kA1 < kA2) ∧ (kA1 < kA8) ∧ r = none ∧ M' = (nQ pA0 pA1 pA4 1 kA0 (.ref eA0) :: nR pA1 pA2 pA3 1 0 :: nK pA2 kA2 kA3 kA4 kA5 kA6 kA7 :: nE pA3 (.ref eA2) .null .null .null .null .null :: nH pA4 pA5 pA6 3 :: nK pA5 kA1 kA9 kA8 kA11 kA12 kA13 :: nE pA6 (.ref eA1) (.ref eA4) (.ref eA3) .null .null .null :: F)) ∨ ((kA1 < kA2) ∧ (¬ kA1 < kA8) ∧ r = none ∧ M' = (nQ pA0 pA1 pA4 1 kA0 (.ref eA0) :: nR pA1 pA2 pA3 1 0 :: nK pA2 kA2 kA3 kA4 kA5 kA6 kA7 :: nE pA3 (.ref eA2) .null .null .null .null .null :: nH pA4 pA5 pA6 3 :: nK pA5 kA8 kA9 kA1 kA11 kA12 kA13 :: nE pA6 (.ref eA3) (.ref eA4) (.ref eA1) .null .null .null :: F)) ∨ ((¬ kA1 < kA2) ∧ r = none ∧ M' = (nQ pA0 pA1 pA4 1 kA0 (.ref eA0) :: nR pA1 pA2 pA3 2 0 :: nK pA2 kA2 kA1 kA4 kA5 kA6 kA7 :: nE pA3 (.ref eA2) (.ref eA1) .null .null .null .null :: nH pA4 pA5 pA6 2 :: nK pA5 kA8 kA9 kA10 kA11 kA12 kA13 :: nE pA6 (.ref eA3) (.ref eA4) .null .null .null .null :: F))) := by
  refine Met.of_go pn_10 (Ls := #[.val (.ref pA0), .val (.long kA0), .second, .val (.ref eA0)]) (fun m => rfl) ?_
  intro E C
  refine Go.aloadN C d4_0 rfl rfl rfl ?_
  refine Go.gf C (wd hw 59 rfl) 0 2 rfl rfl d4_1 rfl ?_
  refine Go.ifNo C d4_4 (q := 7) rfl (XT.i0_eq_f (by decide)) ?_
  refine Go.aloadN C d4_7 rfl rfl rfl ?_
  refine Go.aloadN C d4_8 rfl rfl rfl ?_
  refine Go.gf C (wd hw 61 rfl) 0 3 rfl rfl d4_9 rfl ?_
  refine Go.aloadN C d4_12 rfl rfl rfl ?_
  refine Go.gf C (wd hw 63 rfl) 0 4 rfl rfl d4_13 rfl ?_
  refine Go.callP C (y := yN6) (a := pA0) (as := [(.long kA1), (.ref eA1)]) (rest := []) (wd hw 65 rfl) (wd hw 66 rfl) (sel_priv (y := yN6) (wd hw 8 rfl) (wd hw 66 rfl) (wd hw 67 rfl) (by decide)) (wd hw 67 rfl) (wd hw 68 rfl) (wd hw 9 rfl) (fun _ r => r.exa 0 rfl) (u_SequenceQueue_place_28 l Z a0 hw _ pA0 pA1 pA2 pA3 pA4 pA5 pA6 eA1 eA1 eA2 eA3 eA4 kA1 kA1 kA2 kA3 kA4 kA5 kA6 kA7 kA8 kA9 kA10 kA11 kA12 kA13 hE_eA1 hE_eA1 hE_eA2 hE_eA3 hE_eA4) rfl d4_16 (q := 19) rfl (by decide) rfl (na := 2) (by decide +kernel) rfl (by decide) (W := 0) rfl (by decide) (by decide) (by decide) (k' := 0) (n' := 0) rfl rfl ?_
  rintro _ _ (⟨hc17, hc18, rfl, rfl⟩ | ⟨hc19, hc20, rfl, rfl⟩ | ⟨hc21, rfl, rfl⟩)
  · show Go _ _ _ _ _ _ _ _ _ _ []
    refine Go.aloadN C d4_19 rfl rfl rfl ?_
    refine Go.iconst C d4_20 rfl (v := (1 : Int32)) rfl ?_
    refine Go.pf C (wd hw 59 rfl) Via.refl 5 2 rfl rfl (wd hw 60 rfl) (wd hw 8 rfl) (ty := .boolean) (by decide) rfl rfl d4_21 rfl (M' := (nH pA4 pA5 pA6 3 :: nK pA5 kA1 kA9 kA8 kA11 kA12 kA13 :: nE pA6 (.ref eA1) (.ref eA4) (.ref eA3) .null .null .null :: nR pA1 pA2 pA3 1 0 :: nK pA2 kA2 kA3 kA4 kA5 kA6 kA7 :: nQ pA0 pA1 pA4 1 kA1 (.ref eA1) :: nE pA3 (.ref eA2) .null .null .null .null .null :: F)) rfl ?_
    refine Go.aloadN C d4_24 rfl rfl rfl ?_
    refine Go.lloadN C d4_25 rfl rfl ?_
    refine Go.pf C (wd hw 61 rfl) Via.refl 5 3 rfl rfl (wd hw 62 rfl) (wd hw 8 rfl) (ty := .long) (by decide) rfl rfl d4_26 rfl (M' := (nH pA4 pA5 pA6 3 :: nK pA5 kA1 kA9 kA8 kA11 kA12 kA13 :: nE pA6 (.ref eA1) (.ref eA4) (.ref eA3) .null .null .null :: nR pA1 pA2 pA3 1 0 :: nK pA2 kA2 kA3 kA4 kA5 kA6 kA7 :: nQ pA0 pA1 pA4 1 kA0 (.ref eA1) :: nE pA3 (.ref eA2) .null .null .null .null .null :: F)) rfl ?_
    refine Go.aloadN C d4_29 rfl rfl rfl ?_
    refine Go.aloadN C d4_30 rfl rfl rfl ?_
    refine Go.pf C (wd hw 63 rfl) Via.refl 5 4 rfl rfl (wd hw 64 rfl) (wd hw 8 rfl) (ty := (.object "java/lang/Object")) (by decide) rfl rfl d4_31 rfl (M' := (nH pA4 pA5 pA6 3 :: nK pA5 kA1 kA9 kA8 kA11 kA12 kA13 :: nE pA6 (.ref eA1) (.ref eA4) (.ref eA3) .null .null .null :: nR pA1 pA2 pA3 1 0 :: nK pA2 kA2 kA3 kA4 kA5 kA6 kA7 :: nQ pA0 pA1 pA4 1 kA0 (.ref eA0) :: nE pA3 (.ref eA2) .null .null .null .null .null :: F)) rfl ?_
    refine Go.pick (M' := (nQ pA0 pA1 pA4 1 kA0 (.ref eA0) :: nR pA1 pA2 pA3 1 0 :: nK pA2 kA2 kA3 kA4 kA5 kA6 kA7 :: nE pA3 (.ref eA2) .null .null .null .null .null :: nH pA4 pA5 pA6 3 :: nK pA5 kA1 kA9 kA8 kA11 kA12 kA13 :: nE pA6 (.ref eA1) (.ref eA4) (.ref eA3) .null .null .null :: F)) 7 [5, 3, 4, 6, 0, 1, 2] (by decide) (by decide) rfl ?_
    refine Go.ret0 C rfl d4_34 (by decide) (by decide) ?_
    exact Or.inl ⟨hc17, hc18, rfl, rfl⟩
  · show Go _ _ _ _ _ _ _ _ _ _ []
    refine Go.aloadN C d4_19 rfl rfl rfl ?_
    refine Go.iconst C d4_20 rfl (v := (1 : Int32)) rfl ?_
    refine Go.pf C (wd hw 59 rfl) Via.refl 5 2 rfl rfl (wd hw 60 rfl) (wd hw 8 rfl) (ty := .boolean) (by decide) rfl rfl d4_21 rfl (M' := (nH pA4 pA5 pA6 3 :: nK pA5 kA8 kA9 kA1 kA11 kA12 kA13 :: nE pA6 (.ref eA3) (.ref eA4) (.ref eA1) .null .null .null :: nR pA1 pA2 pA3 1 0 :: nK pA2 kA2 kA3 kA4 kA5 kA6 kA7 :: nQ pA0 pA1 pA4 1 kA1 (.ref eA1) :: nE pA3 (.ref eA2) .null .null .null .null .null :: F)) rfl ?_
    refine Go.aloadN C d4_24 rfl rfl rfl ?_
    refine Go.lloadN C d4_25 rfl rfl ?_
    refine Go.pf C (wd hw 61 rfl) Via.refl 5 3 rfl rfl (wd hw 62 rfl) (wd hw 8 rfl) (ty := .long) (by decide) rfl rfl d4_26 rfl (M' := (nH pA4 pA5 pA6 3 :: nK pA5 kA8 kA9 kA1 kA11 kA12 kA13 :: nE pA6 (.ref eA3) (.ref eA4) (.ref eA1) .null .null .null :: nR pA1 pA2 pA3 1 0 :: nK pA2 kA2 kA3 kA4 kA5 kA6 kA7 :: nQ pA0 pA1 pA4 1 kA0 (.ref eA1) :: nE pA3 (.ref eA2) .null .null .null .null .null :: F)) rfl ?_
    refine Go.aloadN C d4_29 rfl rfl rfl ?_
    refine Go.aloadN C d4_30 rfl rfl rfl ?_
    refine Go.pf C (wd hw 63 rfl) Via.refl 5 4 rfl rfl (wd hw 64 rfl) (wd hw 8 rfl) (ty := (.object "java/lang/Object")) (by decide) rfl rfl d4_31 rfl (M' := (nH pA4 pA5 pA6 3 :: nK pA5 kA8 kA9 kA1 kA11 kA12 kA13 :: nE pA6 (.ref eA3) (.ref eA4) (.ref eA1) .null .null .null :: nR pA1 pA2 pA3 1 0 :: nK pA2 kA2 kA3 kA4 kA5 kA6 kA7 :: nQ pA0 pA1 pA4 1 kA0 (.ref eA0) :: nE pA3 (.ref eA2) .null .null .null .null .null :: F)) rfl ?_
    refine Go.pick (M' := (nQ pA0 pA1 pA4 1 kA0 (.ref eA0) :: nR pA1 pA2 pA3 1 0 :: nK pA2 kA2 kA3 kA4 kA5 kA6 kA7 :: nE pA3 (.ref eA2) .null .null .null .null .null :: nH pA4 pA5 pA6 3 :: nK pA5 kA8 kA9 kA1 kA11 kA12 kA13 :: nE pA6 (.ref eA3) (.ref eA4) (.ref eA1) .null .null .null :: F)) 7 [5, 3, 4, 6, 0, 1, 2] (by decide) (by decide) rfl ?_
    refine Go.ret0 C rfl d4_34 (by decide) (by decide) ?_
    exact Or.inr (Or.inl ⟨hc19, hc20, rfl, rfl⟩)
  · show Go _ _ _ _ _ _ _ _ _ _ []
    refine Go.aloadN C d4_19 rfl rfl rfl ?_
    refine Go.iconst C d4_20 rfl (v := (1 : Int32)) rfl ?_
    refine Go.pf C (wd hw 59 rfl) Via.refl 3 2 rfl rfl (wd hw 60 rfl) (wd hw 8 rfl) (ty := .boolean) (by decide) rfl rfl d4_21 rfl (M' := (nR pA1 pA2 pA3 2 0 :: nK pA2 kA2 kA1 kA4 kA5 kA6 kA7 :: nE pA3 (.ref eA2) (.ref eA1) .null .null .null .null :: nQ pA0 pA1 pA4 1 kA1 (.ref eA1) :: nH pA4 pA5 pA6 2 :: nK pA5 kA8 kA9 kA10 kA11 kA12 kA13 :: nE pA6 (.ref eA3) (.ref eA4) .null .null .null .null :: F)) rfl ?_
    refine Go.aloadN C d4_24 rfl rfl rfl ?_
    refine Go.lloadN C d4_25 rfl rfl ?_
    refine Go.pf C (wd hw 61 rfl) Via.refl 3 3 rfl rfl (wd hw 62 rfl) (wd hw 8 rfl) (ty := .long) (by decide) rfl rfl d4_26 rfl (M' := (nR pA1 pA2 pA3 2 0 :: nK pA2 kA2 kA1 kA4 kA5 kA6 kA7 :: nE pA3 (.ref eA2) (.ref eA1) .null .null .null .null :: nQ pA0 pA1 pA4 1 kA0 (.ref eA1) :: nH pA4 pA5 pA6 2 :: nK pA5 kA8 kA9 kA10 kA11 kA12 kA13 :: nE pA6 (.ref eA3) (.ref eA4) .null .null .null .null :: F)) rfl ?_
    refine Go.aloadN C d4_29 rfl rfl rfl ?_
    refine Go.aloadN C d4_30 rfl rfl rfl ?_
    refine Go.pf C (wd hw 63 rfl) Via.refl 3 4 rfl rfl (wd hw 64 rfl) (wd hw 8 rfl) (ty := (.object "java/lang/Object")) (by decide) rfl rfl d4_31 rfl (M' := (nR pA1 pA2 pA3 2 0 :: nK pA2 kA2 kA1 kA4 kA5 kA6 kA7 :: nE pA3 (.ref eA2) (.ref eA1) .null .null .null .null :: nQ pA0 pA1 pA4 1 kA0 (.ref eA0) :: nH pA4 pA5 pA6 2 :: nK pA5 kA8 kA9 kA10 kA11 kA12 kA13 :: nE pA6 (.ref eA3) (.ref eA4) .null .null .null .null :: F)) rfl ?_
    refine Go.pick (M' := (nQ pA0 pA1 pA4 1 kA0 (.ref eA0) :: nR pA1 pA2 pA3 2 0 :: nK pA2 kA2 kA1 kA4 kA5 kA6 kA7 :: nE pA3 (.ref eA2) (.ref eA1) .null .null .null .null :: nH pA4 pA5 pA6 2 :: nK pA5 kA8 kA9 kA10 kA11 kA12 kA13 :: nE pA6 (.ref eA3) (.ref eA4) .null .null .null .null :: F)) 7 [3, 0, 1, 2, 4, 5, 6] (by decide) (by decide) rfl ?_
    refine Go.ret0 C rfl d4_34 (by decide) (by decide) ?_
    exact Or.inr (Or.inr (⟨hc21, rfl, rfl⟩))
theorem u_SequenceQueue_add_116 (l : Launch) (Z : State) (a0 : Array Value) (hw : HW Z a0) (F : List Ent) (pA0 pA1 pA2 pA3 pA4 pA5 pA6 eA0 eA1 eA2 eA3 eA4 : Addr) (kA0 kA1 kA2 kA3 kA4 kA5 kA6 kA7 kA8 kA9 kA10 kA11 kA12 kA13 : Int64) (hE_eA0 : XI Z eA0) (hE_eA1 : XI Z eA1) (hE_eA2 : XI Z eA2) (hE_eA3 : XI Z eA3) (hE_eA4 : XI Z eA4) (hK0 : ¬ kA3 < kA2) :
    Met l Z yN14 prog_20_method_2_code 4 none { frames := 3, cells := 0, slots := 0, locals := 45 } #[(.ref pA0), (.long kA0), (.ref eA0)] (nQ pA0 pA1 pA4 1 kA1 (.ref eA1) :: nR pA1 pA2 pA3 2 0 :: nK pA2 kA2 kA3 kA4 kA5 kA6 kA7 :: nE pA3 (.ref eA2) (.ref eA3) .null .null .null .null :: nH pA4 pA5 pA6 1 :: nK pA5 kA8 kA9 kA10 kA11 kA12 kA13 :: nE pA6 (.ref eA4) .null .null .null .null .null :: F) (fun r M' => ((kA1 < kA3) ∧ (kA1 < kA8) ∧ r = none ∧ M' = (nQ pA0 pA1 pA4 1 kA0 (.ref eA0) :: nR pA1 pA2 pA3 2 0 :: nK pA2 kA2 kA3 kA4 kA5 kA6 kA7 :: nE pA3 (.ref eA2) (.ref eA3) .null .null .null .null :: nH pA4 pA5 pA6 2 :: nK pA5 kA1 kA8 kA10 kA11 kA12 kA13 :: nE pA6 (.ref eA1) (.ref eA4) .null .null .null .null :: F)) ∨ ((kA1 < kA3) ∧ (¬ kA1 < kA8) ∧ r = none ∧ M' = (nQ pA0 pA1 pA4 1 kA0 (.ref eA0) :: nR pA1 pA2 pA3 2 0 :: nK pA2 kA2 kA3 kA4 kA5 kA6 kA7 :: nE pA3 (.ref eA2) (.ref eA3) .null .null .null .null :: nH pA4 pA5 pA6 2 :: nK pA5 kA8 kA1 kA10 kA11 kA12 kA13 :: nE pA6 (.ref eA4) (.ref eA1) .null .null .null .null :: F)) ∨ ((¬ kA1 < kA3) ∧ r = none ∧ M' = (nQ pA0 pA1 pA4 1 kA0 (.ref eA0) :: nR pA1 pA2 pA3 3 0 :: nK pA2 kA2 kA3 kA1 kA5 kA6 kA7 :: nE pA3 (.ref eA2) (.ref eA3) (.ref eA1) .null .null .null :: nH pA4 pA5 pA6 1 :: nK pA5 kA8 kA9 kA10 kA11 kA12 kA13 :: nE pA6 (.ref eA4) .null .null .null .null .null :: F))) := by
  refine Met.of_go pn_10 (Ls := #[.val (.ref pA0), .val (.long kA0), .second, .val (.ref eA0)]) (fun m => rfl) ?_
  intro E C
  refine Go.aloadN C d4_0 rfl rfl rfl ?_
  refine Go.gf C (wd hw 59 rfl) 0 2 rfl rfl d4_1 rfl ?_
  refine Go.ifNo C d4_4 (q := 7) rfl (XT.i0_eq_f (by decide)) ?_
  refine Go.aloadN C d4_7 rfl rfl rfl ?_
  refine Go.aloadN C d4_8 rfl rfl rfl ?_
  refine Go.gf C (wd hw 61 rfl) 0 3 rfl rfl d4_9 rfl ?_
  refine Go.aloadN C d4_12 rfl rfl rfl ?_
  refine Go.gf C (wd hw 63 rfl) 0 4 rfl rfl d4_13 rfl ?_
  refine Go.callP C (y := yN6) (a := pA0) (as := [(.long kA1), (.ref eA1)]) (rest := []) (wd hw 65 rfl) (wd hw 66 rfl) (sel_priv (y := yN6) (wd hw 8 rfl) (wd hw 66 rfl) (wd hw 67 rfl) (by decide)) (wd hw 67 rfl) (wd hw 68 rfl) (wd hw 9 rfl) (fun _ r => r.exa 0 rfl) (u_SequenceQueue_place_40 l Z a0 hw _ pA0 pA1 pA2 pA3 pA4 pA5 pA6 eA1 eA1 eA2 eA3 eA4 kA1 kA1 kA2 kA3 kA4 kA5 kA6 kA7 kA8 kA9 kA10 kA11 kA12 kA13 hE_eA1 hE_eA1 hE_eA2 hE_eA3 hE_eA4) rfl d4_16 (q := 19) rfl (by decide) rfl (na := 2) (by decide +kernel) rfl (by decide) (W := 0) rfl (by decide) (by decide) (by decide) (k' := 0) (n' := 0) rfl rfl ?_
  rintro _ _ (⟨hc24, hc25, rfl, rfl⟩ | ⟨hc26, hc27, rfl, rfl⟩ | ⟨hc28, rfl, rfl⟩)
  · show Go _ _ _ _ _ _ _ _ _ _ []
    refine Go.aloadN C d4_19 rfl rfl rfl ?_
    refine Go.iconst C d4_20 rfl (v := (1 : Int32)) rfl ?_
    refine Go.pf C (wd hw 59 rfl) Via.refl 5 2 rfl rfl (wd hw 60 rfl) (wd hw 8 rfl) (ty := .boolean) (by decide) rfl rfl d4_21 rfl (M' := (nH pA4 pA5 pA6 2 :: nK pA5 kA1 kA8 kA10 kA11 kA12 kA13 :: nE pA6 (.ref eA1) (.ref eA4) .null .null .null .null :: nR pA1 pA2 pA3 2 0 :: nK pA2 kA2 kA3 kA4 kA5 kA6 kA7 :: nQ pA0 pA1 pA4 1 kA1 (.ref eA1) :: nE pA3 (.ref eA2) (.ref eA3) .null .null .null .null :: F)) rfl ?_
    refine Go.aloadN C d4_24 rfl rfl rfl ?_
    refine Go.lloadN C d4_25 rfl rfl ?_
    refine Go.pf C (wd hw 61 rfl) Via.refl 5 3 rfl rfl (wd hw 62 rfl) (wd hw 8 rfl) (ty := .long) (by decide) rfl rfl d4_26 rfl (M' := (nH pA4 pA5 pA6 2 :: nK pA5 kA1 kA8 kA10 kA11 kA12 kA13 :: nE pA6 (.ref eA1) (.ref eA4) .null .null .null .null :: nR pA1 pA2 pA3 2 0 :: nK pA2 kA2 kA3 kA4 kA5 kA6 kA7 :: nQ pA0 pA1 pA4 1 kA0 (.ref eA1) :: nE pA3 (.ref eA2) (.ref eA3) .null .null .null .null :: F)) rfl ?_
    refine Go.aloadN C d4_29 rfl rfl rfl ?_
    refine Go.aloadN C d4_30 rfl rfl rfl ?_
    refine Go.pf C (wd hw 63 rfl) Via.refl 5 4 rfl rfl (wd hw 64 rfl) (wd hw 8 rfl) (ty := (.object "java/lang/Object")) (by decide) rfl rfl d4_31 rfl (M' := (nH pA4 pA5 pA6 2 :: nK pA5 kA1 kA8 kA10 kA11 kA12 kA13 :: nE pA6 (.ref eA1) (.ref eA4) .null .null .null .null :: nR pA1 pA2 pA3 2 0 :: nK pA2 kA2 kA3 kA4 kA5 kA6 kA7 :: nQ pA0 pA1 pA4 1 kA0 (.ref eA0) :: nE pA3 (.ref eA2) (.ref eA3) .null .null .null .null :: F)) rfl ?_
    refine Go.pick (M' := (nQ pA0 pA1 pA4 1 kA0 (.ref eA0) :: nR pA1 pA2 pA3 2 0 :: nK pA2 kA2 kA3 kA4 kA5 kA6 kA7 :: nE pA3 (.ref eA2) (.ref eA3) .null .null .null .null :: nH pA4 pA5 pA6 2 :: nK pA5 kA1 kA8 kA10 kA11 kA12 kA13 :: nE pA6 (.ref eA1) (.ref eA4) .null .null .null .null :: F)) 7 [5, 3, 4, 6, 0, 1, 2] (by decide) (by decide) rfl ?_
    refine Go.ret0 C rfl d4_34 (by decide) (by decide) ?_
    exact Or.inl ⟨hc24, hc25, rfl, rfl⟩
  · show Go _ _ _ _ _ _ _ _ _ _ []
    refine Go.aloadN C d4_19 rfl rfl rfl ?_
    refine Go.iconst C d4_20 rfl (v := (1 : Int32)) rfl ?_
    refine Go.pf C (wd hw 59 rfl) Via.refl 5 2 rfl rfl (wd hw 60 rfl) (wd hw 8 rfl) (ty := .boolean) (by decide) rfl rfl d4_21 rfl (M' := (nH pA4 pA5 pA6 2 :: nK pA5 kA8 kA1 kA10 kA11 kA12 kA13 :: nE pA6 (.ref eA4) (.ref eA1) .null .null .null .null :: nR pA1 pA2 pA3 2 0 :: nK pA2 kA2 kA3 kA4 kA5 kA6 kA7 :: nQ pA0 pA1 pA4 1 kA1 (.ref eA1) :: nE pA3 (.ref eA2) (.ref eA3) .null .null .null .null :: F)) rfl ?_
    refine Go.aloadN C d4_24 rfl rfl rfl ?_
    refine Go.lloadN C d4_25 rfl rfl ?_
    refine Go.pf C (wd hw 61 rfl) Via.refl 5 3 rfl rfl (wd hw 62 rfl) (wd hw 8 rfl) (ty := .long) (by decide) rfl rfl d4_26 rfl (M' := (nH pA4 pA5 pA6 2 :: nK pA5 kA8 kA1 kA10 kA11 kA12 kA13 :: nE pA6 (.ref eA4) (.ref eA1) .null .null .null .null :: nR pA1 pA2 pA3 2 0 :: nK pA2 kA2 kA3 kA4 kA5 kA6 kA7 :: nQ pA0 pA1 pA4 1 kA0 (.ref eA1) :: nE pA3 (.ref eA2) (.ref eA3) .null .null .null .null :: F)) rfl ?_
    refine Go.aloadN C d4_29 rfl rfl rfl ?_
    refine Go.aloadN C d4_30 rfl rfl rfl ?_
    refine Go.pf C (wd hw 63 rfl) Via.refl 5 4 rfl rfl (wd hw 64 rfl) (wd hw 8 rfl) (ty := (.object "java/lang/Object")) (by decide) rfl rfl d4_31 rfl (M' := (nH pA4 pA5 pA6 2 :: nK pA5 kA8 kA1 kA10 kA11 kA12 kA13 :: nE pA6 (.ref eA4) (.ref eA1) .null .null .null .null :: nR pA1 pA2 pA3 2 0 :: nK pA2 kA2 kA3 kA4 kA5 kA6 kA7 :: nQ pA0 pA1 pA4 1 kA0 (.ref eA0) :: nE pA3 (.ref eA2) (.ref eA3) .null .null .null .null :: F)) rfl ?_
    refine Go.pick (M' := (nQ pA0 pA1 pA4 1 kA0 (.ref eA0) :: nR pA1 pA2 pA3 2 0 :: nK pA2 kA2 kA3 kA4 kA5 kA6 kA7 :: nE pA3 (.ref eA2) (.ref eA3) .null .null .null .null :: nH pA4 pA5 pA6 2 :: nK pA5 kA8 kA1 kA10 kA11 kA12 kA13 :: nE pA6 (.ref eA4) (.ref eA1) .null .null .null .null :: F)) 7 [5, 3, 4, 6, 0, 1, 2] (by decide) (by decide) rfl ?_
    refine Go.ret0 C rfl d4_34 (by decide) (by decide) ?_
    exact Or.inr (Or.inl ⟨hc26, hc27, rfl, rfl⟩)
  · show Go _ _ _ _ _ _ _ _ _ _ []
    refine Go.aloadN C d4_19 rfl rfl rfl ?_
    refine Go.iconst C d4_20 rfl (v := (1 : Int32)) rfl ?_
    refine Go.pf C (wd hw 59 rfl) Via.refl 3 2 rfl rfl (wd hw 60 rfl) (wd hw 8 rfl) (ty := .boolean) (by decide) rfl rfl d4_21 rfl (M' := (nR pA1 pA2 pA3 3 0 :: nK pA2 kA2 kA3 kA1 kA5 kA6 kA7 :: nE pA3 (.ref eA2) (.ref eA3) (.ref eA1) .null .null .null :: nQ pA0 pA1 pA4 1 kA1 (.ref eA1) :: nH pA4 pA5 pA6 1 :: nK pA5 kA8 kA9 kA10 kA11 kA12 kA13 :: nE pA6 (.ref eA4) .null .null .null .null .null :: F)) rfl ?_
    refine Go.aloadN C d4_24 rfl rfl rfl ?_
    refine Go.lloadN C d4_25 rfl rfl ?_
    refine Go.pf C (wd hw 61 rfl) Via.refl 3 3 rfl rfl (wd hw 62 rfl) (wd hw 8 rfl) (ty := .long) (by decide) rfl rfl d4_26 rfl (M' := (nR pA1 pA2 pA3 3 0 :: nK pA2 kA2 kA3 kA1 kA5 kA6 kA7 :: nE pA3 (.ref eA2) (.ref eA3) (.ref eA1) .null .null .null :: nQ pA0 pA1 pA4 1 kA0 (.ref eA1) :: nH pA4 pA5 pA6 1 :: nK pA5 kA8 kA9 kA10 kA11 kA12 kA13 :: nE pA6 (.ref eA4) .null .null .null .null .null :: F)) rfl ?_
    refine Go.aloadN C d4_29 rfl rfl rfl ?_
    refine Go.aloadN C d4_30 rfl rfl rfl ?_
    refine Go.pf C (wd hw 63 rfl) Via.refl 3 4 rfl rfl (wd hw 64 rfl) (wd hw 8 rfl) (ty := (.object "java/lang/Object")) (by decide) rfl rfl d4_31 rfl (M' := (nR pA1 pA2 pA3 3 0 :: nK pA2 kA2 kA3 kA1 kA5 kA6 kA7 :: nE pA3 (.ref eA2) (.ref eA3) (.ref eA1) .null .null .null :: nQ pA0 pA1 pA4 1 kA0 (.ref eA0) :: nH pA4 pA5 pA6 1 :: nK pA5 kA8 kA9 kA10 kA11 kA12 kA13 :: nE pA6 (.ref eA4) .null .null .null .null .null :: F)) rfl ?_
    refine Go.pick (M' := (nQ pA0 pA1 pA4 1 kA0 (.ref eA0) :: nR pA1 pA2 pA3 3 0 :: nK pA2 kA2 kA3 kA1 kA5 kA6 kA7 :: nE pA3 (.ref eA2) (.ref eA3) (.ref eA1) .null .null .null :: nH pA4 pA5 pA6 1 :: nK pA5 kA8 kA9 kA10 kA11 kA12 kA13 :: nE pA6 (.ref eA4) .null .null .null .null .null :: F)) 7 [3, 0, 1, 2, 4, 5, 6] (by decide) (by decide) rfl ?_
    refine Go.ret0 C rfl d4_34 (by decide) (by decide) ?_
    exact Or.inr (Or.inr (⟨hc28, rfl, rfl⟩))
theorem u_SequenceQueue_add_118 (l : Launch) (Z : State) (a0 : Array Value) (hw : HW Z a0) (F : List Ent) (pA0 pA1 pA2 pA3 pA4 pA5 pA6 eA0 eA1 eA2 eA3 eA4 : Addr) (kA0 kA1 kA2 kA3 kA4 kA5 kA6 kA7 kA8 kA9 kA10 kA11 kA12 kA13 : Int64) (hE_eA0 : XI Z eA0) (hE_eA1 : XI Z eA1) (hE_eA2 : XI Z eA2) (hE_eA3 : XI Z eA3) (hE_eA4 : XI Z eA4) (hK0 : ¬ kA3 < kA2) (hK1 : ¬ kA4 < kA3) :
    Met l Z yN14 prog_20_method_2_code 4 none { frames := 3, cells := 0, slots := 0, locals := 45 } #[(.ref pA0), (.long kA0), (.ref eA0)] (nQ pA0 pA1 pA4 1 kA1 (.ref eA1) :: nR pA1 pA2 pA3 3 0 :: nK pA2 kA2 kA3 kA4 kA5 kA6 kA7 :: nE pA3 (.ref eA2) (.ref eA3) (.ref eA4) .null .null .null :: nH pA4 pA5 pA6 0 :: nK pA5 kA8 kA9 kA10 kA11 kA12 kA13 :: nE pA6 .null .null .null .null .null .null :: F) (fun r M' => ((kA1 < kA4) ∧ r = none ∧ M' = (nQ pA0 pA1 pA4 1 kA0 (.ref eA0) :: nR pA1 pA2 pA3 3 0 :: nK pA2 kA2 kA3 kA4 kA5 kA6 kA7 :: nE pA3 (.ref eA2) (.ref eA3) (.ref eA4) .null .null .null :: nH pA4 pA5 pA6 1 :: nK pA5 kA1 kA9 kA10 kA11 kA12 kA13 :: nE pA6 (.ref eA1) .null .null .null .null .null :: F)) ∨ ((¬ kA1 < kA4) ∧ r = none ∧ M' = (nQ pA0 pA1 pA4 1 kA0 (.ref eA0) :: nR pA1 pA2 pA3 4 0 :: nK pA2 kA2 kA3 kA4 kA1 kA6 kA7 :: nE pA3 (.ref eA2) (.ref eA3) (.ref eA4) (.ref eA1) .null .null :: nH pA4 pA5 pA6 0 :: nK pA5 kA8 kA9 kA10 kA11 kA12 kA13 :: nE pA6 .null .null .null .null .null .null :: F))) := by
  refine Met.of_go pn_10 (Ls := #[.val (.ref pA0), .val (.long kA0), .second, .val (.ref eA0)]) (fun m => rfl) ?_
  intro E C
  refine Go.aloadN C d4_0 rfl rfl rfl ?_
  refine Go.gf C (wd hw 59 rfl) 0 2 rfl rfl d4_1 rfl ?_
  refine Go.ifNo C d4_4 (q := 7) rfl (XT.i0_eq_f (by decide)) ?_
  refine Go.aloadN C d4_7 rfl rfl rfl ?_
  refine Go.aloadN C d4_8 rfl rfl rfl ?_
  refine Go.gf C (wd hw 61 rfl) 0 3 rfl rfl d4_9 rfl ?_
  refine Go.aloadN C d4_12 rfl rfl rfl ?_
  refine Go.gf C (wd hw 63 rfl) 0 4 rfl rfl d4_13 rfl ?_
  refine Go.callP C (y := yN6) (a := pA0) (as := [(.long kA1), (.ref eA1)]) (rest := []) (wd hw 65 rfl) (wd hw 66 rfl) (sel_priv (y := yN6) (wd hw 8 rfl) (wd hw 66 rfl) (wd hw 67 rfl) (by decide)) (wd hw 67 rfl) (wd hw 68 rfl) (wd hw 9 rfl) (fun _ r => r.exa 0 rfl) (u_SequenceQueue_place_49 l Z a0 hw _ pA0 pA1 pA2 pA3 pA4 pA5 pA6 eA1 eA1 eA2 eA3 eA4 kA1 kA1 kA2 kA3 kA4 kA5 kA6 kA7 kA8 kA9 kA10 kA11 kA12 kA13 hE_eA1 hE_eA1 hE_eA2 hE_eA3 hE_eA4) rfl d4_16 (q := 19) rfl (by decide) rfl (na := 2) (by decide +kernel) rfl (by decide) (W := 0) rfl (by decide) (by decide) (by decide) (k' := 0) (n' := 0) rfl rfl ?_
  rintro _ _ (⟨hc29, rfl, rfl⟩ | ⟨hc30, rfl, rfl⟩)
  · show Go _ _ _ _ _ _ _ _ _ _ []
    refine Go.aloadN C d4_19 rfl rfl rfl ?_
    refine Go.iconst C d4_20 rfl (v := (1 : Int32)) rfl ?_
    refine Go.pf C (wd hw 59 rfl) Via.refl 5 2 rfl rfl (wd hw 60 rfl) (wd hw 8 rfl) (ty := .boolean) (by decide) rfl rfl d4_21 rfl (M' := (nH pA4 pA5 pA6 1 :: nK pA5 kA1 kA9 kA10 kA11 kA12 kA13 :: nE pA6 (.ref eA1) .null .null .null .null .null :: nR pA1 pA2 pA3 3 0 :: nK pA2 kA2 kA3 kA4 kA5 kA6 kA7 :: nQ pA0 pA1 pA4 1 kA1 (.ref eA1) :: nE pA3 (.ref eA2) (.ref eA3) (.ref eA4) .null .null .null :: F)) rfl ?_
    refine Go.aloadN C d4_24 rfl rfl rfl ?_
    refine Go.lloadN C d4_25 rfl rfl ?_
    refine Go.pf C (wd hw 61 rfl) Via.refl 5 3 rfl rfl (wd hw 62 rfl) (wd hw 8 rfl) (ty := .long) (by decide) rfl rfl d4_26 rfl (M' := (nH pA4 pA5 pA6 1 :: nK pA5 kA1 kA9 kA10 kA11 kA12 kA13 :: nE pA6 (.ref eA1) .null .null .null .null .null :: nR pA1 pA2 pA3 3 0 :: nK pA2 kA2 kA3 kA4 kA5 kA6 kA7 :: nQ pA0 pA1 pA4 1 kA0 (.ref eA1) :: nE pA3 (.ref eA2) (.ref eA3) (.ref eA4) .null .null .null :: F)) rfl ?_
    refine Go.aloadN C d4_29 rfl rfl rfl ?_
    refine Go.aloadN C d4_30 rfl rfl rfl ?_
    refine Go.pf C (wd hw 63 rfl) Via.refl 5 4 rfl rfl (wd hw 64 rfl) (wd hw 8 rfl) (ty := (.object "java/lang/Object")) (by decide) rfl rfl d4_31 rfl (M' := (nH pA4 pA5 pA6 1 :: nK pA5 kA1 kA9 kA10 kA11 kA12 kA13 :: nE pA6 (.ref eA1) .null .null .null .null .null :: nR pA1 pA2 pA3 3 0 :: nK pA2 kA2 kA3 kA4 kA5 kA6 kA7 :: nQ pA0 pA1 pA4 1 kA0 (.ref eA0) :: nE pA3 (.ref eA2) (.ref eA3) (.ref eA4) .null .null .null :: F)) rfl ?_
    refine Go.pick (M' := (nQ pA0 pA1 pA4 1 kA0 (.ref eA0) :: nR pA1 pA2 pA3 3 0 :: nK pA2 kA2 kA3 kA4 kA5 kA6 kA7 :: nE pA3 (.ref eA2) (.ref eA3) (.ref eA4) .null .null .null :: nH pA4 pA5 pA6 1 :: nK pA5 kA1 kA9 kA10 kA11 kA12 kA13 :: nE pA6 (.ref eA1) .null .null .null .null .null :: F)) 7 [5, 3, 4, 6, 0, 1, 2] (by decide) (by decide) rfl ?_
    refine Go.ret0 C rfl d4_34 (by decide) (by decide) ?_
    exact Or.inl ⟨hc29, rfl, rfl⟩
  · show Go _ _ _ _ _ _ _ _ _ _ []
    refine Go.aloadN C d4_19 rfl rfl rfl ?_
    refine Go.iconst C d4_20 rfl (v := (1 : Int32)) rfl ?_
    refine Go.pf C (wd hw 59 rfl) Via.refl 3 2 rfl rfl (wd hw 60 rfl) (wd hw 8 rfl) (ty := .boolean) (by decide) rfl rfl d4_21 rfl (M' := (nR pA1 pA2 pA3 4 0 :: nK pA2 kA2 kA3 kA4 kA1 kA6 kA7 :: nE pA3 (.ref eA2) (.ref eA3) (.ref eA4) (.ref eA1) .null .null :: nQ pA0 pA1 pA4 1 kA1 (.ref eA1) :: nH pA4 pA5 pA6 0 :: nK pA5 kA8 kA9 kA10 kA11 kA12 kA13 :: nE pA6 .null .null .null .null .null .null :: F)) rfl ?_
    refine Go.aloadN C d4_24 rfl rfl rfl ?_
    refine Go.lloadN C d4_25 rfl rfl ?_
    refine Go.pf C (wd hw 61 rfl) Via.refl 3 3 rfl rfl (wd hw 62 rfl) (wd hw 8 rfl) (ty := .long) (by decide) rfl rfl d4_26 rfl (M' := (nR pA1 pA2 pA3 4 0 :: nK pA2 kA2 kA3 kA4 kA1 kA6 kA7 :: nE pA3 (.ref eA2) (.ref eA3) (.ref eA4) (.ref eA1) .null .null :: nQ pA0 pA1 pA4 1 kA0 (.ref eA1) :: nH pA4 pA5 pA6 0 :: nK pA5 kA8 kA9 kA10 kA11 kA12 kA13 :: nE pA6 .null .null .null .null .null .null :: F)) rfl ?_
    refine Go.aloadN C d4_29 rfl rfl rfl ?_
    refine Go.aloadN C d4_30 rfl rfl rfl ?_
    refine Go.pf C (wd hw 63 rfl) Via.refl 3 4 rfl rfl (wd hw 64 rfl) (wd hw 8 rfl) (ty := (.object "java/lang/Object")) (by decide) rfl rfl d4_31 rfl (M' := (nR pA1 pA2 pA3 4 0 :: nK pA2 kA2 kA3 kA4 kA1 kA6 kA7 :: nE pA3 (.ref eA2) (.ref eA3) (.ref eA4) (.ref eA1) .null .null :: nQ pA0 pA1 pA4 1 kA0 (.ref eA0) :: nH pA4 pA5 pA6 0 :: nK pA5 kA8 kA9 kA10 kA11 kA12 kA13 :: nE pA6 .null .null .null .null .null .null :: F)) rfl ?_
    refine Go.pick (M' := (nQ pA0 pA1 pA4 1 kA0 (.ref eA0) :: nR pA1 pA2 pA3 4 0 :: nK pA2 kA2 kA3 kA4 kA1 kA6 kA7 :: nE pA3 (.ref eA2) (.ref eA3) (.ref eA4) (.ref eA1) .null .null :: nH pA4 pA5 pA6 0 :: nK pA5 kA8 kA9 kA10 kA11 kA12 kA13 :: nE pA6 .null .null .null .null .null .null :: F)) 7 [3, 0, 1, 2, 4, 5, 6] (by decide) (by decide) rfl ?_
    refine Go.ret0 C rfl d4_34 (by decide) (by decide) ?_
    exact Or.inr (⟨hc30, rfl, rfl⟩)
theorem own_addC (l : Launch) (Z : State) (a0 : Array Value) (hw : ∀ d ∈ tables_1, d.before a0 Z = true) (F : List Ent) (K : Nat → Int64) (e : Nat → Addr) (hE : ∀ i, Exa Z Z.heap (e i) "java/lang/Integer") (q : Addr) {t : Nat} {L : List Nat} {M : List Ent} (i : Nat) (ht0 : t ∈ [0, 1, 2, 3, 4, 5, 7]) (hQ : QS K e q t L M) :
    Met l Z yN14 prog_20_method_2_code 4 none { frames := 3, cells := 0, slots := 0, locals := 45 } #[(.ref q), (.long (K i)), (.ref (e i))] (M ++ F) (fun r M' => r = none ∧ ∃ M2, (∃ t2, t2 ∈ [0, 1, 2, 3, 4, 5, 6, 7] ∧ QS K e q t2 (i :: L) M2) ∧ M' = M2 ++ F) := by
  obtain ⟨-, L0, n, hp, h⟩ := hQ
  match n, h with
  | 0, h =>
    obtain ⟨pr, pk, pe, ph, pj, pf, z, x0, x1, x2, x3, x4, x5, y0, y1, y2, y3, y4, y5, ht, rfl, rfl⟩ := h
   
    refine Met.mono (u_SequenceQueue_add_82 l Z a0 hw _ q (e i) pr ph (K i) z (hE i)) ?_
    rintro _ _ ⟨rfl, rfl⟩
    · exact ⟨rfl, _, ⟨6, by decide, QS.c1000 (by decide) pr pk pe ph pj pf i x0 x1 x2 x3 x4 x5 y0 y1 y2 y3 y4 y5  (((by rw [List.perm_iff_count]; intro a; simp only [List.count_cons, List.count_nil] <;> omega) : List.Perm ([i] : List Nat) (i :: [])).trans (hp.cons i))⟩, rfl⟩
  | 1, h =>
    obtain ⟨pr, pk, pe, ph, pj, pf, z, x0, x1, x2, x3, x4, x5, y0, y1, y2, y3, y4, y5, ht, rfl, rfl⟩ := h
   
    refine Met.mono (u_SequenceQueue_add_82 l Z a0 hw _ q (e i) pr ph (K i) z (hE i)) ?_
    rintro _ _ ⟨rfl, rfl⟩
    · exact ⟨rfl, _, ⟨6, by decide, QS.c1010 (by decide) pr pk pe ph pj pf i x0 x1 x2 x3 x4 x5 y0 y1 y2 y3 y4 y5  (((by rw [List.perm_iff_count]; intro a; simp only [List.count_cons, List.count_nil] <;> omega) : List.Perm ([i] : List Nat) (i :: [])).trans (hp.cons i))⟩, rfl⟩
  | 2, h =>
    obtain ⟨pr, pk, pe, ph, pj, pf, j0, z, x0, x1, x2, x3, x4, x5, y1, y2, y3, y4, y5, ht, rfl, rfl⟩ := h
   
    refine Met.mono (u_SequenceQueue_add_82 l Z a0 hw _ q (e i) pr ph (K i) z (hE i)) ?_
    rintro _ _ ⟨rfl, rfl⟩
    · exact ⟨rfl, _, ⟨6, by decide, QS.c1011 (by decide) pr pk pe ph pj pf i j0 x0 x1 x2 x3 x4 x5 y1 y2 y3 y4 y5  (((by rw [List.perm_iff_count]; intro a; simp only [List.count_cons, List.count_nil] <;> omega) : List.Perm ([i, j0] : List Nat) (i :: [j0])).trans (hp.cons i))⟩, rfl⟩
  | 3, h =>
    obtain ⟨pr, pk, pe, ph, pj, pf, j0, j1, z, x0, x1, x2, x3, x4, x5, y2, y3, y4, y5, ht, hv0, rfl, rfl⟩ := h
   
    refine Met.mono (u_SequenceQueue_add_82 l Z a0 hw _ q (e i) pr ph (K i) z (hE i)) ?_
    rintro _ _ ⟨rfl, rfl⟩
    · exact ⟨rfl, _, ⟨6, by decide, QS.c1012 (by decide) pr pk pe ph pj pf i j0 j1 x0 x1 x2 x3 x4 x5 y2 y3 y4 y5 (by simp only [Int64.lt_iff_toInt_lt] at hv0 ⊢; omega) (((by rw [List.perm_iff_count]; intro a; simp only [List.count_cons, List.count_nil] <;> omega) : List.Perm ([i, j0, j1] : List Nat) (i :: [j0, j1])).trans (hp.cons i))⟩, rfl⟩
  | 4, h =>
    obtain ⟨pr, pk, pe, ph, pj, pf, j0, j1, j2, z, x0, x1, x2, x3, x4, x5, y3, y4, y5, ht, hv0, hv1, rfl, rfl⟩ := h
   
    refine Met.mono (u_SequenceQueue_add_82 l Z a0 hw _ q (e i) pr ph (K i) z (hE i)) ?_
    rintro _ _ ⟨rfl, rfl⟩
    · exact ⟨rfl, _, ⟨6, by decide, QS.c1013 (by decide) pr pk pe ph pj pf i j0 j1 j2 x0 x1 x2 x3 x4 x5 y3 y4 y5 (by simp only [Int64.lt_iff_toInt_lt] at hv0 hv1 ⊢; omega) (by simp only [Int64.lt_iff_toInt_lt] at hv0 hv1 ⊢; omega) (((by rw [List.perm_iff_count]; intro a; simp only [List.count_cons, List.count_nil] <;> omega) : List.Perm ([i, j0, j1, j2] : List Nat) (i :: [j0, j1, j2])).trans (hp.cons i))⟩, rfl⟩
  | 5, h =>
    obtain ⟨pr, pk, pe, ph, pj, pf, z, x0, x1, x2, x3, x4, x5, y0, y1, y2, y3, y4, y5, ht, rfl, rfl⟩ := h
   
    refine Met.mono (u_SequenceQueue_add_82 l Z a0 hw _ q (e i) pr ph (K i) z (hE i)) ?_
    rintro _ _ ⟨rfl, rfl⟩
    · exact ⟨rfl, _, ⟨6, by decide, QS.c1020 (by decide) pr pk pe ph pj pf i x0 x1 x2 x3 x4 x5 y0 y1 y2 y3 y4 y5  (((by rw [List.perm_iff_count]; intro a; simp only [List.count_cons, List.count_nil] <;> omega) : List.Perm ([i] : List Nat) (i :: [])).trans (hp.cons i))⟩, rfl⟩
  | 6, h =>
    obtain ⟨pr, pk, pe, ph, pj, pf, j0, z, x0, x1, x2, x3, x4, x5, y1, y2, y3, y4, y5, ht, rfl, rfl⟩ := h
   
    refine Met.mono (u_SequenceQueue_add_82 l Z a0 hw _ q (e i) pr ph (K i) z (hE i)) ?_
    rintro _ _ ⟨rfl, rfl⟩
    · exact ⟨rfl, _, ⟨6, by decide, QS.c1021 (by decide) pr pk pe ph pj pf i j0 x0 x1 x2 x3 x4 x5 y1 y2 y3 y4 y5  (((by rw [List.perm_iff_count]; intro a; simp only [List.count_cons, List.count_nil] <;> omega) : List.Perm ([i, j0] : List Nat) (i :: [j0])).trans (hp.cons i))⟩, rfl⟩
  | 7, h =>
    obtain ⟨pr, pk, pe, ph, pj, pf, j0, j1, z, x0, x1, x2, x3, x4, x5, y2, y3, y4, y5, ht, hv0, rfl, rfl⟩ := h
   
    refine Met.mono (u_SequenceQueue_add_82 l Z a0 hw _ q (e i) pr ph (K i) z (hE i)) ?_
    rintro _ _ ⟨rfl, rfl⟩
    · exact ⟨rfl, _, ⟨6, by decide, QS.c1022 (by decide) pr pk pe ph pj pf i j0 j1 x0 x1 x2 x3 x4 x5 y2 y3 y4 y5 (by simp only [Int64.lt_iff_toInt_lt] at hv0 ⊢; omega) (((by rw [List.perm_iff_count]; intro a; simp only [List.count_cons, List.count_nil] <;> omega) : List.Perm ([i, j0, j1] : List Nat) (i :: [j0, j1])).trans (hp.cons i))⟩, rfl⟩
  | 8, h =>
    obtain ⟨pr, pk, pe, ph, pj, pf, i0, z, x1, x2, x3, x4, x5, y0, y1, y2, y3, y4, y5, ht, rfl, rfl⟩ := h
   
    refine Met.mono (u_SequenceQueue_add_82 l Z a0 hw _ q (e i) pr ph (K i) z (hE i)) ?_
    rintro _ _ ⟨rfl, rfl⟩
    · exact ⟨rfl, _, ⟨6, by decide, QS.c1100 (by decide) pr pk pe ph pj pf i i0 x1 x2 x3 x4 x5 y0 y1 y2 y3 y4 y5  (((by rw [List.perm_iff_count]; intro a; simp only [List.count_cons, List.count_nil] <;> omega) : List.Perm ([i, i0] : List Nat) (i :: [i0])).trans (hp.cons i))⟩, rfl⟩
  | 9, h =>
    obtain ⟨pr, pk, pe, ph, pj, pf, i0, j0, z, x1, x2, x3, x4, x5, y1, y2, y3, y4, y5, ht, rfl, rfl⟩ := h
   
    refine Met.mono (u_SequenceQueue_add_82 l Z a0 hw _ q (e i) pr ph (K i) z (hE i)) ?_
    rintro _ _ ⟨rfl, rfl⟩
    · exact ⟨rfl, _, ⟨6, by decide, QS.c1101 (by decide) pr pk pe ph pj pf i i0 j0 x1 x2 x3 x4 x5 y1 y2 y3 y4 y5  (((by rw [List.perm_iff_count]; intro a; simp only [List.count_cons, List.count_nil] <;> omega) : List.Perm ([i, i0, j0] : List Nat) (i :: [i0, j0])).trans (hp.cons i))⟩, rfl⟩
  | 10, h =>
    obtain ⟨pr, pk, pe, ph, pj, pf, i0, j0, j1, z, x1, x2, x3, x4, x5, y2, y3, y4, y5, ht, hv0, rfl, rfl⟩ := h
   
    refine Met.mono (u_SequenceQueue_add_82 l Z a0 hw _ q (e i) pr ph (K i) z (hE i)) ?_
    rintro _ _ ⟨rfl, rfl⟩
    · exact ⟨rfl, _, ⟨6, by decide, QS.c1102 (by decide) pr pk pe ph pj pf i i0 j0 j1 x1 x2 x3 x4 x5 y2 y3 y4 y5 (by simp only [Int64.lt_iff_toInt_lt] at hv0 ⊢; omega) (((by rw [List.perm_iff_count]; intro a; simp only [List.count_cons, List.count_nil] <;> omega) : List.Perm ([i, i0, j0, j1] : List Nat) (i :: [i0, j0, j1])).trans (hp.cons i))⟩, rfl⟩
  | 11, h =>
    obtain ⟨pr, pk, pe, ph, pj, pf, i0, z, x0, x2, x3, x4, x5, y0, y1, y2, y3, y4, y5, ht, rfl, rfl⟩ := h
   
    refine Met.mono (u_SequenceQueue_add_82 l Z a0 hw _ q (e i) pr ph (K i) z (hE i)) ?_
    rintro _ _ ⟨rfl, rfl⟩
    · exact ⟨rfl, _, ⟨6, by decide, QS.c1110 (by decide) pr pk pe ph pj pf i i0 x0 x2 x3 x4 x5 y0 y1 y2 y3 y4 y5  (((by rw [List.perm_iff_count]; intro a; simp only [List.count_cons, List.count_nil] <;> omega) : List.Perm ([i, i0] : List Nat) (i :: [i0])).trans (hp.cons i))⟩, rfl⟩
  | 12, h =>
    obtain ⟨pr, pk, pe, ph, pj, pf, i0, j0, z, x0, x2, x3, x4, x5, y1, y2, y3, y4, y5, ht, rfl, rfl⟩ := h
   
    refine Met.mono (u_SequenceQueue_add_82 l Z a0 hw _ q (e i) pr ph (K i) z (hE i)) ?_
    rintro _ _ ⟨rfl, rfl⟩
    · exact ⟨rfl, _, ⟨6, by decide, QS.c1111 (by decide) pr pk pe ph pj pf i i0 j0 x0 x2 x3 x4 x5 y1 y2 y3 y4 y5  (((by rw [List.perm_iff_count]; intro a; simp only [List.count_cons, List.count_nil] <;> omega) : List.Perm ([i, i0, j0] : List Nat) (i :: [i0, j0])).trans (hp.cons i))⟩, rfl⟩
  | 13, h =>
    obtain ⟨pr, pk, pe, ph, pj, pf, i0, j0, j1, z, x0, x2, x3, x4, x5, y2, y3, y4, y5, ht, hv0, rfl, rfl⟩ := h
   
    refine Met.mono (u_SequenceQueue_add_82 l Z a0 hw _ q (e i) pr ph (K i) z (hE i)) ?_
    rintro _ _ ⟨rfl, rfl⟩
    · exact ⟨rfl, _, ⟨6, by decide, QS.c1112 (by decide) pr pk pe ph pj pf i i0 j0 j1 x0 x2 x3 x4 x5 y2 y3 y4 y5 (by simp only [Int64.lt_iff_toInt_lt] at hv0 ⊢; omega) (((by rw [List.perm_iff_count]; intro a; simp only [List.count_cons, List.count_nil] <;> omega) : List.Perm ([i, i0, j0, j1] : List Nat) (i :: [i0, j0, j1])).trans (hp.cons i))⟩, rfl⟩
  | 14, h =>
    obtain ⟨pr, pk, pe, ph, pj, pf, i0, z, x0, x1, x3, x4, x5, y0, y1, y2, y3, y4, y5, ht, rfl, rfl⟩ := h
   
    refine Met.mono (u_SequenceQueue_add_82 l Z a0 hw _ q (e i) pr ph (K i) z (hE i)) ?_
    rintro _ _ ⟨rfl, rfl⟩
    · exact ⟨rfl, _, ⟨6, by decide, QS.c1120 (by decide) pr pk pe ph pj pf i i0 x0 x1 x3 x4 x5 y0 y1 y2 y3 y4 y5  (((by rw [List.perm_iff_count]; intro a; simp only [List.count_cons, List.count_nil] <;> omega) : List.Perm ([i, i0] : List Nat) (i :: [i0])).trans (hp.cons i))⟩, rfl⟩
  | 15, h =>
    obtain ⟨pr, pk, pe, ph, pj, pf, i0, j0, z, x0, x1, x3, x4, x5, y1, y2, y3, y4, y5, ht, rfl, rfl⟩ := h
   
    refine Met.mono (u_SequenceQueue_add_82 l Z a0 hw _ q (e i) pr ph (K i) z (hE i)) ?_
    rintro _ _ ⟨rfl, rfl⟩
    · exact ⟨rfl, _, ⟨6, by decide, QS.c1121 (by decide) pr pk pe ph pj pf i i0 j0 x0 x1 x3 x4 x5 y1 y2 y3 y4 y5  (((by rw [List.perm_iff_count]; intro a; simp only [List.count_cons, List.count_nil] <;> omega) : List.Perm ([i, i0, j0] : List Nat) (i :: [i0, j0])).trans (hp.cons i))⟩, rfl⟩
  | 16, h =>
    obtain ⟨pr, pk, pe, ph, pj, pf, i0, i1, z, x2, x3, x4, x5, y0, y1, y2, y3, y4, y5, ht, hv0, rfl, rfl⟩ := h
   
    refine Met.mono (u_SequenceQueue_add_82 l Z a0 hw _ q (e i) pr ph (K i) z (hE i)) ?_
    rintro _ _ ⟨rfl, rfl⟩
    · exact ⟨rfl, _, ⟨6, by decide, QS.c1200 (by decide) pr pk pe ph pj pf i i0 i1 x2 x3 x4 x5 y0 y1 y2 y3 y4 y5 (by simp only [Int64.lt_iff_toInt_lt] at hv0 ⊢; omega) (((by rw [List.perm_iff_count]; intro a; simp only [List.count_cons, List.count_nil] <;> omega) : List.Perm ([i, i0, i1] : List Nat) (i :: [i0, i1])).trans (hp.cons i))⟩, rfl⟩
  | 17, h =>
    obtain ⟨pr, pk, pe, ph, pj, pf, i0, i1, j0, z, x2, x3, x4, x5, y1, y2, y3, y4, y5, ht, hv0, rfl, rfl⟩ := h
   
    refine Met.mono (u_SequenceQueue_add_82 l Z a0 hw _ q (e i) pr ph (K i) z (hE i)) ?_
    rintro _ _ ⟨rfl, rfl⟩
    · exact ⟨rfl, _, ⟨6, by decide, QS.c1201 (by decide) pr pk pe ph pj pf i i0 i1 j0 x2 x3 x4 x5 y1 y2 y3 y4 y5 (by simp only [Int64.lt_iff_toInt_lt] at hv0 ⊢; omega) (((by rw [List.perm_iff_count]; intro a; simp only [List.count_cons, List.count_nil] <;> omega) : List.Perm ([i, i0, i1, j0] : List Nat) (i :: [i0, i1, j0])).trans (hp.cons i))⟩, rfl⟩
  | 18, h =>
    obtain ⟨pr, pk, pe, ph, pj, pf, i0, i1, z, x0, x3, x4, x5, y0, y1, y2, y3, y4, y5, ht, hv0, rfl, rfl⟩ := h
   
    refine Met.mono (u_SequenceQueue_add_82 l Z a0 hw _ q (e i) pr ph (K i) z (hE i)) ?_
    rintro _ _ ⟨rfl, rfl⟩
    · exact ⟨rfl, _, ⟨6, by decide, QS.c1210 (by decide) pr pk pe ph pj pf i i0 i1 x0 x3 x4 x5 y0 y1 y2 y3 y4 y5 (by simp only [Int64.lt_iff_toInt_lt] at hv0 ⊢; omega) (((by rw [List.perm_iff_count]; intro a; simp only [List.count_cons, List.count_nil] <;> omega) : List.Perm ([i, i0, i1] : List Nat) (i :: [i0, i1])).trans (hp.cons i))⟩, rfl⟩
  | 19, h =>
    obtain ⟨pr, pk, pe, ph, pj, pf, i0, i1, j0, z, x0, x3, x4, x5, y1, y2, y3, y4, y5, ht, hv0, rfl, rfl⟩ := h
   
    refine Met.mono (u_SequenceQueue_add_82 l Z a0 hw _ q (e i) pr ph (K i) z (hE i)) ?_
    rintro _ _ ⟨rfl, rfl⟩
    · exact ⟨rfl, _, ⟨6, by decide, QS.c1211 (by decide) pr pk pe ph pj pf i i0 i1 j0 x0 x3 x4 x5 y1 y2 y3 y4 y5 (by simp only [Int64.lt_iff_toInt_lt] at hv0 ⊢; omega) (((by rw [List.perm_iff_count]; intro a; simp only [List.count_cons, List.count_nil] <;> omega) : List.Perm ([i, i0, i1, j0] : List Nat) (i :: [i0, i1, j0])).trans (hp.cons i))⟩, rfl⟩
  | 20, h =>
    obtain ⟨pr, pk, pe, ph, pj, pf, i0, i1, z, x0, x1, x4, x5, y0, y1, y2, y3, y4, y5, ht, hv0, rfl, rfl⟩ := h
   
    refine Met.mono (u_SequenceQueue_add_82 l Z a0 hw _ q (e i) pr ph (K i) z (hE i)) ?_
    rintro _ _ ⟨rfl, rfl⟩
    · exact ⟨rfl, _, ⟨6, by decide, QS.c1220 (by decide) pr pk pe ph pj pf i i0 i1 x0 x1 x4 x5 y0 y1 y2 y3 y4 y5 (by simp only [Int64.lt_iff_toInt_lt] at hv0 ⊢; omega) (((by rw [List.perm_iff_count]; intro a; simp only [List.count_cons, List.count_nil] <;> omega) : List.Perm ([i, i0, i1] : List Nat) (i :: [i0, i1])).trans (hp.cons i))⟩, rfl⟩
  | 21, h =>
    obtain ⟨pr, pk, pe, ph, pj, pf, i0, i1, i2, z, x3, x4, x5, y0, y1, y2, y3, y4, y5, ht, hv0, hv1, rfl, rfl⟩ := h
   
    refine Met.mono (u_SequenceQueue_add_82 l Z a0 hw _ q (e i) pr ph (K i) z (hE i)) ?_
    rintro _ _ ⟨rfl, rfl⟩
    · exact ⟨rfl, _, ⟨6, by decide, QS.c1300 (by decide) pr pk pe ph pj pf i i0 i1 i2 x3 x4 x5 y0 y1 y2 y3 y4 y5 (by simp only [Int64.lt_iff_toInt_lt] at hv0 hv1 ⊢; omega) (by simp only [Int64.lt_iff_toInt_lt] at hv0 hv1 ⊢; omega) (((by rw [List.perm_iff_count]; intro a; simp only [List.count_cons, List.count_nil] <;> omega) : List.Perm ([i, i0, i1, i2] : List Nat) (i :: [i0, i1, i2])).trans (hp.cons i))⟩, rfl⟩
  | 22, h =>
    obtain ⟨pr, pk, pe, ph, pj, pf, i0, i1, i2, z, x0, x4, x5, y0, y1, y2, y3, y4, y5, ht, hv0, hv1, rfl, rfl⟩ := h
   
    refine Met.mono (u_SequenceQueue_add_82 l Z a0 hw _ q (e i) pr ph (K i) z (hE i)) ?_
    rintro _ _ ⟨rfl, rfl⟩
    · exact ⟨rfl, _, ⟨6, by decide, QS.c1310 (by decide) pr pk pe ph pj pf i i0 i1 i2 x0 x4 x5 y0 y1 y2 y3 y4 y5 (by simp only [Int64.lt_iff_toInt_lt] at hv0 hv1 ⊢; omega) (by simp only [Int64.lt_iff_toInt_lt] at hv0 hv1 ⊢; omega) (((by rw [List.perm_iff_count]; intro a; simp only [List.count_cons, List.count_nil] <;> omega) : List.Perm ([i, i0, i1, i2] : List Nat) (i :: [i0, i1, i2])).trans (hp.cons i))⟩, rfl⟩
  | 23, h =>
    obtain ⟨pr, pk, pe, ph, pj, pf, w, x0, x1, x2, x3, x4, x5, y0, y1, y2, y3, y4, y5, ht, rfl, rfl⟩ := h
   
    refine Met.mono (u_SequenceQueue_add_84 l Z a0 hw _ q pr pk pe ph pj pf (e i) (e w) (K i) (K w) x0 x1 x2 x3 x4 x5 y0 y1 y2 y3 y4 y5 (hE i) (hE w)) ?_
    rintro _ _ ⟨rfl, rfl⟩
    · exact ⟨rfl, _, ⟨6, by decide, QS.c1100 (by decide) pr pk pe ph pj pf i w x1 x2 x3 x4 x5 y0 y1 y2 y3 y4 y5  (((by rw [List.perm_iff_count]; intro a; simp only [List.count_cons, List.count_nil] <;> omega) : List.Perm ([i, w] : List Nat) (i :: [w])).trans (hp.cons i))⟩, rfl⟩
  | 24, h =>
    obtain ⟨pr, pk, pe, ph, pj, pf, w, x0, x1, x2, x3, x4, x5, y0, y1, y2, y3, y4, y5, ht, rfl, rfl⟩ := h
    exact absurd ht0 (by simp at ht ⊢; omega)
  | 25, h =>
    obtain ⟨pr, pk, pe, ph, pj, pf, w, j0, x0, x1, x2, x3, x4, x5, y1, y2, y3, y4, y5, ht, rfl, rfl⟩ := h
    exact absurd ht0 (by simp at ht ⊢; omega)
  | 26, h =>
    obtain ⟨pr, pk, pe, ph, pj, pf, w, j0, j1, x0, x1, x2, x3, x4, x5, y2, y3, y4, y5, ht, hv0, rfl, rfl⟩ := h
    exact absurd ht0 (by simp at ht ⊢; omega)
  | 27, h =>
    obtain ⟨pr, pk, pe, ph, pj, pf, w, j0, j1, j2, x0, x1, x2, x3, x4, x5, y3, y4, y5, ht, hv0, hv1, rfl, rfl⟩ := h
    exact absurd ht0 (by simp at ht ⊢; omega)
  | 28, h =>
    obtain ⟨pr, pk, pe, ph, pj, pf, w, x0, x1, x2, x3, x4, x5, y0, y1, y2, y3, y4, y5, ht, rfl, rfl⟩ := h
    exact absurd ht0 (by simp at ht ⊢; omega)
  | 29, h =>
    obtain ⟨pr, pk, pe, ph, pj, pf, w, j0, x0, x1, x2, x3, x4, x5, y1, y2, y3, y4, y5, ht, rfl, rfl⟩ := h
    exact absurd ht0 (by simp at ht ⊢; omega)
  | 30, h =>
    obtain ⟨pr, pk, pe, ph, pj, pf, w, j0, j1, x0, x1, x2, x3, x4, x5, y2, y3, y4, y5, ht, hv0, rfl, rfl⟩ := h
    exact absurd ht0 (by simp at ht ⊢; omega)
  | 31, h =>
    obtain ⟨pr, pk, pe, ph, pj, pf, w, i0, x1, x2, x3, x4, x5, y0, y1, y2, y3, y4, y5, ht, rfl, rfl⟩ := h
   
    refine Met.mono (u_SequenceQueue_add_86 l Z a0 hw _ q pr pk pe ph pj pf (e i) (e w) (e i0) (K i) (K w) (K i0) x1 x2 x3 x4 x5 y0 y1 y2 y3 y4 y5 (hE i) (hE w) (hE i0)) ?_
    rintro _ _ (⟨hc10, rfl, rfl⟩ | ⟨hc11, rfl, rfl⟩)
    · exact ⟨rfl, _, ⟨6, by decide, QS.c1101 (by decide) pr pk pe ph pj pf i i0 w x1 x2 x3 x4 x5 y1 y2 y3 y4 y5  (((by rw [List.perm_iff_count]; intro a; simp only [List.count_cons, List.count_nil] <;> omega) : List.Perm ([i, i0, w] : List Nat) (i :: [w, i0])).trans (hp.cons i))⟩, rfl⟩
    · exact ⟨rfl, _, ⟨6, by decide, QS.c1200 (by decide) pr pk pe ph pj pf i i0 w x2 x3 x4 x5 y0 y1 y2 y3 y4 y5 (by simp only [Int64.lt_iff_toInt_lt] at hc11 ⊢; omega) (((by rw [List.perm_iff_count]; intro a; simp only [List.count_cons, List.count_nil] <;> omega) : List.Perm ([i, i0, w] : List Nat) (i :: [w, i0])).trans (hp.cons i))⟩, rfl⟩
  | 32, h =>
    obtain ⟨pr, pk, pe, ph, pj, pf, w, i0, j0, x1, x2, x3, x4, x5, y1, y2, y3, y4, y5, ht, rfl, rfl⟩ := h
   
    refine Met.mono (u_SequenceQueue_add_88 l Z a0 hw _ q pr pk pe ph pj pf (e i) (e w) (e i0) (e j0) (K i) (K w) (K i0) x1 x2 x3 x4 x5 (K j0) y1 y2 y3 y4 y5 (hE i) (hE w) (hE i0) (hE j0)) ?_
    rintro _ _ (⟨hc12, hc13, rfl, rfl⟩ | ⟨hc14, hc15, rfl, rfl⟩ | ⟨hc16, rfl, rfl⟩)
    · exact ⟨rfl, _, ⟨6, by decide, QS.c1102 (by decide) pr pk pe ph pj pf i i0 w j0 x1 x2 x3 x4 x5 y2 y3 y4 y5 (by simp only [Int64.lt_iff_toInt_lt] at hc12 hc13 ⊢; omega) (((by rw [List.perm_iff_count]; intro a; simp only [List.count_cons, List.count_nil] <;> omega) : List.Perm ([i, i0, w, j0] : List Nat) (i :: [w, i0, j0])).trans (hp.cons i))⟩, rfl⟩
    · exact ⟨rfl, _, ⟨6, by decide, QS.c1102 (by decide) pr pk pe ph pj pf i i0 j0 w x1 x2 x3 x4 x5 y2 y3 y4 y5 (by simp only [Int64.lt_iff_toInt_lt] at hc14 hc15 ⊢; omega) (((by rw [List.perm_iff_count]; intro a; simp only [List.count_cons, List.count_nil] <;> omega) : List.Perm ([i, i0, j0, w] : List Nat) (i :: [w, i0, j0])).trans (hp.cons i))⟩, rfl⟩
    · exact ⟨rfl, _, ⟨6, by decide, QS.c1201 (by decide) pr pk pe ph pj pf i i0 w j0 x2 x3 x4 x5 y1 y2 y3 y4 y5 (by simp only [Int64.lt_iff_toInt_lt] at hc16 ⊢; omega) (((by rw [List.perm_iff_count]; intro a; simp only [List.count_cons, List.count_nil] <;> omega) : List.Perm ([i, i0, w, j0] : List Nat) (i :: [w, i0, j0])).trans (hp.cons i))⟩, rfl⟩
  | 33, h =>
    obtain ⟨pr, pk, pe, ph, pj, pf, w, i0, j0, j1, x1, x2, x3, x4, x5, y2, y3, y4, y5, ht, hv0, rfl, rfl⟩ := h
   
    refine Met.mono (u_SequenceQueue_add_114 l Z a0 hw _ q pr pk pe ph pj pf (e i) (e w) (e i0) (e j0) (e j1) (K i) (K w) (K i0) x1 x2 x3 x4 x5 (K j0) (K j1) y2 y3 y4 y5 (hE i) (hE w) (hE i0) (hE j0) (hE j1) hv0) ?_
    rintro _ _ (⟨hc17, hc18, rfl, rfl⟩ | ⟨hc19, hc20, rfl, rfl⟩ | ⟨hc21, rfl, rfl⟩)
    · exact ⟨rfl, _, ⟨6, by decide, QS.c1103 (by decide) pr pk pe ph pj pf i i0 w j1 j0 x1 x2 x3 x4 x5 y3 y4 y5 (by simp only [Int64.lt_iff_toInt_lt] at hv0 hc17 hc18 ⊢; omega) (by simp only [Int64.lt_iff_toInt_lt] at hv0 hc17 hc18 ⊢; omega) (((by rw [List.perm_iff_count]; intro a; simp only [List.count_cons, List.count_nil] <;> omega) : List.Perm ([i, i0, w, j1, j0] : List Nat) (i :: [w, i0, j0, j1])).trans (hp.cons i))⟩, rfl⟩
    · exact ⟨rfl, _, ⟨6, by decide, QS.c1103 (by decide) pr pk pe ph pj pf i i0 j0 j1 w x1 x2 x3 x4 x5 y3 y4 y5 (by simp only [Int64.lt_iff_toInt_lt] at hv0 hc19 hc20 ⊢; omega) (by simp only [Int64.lt_iff_toInt_lt] at hv0 hc19 hc20 ⊢; omega) (((by rw [List.perm_iff_count]; intro a; simp only [List.count_cons, List.count_nil] <;> omega) : List.Perm ([i, i0, j0, j1, w] : List Nat) (i :: [w, i0, j0, j1])).trans (hp.cons i))⟩, rfl⟩
    · exact ⟨rfl, _, ⟨6, by decide, QS.c1202 (by decide) pr pk pe ph pj pf i i0 w j0 j1 x2 x3 x4 x5 y2 y3 y4 y5 (by simp only [Int64.lt_iff_toInt_lt] at hv0 hc21 ⊢; omega) (by simp only [Int64.lt_iff_toInt_lt] at hv0 hc21 ⊢; omega) (((by rw [List.perm_iff_count]; intro a; simp only [List.count_cons, List.count_nil] <;> omega) : List.Perm ([i, i0, w, j0, j1] : List Nat) (i :: [w, i0, j0, j1])).trans (hp.cons i))⟩, rfl⟩
  | 34, h =>
    obtain ⟨pr, pk, pe, ph, pj, pf, w, i0, j0, j1, j2, x1, x2, x3, x4, x5, y3, y4, y5, ht, hv0, hv1, rfl, rfl⟩ := h
    exact absurd ht0 (by simp at ht ⊢; omega)
  | 35, h =>
    obtain ⟨pr, pk, pe, ph, pj, pf, w, i0, x0, x2, x3, x4, x5, y0, y1, y2, y3, y4, y5, ht, rfl, rfl⟩ := h
    exact absurd ht0 (by simp at ht ⊢; omega)
  | 36, h =>
    obtain ⟨pr, pk, pe, ph, pj, pf, w, i0, j0, x0, x2, x3, x4, x5, y1, y2, y3, y4, y5, ht, rfl, rfl⟩ := h
    exact absurd ht0 (by simp at ht ⊢; omega)
  | 37, h =>
    obtain ⟨pr, pk, pe, ph, pj, pf, w, i0, j0, j1, x0, x2, x3, x4, x5, y2, y3, y4, y5, ht, hv0, rfl, rfl⟩ := h
    exact absurd ht0 (by simp at ht ⊢; omega)
  | 38, h =>
    obtain ⟨pr, pk, pe, ph, pj, pf, w, i0, x0, x1, x3, x4, x5, y0, y1, y2, y3, y4, y5, ht, rfl, rfl⟩ := h
    exact absurd ht0 (by simp at ht ⊢; omega)
  | 39, h =>
    obtain ⟨pr, pk, pe, ph, pj, pf, w, i0, j0, x0, x1, x3, x4, x5, y1, y2, y3, y4, y5, ht, rfl, rfl⟩ := h
    exact absurd ht0 (by simp at ht ⊢; omega)
  | 40, h =>
    obtain ⟨pr, pk, pe, ph, pj, pf, w, i0, i1, x2, x3, x4, x5, y0, y1, y2, y3, y4, y5, ht, hv0, rfl, rfl⟩ := h
   
    refine Met.mono (u_SequenceQueue_add_90 l Z a0 hw _ q pr pk pe ph pj pf (e i) (e w) (e i0) (e i1) (K i) (K w) (K i0) (K i1) x2 x3 x4 x5 y0 y1 y2 y3 y4 y5 (hE i) (hE w) (hE i0) (hE i1) hv0) ?_
    rintro _ _ (⟨hc22, rfl, rfl⟩ | ⟨hc23, rfl, rfl⟩)
    · exact ⟨rfl, _, ⟨6, by decide, QS.c1201 (by decide) pr pk pe ph pj pf i i0 i1 w x2 x3 x4 x5 y1 y2 y3 y4 y5 (by simp only [Int64.lt_iff_toInt_lt] at hv0 hc22 ⊢; omega) (((by rw [List.perm_iff_count]; intro a; simp only [List.count_cons, List.count_nil] <;> omega) : List.Perm ([i, i0, i1, w] : List Nat) (i :: [w, i0, i1])).trans (hp.cons i))⟩, rfl⟩
    · exact ⟨rfl, _, ⟨6, by decide, QS.c1300 (by decide) pr pk pe ph pj pf i i0 i1 w x3 x4 x5 y0 y1 y2 y3 y4 y5 (by simp only [Int64.lt_iff_toInt_lt] at hv0 hc23 ⊢; omega) (by simp only [Int64.lt_iff_toInt_lt] at hv0 hc23 ⊢; omega) (((by rw [List.perm_iff_count]; intro a; simp only [List.count_cons, List.count_nil] <;> omega) : List.Perm ([i, i0, i1, w] : List Nat) (i :: [w, i0, i1])).trans (hp.cons i))⟩, rfl⟩
  | 41, h =>
    obtain ⟨pr, pk, pe, ph, pj, pf, w, i0, i1, j0, x2, x3, x4, x5, y1, y2, y3, y4, y5, ht, hv0, rfl, rfl⟩ := h
   
    refine Met.mono (u_SequenceQueue_add_116 l Z a0 hw _ q pr pk pe ph pj pf (e i) (e w) (e i0) (e i1) (e j0) (K i) (K w) (K i0) (K i1) x2 x3 x4 x5 (K j0) y1 y2 y3 y4 y5 (hE i) (hE w) (hE i0) (hE i1) (hE j0) hv0) ?_
    rintro _ _ (⟨hc24, hc25, rfl, rfl⟩ | ⟨hc26, hc27, rfl, rfl⟩ | ⟨hc28, rfl, rfl⟩)
    · exact ⟨rfl, _, ⟨6, by decide, QS.c1202 (by decide) pr pk pe ph pj pf i i0 i1 w j0 x2 x3 x4 x5 y2 y3 y4 y5 (by simp only [Int64.lt_iff_toInt_lt] at hv0 hc24 hc25 ⊢; omega) (by simp only [Int64.lt_iff_toInt_lt] at hv0 hc24 hc25 ⊢; omega) (((by rw [List.perm_iff_count]; intro a; simp only [List.count_cons, List.count_nil] <;> omega) : List.Perm ([i, i0, i1, w, j0] : List Nat) (i :: [w, i0, i1, j0])).trans (hp.cons i))⟩, rfl⟩
    · exact ⟨rfl, _, ⟨6, by decide, QS.c1202 (by decide) pr pk pe ph pj pf i i0 i1 j0 w x2 x3 x4 x5 y2 y3 y4 y5 (by simp only [Int64.lt_iff_toInt_lt] at hv0 hc26 hc27 ⊢; omega) (by simp only [Int64.lt_iff_toInt_lt] at hv0 hc26 hc27 ⊢; omega) (((by rw [List.perm_iff_count]; intro a; simp only [List.count_cons, List.count_nil] <;> omega) : List.Perm ([i, i0, i1, j0, w] : List Nat) (i :: [w, i0, i1, j0])).trans (hp.cons i))⟩, rfl⟩
    · exact ⟨rfl, _, ⟨6, by decide, QS.c1301 (by decide) pr pk pe ph pj pf i i0 i1 w j0 x3 x4 x5 y1 y2 y3 y4 y5 (by simp only [Int64.lt_iff_toInt_lt] at hv0 hc28 ⊢; omega) (by simp only [Int64.lt_iff_toInt_lt] at hv0 hc28 ⊢; omega) (((by rw [List.perm_iff_count]; intro a; simp only [List.count_cons, List.count_nil] <;> omega) : List.Perm ([i, i0, i1, w, j0] : List Nat) (i :: [w, i0, i1, j0])).trans (hp.cons i))⟩, rfl⟩
  | 42, h =>
    obtain ⟨pr, pk, pe, ph, pj, pf, w, i0, i1, j0, j1, x2, x3, x4, x5, y2, y3, y4, y5, ht, hv0, hv1, rfl, rfl⟩ := h
    exact absurd ht0 (by simp at ht ⊢; omega)
  | 43, h =>
    obtain ⟨pr, pk, pe, ph, pj, pf, w, i0, i1, x0, x3, x4, x5, y0, y1, y2, y3, y4, y5, ht, hv0, rfl, rfl⟩ := h
    exact absurd ht0 (by simp at ht ⊢; omega)
  | 44, h =>
    obtain ⟨pr, pk, pe, ph, pj, pf, w, i0, i1, j0, x0, x3, x4, x5, y1, y2, y3, y4, y5, ht, hv0, rfl, rfl⟩ := h
    exact absurd ht0 (by simp at ht ⊢; omega)
  | 45, h =>
    obtain ⟨pr, pk, pe, ph, pj, pf, w, i0, i1, x0, x1, x4, x5, y0, y1, y2, y3, y4, y5, ht, hv0, rfl, rfl⟩ := h
    exact absurd ht0 (by simp at ht ⊢; omega)
  | 46, h =>
    obtain ⟨pr, pk, pe, ph, pj, pf, w, i0, i1, i2, x3, x4, x5, y0, y1, y2, y3, y4, y5, ht, hv0, hv1, rfl, rfl⟩ := h
   
    refine Met.mono (u_SequenceQueue_add_118 l Z a0 hw _ q pr pk pe ph pj pf (e i) (e w) (e i0) (e i1) (e i2) (K i) (K w) (K i0) (K i1) (K i2) x3 x4 x5 y0 y1 y2 y3 y4 y5 (hE i) (hE w) (hE i0) (hE i1) (hE i2) hv0 hv1) ?_
    rintro _ _ (⟨hc29, rfl, rfl⟩ | ⟨hc30, rfl, rfl⟩)
    · exact ⟨rfl, _, ⟨6, by decide, QS.c1301 (by decide) pr pk pe ph pj pf i i0 i1 i2 w x3 x4 x5 y1 y2 y3 y4 y5 (by simp only [Int64.lt_iff_toInt_lt] at hv0 hv1 hc29 ⊢; omega) (by simp only [Int64.lt_iff_toInt_lt] at hv0 hv1 hc29 ⊢; omega) (((by rw [List.perm_iff_count]; intro a; simp only [List.count_cons, List.count_nil] <;> omega) : List.Perm ([i, i0, i1, i2, w] : List Nat) (i :: [w, i0, i1, i2])).trans (hp.cons i))⟩, rfl⟩
    · exact ⟨rfl, _, ⟨6, by decide, QS.c1400 (by decide) pr pk pe ph pj pf i i0 i1 i2 w x4 x5 y0 y1 y2 y3 y4 y5 (by simp only [Int64.lt_iff_toInt_lt] at hv0 hv1 hc30 ⊢; omega) (by simp only [Int64.lt_iff_toInt_lt] at hv0 hv1 hc30 ⊢; omega) (by simp only [Int64.lt_iff_toInt_lt] at hv0 hv1 hc30 ⊢; omega) (((by rw [List.perm_iff_count]; intro a; simp only [List.count_cons, List.count_nil] <;> omega) : List.Perm ([i, i0, i1, i2, w] : List Nat) (i :: [w, i0, i1, i2])).trans (hp.cons i))⟩, rfl⟩
  | 47, h =>
    obtain ⟨pr, pk, pe, ph, pj, pf, w, i0, i1, i2, j0, x3, x4, x5, y1, y2, y3, y4, y5, ht, hv0, hv1, rfl, rfl⟩ := h
    exact absurd ht0 (by simp at ht ⊢; omega)
  | 48, h =>
    obtain ⟨pr, pk, pe, ph, pj, pf, w, i0, i1, i2, x0, x4, x5, y0, y1, y2, y3, y4, y5, ht, hv0, hv1, rfl, rfl⟩ := h
    exact absurd ht0 (by simp at ht ⊢; omega)
  | 49, h =>
    obtain ⟨pr, pk, pe, ph, pj, pf, w, i0, i1, i2, i3, x4, x5, y0, y1, y2, y3, y4, y5, ht, hv0, hv1, hv2, rfl, rfl⟩ := h
    exact absurd ht0 (by simp at ht ⊢; omega)
  | (_ + 50), h => exact (h : False).elim
theorem pn_11 : plainFor yN15 = true := by first | (apply plainFor_of_name; simp [plainName, overriddenIn]; done) | decide +kernel
theorem u_SequenceQueue_poll_120 (l : Launch) (Z : State) (a0 : Array Value) (hw : HW Z a0) (F : List Ent) (pA0 pA1 pA2 pA3 pA4 pA5 pA6 eA0 : Addr) (kA0 kA1 kA2 kA3 kA4 kA5 kA6 kA7 kA8 kA9 kA10 kA11 kA12 : Int64) (hE_eA0 : XI Z eA0) :
    Met l Z yN15 prog_20_method_3_code 3 (some (.object "java/lang/Object")) { frames := 3, cells := 0, slots := 0, locals := 45 } #[(.ref pA0)] (nQ pA0 pA1 pA4 1 kA0 (.ref eA0) :: nR pA1 pA2 pA3 0 0 :: nK pA2 kA1 kA2 kA3 kA4 kA5 kA6 :: nE pA3 .null .null .null .null .null .null :: nH pA4 pA5 pA6 0 :: nK pA5 kA7 kA8 kA9 kA10 kA11 kA12 :: nE pA6 .null .null .null .null .null .null :: F) (fun r M' => (r = (some (.ref eA0)) ∧ M' = (nQ pA0 pA1 pA4 0 kA0 .null :: nR pA1 pA2 pA3 0 0 :: nK pA2 kA1 kA2 kA3 kA4 kA5 kA6 :: nE pA3 .null .null .null .null .null .null :: nH pA4 pA5 pA6 0 :: nK pA5 kA7 kA8 kA9 kA10 kA11 kA12 :: nE pA6 .null .null .null .null .null .null :: F))) := by
  refine Met.of_go pn_11 (Ls := #[.val (.ref pA0), .unset, .unset]) (fun m => rfl) ?_
  intro E C
  refine Go.aloadN C d9_0 rfl rfl rfl ?_
  refine Go.gf C (wd hw 59 rfl) 0 2 rfl rfl d9_1 rfl ?_
  refine Go.ifNo C d9_4 (q := 7) rfl (XT.i0_eq_f (by decide)) ?_
  refine Go.aloadN C d9_7 rfl rfl rfl ?_
  refine Go.gf C (wd hw 34 rfl) 0 0 rfl rfl d9_8 rfl ?_
  refine Go.gv C (wd hw 69 rfl) (wd hw 70 rfl) 1 2 rfl rfl d9_11 rfl ?_
  refine Go.ifYes C d9_14 (by decide) (q := 40) rfl (XT.i0_eq_t (by decide)) ?_
  refine Go.aloadN C d9_40 rfl rfl rfl ?_
  refine Go.gf C (wd hw 45 rfl) 0 1 rfl rfl d9_41 rfl ?_
  refine Go.gv C (wd hw 106 rfl) (wd hw 107 rfl) 4 2 rfl rfl d9_44 rfl ?_
  refine Go.ifYes C d9_47 (by decide) (q := 67) rfl (XT.i0_eq_t (by decide)) ?_
  refine Go.aloadN C d9_67 rfl rfl rfl ?_
  refine Go.gf C (wd hw 63 rfl) 0 4 rfl rfl d9_68 rfl ?_
  refine Go.astoreN C d9_71 rfl rfl (Ls' := #[.val (.ref pA0), .val (.ref eA0), .unset]) rfl ?_
  refine Go.goto C d9_72 (by decide) (q := 161) rfl ?_
  refine Go.aloadN C d9_161 rfl rfl rfl ?_
  refine Go.iconst C d9_162 rfl (v := (0 : Int32)) rfl ?_
  refine Go.pf C (wd hw 59 rfl) Via.refl 0 2 rfl rfl (wd hw 60 rfl) (wd hw 8 rfl) (ty := .boolean) (by decide) rfl rfl d9_163 rfl (M' := (nQ pA0 pA1 pA4 0 kA0 (.ref eA0) :: nR pA1 pA2 pA3 0 0 :: nK pA2 kA1 kA2 kA3 kA4 kA5 kA6 :: nE pA3 .null .null .null .null .null .null :: nH pA4 pA5 pA6 0 :: nK pA5 kA7 kA8 kA9 kA10 kA11 kA12 :: nE pA6 .null .null .null .null .null .null :: F)) rfl ?_
  refine Go.aloadN C d9_166 rfl rfl rfl ?_
  refine Go.aconstNull C d9_167 rfl ?_
  refine Go.pf C (wd hw 63 rfl) Via.refl 0 4 rfl rfl (wd hw 64 rfl) (wd hw 8 rfl) (ty := (.object "java/lang/Object")) (by decide) rfl rfl d9_168 rfl (M' := (nQ pA0 pA1 pA4 0 kA0 .null :: nR pA1 pA2 pA3 0 0 :: nK pA2 kA1 kA2 kA3 kA4 kA5 kA6 :: nE pA3 .null .null .null .null .null .null :: nH pA4 pA5 pA6 0 :: nK pA5 kA7 kA8 kA9 kA10 kA11 kA12 :: nE pA6 .null .null .null .null .null .null :: F)) rfl ?_
  refine Go.aloadN C d9_171 rfl rfl rfl ?_
  refine Go.astoreN C d9_172 rfl rfl (Ls' := #[.val (.ref pA0), .val (.ref eA0), .val (.ref eA0)]) rfl ?_
  refine Go.aloadN C d9_173 rfl rfl rfl ?_
  refine Go.retA C rfl rfl rfl d9_174 (by decide) (by decide) ?_
  exact ⟨rfl, rfl⟩
theorem u_SequenceQueue_poll_122 (l : Launch) (Z : State) (a0 : Array Value) (hw : HW Z a0) (F : List Ent) (pA0 pA1 pA2 pA3 pA4 pA5 pA6 eA0 eA1 : Addr) (kA0 kA1 kA2 kA3 kA4 kA5 kA6 kA7 kA8 kA9 kA10 kA11 kA12 : Int64) (hE_eA0 : XI Z eA0) (hE_eA1 : XI Z eA1) :
    Met l Z yN15 prog_20_method_3_code 3 (some (.object "java/lang/Object")) { frames := 3, cells := 0, slots := 0, locals := 45 } #[(.ref pA0)] (nQ pA0 pA1 pA4 1 kA0 (.ref eA0) :: nR pA1 pA2 pA3 1 0 :: nK pA2 kA1 kA2 kA3 kA4 kA5 kA6 :: nE pA3 (.ref eA1) .null .null .null .null .null :: nH pA4 pA5 pA6 0 :: nK pA5 kA7 kA8 kA9 kA10 kA11 kA12 :: nE pA6 .null .null .null .null .null .null :: F) (fun r M' => ((kA1 < kA0) ∧ (¬ kA0 < kA1) ∧ r = (some (.ref eA1)) ∧ M' = (nQ pA0 pA1 pA4 0 kA0 .null :: nR pA1 pA2 pA3 1 1 :: nK pA2 kA1 kA0 kA3 kA4 kA5 kA6 :: nE pA3 .null (.ref eA0) .null .null .null .null :: nH pA4 pA5 pA6 0 :: nK pA5 kA7 kA8 kA9 kA10 kA11 kA12 :: nE pA6 .null .null .null .null .null .null :: F)) ∨ ((¬ kA1 < kA0) ∧ r = (some (.ref eA0)) ∧ M' = (nQ pA0 pA1 pA4 0 kA0 .null :: nR pA1 pA2 pA3 1 0 :: nK pA2 kA1 kA2 kA3 kA4 kA5 kA6 :: nE pA3 (.ref eA1) .null .null .null .null .null :: nH pA4 pA5 pA6 0 :: nK pA5 kA7 kA8 kA9 kA10 kA11 kA12 :: nE pA6 .null .null .null .null .null .null :: F))) := by
  refine Met.of_go pn_11 (Ls := #[.val (.ref pA0), .unset, .unset]) (fun m => rfl) ?_
  intro E C
  refine Go.aloadN C d9_0 rfl rfl rfl ?_
  refine Go.gf C (wd hw 59 rfl) 0 2 rfl rfl d9_1 rfl ?_
  refine Go.ifNo C d9_4 (q := 7) rfl (XT.i0_eq_f (by decide)) ?_
  refine Go.aloadN C d9_7 rfl rfl rfl ?_
  refine Go.gf C (wd hw 34 rfl) 0 0 rfl rfl d9_8 rfl ?_
  refine Go.gv C (wd hw 69 rfl) (wd hw 70 rfl) 1 2 rfl rfl d9_11 rfl ?_
  refine Go.ifNo C d9_14 (q := 17) rfl (XT.i0_eq_f (by decide)) ?_
  refine Go.aloadN C d9_17 rfl rfl rfl ?_
  refine Go.gf C (wd hw 61 rfl) 0 3 rfl rfl d9_18 rfl ?_
  refine Go.aloadN C d9_21 rfl rfl rfl ?_
  refine Go.gf C (wd hw 34 rfl) 0 0 rfl rfl d9_22 rfl ?_
  refine Go.gv C (wd hw 101 rfl) (wd hw 91 rfl) 1 0 rfl rfl d9_25 rfl ?_
  refine Go.aloadN C d9_28 rfl rfl rfl ?_
  refine Go.gf C (wd hw 34 rfl) 0 0 rfl rfl d9_29 rfl ?_
  refine Go.getR C (wd hw 102 rfl) (fun _ r => r.fld 1 3 rfl rfl) d9_32 (q := 35) rfl ?_
  refine Go.laload C (fun _ r => r.arr 2 rfl) (by decide) (v := (.long kA1)) rfl d9_35 (q := 36) rfl ?_
  refine Go.lcmpif C d9_36 rfl d9_37 (by decide) (q := 75) rfl (q' := 40) rfl (fun (h36_1 : kA1 < kA0) => ?_) (fun (h36_1 : ¬ kA1 < kA0) => ?_)
  · refine Go.aloadN C d9_75 rfl rfl rfl ?_
    refine Go.gf C (wd hw 59 rfl) 0 2 rfl rfl d9_76 rfl ?_
    refine Go.ifNo C d9_79 (q := 82) rfl (XT.i0_eq_f (by decide)) ?_
    refine Go.aloadN C d9_82 rfl rfl rfl ?_
    refine Go.aloadN C d9_83 rfl rfl rfl ?_
    refine Go.gf C (wd hw 61 rfl) 0 3 rfl rfl d9_84 rfl ?_
    refine Go.aloadN C d9_87 rfl rfl rfl ?_
    refine Go.gf C (wd hw 63 rfl) 0 4 rfl rfl d9_88 rfl ?_
    refine Go.callP C (y := yN6) (a := pA0) (as := [(.long kA0), (.ref eA0)]) (rest := []) (wd hw 65 rfl) (wd hw 66 rfl) (sel_priv (y := yN6) (wd hw 8 rfl) (wd hw 66 rfl) (wd hw 67 rfl) (by decide)) (wd hw 67 rfl) (wd hw 68 rfl) (wd hw 9 rfl) (fun _ r => r.exa 0 rfl) (u_SequenceQueue_place_16 l Z a0 hw _ pA0 pA1 pA2 pA3 pA4 pA5 pA6 eA0 eA0 eA1 kA0 kA0 kA1 kA2 kA3 kA4 kA5 kA6 kA7 kA8 kA9 kA10 kA11 kA12 hE_eA0 hE_eA0 hE_eA1) rfl d9_91 (q := 94) rfl (by decide) rfl (na := 2) (by decide +kernel) rfl (by decide) (W := 0) rfl (by decide) (by decide) (by decide) (k' := 0) (n' := 0) rfl rfl ?_
    rintro _ _ (⟨hc31, rfl, rfl⟩ | ⟨hc32, rfl, rfl⟩)
    · exact absurd trivial (fun _ => (by simp only [Int64.lt_iff_toInt_lt] at h36_1 hc31; omega))
    · show Go _ _ _ _ _ _ _ _ _ _ []
      refine Go.aloadN C d9_94 rfl rfl rfl ?_
      refine Go.gf C (wd hw 45 rfl) 3 1 rfl rfl d9_95 rfl ?_
      refine Go.gv C (wd hw 106 rfl) (wd hw 107 rfl) 4 2 rfl rfl d9_98 rfl ?_
      refine Go.ifYes C d9_101 (by decide) (q := 142) rfl (XT.i0_eq_t (by decide)) ?_
      refine Go.aloadN C d9_142 rfl rfl rfl ?_
      refine Go.gf C (wd hw 34 rfl) 3 0 rfl rfl d9_143 rfl ?_
      refine Go.callPR C (y := yN13) (a := pA1) (as := []) (rest := []) (wd hw 159 rfl) (wd hw 160 rfl) (sel_priv (y := yN13) (wd hw 17 rfl) (wd hw 160 rfl) (wd hw 161 rfl) (by decide)) (wd hw 161 rfl) (wd hw 162 rfl) (wd hw 18 rfl) (fun _ r => r.exa 0 rfl) (u_SequenceQueue_Run_poll_67 l Z a0 hw _ pA1 pA2 pA3 eA1 eA0 kA1 kA0 kA3 kA4 kA5 kA6 hE_eA1 hE_eA0) rfl d9_146 (q := 149) rfl (by decide) rfl (na := 0) (by decide +kernel) rfl (by decide) (W := 0) rfl (by decide) (by decide) (by decide) (k' := 0) (n' := 0) rfl rfl ?_
      rintro _ _ ⟨rfl, rfl⟩
      show Go _ _ _ _ _ _ _ _ _ _ [(.ref eA1)]
      refine Go.astoreN C d9_149 rfl rfl (Ls' := #[.val (.ref pA0), .val (.ref eA1), .unset]) rfl ?_
      refine Go.goto C d9_150 (by decide) (q := 161) rfl ?_
      refine Go.aloadN C d9_161 rfl rfl rfl ?_
      refine Go.iconst C d9_162 rfl (v := (0 : Int32)) rfl ?_
      refine Go.pf C (wd hw 59 rfl) Via.refl 3 2 rfl rfl (wd hw 60 rfl) (wd hw 8 rfl) (ty := .boolean) (by decide) rfl rfl d9_163 rfl (M' := (nR pA1 pA2 pA3 1 1 :: nK pA2 kA1 kA0 kA3 kA4 kA5 kA6 :: nE pA3 .null (.ref eA0) .null .null .null .null :: nQ pA0 pA1 pA4 0 kA0 (.ref eA0) :: nH pA4 pA5 pA6 0 :: nK pA5 kA7 kA8 kA9 kA10 kA11 kA12 :: nE pA6 .null .null .null .null .null .null :: F)) rfl ?_
      refine Go.aloadN C d9_166 rfl rfl rfl ?_
      refine Go.aconstNull C d9_167 rfl ?_
      refine Go.pf C (wd hw 63 rfl) Via.refl 3 4 rfl rfl (wd hw 64 rfl) (wd hw 8 rfl) (ty := (.object "java/lang/Object")) (by decide) rfl rfl d9_168 rfl (M' := (nR pA1 pA2 pA3 1 1 :: nK pA2 kA1 kA0 kA3 kA4 kA5 kA6 :: nE pA3 .null (.ref eA0) .null .null .null .null :: nQ pA0 pA1 pA4 0 kA0 .null :: nH pA4 pA5 pA6 0 :: nK pA5 kA7 kA8 kA9 kA10 kA11 kA12 :: nE pA6 .null .null .null .null .null .null :: F)) rfl ?_
      refine Go.aloadN C d9_171 rfl rfl rfl ?_
      refine Go.astoreN C d9_172 rfl rfl (Ls' := #[.val (.ref pA0), .val (.ref eA1), .val (.ref eA1)]) rfl ?_
      refine Go.aloadN C d9_173 rfl rfl rfl ?_
      refine Go.pick (M' := (nQ pA0 pA1 pA4 0 kA0 .null :: nR pA1 pA2 pA3 1 1 :: nK pA2 kA1 kA0 kA3 kA4 kA5 kA6 :: nE pA3 .null (.ref eA0) .null .null .null .null :: nH pA4 pA5 pA6 0 :: nK pA5 kA7 kA8 kA9 kA10 kA11 kA12 :: nE pA6 .null .null .null .null .null .null :: F)) 7 [3, 0, 1, 2, 4, 5, 6] (by decide) (by decide) rfl ?_
      refine Go.retA C rfl rfl rfl d9_174 (by decide) (by decide) ?_
      exact Or.inl ⟨h36_1, hc32, rfl, rfl⟩
  · refine Go.aloadN C d9_40 rfl rfl rfl ?_
    refine Go.gf C (wd hw 45 rfl) 0 1 rfl rfl d9_41 rfl ?_
    refine Go.gv C (wd hw 106 rfl) (wd hw 107 rfl) 4 2 rfl rfl d9_44 rfl ?_
    refine Go.ifYes C d9_47 (by decide) (q := 67) rfl (XT.i0_eq_t (by decide)) ?_
    refine Go.aloadN C d9_67 rfl rfl rfl ?_
    refine Go.gf C (wd hw 63 rfl) 0 4 rfl rfl d9_68 rfl ?_
    refine Go.astoreN C d9_71 rfl rfl (Ls' := #[.val (.ref pA0), .val (.ref eA0), .unset]) rfl ?_
    refine Go.goto C d9_72 (by decide) (q := 161) rfl ?_
    refine Go.aloadN C d9_161 rfl rfl rfl ?_
    refine Go.iconst C d9_162 rfl (v := (0 : Int32)) rfl ?_
    refine Go.pf C (wd hw 59 rfl) Via.refl 0 2 rfl rfl (wd hw 60 rfl) (wd hw 8 rfl) (ty := .boolean) (by decide) rfl rfl d9_163 rfl (M' := (nQ pA0 pA1 pA4 0 kA0 (.ref eA0) :: nR pA1 pA2 pA3 1 0 :: nK pA2 kA1 kA2 kA3 kA4 kA5 kA6 :: nE pA3 (.ref eA1) .null .null .null .null .null :: nH pA4 pA5 pA6 0 :: nK pA5 kA7 kA8 kA9 kA10 kA11 kA12 :: nE pA6 .null .null .null .null .null .null :: F)) rfl ?_
    refine Go.aloadN C d9_166 rfl rfl rfl ?_
    refine Go.aconstNull C d9_167 rfl ?_
    refine Go.pf C (wd hw 63 rfl) Via.refl 0 4 rfl rfl (wd hw 64 rfl) (wd hw 8 rfl) (ty := (.object "java/lang/Object")) (by decide) rfl rfl d9_168 rfl (M' := (nQ pA0 pA1 pA4 0 kA0 .null :: nR pA1 pA2 pA3 1 0 :: nK pA2 kA1 kA2 kA3 kA4 kA5 kA6 :: nE pA3 (.ref eA1) .null .null .null .null .null :: nH pA4 pA5 pA6 0 :: nK pA5 kA7 kA8 kA9 kA10 kA11 kA12 :: nE pA6 .null .null .null .null .null .null :: F)) rfl ?_
    refine Go.aloadN C d9_171 rfl rfl rfl ?_
    refine Go.astoreN C d9_172 rfl rfl (Ls' := #[.val (.ref pA0), .val (.ref eA0), .val (.ref eA0)]) rfl ?_
    refine Go.aloadN C d9_173 rfl rfl rfl ?_
    refine Go.retA C rfl rfl rfl d9_174 (by decide) (by decide) ?_
    exact Or.inr (⟨h36_1, rfl, rfl⟩)
theorem u_SequenceQueue_poll_124 (l : Launch) (Z : State) (a0 : Array Value) (hw : HW Z a0) (F : List Ent) (pA0 pA1 pA2 pA3 pA4 pA5 pA6 eA0 eA1 eA2 : Addr) (kA0 kA1 kA2 kA3 kA4 kA5 kA6 kA7 kA8 kA9 kA10 kA11 kA12 : Int64) (hE_eA0 : XI Z eA0) (hE_eA1 : XI Z eA1) (hE_eA2 : XI Z eA2) :
    Met l Z yN15 prog_20_method_3_code 3 (some (.object "java/lang/Object")) { frames := 3, cells := 0, slots := 0, locals := 45 } #[(.ref pA0)] (nQ pA0 pA1 pA4 1 kA0 (.ref eA0) :: nR pA1 pA2 pA3 1 0 :: nK pA2 kA1 kA2 kA3 kA4 kA5 kA6 :: nE pA3 (.ref eA1) .null .null .null .null .null :: nH pA4 pA5 pA6 1 :: nK pA5 kA7 kA8 kA9 kA10 kA11 kA12 :: nE pA6 (.ref eA2) .null .null .null .null .null :: F) (fun r M' => ((kA1 < kA0) ∧ (¬ kA0 < kA1) ∧ (kA7 < kA1) ∧ r = (some (.ref eA2)) ∧ M' = (nQ pA0 pA1 pA4 0 kA0 .null :: nR pA1 pA2 pA3 2 0 :: nK pA2 kA1 kA0 kA3 kA4 kA5 kA6 :: nE pA3 (.ref eA1) (.ref eA0) .null .null .null .null :: nH pA4 pA5 pA6 0 :: nK pA5 kA7 kA8 kA9 kA10 kA11 kA12 :: nE pA6 .null .null .null .null .null .null :: F)) ∨ ((kA1 < kA0) ∧ (¬ kA0 < kA1) ∧ (¬ kA7 < kA1) ∧ r = (some (.ref eA1)) ∧ M' = (nQ pA0 pA1 pA4 0 kA0 .null :: nR pA1 pA2 pA3 1 1 :: nK pA2 kA1 kA0 kA3 kA4 kA5 kA6 :: nE pA3 .null (.ref eA0) .null .null .null .null :: nH pA4 pA5 pA6 1 :: nK pA5 kA7 kA8 kA9 kA10 kA11 kA12 :: nE pA6 (.ref eA2) .null .null .null .null .null :: F)) ∨ ((¬ kA1 < kA0) ∧ (kA7 < kA0) ∧ (kA0 < kA1) ∧ (¬ kA0 < kA7) ∧ r = (some (.ref eA2)) ∧ M' = (nQ pA0 pA1 pA4 0 kA0 .null :: nR pA1 pA2 pA3 1 0 :: nK pA2 kA1 kA2 kA3 kA4 kA5 kA6 :: nE pA3 (.ref eA1) .null .null .null .null .null :: nH pA4 pA5 pA6 1 :: nK pA5 kA0 kA0 kA9 kA10 kA11 kA12 :: nE pA6 (.ref eA0) .null .null .null .null .null :: F)) ∨ ((¬ kA1 < kA0) ∧ (kA7 < kA0) ∧ (¬ kA0 < kA1) ∧ r = (some (.ref eA2)) ∧ M' = (nQ pA0 pA1 pA4 0 kA0 .null :: nR pA1 pA2 pA3 2 0 :: nK pA2 kA1 kA0 kA3 kA4 kA5 kA6 :: nE pA3 (.ref eA1) (.ref eA0) .null .null .null .null :: nH pA4 pA5 pA6 0 :: nK pA5 kA7 kA8 kA9 kA10 kA11 kA12 :: nE pA6 .null .null .null .null .null .null :: F)) ∨ ((¬ kA1 < kA0) ∧ (¬ kA7 < kA0) ∧ r = (some (.ref eA0)) ∧ M' = (nQ pA0 pA1 pA4 0 kA0 .null :: nR pA1 pA2 pA3 1 0 :: nK pA2 kA1 kA2 kA3 kA4 kA5 kA6 :: nE pA3 (.ref eA1) .null .null .null .null .null :: nH pA4 pA5 pA6 1 :: nK pA5 kA7 kA8 kA9 kA10 kA11 kA12 :: nE pA6 (.ref eA2) .null .null .null .null .null :: F))) := by
  refine Met.of_go pn_11 (Ls := #[.val (.ref pA0), .unset, .unset]) (fun m => rfl) ?_
  intro E C
  refine Go.aloadN C d9_0 rfl rfl rfl ?_
  refine Go.gf C (wd hw 59 rfl) 0 2 rfl rfl d9_1 rfl ?_
  refine Go.ifNo C d9_4 (q := 7) rfl (XT.i0_eq_f (by decide)) ?_
  refine Go.aloadN C d9_7 rfl rfl rfl ?_
  refine Go.gf C (wd hw 34 rfl) 0 0 rfl rfl d9_8 rfl ?_
  refine Go.gv C (wd hw 69 rfl) (wd hw 70 rfl) 1 2 rfl rfl d9_11 rfl ?_
  refine Go.ifNo C d9_14 (q := 17) rfl (XT.i0_eq_f (by decide)) ?_
  refine Go.aloadN C d9_17 rfl rfl rfl ?_
  refine Go.gf C (wd hw 61 rfl) 0 3 rfl rfl d9_18 rfl ?_
  refine Go.aloadN C d9_21 rfl rfl rfl ?_
  refine Go.gf C (wd hw 34 rfl) 0 0 rfl rfl d9_22 rfl ?_
  refine Go.gv C (wd hw 101 rfl) (wd hw 91 rfl) 1 0 rfl rfl d9_25 rfl ?_
  refine Go.aloadN C d9_28 rfl rfl rfl ?_
  refine Go.gf C (wd hw 34 rfl) 0 0 rfl rfl d9_29 rfl ?_
  refine Go.getR C (wd hw 102 rfl) (fun _ r => r.fld 1 3 rfl rfl) d9_32 (q := 35) rfl ?_
  refine Go.laload C (fun _ r => r.arr 2 rfl) (by decide) (v := (.long kA1)) rfl d9_35 (q := 36) rfl ?_
  refine Go.lcmpif C d9_36 rfl d9_37 (by decide) (q := 75) rfl (q' := 40) rfl (fun (h36_1 : kA1 < kA0) => ?_) (fun (h36_1 : ¬ kA1 < kA0) => ?_)
  · refine Go.aloadN C d9_75 rfl rfl rfl ?_
    refine Go.gf C (wd hw 59 rfl) 0 2 rfl rfl d9_76 rfl ?_
    refine Go.ifNo C d9_79 (q := 82) rfl (XT.i0_eq_f (by decide)) ?_
    refine Go.aloadN C d9_82 rfl rfl rfl ?_
    refine Go.aloadN C d9_83 rfl rfl rfl ?_
    refine Go.gf C (wd hw 61 rfl) 0 3 rfl rfl d9_84 rfl ?_
    refine Go.aloadN C d9_87 rfl rfl rfl ?_
    refine Go.gf C (wd hw 63 rfl) 0 4 rfl rfl d9_88 rfl ?_
    refine Go.callP C (y := yN6) (a := pA0) (as := [(.long kA0), (.ref eA0)]) (rest := []) (wd hw 65 rfl) (wd hw 66 rfl) (sel_priv (y := yN6) (wd hw 8 rfl) (wd hw 66 rfl) (wd hw 67 rfl) (by decide)) (wd hw 67 rfl) (wd hw 68 rfl) (wd hw 9 rfl) (fun _ r => r.exa 0 rfl) (u_SequenceQueue_place_22 l Z a0 hw _ pA0 pA1 pA2 pA3 pA4 pA5 pA6 eA0 eA0 eA1 eA2 kA0 kA0 kA1 kA2 kA3 kA4 kA5 kA6 kA7 kA8 kA9 kA10 kA11 kA12 hE_eA0 hE_eA0 hE_eA1 hE_eA2) rfl d9_91 (q := 94) rfl (by decide) rfl (na := 2) (by decide +kernel) rfl (by decide) (W := 0) rfl (by decide) (by decide) (by decide) (k' := 0) (n' := 0) rfl rfl ?_
    rintro _ _ (⟨hc34, hc35, rfl, rfl⟩ | ⟨hc36, hc37, rfl, rfl⟩ | ⟨hc38, rfl, rfl⟩)
    · exact absurd trivial (fun _ => (by simp only [Int64.lt_iff_toInt_lt] at h36_1 hc34; omega))
    · exact absurd trivial (fun _ => (by simp only [Int64.lt_iff_toInt_lt] at h36_1 hc36; omega))
    · show Go _ _ _ _ _ _ _ _ _ _ []
      refine Go.aloadN C d9_94 rfl rfl rfl ?_
      refine Go.gf C (wd hw 45 rfl) 3 1 rfl rfl d9_95 rfl ?_
      refine Go.gv C (wd hw 106 rfl) (wd hw 107 rfl) 4 2 rfl rfl d9_98 rfl ?_
      refine Go.ifNo C d9_101 (q := 104) rfl (XT.i0_eq_f (by decide)) ?_
      refine Go.aloadN C d9_104 rfl rfl rfl ?_
      refine Go.gf C (wd hw 34 rfl) 3 0 rfl rfl d9_105 rfl ?_
      refine Go.gv C (wd hw 69 rfl) (wd hw 70 rfl) 0 2 rfl rfl d9_108 rfl ?_
      refine Go.ifNo C d9_111 (q := 114) rfl (XT.i0_le_f (by decide)) ?_
      refine Go.aloadN C d9_114 rfl rfl rfl ?_
      refine Go.gf C (wd hw 34 rfl) 3 0 rfl rfl d9_115 rfl ?_
      refine Go.gv C (wd hw 101 rfl) (wd hw 91 rfl) 0 0 rfl rfl d9_118 rfl ?_
      refine Go.aloadN C d9_121 rfl rfl rfl ?_
      refine Go.gf C (wd hw 34 rfl) 3 0 rfl rfl d9_122 rfl ?_
      refine Go.getR C (wd hw 102 rfl) (fun _ r => r.fld 0 3 rfl rfl) d9_125 (q := 128) rfl ?_
      refine Go.laload C (fun _ r => r.arr 1 rfl) (by decide) (v := (.long kA1)) rfl d9_128 (q := 129) rfl ?_
      refine Go.aloadN C d9_129 rfl rfl rfl ?_
      refine Go.gf C (wd hw 45 rfl) 3 1 rfl rfl d9_130 rfl ?_
      refine Go.gv C (wd hw 134 rfl) (wd hw 128 rfl) 4 0 rfl rfl d9_133 rfl ?_
      refine Go.iconst C d9_136 rfl (v := (0 : Int32)) rfl ?_
      refine Go.laload C (fun _ r => r.arr 5 rfl) (by decide) (v := (.long kA7)) rfl d9_137 (q := 138) rfl ?_
      refine Go.lcmpif C d9_138 rfl d9_139 (by decide) (q := 153) rfl (q' := 142) rfl (fun (h138_2 : kA7 < kA1) => ?_) (fun (h138_2 : ¬ kA7 < kA1) => ?_)
      · refine Go.aloadN C d9_153 rfl rfl rfl ?_
        refine Go.gf C (wd hw 45 rfl) 3 1 rfl rfl d9_154 rfl ?_
        refine Go.pick (M' := (nH pA4 pA5 pA6 1 :: nK pA5 kA7 kA8 kA9 kA10 kA11 kA12 :: nE pA6 (.ref eA2) .null .null .null .null .null :: nR pA1 pA2 pA3 2 0 :: nK pA2 kA1 kA0 kA3 kA4 kA5 kA6 :: nE pA3 (.ref eA1) (.ref eA0) .null .null .null .null :: nQ pA0 pA1 pA4 1 kA0 (.ref eA0) :: F)) 7 [4, 5, 6, 0, 1, 2, 3] (by decide) (by decide) rfl ?_
        refine Go.callPR C (y := yN11) (a := pA4) (as := []) (rest := []) (wd hw 140 rfl) (wd hw 141 rfl) (sel_priv (y := yN11) (wd hw 37 rfl) (wd hw 141 rfl) (wd hw 142 rfl) (by decide)) (wd hw 142 rfl) (wd hw 143 rfl) (wd hw 38 rfl) (fun _ r => r.exa 0 rfl) (u_SequenceQueue_Heap_poll_52 l Z a0 hw _ pA4 pA5 pA6 eA2 kA7 kA8 kA9 kA10 kA11 kA12 hE_eA2) rfl d9_157 (q := 160) rfl (by decide) rfl (na := 0) (by decide +kernel) rfl (by decide) (W := 0) rfl (by decide) (by decide) (by decide) (k' := 0) (n' := 0) rfl rfl ?_
        rintro _ _ ⟨rfl, rfl⟩
        show Go _ _ _ _ _ _ _ _ _ _ [(.ref eA2)]
        refine Go.astoreN C d9_160 rfl rfl (Ls' := #[.val (.ref pA0), .val (.ref eA2), .unset]) rfl ?_
        refine Go.aloadN C d9_161 rfl rfl rfl ?_
        refine Go.iconst C d9_162 rfl (v := (0 : Int32)) rfl ?_
        refine Go.pf C (wd hw 59 rfl) Via.refl 6 2 rfl rfl (wd hw 60 rfl) (wd hw 8 rfl) (ty := .boolean) (by decide) rfl rfl d9_163 rfl (M' := (nH pA4 pA5 pA6 0 :: nK pA5 kA7 kA8 kA9 kA10 kA11 kA12 :: nE pA6 .null .null .null .null .null .null :: nR pA1 pA2 pA3 2 0 :: nK pA2 kA1 kA0 kA3 kA4 kA5 kA6 :: nE pA3 (.ref eA1) (.ref eA0) .null .null .null .null :: nQ pA0 pA1 pA4 0 kA0 (.ref eA0) :: F)) rfl ?_
        refine Go.aloadN C d9_166 rfl rfl rfl ?_
        refine Go.aconstNull C d9_167 rfl ?_
        refine Go.pf C (wd hw 63 rfl) Via.refl 6 4 rfl rfl (wd hw 64 rfl) (wd hw 8 rfl) (ty := (.object "java/lang/Object")) (by decide) rfl rfl d9_168 rfl (M' := (nH pA4 pA5 pA6 0 :: nK pA5 kA7 kA8 kA9 kA10 kA11 kA12 :: nE pA6 .null .null .null .null .null .null :: nR pA1 pA2 pA3 2 0 :: nK pA2 kA1 kA0 kA3 kA4 kA5 kA6 :: nE pA3 (.ref eA1) (.ref eA0) .null .null .null .null :: nQ pA0 pA1 pA4 0 kA0 .null :: F)) rfl ?_
        refine Go.aloadN C d9_171 rfl rfl rfl ?_
        refine Go.astoreN C d9_172 rfl rfl (Ls' := #[.val (.ref pA0), .val (.ref eA2), .val (.ref eA2)]) rfl ?_
        refine Go.aloadN C d9_173 rfl rfl rfl ?_
        refine Go.pick (M' := (nQ pA0 pA1 pA4 0 kA0 .null :: nR pA1 pA2 pA3 2 0 :: nK pA2 kA1 kA0 kA3 kA4 kA5 kA6 :: nE pA3 (.ref eA1) (.ref eA0) .null .null .null .null :: nH pA4 pA5 pA6 0 :: nK pA5 kA7 kA8 kA9 kA10 kA11 kA12 :: nE pA6 .null .null .null .null .null .null :: F)) 7 [6, 3, 4, 5, 0, 1, 2] (by decide) (by decide) rfl ?_
        refine Go.retA C rfl rfl rfl d9_174 (by decide) (by decide) ?_
        exact Or.inl ⟨h36_1, hc38, h138_2, rfl, rfl⟩
      · refine Go.aloadN C d9_142 rfl rfl rfl ?_
        refine Go.gf C (wd hw 34 rfl) 3 0 rfl rfl d9_143 rfl ?_
        refine Go.callPR C (y := yN13) (a := pA1) (as := []) (rest := []) (wd hw 159 rfl) (wd hw 160 rfl) (sel_priv (y := yN13) (wd hw 17 rfl) (wd hw 160 rfl) (wd hw 161 rfl) (by decide)) (wd hw 161 rfl) (wd hw 162 rfl) (wd hw 18 rfl) (fun _ r => r.exa 0 rfl) (u_SequenceQueue_Run_poll_67 l Z a0 hw _ pA1 pA2 pA3 eA1 eA0 kA1 kA0 kA3 kA4 kA5 kA6 hE_eA1 hE_eA0) rfl d9_146 (q := 149) rfl (by decide) rfl (na := 0) (by decide +kernel) rfl (by decide) (W := 0) rfl (by decide) (by decide) (by decide) (k' := 0) (n' := 0) rfl rfl ?_
        rintro _ _ ⟨rfl, rfl⟩
        show Go _ _ _ _ _ _ _ _ _ _ [(.ref eA1)]
        refine Go.astoreN C d9_149 rfl rfl (Ls' := #[.val (.ref pA0), .val (.ref eA1), .unset]) rfl ?_
        refine Go.goto C d9_150 (by decide) (q := 161) rfl ?_
        refine Go.aloadN C d9_161 rfl rfl rfl ?_
        refine Go.iconst C d9_162 rfl (v := (0 : Int32)) rfl ?_
        refine Go.pf C (wd hw 59 rfl) Via.refl 3 2 rfl rfl (wd hw 60 rfl) (wd hw 8 rfl) (ty := .boolean) (by decide) rfl rfl d9_163 rfl (M' := (nR pA1 pA2 pA3 1 1 :: nK pA2 kA1 kA0 kA3 kA4 kA5 kA6 :: nE pA3 .null (.ref eA0) .null .null .null .null :: nQ pA0 pA1 pA4 0 kA0 (.ref eA0) :: nH pA4 pA5 pA6 1 :: nK pA5 kA7 kA8 kA9 kA10 kA11 kA12 :: nE pA6 (.ref eA2) .null .null .null .null .null :: F)) rfl ?_
        refine Go.aloadN C d9_166 rfl rfl rfl ?_
        refine Go.aconstNull C d9_167 rfl ?_
        refine Go.pf C (wd hw 63 rfl) Via.refl 3 4 rfl rfl (wd hw 64 rfl) (wd hw 8 rfl) (ty := (.object "java/lang/Object")) (by decide) rfl rfl d9_168 rfl (M' := (nR pA1 pA2 pA3 1 1 :: nK pA2 kA1 kA0 kA3 kA4 kA5 kA6 :: nE pA3 .null (.ref eA0) .null .null .null .null :: nQ pA0 pA1 pA4 0 kA0 .null :: nH pA4 pA5 pA6 1 :: nK pA5 kA7 kA8 kA9 kA10 kA11 kA12 :: nE pA6 (.ref eA2) .null .null .null .null .null :: F)) rfl ?_
        refine Go.aloadN C d9_171 rfl rfl rfl ?_
        refine Go.astoreN C d9_172 rfl rfl (Ls' := #[.val (.ref pA0), .val (.ref eA1), .val (.ref eA1)]) rfl ?_
        refine Go.aloadN C d9_173 rfl rfl rfl ?_
        refine Go.pick (M' := (nQ pA0 pA1 pA4 0 kA0 .null :: nR pA1 pA2 pA3 1 1 :: nK pA2 kA1 kA0 kA3 kA4 kA5 kA6 :: nE pA3 .null (.ref eA0) .null .null .null .null :: nH pA4 pA5 pA6 1 :: nK pA5 kA7 kA8 kA9 kA10 kA11 kA12 :: nE pA6 (.ref eA2) .null .null .null .null .null :: F)) 7 [3, 0, 1, 2, 4, 5, 6] (by decide) (by decide) rfl ?_
        refine Go.retA C rfl rfl rfl d9_174 (by decide) (by decide) ?_
        exact Or.inr (Or.inl ⟨h36_1, hc38, h138_2, rfl, rfl⟩)
  · refine Go.aloadN C d9_40 rfl rfl rfl ?_
    refine Go.gf C (wd hw 45 rfl) 0 1 rfl rfl d9_41 rfl ?_
    refine Go.gv C (wd hw 106 rfl) (wd hw 107 rfl) 4 2 rfl rfl d9_44 rfl ?_
    refine Go.ifNo C d9_47 (q := 50) rfl (XT.i0_eq_f (by decide)) ?_
    refine Go.aloadN C d9_50 rfl rfl rfl ?_
    refine Go.gf C (wd hw 61 rfl) 0 3 rfl rfl d9_51 rfl ?_
    refine Go.aloadN C d9_54 rfl rfl rfl ?_
    refine Go.gf C (wd hw 45 rfl) 0 1 rfl rfl d9_55 rfl ?_
    refine Go.gv C (wd hw 134 rfl) (wd hw 128 rfl) 4 0 rfl rfl d9_58 rfl ?_
    refine Go.iconst C d9_61 rfl (v := (0 : Int32)) rfl ?_
    refine Go.laload C (fun _ r => r.arr 5 rfl) (by decide) (v := (.long kA7)) rfl d9_62 (q := 63) rfl ?_
    refine Go.lcmpif C d9_63 rfl d9_64 (by decide) (q := 75) rfl (q' := 67) rfl (fun (h63_3 : kA7 < kA0) => ?_) (fun (h63_3 : ¬ kA7 < kA0) => ?_)
    · refine Go.aloadN C d9_75 rfl rfl rfl ?_
      refine Go.gf C (wd hw 59 rfl) 0 2 rfl rfl d9_76 rfl ?_
      refine Go.ifNo C d9_79 (q := 82) rfl (XT.i0_eq_f (by decide)) ?_
      refine Go.aloadN C d9_82 rfl rfl rfl ?_
      refine Go.aloadN C d9_83 rfl rfl rfl ?_
      refine Go.gf C (wd hw 61 rfl) 0 3 rfl rfl d9_84 rfl ?_
      refine Go.aloadN C d9_87 rfl rfl rfl ?_
      refine Go.gf C (wd hw 63 rfl) 0 4 rfl rfl d9_88 rfl ?_
      refine Go.callP C (y := yN6) (a := pA0) (as := [(.long kA0), (.ref eA0)]) (rest := []) (wd hw 65 rfl) (wd hw 66 rfl) (sel_priv (y := yN6) (wd hw 8 rfl) (wd hw 66 rfl) (wd hw 67 rfl) (by decide)) (wd hw 67 rfl) (wd hw 68 rfl) (wd hw 9 rfl) (fun _ r => r.exa 0 rfl) (u_SequenceQueue_place_22 l Z a0 hw _ pA0 pA1 pA2 pA3 pA4 pA5 pA6 eA0 eA0 eA1 eA2 kA0 kA0 kA1 kA2 kA3 kA4 kA5 kA6 kA7 kA8 kA9 kA10 kA11 kA12 hE_eA0 hE_eA0 hE_eA1 hE_eA2) rfl d9_91 (q := 94) rfl (by decide) rfl (na := 2) (by decide +kernel) rfl (by decide) (W := 0) rfl (by decide) (by decide) (by decide) (k' := 0) (n' := 0) rfl rfl ?_
      rintro _ _ (⟨hc39, hc40, rfl, rfl⟩ | ⟨hc41, hc42, rfl, rfl⟩ | ⟨hc43, rfl, rfl⟩)
      · exact absurd trivial (fun _ => (by simp only [Int64.lt_iff_toInt_lt] at h63_3 hc40; omega))
      · show Go _ _ _ _ _ _ _ _ _ _ []
        refine Go.aloadN C d9_94 rfl rfl rfl ?_
        refine Go.gf C (wd hw 45 rfl) 5 1 rfl rfl d9_95 rfl ?_
        refine Go.gv C (wd hw 106 rfl) (wd hw 107 rfl) 0 2 rfl rfl d9_98 rfl ?_
        refine Go.ifNo C d9_101 (q := 104) rfl (XT.i0_eq_f (by decide)) ?_
        refine Go.aloadN C d9_104 rfl rfl rfl ?_
        refine Go.gf C (wd hw 34 rfl) 5 0 rfl rfl d9_105 rfl ?_
        refine Go.gv C (wd hw 69 rfl) (wd hw 70 rfl) 3 2 rfl rfl d9_108 rfl ?_
        refine Go.ifNo C d9_111 (q := 114) rfl (XT.i0_le_f (by decide)) ?_
        refine Go.aloadN C d9_114 rfl rfl rfl ?_
        refine Go.gf C (wd hw 34 rfl) 5 0 rfl rfl d9_115 rfl ?_
        refine Go.gv C (wd hw 101 rfl) (wd hw 91 rfl) 3 0 rfl rfl d9_118 rfl ?_
        refine Go.aloadN C d9_121 rfl rfl rfl ?_
        refine Go.gf C (wd hw 34 rfl) 5 0 rfl rfl d9_122 rfl ?_
        refine Go.getR C (wd hw 102 rfl) (fun _ r => r.fld 3 3 rfl rfl) d9_125 (q := 128) rfl ?_
        refine Go.laload C (fun _ r => r.arr 4 rfl) (by decide) (v := (.long kA1)) rfl d9_128 (q := 129) rfl ?_
        refine Go.aloadN C d9_129 rfl rfl rfl ?_
        refine Go.gf C (wd hw 45 rfl) 5 1 rfl rfl d9_130 rfl ?_
        refine Go.gv C (wd hw 134 rfl) (wd hw 128 rfl) 0 0 rfl rfl d9_133 rfl ?_
        refine Go.iconst C d9_136 rfl (v := (0 : Int32)) rfl ?_
        refine Go.laload C (fun _ r => r.arr 1 rfl) (by decide) (v := (.long kA7)) rfl d9_137 (q := 138) rfl ?_
        refine Go.lcmp C d9_138 rfl ?_
        refine Go.ifYes C d9_139 (by decide) (q := 153) rfl (XT.ll_gt_t (by simp only [Int64.lt_iff_toInt_lt] at h63_3 h36_1 ⊢; omega)) ?_
        refine Go.aloadN C d9_153 rfl rfl rfl ?_
        refine Go.gf C (wd hw 45 rfl) 5 1 rfl rfl d9_154 rfl ?_
        refine Go.callPR C (y := yN11) (a := pA4) (as := []) (rest := []) (wd hw 140 rfl) (wd hw 141 rfl) (sel_priv (y := yN11) (wd hw 37 rfl) (wd hw 141 rfl) (wd hw 142 rfl) (by decide)) (wd hw 142 rfl) (wd hw 143 rfl) (wd hw 38 rfl) (fun _ r => r.exa 0 rfl) (u_SequenceQueue_Heap_poll_55 l Z a0 hw _ pA4 pA5 pA6 eA2 eA0 kA7 kA0 kA9 kA10 kA11 kA12 hE_eA2 hE_eA0) rfl d9_157 (q := 160) rfl (by decide) rfl (na := 0) (by decide +kernel) rfl (by decide) (W := 0) rfl (by decide) (by decide) (by decide) (k' := 0) (n' := 0) rfl rfl ?_
        rintro _ _ ⟨rfl, rfl⟩
        show Go _ _ _ _ _ _ _ _ _ _ [(.ref eA2)]
        refine Go.astoreN C d9_160 rfl rfl (Ls' := #[.val (.ref pA0), .val (.ref eA2), .unset]) rfl ?_
        refine Go.aloadN C d9_161 rfl rfl rfl ?_
        refine Go.iconst C d9_162 rfl (v := (0 : Int32)) rfl ?_
        refine Go.pf C (wd hw 59 rfl) Via.refl 5 2 rfl rfl (wd hw 60 rfl) (wd hw 8 rfl) (ty := .boolean) (by decide) rfl rfl d9_163 rfl (M' := (nH pA4 pA5 pA6 1 :: nK pA5 kA0 kA0 kA9 kA10 kA11 kA12 :: nE pA6 (.ref eA0) .null .null .null .null .null :: nR pA1 pA2 pA3 1 0 :: nK pA2 kA1 kA2 kA3 kA4 kA5 kA6 :: nQ pA0 pA1 pA4 0 kA0 (.ref eA0) :: nE pA3 (.ref eA1) .null .null .null .null .null :: F)) rfl ?_
        refine Go.aloadN C d9_166 rfl rfl rfl ?_
        refine Go.aconstNull C d9_167 rfl ?_
        refine Go.pf C (wd hw 63 rfl) Via.refl 5 4 rfl rfl (wd hw 64 rfl) (wd hw 8 rfl) (ty := (.object "java/lang/Object")) (by decide) rfl rfl d9_168 rfl (M' := (nH pA4 pA5 pA6 1 :: nK pA5 kA0 kA0 kA9 kA10 kA11 kA12 :: nE pA6 (.ref eA0) .null .null .null .null .null :: nR pA1 pA2 pA3 1 0 :: nK pA2 kA1 kA2 kA3 kA4 kA5 kA6 :: nQ pA0 pA1 pA4 0 kA0 .null :: nE pA3 (.ref eA1) .null .null .null .null .null :: F)) rfl ?_
        refine Go.aloadN C d9_171 rfl rfl rfl ?_
        refine Go.astoreN C d9_172 rfl rfl (Ls' := #[.val (.ref pA0), .val (.ref eA2), .val (.ref eA2)]) rfl ?_
        refine Go.aloadN C d9_173 rfl rfl rfl ?_
        refine Go.pick (M' := (nQ pA0 pA1 pA4 0 kA0 .null :: nR pA1 pA2 pA3 1 0 :: nK pA2 kA1 kA2 kA3 kA4 kA5 kA6 :: nE pA3 (.ref eA1) .null .null .null .null .null :: nH pA4 pA5 pA6 1 :: nK pA5 kA0 kA0 kA9 kA10 kA11 kA12 :: nE pA6 (.ref eA0) .null .null .null .null .null :: F)) 7 [5, 3, 4, 6, 0, 1, 2] (by decide) (by decide) rfl ?_
        refine Go.retA C rfl rfl rfl d9_174 (by decide) (by decide) ?_
        exact Or.inr (Or.inr (Or.inl ⟨h36_1, h63_3, hc41, hc42, rfl, rfl⟩))
      · show Go _ _ _ _ _ _ _ _ _ _ []
        refine Go.aloadN C d9_94 rfl rfl rfl ?_
        refine Go.gf C (wd hw 45 rfl) 3 1 rfl rfl d9_95 rfl ?_
        refine Go.gv C (wd hw 106 rfl) (wd hw 107 rfl) 4 2 rfl rfl d9_98 rfl ?_
        refine Go.ifNo C d9_101 (q := 104) rfl (XT.i0_eq_f (by decide)) ?_
        refine Go.aloadN C d9_104 rfl rfl rfl ?_
        refine Go.gf C (wd hw 34 rfl) 3 0 rfl rfl d9_105 rfl ?_
        refine Go.gv C (wd hw 69 rfl) (wd hw 70 rfl) 0 2 rfl rfl d9_108 rfl ?_
        refine Go.ifNo C d9_111 (q := 114) rfl (XT.i0_le_f (by decide)) ?_
        refine Go.aloadN C d9_114 rfl rfl rfl ?_
        refine Go.gf C (wd hw 34 rfl) 3 0 rfl rfl d9_115 rfl ?_
        refine Go.gv C (wd hw 101 rfl) (wd hw 91 rfl) 0 0 rfl rfl d9_118 rfl ?_
        refine Go.aloadN C d9_121 rfl rfl rfl ?_
        refine Go.gf C (wd hw 34 rfl) 3 0 rfl rfl d9_122 rfl ?_
        refine Go.getR C (wd hw 102 rfl) (fun _ r => r.fld 0 3 rfl rfl) d9_125 (q := 128) rfl ?_
        refine Go.laload C (fun _ r => r.arr 1 rfl) (by decide) (v := (.long kA1)) rfl d9_128 (q := 129) rfl ?_
        refine Go.aloadN C d9_129 rfl rfl rfl ?_
        refine Go.gf C (wd hw 45 rfl) 3 1 rfl rfl d9_130 rfl ?_
        refine Go.gv C (wd hw 134 rfl) (wd hw 128 rfl) 4 0 rfl rfl d9_133 rfl ?_
        refine Go.iconst C d9_136 rfl (v := (0 : Int32)) rfl ?_
        refine Go.laload C (fun _ r => r.arr 5 rfl) (by decide) (v := (.long kA7)) rfl d9_137 (q := 138) rfl ?_
        refine Go.lcmp C d9_138 rfl ?_
        refine Go.ifYes C d9_139 (by decide) (q := 153) rfl (XT.ll_gt_t (by simp only [Int64.lt_iff_toInt_lt] at h63_3 h36_1 ⊢; omega)) ?_
        refine Go.aloadN C d9_153 rfl rfl rfl ?_
        refine Go.gf C (wd hw 45 rfl) 3 1 rfl rfl d9_154 rfl ?_
        refine Go.pick (M' := (nH pA4 pA5 pA6 1 :: nK pA5 kA7 kA8 kA9 kA10 kA11 kA12 :: nE pA6 (.ref eA2) .null .null .null .null .null :: nR pA1 pA2 pA3 2 0 :: nK pA2 kA1 kA0 kA3 kA4 kA5 kA6 :: nE pA3 (.ref eA1) (.ref eA0) .null .null .null .null :: nQ pA0 pA1 pA4 1 kA0 (.ref eA0) :: F)) 7 [4, 5, 6, 0, 1, 2, 3] (by decide) (by decide) rfl ?_
        refine Go.callPR C (y := yN11) (a := pA4) (as := []) (rest := []) (wd hw 140 rfl) (wd hw 141 rfl) (sel_priv (y := yN11) (wd hw 37 rfl) (wd hw 141 rfl) (wd hw 142 rfl) (by decide)) (wd hw 142 rfl) (wd hw 143 rfl) (wd hw 38 rfl) (fun _ r => r.exa 0 rfl) (u_SequenceQueue_Heap_poll_52 l Z a0 hw _ pA4 pA5 pA6 eA2 kA7 kA8 kA9 kA10 kA11 kA12 hE_eA2) rfl d9_157 (q := 160) rfl (by decide) rfl (na := 0) (by decide +kernel) rfl (by decide) (W := 0) rfl (by decide) (by decide) (by decide) (k' := 0) (n' := 0) rfl rfl ?_
        rintro _ _ ⟨rfl, rfl⟩
        show Go _ _ _ _ _ _ _ _ _ _ [(.ref eA2)]
        refine Go.astoreN C d9_160 rfl rfl (Ls' := #[.val (.ref pA0), .val (.ref eA2), .unset]) rfl ?_
        refine Go.aloadN C d9_161 rfl rfl rfl ?_
        refine Go.iconst C d9_162 rfl (v := (0 : Int32)) rfl ?_
        refine Go.pf C (wd hw 59 rfl) Via.refl 6 2 rfl rfl (wd hw 60 rfl) (wd hw 8 rfl) (ty := .boolean) (by decide) rfl rfl d9_163 rfl (M' := (nH pA4 pA5 pA6 0 :: nK pA5 kA7 kA8 kA9 kA10 kA11 kA12 :: nE pA6 .null .null .null .null .null .null :: nR pA1 pA2 pA3 2 0 :: nK pA2 kA1 kA0 kA3 kA4 kA5 kA6 :: nE pA3 (.ref eA1) (.ref eA0) .null .null .null .null :: nQ pA0 pA1 pA4 0 kA0 (.ref eA0) :: F)) rfl ?_
        refine Go.aloadN C d9_166 rfl rfl rfl ?_
        refine Go.aconstNull C d9_167 rfl ?_
        refine Go.pf C (wd hw 63 rfl) Via.refl 6 4 rfl rfl (wd hw 64 rfl) (wd hw 8 rfl) (ty := (.object "java/lang/Object")) (by decide) rfl rfl d9_168 rfl (M' := (nH pA4 pA5 pA6 0 :: nK pA5 kA7 kA8 kA9 kA10 kA11 kA12 :: nE pA6 .null .null .null .null .null .null :: nR pA1 pA2 pA3 2 0 :: nK pA2 kA1 kA0 kA3 kA4 kA5 kA6 :: nE pA3 (.ref eA1) (.ref eA0) .null .null .null .null :: nQ pA0 pA1 pA4 0 kA0 .null :: F)) rfl ?_
        refine Go.aloadN C d9_171 rfl rfl rfl ?_
        refine Go.astoreN C d9_172 rfl rfl (Ls' := #[.val (.ref pA0), .val (.ref eA2), .val (.ref eA2)]) rfl ?_
        refine Go.aloadN C d9_173 rfl rfl rfl ?_
        refine Go.pick (M' := (nQ pA0 pA1 pA4 0 kA0 .null :: nR pA1 pA2 pA3 2 0 :: nK pA2 kA1 kA0 kA3 kA4 kA5 kA6 :: nE pA3 (.ref eA1) (.ref eA0) .null .null .null .null :: nH pA4 pA5 pA6 0 :: nK pA5 kA7 kA8 kA9 kA10 kA11 kA12 :: nE pA6 .null .null .null .null .null .null :: F)) 7 [6, 3, 4, 5, 0, 1, 2] (by decide) (by decide) rfl ?_
        refine Go.retA C rfl rfl rfl d9_174 (by decide) (by decide) ?_
        exact Or.inr (Or.inr (Or.inr (Or.inl ⟨h36_1, h63_3, hc43, rfl, rfl⟩)))
    · refine Go.aloadN C d9_67 rfl rfl rfl ?_
      refine Go.gf C (wd hw 63 rfl) 0 4 rfl rfl d9_68 rfl ?_
      refine Go.astoreN C d9_71 rfl rfl (Ls' := #[.val (.ref pA0), .val (.ref eA0), .unset]) rfl ?_
      refine Go.goto C d9_72 (by decide) (q := 161) rfl ?_
      refine Go.aloadN C d9_161 rfl rfl rfl ?_
      refine Go.iconst C d9_162 rfl (v := (0 : Int32)) rfl ?_
      refine Go.pf C (wd hw 59 rfl) Via.refl 0 2 rfl rfl (wd hw 60 rfl) (wd hw 8 rfl) (ty := .boolean) (by decide) rfl rfl d9_163 rfl (M' := (nQ pA0 pA1 pA4 0 kA0 (.ref eA0) :: nR pA1 pA2 pA3 1 0 :: nK pA2 kA1 kA2 kA3 kA4 kA5 kA6 :: nE pA3 (.ref eA1) .null .null .null .null .null :: nH pA4 pA5 pA6 1 :: nK pA5 kA7 kA8 kA9 kA10 kA11 kA12 :: nE pA6 (.ref eA2) .null .null .null .null .null :: F)) rfl ?_
      refine Go.aloadN C d9_166 rfl rfl rfl ?_
      refine Go.aconstNull C d9_167 rfl ?_
      refine Go.pf C (wd hw 63 rfl) Via.refl 0 4 rfl rfl (wd hw 64 rfl) (wd hw 8 rfl) (ty := (.object "java/lang/Object")) (by decide) rfl rfl d9_168 rfl (M' := (nQ pA0 pA1 pA4 0 kA0 .null :: nR pA1 pA2 pA3 1 0 :: nK pA2 kA1 kA2 kA3 kA4 kA5 kA6 :: nE pA3 (.ref eA1) .null .null .null .null .null :: nH pA4 pA5 pA6 1 :: nK pA5 kA7 kA8 kA9 kA10 kA11 kA12 :: nE pA6 (.ref eA2) .null .null .null .null .null :: F)) rfl ?_
      refine Go.aloadN C d9_171 rfl rfl rfl ?_
      refine Go.astoreN C d9_172 rfl rfl (Ls' := #[.val (.ref pA0), .val (.ref eA0), .val (.ref eA0)]) rfl ?_
      refine Go.aloadN C d9_173 rfl rfl rfl ?_
      refine Go.retA C rfl rfl rfl d9_174 (by decide) (by decide) ?_
      exact Or.inr (Or.inr (Or.inr (Or.inr (⟨h36_1, h63_3, rfl, rfl⟩))))
theorem u_SequenceQueue_poll_126 (l : Launch) (Z : State) (a0 : Array Value) (hw : HW Z a0) (F : List Ent) (pA0 pA1 pA2 pA3 pA4 pA5 pA6 eA0 eA1 eA2 eA3 : Addr) (kA0 kA1 kA2 kA3 kA4 kA5 kA6 kA7 kA8 kA9 kA10 kA11 kA12 : Int64) (hE_eA0 : XI Z eA0) (hE_eA1 : XI Z eA1) (hE_eA2 : XI Z eA2) (hE_eA3 : XI Z eA3) (hK0 : ¬ kA8 < kA7) :
    Met l Z yN15 prog_20_method_3_code 3 (some (.object "java/lang/Object")) { frames := 3, cells := 0, slots := 0, locals := 45 } #[(.ref pA0)] (nQ pA0 pA1 pA4 1 kA0 (.ref eA0) :: nR pA1 pA2 pA3 1 0 :: nK pA2 kA1 kA2 kA3 kA4 kA5 kA6 :: nE pA3 (.ref eA1) .null .null .null .null .null :: nH pA4 pA5 pA6 2 :: nK pA5 kA7 kA8 kA9 kA10 kA11 kA12 :: nE pA6 (.ref eA2) (.ref eA3) .null .null .null .null :: F) (fun r M' => ((kA1 < kA0) ∧ (¬ kA0 < kA1) ∧ (kA7 < kA1) ∧ r = (some (.ref eA2)) ∧ M' = (nQ pA0 pA1 pA4 0 kA0 .null :: nR pA1 pA2 pA3 2 0 :: nK pA2 kA1 kA0 kA3 kA4 kA5 kA6 :: nE pA3 (.ref eA1) (.ref eA0) .null .null .null .null :: nH pA4 pA5 pA6 1 :: nK pA5 kA8 kA8 kA9 kA10 kA11 kA12 :: nE pA6 (.ref eA3) .null .null .null .null .null :: F)) ∨ ((kA1 < kA0) ∧ (¬ kA0 < kA1) ∧ (¬ kA7 < kA1) ∧ r = (some (.ref eA1)) ∧ M' = (nQ pA0 pA1 pA4 0 kA0 .null :: nR pA1 pA2 pA3 1 1 :: nK pA2 kA1 kA0 kA3 kA4 kA5 kA6 :: nE pA3 .null (.ref eA0) .null .null .null .null :: nH pA4 pA5 pA6 2 :: nK pA5 kA7 kA8 kA9 kA10 kA11 kA12 :: nE pA6 (.ref eA2) (.ref eA3) .null .null .null .null :: F)) ∨ ((¬ kA1 < kA0) ∧ (kA7 < kA0) ∧ (kA0 < kA1) ∧ (¬ kA0 < kA7) ∧ (kA8 < kA0) ∧ r = (some (.ref eA2)) ∧ M' = (nQ pA0 pA1 pA4 0 kA0 .null :: nR pA1 pA2 pA3 1 0 :: nK pA2 kA1 kA2 kA3 kA4 kA5 kA6 :: nE pA3 (.ref eA1) .null .null .null .null .null :: nH pA4 pA5 pA6 2 :: nK pA5 kA8 kA0 kA0 kA10 kA11 kA12 :: nE pA6 (.ref eA3) (.ref eA0) .null .null .null .null :: F)) ∨ ((¬ kA1 < kA0) ∧ (kA7 < kA0) ∧ (kA0 < kA1) ∧ (¬ kA0 < kA7) ∧ (¬ kA8 < kA0) ∧ r = (some (.ref eA2)) ∧ M' = (nQ pA0 pA1 pA4 0 kA0 .null :: nR pA1 pA2 pA3 1 0 :: nK pA2 kA1 kA2 kA3 kA4 kA5 kA6 :: nE pA3 (.ref eA1) .null .null .null .null .null :: nH pA4 pA5 pA6 2 :: nK pA5 kA0 kA8 kA0 kA10 kA11 kA12 :: nE pA6 (.ref eA0) (.ref eA3) .null .null .null .null :: F)) ∨ ((¬ kA1 < kA0) ∧ (kA7 < kA0) ∧ (¬ kA0 < kA1) ∧ r = (some (.ref eA2)) ∧ M' = (nQ pA0 pA1 pA4 0 kA0 .null :: nR pA1 pA2 pA3 2 0 :: nK pA2 kA1 kA0 kA3 kA4 kA5 kA6 :: nE pA3 (.ref eA1) (.ref eA0) .null .null .null .null :: nH pA4 pA5 pA6 1 :: nK pA5 kA8 kA8 kA9 kA10 kA11 kA12 :: nE pA6 (.ref eA3) .null .null .null .null .null :: F)) ∨ ((¬ kA1 < kA0) ∧ (¬ kA7 < kA0) ∧ r = (some (.ref eA0)) ∧ M' = (nQ pA0 pA1 pA4 0 kA0 .null :: nR pA1 pA2 pA3 1 0 :: nK pA2 kA1 kA2 kA3 kA4 kA5 kA6 :: nE pA3 (.ref eA1) .null .null .null .null .null :: nH pA4 pA5 pA6 2 :: nK pA5 kA7 kA8 kA9 kA10 kA11 kA12 :: nE pA6 (.ref eA2) (.ref eA3) .null .null .null .null :: F))) := by
  refine Met.of_go pn_11 (Ls := #[.val (.ref pA0), .unset, .unset]) (fun m => rfl) ?_
  intro E C
  refine Go.aloadN C d9_0 rfl rfl rfl ?_
  refine Go.gf C (wd hw 59 rfl) 0 2 rfl rfl d9_1 rfl ?_
  refine Go.ifNo C d9_4 (q := 7) rfl (XT.i0_eq_f (by decide)) ?_
  refine Go.aloadN C d9_7 rfl rfl rfl ?_
  refine Go.gf C (wd hw 34 rfl) 0 0 rfl rfl d9_8 rfl ?_
  refine Go.gv C (wd hw 69 rfl) (wd hw 70 rfl) 1 2 rfl rfl d9_11 rfl ?_
  refine Go.ifNo C d9_14 (q := 17) rfl (XT.i0_eq_f (by decide)) ?_
  refine Go.aloadN C d9_17 rfl rfl rfl ?_
  refine Go.gf C (wd hw 61 rfl) 0 3 rfl rfl d9_18 rfl ?_
  refine Go.aloadN C d9_21 rfl rfl rfl ?_
  refine Go.gf C (wd hw 34 rfl) 0 0 rfl rfl d9_22 rfl ?_
  refine Go.gv C (wd hw 101 rfl) (wd hw 91 rfl) 1 0 rfl rfl d9_25 rfl ?_
  refine Go.aloadN C d9_28 rfl rfl rfl ?_
  refine Go.gf C (wd hw 34 rfl) 0 0 rfl rfl d9_29 rfl ?_
  refine Go.getR C (wd hw 102 rfl) (fun _ r => r.fld 1 3 rfl rfl) d9_32 (q := 35) rfl ?_
  refine Go.laload C (fun _ r => r.arr 2 rfl) (by decide) (v := (.long kA1)) rfl d9_35 (q := 36) rfl ?_
  refine Go.lcmpif C d9_36 rfl d9_37 (by decide) (q := 75) rfl (q' := 40) rfl (fun (h36_1 : kA1 < kA0) => ?_) (fun (h36_1 : ¬ kA1 < kA0) => ?_)
  · refine Go.aloadN C d9_75 rfl rfl rfl ?_
    refine Go.gf C (wd hw 59 rfl) 0 2 rfl rfl d9_76 rfl ?_
    refine Go.ifNo C d9_79 (q := 82) rfl (XT.i0_eq_f (by decide)) ?_
    refine Go.aloadN C d9_82 rfl rfl rfl ?_
    refine Go.aloadN C d9_83 rfl rfl rfl ?_
    refine Go.gf C (wd hw 61 rfl) 0 3 rfl rfl d9_84 rfl ?_
    refine Go.aloadN C d9_87 rfl rfl rfl ?_
    refine Go.gf C (wd hw 63 rfl) 0 4 rfl rfl d9_88 rfl ?_
    refine Go.callP C (y := yN6) (a := pA0) (as := [(.long kA0), (.ref eA0)]) (rest := []) (wd hw 65 rfl) (wd hw 66 rfl) (sel_priv (y := yN6) (wd hw 8 rfl) (wd hw 66 rfl) (wd hw 67 rfl) (by decide)) (wd hw 67 rfl) (wd hw 68 rfl) (wd hw 9 rfl) (fun _ r => r.exa 0 rfl) (u_SequenceQueue_place_28 l Z a0 hw _ pA0 pA1 pA2 pA3 pA4 pA5 pA6 eA0 eA0 eA1 eA2 eA3 kA0 kA0 kA1 kA2 kA3 kA4 kA5 kA6 kA7 kA8 kA9 kA10 kA11 kA12 hE_eA0 hE_eA0 hE_eA1 hE_eA2 hE_eA3) rfl d9_91 (q := 94) rfl (by decide) rfl (na := 2) (by decide +kernel) rfl (by decide) (W := 0) rfl (by decide) (by decide) (by decide) (k' := 0) (n' := 0) rfl rfl ?_
    rintro _ _ (⟨hc49, hc50, rfl, rfl⟩ | ⟨hc51, hc52, rfl, rfl⟩ | ⟨hc53, rfl, rfl⟩)
    · exact absurd trivial (fun _ => (by simp only [Int64.lt_iff_toInt_lt] at h36_1 hc49; omega))
    · exact absurd trivial (fun _ => (by simp only [Int64.lt_iff_toInt_lt] at h36_1 hc51; omega))
    · show Go _ _ _ _ _ _ _ _ _ _ []
      refine Go.aloadN C d9_94 rfl rfl rfl ?_
      refine Go.gf C (wd hw 45 rfl) 3 1 rfl rfl d9_95 rfl ?_
      refine Go.gv C (wd hw 106 rfl) (wd hw 107 rfl) 4 2 rfl rfl d9_98 rfl ?_
      refine Go.ifNo C d9_101 (q := 104) rfl (XT.i0_eq_f (by decide)) ?_
      refine Go.aloadN C d9_104 rfl rfl rfl ?_
      refine Go.gf C (wd hw 34 rfl) 3 0 rfl rfl d9_105 rfl ?_
      refine Go.gv C (wd hw 69 rfl) (wd hw 70 rfl) 0 2 rfl rfl d9_108 rfl ?_
      refine Go.ifNo C d9_111 (q := 114) rfl (XT.i0_le_f (by decide)) ?_
      refine Go.aloadN C d9_114 rfl rfl rfl ?_
      refine Go.gf C (wd hw 34 rfl) 3 0 rfl rfl d9_115 rfl ?_
      refine Go.gv C (wd hw 101 rfl) (wd hw 91 rfl) 0 0 rfl rfl d9_118 rfl ?_
      refine Go.aloadN C d9_121 rfl rfl rfl ?_
      refine Go.gf C (wd hw 34 rfl) 3 0 rfl rfl d9_122 rfl ?_
      refine Go.getR C (wd hw 102 rfl) (fun _ r => r.fld 0 3 rfl rfl) d9_125 (q := 128) rfl ?_
      refine Go.laload C (fun _ r => r.arr 1 rfl) (by decide) (v := (.long kA1)) rfl d9_128 (q := 129) rfl ?_
      refine Go.aloadN C d9_129 rfl rfl rfl ?_
      refine Go.gf C (wd hw 45 rfl) 3 1 rfl rfl d9_130 rfl ?_
      refine Go.gv C (wd hw 134 rfl) (wd hw 128 rfl) 4 0 rfl rfl d9_133 rfl ?_
      refine Go.iconst C d9_136 rfl (v := (0 : Int32)) rfl ?_
      refine Go.laload C (fun _ r => r.arr 5 rfl) (by decide) (v := (.long kA7)) rfl d9_137 (q := 138) rfl ?_
      refine Go.lcmpif C d9_138 rfl d9_139 (by decide) (q := 153) rfl (q' := 142) rfl (fun (h138_2 : kA7 < kA1) => ?_) (fun (h138_2 : ¬ kA7 < kA1) => ?_)
      · refine Go.aloadN C d9_153 rfl rfl rfl ?_
        refine Go.gf C (wd hw 45 rfl) 3 1 rfl rfl d9_154 rfl ?_
        refine Go.pick (M' := (nH pA4 pA5 pA6 2 :: nK pA5 kA7 kA8 kA9 kA10 kA11 kA12 :: nE pA6 (.ref eA2) (.ref eA3) .null .null .null .null :: nR pA1 pA2 pA3 2 0 :: nK pA2 kA1 kA0 kA3 kA4 kA5 kA6 :: nE pA3 (.ref eA1) (.ref eA0) .null .null .null .null :: nQ pA0 pA1 pA4 1 kA0 (.ref eA0) :: F)) 7 [4, 5, 6, 0, 1, 2, 3] (by decide) (by decide) rfl ?_
        refine Go.callPR C (y := yN11) (a := pA4) (as := []) (rest := []) (wd hw 140 rfl) (wd hw 141 rfl) (sel_priv (y := yN11) (wd hw 37 rfl) (wd hw 141 rfl) (wd hw 142 rfl) (by decide)) (wd hw 142 rfl) (wd hw 143 rfl) (wd hw 38 rfl) (fun _ r => r.exa 0 rfl) (u_SequenceQueue_Heap_poll_55 l Z a0 hw _ pA4 pA5 pA6 eA2 eA3 kA7 kA8 kA9 kA10 kA11 kA12 hE_eA2 hE_eA3) rfl d9_157 (q := 160) rfl (by decide) rfl (na := 0) (by decide +kernel) rfl (by decide) (W := 0) rfl (by decide) (by decide) (by decide) (k' := 0) (n' := 0) rfl rfl ?_
        rintro _ _ ⟨rfl, rfl⟩
        show Go _ _ _ _ _ _ _ _ _ _ [(.ref eA2)]
        refine Go.astoreN C d9_160 rfl rfl (Ls' := #[.val (.ref pA0), .val (.ref eA2), .unset]) rfl ?_
        refine Go.aloadN C d9_161 rfl rfl rfl ?_
        refine Go.iconst C d9_162 rfl (v := (0 : Int32)) rfl ?_
        refine Go.pf C (wd hw 59 rfl) Via.refl 6 2 rfl rfl (wd hw 60 rfl) (wd hw 8 rfl) (ty := .boolean) (by decide) rfl rfl d9_163 rfl (M' := (nH pA4 pA5 pA6 1 :: nK pA5 kA8 kA8 kA9 kA10 kA11 kA12 :: nE pA6 (.ref eA3) .null .null .null .null .null :: nR pA1 pA2 pA3 2 0 :: nK pA2 kA1 kA0 kA3 kA4 kA5 kA6 :: nE pA3 (.ref eA1) (.ref eA0) .null .null .null .null :: nQ pA0 pA1 pA4 0 kA0 (.ref eA0) :: F)) rfl ?_
        refine Go.aloadN C d9_166 rfl rfl rfl ?_
        refine Go.aconstNull C d9_167 rfl ?_
        refine Go.pf C (wd hw 63 rfl) Via.refl 6 4 rfl rfl (wd hw 64 rfl) (wd hw 8 rfl) (ty := (.object "java/lang/Object")) (by decide) rfl rfl d9_168 rfl (M' := (nH pA4 pA5 pA6 1 :: nK pA5 kA8 kA8 kA9 kA10 kA11 kA12 :: nE pA6 (.ref eA3) .null .null .null .null .null :: nR pA1 pA2 pA3 2 0 :: nK pA2 kA1 kA0 kA3 kA4 kA5 kA6 :: nE pA3 (.ref eA1) (.ref eA0) .null .null .null .null :: nQ pA0 pA1 pA4 0 kA0 .null :: F)) rfl ?_
        refine Go.aloadN C d9_171 rfl rfl rfl ?_
        refine Go.astoreN C d9_172 rfl rfl (Ls' := #[.val (.ref pA0), .val (.ref eA2), .val (.ref eA2)]) rfl ?_
        refine Go.aloadN C d9_173 rfl rfl rfl ?_
        refine Go.pick (M' := (nQ pA0 pA1 pA4 0 kA0 .null :: nR pA1 pA2 pA3 2 0 :: nK pA2 kA1 kA0 kA3 kA4 kA5 kA6 :: nE pA3 (.ref eA1) (.ref eA0) .null .null .null .null :: nH pA4 pA5 pA6 1 :: nK pA5 kA8 kA8 kA9 kA10 kA11 kA12 :: nE pA6 (.ref eA3) .null .null .null .null .null :: F)) 7 [6, 3, 4, 5, 0, 1, 2] (by decide) (by decide) rfl ?_
        refine Go.retA C rfl rfl rfl d9_174 (by decide) (by decide) ?_
        exact Or.inl ⟨h36_1, hc53, h138_2, rfl, rfl⟩
      · refine Go.aloadN C d9_142 rfl rfl rfl ?_
        refine Go.gf C (wd hw 34 rfl) 3 0 rfl rfl d9_143 rfl ?_
        refine Go.callPR C (y := yN13) (a := pA1) (as := []) (rest := []) (wd hw 159 rfl) (wd hw 160 rfl) (sel_priv (y := yN13) (wd hw 17 rfl) (wd hw 160 rfl) (wd hw 161 rfl) (by decide)) (wd hw 161 rfl) (wd hw 162 rfl) (wd hw 18 rfl) (fun _ r => r.exa 0 rfl) (u_SequenceQueue_Run_poll_67 l Z a0 hw _ pA1 pA2 pA3 eA1 eA0 kA1 kA0 kA3 kA4 kA5 kA6 hE_eA1 hE_eA0) rfl d9_146 (q := 149) rfl (by decide) rfl (na := 0) (by decide +kernel) rfl (by decide) (W := 0) rfl (by decide) (by decide) (by decide) (k' := 0) (n' := 0) rfl rfl ?_
        rintro _ _ ⟨rfl, rfl⟩
        show Go _ _ _ _ _ _ _ _ _ _ [(.ref eA1)]
        refine Go.astoreN C d9_149 rfl rfl (Ls' := #[.val (.ref pA0), .val (.ref eA1), .unset]) rfl ?_
        refine Go.goto C d9_150 (by decide) (q := 161) rfl ?_
        refine Go.aloadN C d9_161 rfl rfl rfl ?_
        refine Go.iconst C d9_162 rfl (v := (0 : Int32)) rfl ?_
        refine Go.pf C (wd hw 59 rfl) Via.refl 3 2 rfl rfl (wd hw 60 rfl) (wd hw 8 rfl) (ty := .boolean) (by decide) rfl rfl d9_163 rfl (M' := (nR pA1 pA2 pA3 1 1 :: nK pA2 kA1 kA0 kA3 kA4 kA5 kA6 :: nE pA3 .null (.ref eA0) .null .null .null .null :: nQ pA0 pA1 pA4 0 kA0 (.ref eA0) :: nH pA4 pA5 pA6 2 :: nK pA5 kA7 kA8 kA9 kA10 kA11 kA12 :: nE pA6 (.ref eA2) (.ref eA3) .null .null .null .null :: F)) rfl ?_
        refine Go.aloadN C d9_166 rfl rfl rfl ?_
        refine Go.aconstNull C d9_167 rfl ?_
        refine Go.pf C (wd hw 63 rfl) Via.refl 3 4 rfl rfl (wd hw 64 rfl) (wd hw 8 rfl) (ty := (.object "java/lang/Object")) (by decide) rfl rfl d9_168 rfl (M' := (nR pA1 pA2 pA3 1 1 :: nK pA2 kA1 kA0 kA3 kA4 kA5 kA6 :: nE pA3 .null (.ref eA0) .null .null .null .null :: nQ pA0 pA1 pA4 0 kA0 .null :: nH pA4 pA5 pA6 2 :: nK pA5 kA7 kA8 kA9 kA10 kA11 kA12 :: nE pA6 (.ref eA2) (.ref eA3) .null .null .null .null :: F)) rfl ?_
        refine Go.aloadN C d9_171 rfl rfl rfl ?_
        refine Go.astoreN C d9_172 rfl rfl (Ls' := #[.val (.ref pA0), .val (.ref eA1), .val (.ref eA1)]) rfl ?_
        refine Go.aloadN C d9_173 rfl rfl rfl ?_
        refine Go.pick (M' := (nQ pA0 pA1 pA4 0 kA0 .null :: nR pA1 pA2 pA3 1 1 :: nK pA2 kA1 kA0 kA3 kA4 kA5 kA6 :: nE pA3 .null (.ref eA0) .null .null .null .null :: nH pA4 pA5 pA6 2 :: nK pA5 kA7 kA8 kA9 kA10 kA11 kA12 :: nE pA6 (.ref eA2) (.ref eA3) .null .null .null .null :: F)) 7 [3, 0, 1, 2, 4, 5, 6] (by decide) (by decide) rfl ?_
        refine Go.retA C rfl rfl rfl d9_174 (by decide) (by decide) ?_
        exact Or.inr (Or.inl ⟨h36_1, hc53, h138_2, rfl, rfl⟩)
  · refine Go.aloadN C d9_40 rfl rfl rfl ?_
    refine Go.gf C (wd hw 45 rfl) 0 1 rfl rfl d9_41 rfl ?_
    refine Go.gv C (wd hw 106 rfl) (wd hw 107 rfl) 4 2 rfl rfl d9_44 rfl ?_
    refine Go.ifNo C d9_47 (q := 50) rfl (XT.i0_eq_f (by decide)) ?_
    refine Go.aloadN C d9_50 rfl rfl rfl ?_
    refine Go.gf C (wd hw 61 rfl) 0 3 rfl rfl d9_51 rfl ?_
    refine Go.aloadN C d9_54 rfl rfl rfl ?_
    refine Go.gf C (wd hw 45 rfl) 0 1 rfl rfl d9_55 rfl ?_
    refine Go.gv C (wd hw 134 rfl) (wd hw 128 rfl) 4 0 rfl rfl d9_58 rfl ?_
    refine Go.iconst C d9_61 rfl (v := (0 : Int32)) rfl ?_
    refine Go.laload C (fun _ r => r.arr 5 rfl) (by decide) (v := (.long kA7)) rfl d9_62 (q := 63) rfl ?_
    refine Go.lcmpif C d9_63 rfl d9_64 (by decide) (q := 75) rfl (q' := 67) rfl (fun (h63_3 : kA7 < kA0) => ?_) (fun (h63_3 : ¬ kA7 < kA0) => ?_)
    · refine Go.aloadN C d9_75 rfl rfl rfl ?_
      refine Go.gf C (wd hw 59 rfl) 0 2 rfl rfl d9_76 rfl ?_
      refine Go.ifNo C d9_79 (q := 82) rfl (XT.i0_eq_f (by decide)) ?_
      refine Go.aloadN C d9_82 rfl rfl rfl ?_
      refine Go.aloadN C d9_83 rfl rfl rfl ?_
      refine Go.gf C (wd hw 61 rfl) 0 3 rfl rfl d9_84 rfl ?_
      refine Go.aloadN C d9_87 rfl rfl rfl ?_
      refine Go.gf C (wd hw 63 rfl) 0 4 rfl rfl d9_88 rfl ?_
      refine Go.callP C (y := yN6) (a := pA0) (as := [(.long kA0), (.ref eA0)]) (rest := []) (wd hw 65 rfl) (wd hw 66 rfl) (sel_priv (y := yN6) (wd hw 8 rfl) (wd hw 66 rfl) (wd hw 67 rfl) (by decide)) (wd hw 67 rfl) (wd hw 68 rfl) (wd hw 9 rfl) (fun _ r => r.exa 0 rfl) (u_SequenceQueue_place_28 l Z a0 hw _ pA0 pA1 pA2 pA3 pA4 pA5 pA6 eA0 eA0 eA1 eA2 eA3 kA0 kA0 kA1 kA2 kA3 kA4 kA5 kA6 kA7 kA8 kA9 kA10 kA11 kA12 hE_eA0 hE_eA0 hE_eA1 hE_eA2 hE_eA3) rfl d9_91 (q := 94) rfl (by decide) rfl (na := 2) (by decide +kernel) rfl (by decide) (W := 0) rfl (by decide) (by decide) (by decide) (k' := 0) (n' := 0) rfl rfl ?_
      rintro _ _ (⟨hc54, hc55, rfl, rfl⟩ | ⟨hc56, hc57, rfl, rfl⟩ | ⟨hc58, rfl, rfl⟩)
      · exact absurd trivial (fun _ => (by simp only [Int64.lt_iff_toInt_lt] at h63_3 hc55; omega))
      · show Go _ _ _ _ _ _ _ _ _ _ []
        refine Go.aloadN C d9_94 rfl rfl rfl ?_
        refine Go.gf C (wd hw 45 rfl) 5 1 rfl rfl d9_95 rfl ?_
        refine Go.gv C (wd hw 106 rfl) (wd hw 107 rfl) 0 2 rfl rfl d9_98 rfl ?_
        refine Go.ifNo C d9_101 (q := 104) rfl (XT.i0_eq_f (by decide)) ?_
        refine Go.aloadN C d9_104 rfl rfl rfl ?_
        refine Go.gf C (wd hw 34 rfl) 5 0 rfl rfl d9_105 rfl ?_
        refine Go.gv C (wd hw 69 rfl) (wd hw 70 rfl) 3 2 rfl rfl d9_108 rfl ?_
        refine Go.ifNo C d9_111 (q := 114) rfl (XT.i0_le_f (by decide)) ?_
        refine Go.aloadN C d9_114 rfl rfl rfl ?_
        refine Go.gf C (wd hw 34 rfl) 5 0 rfl rfl d9_115 rfl ?_
        refine Go.gv C (wd hw 101 rfl) (wd hw 91 rfl) 3 0 rfl rfl d9_118 rfl ?_
        refine Go.aloadN C d9_121 rfl rfl rfl ?_
        refine Go.gf C (wd hw 34 rfl) 5 0 rfl rfl d9_122 rfl ?_
        refine Go.getR C (wd hw 102 rfl) (fun _ r => r.fld 3 3 rfl rfl) d9_125 (q := 128) rfl ?_
        refine Go.laload C (fun _ r => r.arr 4 rfl) (by decide) (v := (.long kA1)) rfl d9_128 (q := 129) rfl ?_
        refine Go.aloadN C d9_129 rfl rfl rfl ?_
        refine Go.gf C (wd hw 45 rfl) 5 1 rfl rfl d9_130 rfl ?_
        refine Go.gv C (wd hw 134 rfl) (wd hw 128 rfl) 0 0 rfl rfl d9_133 rfl ?_
        refine Go.iconst C d9_136 rfl (v := (0 : Int32)) rfl ?_
        refine Go.laload C (fun _ r => r.arr 1 rfl) (by decide) (v := (.long kA7)) rfl d9_137 (q := 138) rfl ?_
        refine Go.lcmp C d9_138 rfl ?_
        refine Go.ifYes C d9_139 (by decide) (q := 153) rfl (XT.ll_gt_t (by simp only [Int64.lt_iff_toInt_lt] at h63_3 h36_1 ⊢; omega)) ?_
        refine Go.aloadN C d9_153 rfl rfl rfl ?_
        refine Go.gf C (wd hw 45 rfl) 5 1 rfl rfl d9_154 rfl ?_
        refine Go.callPR C (y := yN11) (a := pA4) (as := []) (rest := []) (wd hw 140 rfl) (wd hw 141 rfl) (sel_priv (y := yN11) (wd hw 37 rfl) (wd hw 141 rfl) (wd hw 142 rfl) (by decide)) (wd hw 142 rfl) (wd hw 143 rfl) (wd hw 38 rfl) (fun _ r => r.exa 0 rfl) (u_SequenceQueue_Heap_poll_58 l Z a0 hw _ pA4 pA5 pA6 eA2 eA3 eA0 kA7 kA8 kA0 kA10 kA11 kA12 hE_eA2 hE_eA3 hE_eA0) rfl d9_157 (q := 160) rfl (by decide) rfl (na := 0) (by decide +kernel) rfl (by decide) (W := 0) rfl (by decide) (by decide) (by decide) (k' := 0) (n' := 0) rfl rfl ?_
        rintro _ _ (⟨hc59, rfl, rfl⟩ | ⟨hc60, rfl, rfl⟩)
        · show Go _ _ _ _ _ _ _ _ _ _ [(.ref eA2)]
          refine Go.astoreN C d9_160 rfl rfl (Ls' := #[.val (.ref pA0), .val (.ref eA2), .unset]) rfl ?_
          refine Go.aloadN C d9_161 rfl rfl rfl ?_
          refine Go.iconst C d9_162 rfl (v := (0 : Int32)) rfl ?_
          refine Go.pf C (wd hw 59 rfl) Via.refl 5 2 rfl rfl (wd hw 60 rfl) (wd hw 8 rfl) (ty := .boolean) (by decide) rfl rfl d9_163 rfl (M' := (nH pA4 pA5 pA6 2 :: nK pA5 kA8 kA0 kA0 kA10 kA11 kA12 :: nE pA6 (.ref eA3) (.ref eA0) .null .null .null .null :: nR pA1 pA2 pA3 1 0 :: nK pA2 kA1 kA2 kA3 kA4 kA5 kA6 :: nQ pA0 pA1 pA4 0 kA0 (.ref eA0) :: nE pA3 (.ref eA1) .null .null .null .null .null :: F)) rfl ?_
          refine Go.aloadN C d9_166 rfl rfl rfl ?_
          refine Go.aconstNull C d9_167 rfl ?_
          refine Go.pf C (wd hw 63 rfl) Via.refl 5 4 rfl rfl (wd hw 64 rfl) (wd hw 8 rfl) (ty := (.object "java/lang/Object")) (by decide) rfl rfl d9_168 rfl (M' := (nH pA4 pA5 pA6 2 :: nK pA5 kA8 kA0 kA0 kA10 kA11 kA12 :: nE pA6 (.ref eA3) (.ref eA0) .null .null .null .null :: nR pA1 pA2 pA3 1 0 :: nK pA2 kA1 kA2 kA3 kA4 kA5 kA6 :: nQ pA0 pA1 pA4 0 kA0 .null :: nE pA3 (.ref eA1) .null .null .null .null .null :: F)) rfl ?_
          refine Go.aloadN C d9_171 rfl rfl rfl ?_
          refine Go.astoreN C d9_172 rfl rfl (Ls' := #[.val (.ref pA0), .val (.ref eA2), .val (.ref eA2)]) rfl ?_
          refine Go.aloadN C d9_173 rfl rfl rfl ?_
          refine Go.pick (M' := (nQ pA0 pA1 pA4 0 kA0 .null :: nR pA1 pA2 pA3 1 0 :: nK pA2 kA1 kA2 kA3 kA4 kA5 kA6 :: nE pA3 (.ref eA1) .null .null .null .null .null :: nH pA4 pA5 pA6 2 :: nK pA5 kA8 kA0 kA0 kA10 kA11 kA12 :: nE pA6 (.ref eA3) (.ref eA0) .null .null .null .null :: F)) 7 [5, 3, 4, 6, 0, 1, 2] (by decide) (by decide) rfl ?_
          refine Go.retA C rfl rfl rfl d9_174 (by decide) (by decide) ?_
          exact Or.inr (Or.inr (Or.inl ⟨h36_1, h63_3, hc56, hc57, hc59, rfl, rfl⟩))
        · show Go _ _ _ _ _ _ _ _ _ _ [(.ref eA2)]
          refine Go.astoreN C d9_160 rfl rfl (Ls' := #[.val (.ref pA0), .val (.ref eA2), .unset]) rfl ?_
          refine Go.aloadN C d9_161 rfl rfl rfl ?_
          refine Go.iconst C d9_162 rfl (v := (0 : Int32)) rfl ?_
          refine Go.pf C (wd hw 59 rfl) Via.refl 5 2 rfl rfl (wd hw 60 rfl) (wd hw 8 rfl) (ty := .boolean) (by decide) rfl rfl d9_163 rfl (M' := (nH pA4 pA5 pA6 2 :: nK pA5 kA0 kA8 kA0 kA10 kA11 kA12 :: nE pA6 (.ref eA0) (.ref eA3) .null .null .null .null :: nR pA1 pA2 pA3 1 0 :: nK pA2 kA1 kA2 kA3 kA4 kA5 kA6 :: nQ pA0 pA1 pA4 0 kA0 (.ref eA0) :: nE pA3 (.ref eA1) .null .null .null .null .null :: F)) rfl ?_
          refine Go.aloadN C d9_166 rfl rfl rfl ?_
          refine Go.aconstNull C d9_167 rfl ?_
          refine Go.pf C (wd hw 63 rfl) Via.refl 5 4 rfl rfl (wd hw 64 rfl) (wd hw 8 rfl) (ty := (.object "java/lang/Object")) (by decide) rfl rfl d9_168 rfl (M' := (nH pA4 pA5 pA6 2 :: nK pA5 kA0 kA8 kA0 kA10 kA11 kA12 :: nE pA6 (.ref eA0) (.ref eA3) .null .null .null .null :: nR pA1 pA2 pA3 1 0 :: nK pA2 kA1 kA2 kA3 kA4 kA5 kA6 :: nQ pA0 pA1 pA4 0 kA0 .null :: nE pA3 (.ref eA1) .null .null .null .null .null :: F)) rfl ?_
          refine Go.aloadN C d9_171 rfl rfl rfl ?_
          refine Go.astoreN C d9_172 rfl rfl (Ls' := #[.val (.ref pA0), .val (.ref eA2), .val (.ref eA2)]) rfl ?_
          refine Go.aloadN C d9_173 rfl rfl rfl ?_
          refine Go.pick (M' := (nQ pA0 pA1 pA4 0 kA0 .null :: nR pA1 pA2 pA3 1 0 :: nK pA2 kA1 kA2 kA3 kA4 kA5 kA6 :: nE pA3 (.ref eA1) .null .null .null .null .null :: nH pA4 pA5 pA6 2 :: nK pA5 kA0 kA8 kA0 kA10 kA11 kA12 :: nE pA6 (.ref eA0) (.ref eA3) .null .null .null .null :: F)) 7 [5, 3, 4, 6, 0, 1, 2] (by decide) (by decide) rfl ?_
          refine Go.retA C rfl rfl rfl d9_174 (by decide) (by decide) ?_
          exact Or.inr (Or.inr (Or.inr (Or.inl ⟨h36_1, h63_3, hc56, hc57, hc60, rfl, rfl⟩)))
      · show Go _ _ _ _ _ _ _ _ _ _ []
        refine Go.aloadN C d9_94 rfl rfl rfl ?_
        refine Go.gf C (wd hw 45 rfl) 3 1 rfl rfl d9_95 rfl ?_
        refine Go.gv C (wd hw 106 rfl) (wd hw 107 rfl) 4 2 rfl rfl d9_98 rfl ?_
        refine Go.ifNo C d9_101 (q := 104) rfl (XT.i0_eq_f (by decide)) ?_
        refine Go.aloadN C d9_104 rfl rfl rfl ?_
        refine Go.gf C (wd hw 34 rfl) 3 0 rfl rfl d9_105 rfl ?_
        refine Go.gv C (wd hw 69 rfl) (wd hw 70 rfl) 0 2 rfl rfl d9_108 rfl ?_
        refine Go.ifNo C d9_111 (q := 114) rfl (XT.i0_le_f (by decide)) ?_
        refine Go.aloadN C d9_114 rfl rfl rfl ?_
        refine Go.gf C (wd hw 34 rfl) 3 0 rfl rfl d9_115 rfl ?_
        refine Go.gv C (wd hw 101 rfl) (wd hw 91 rfl) 0 0 rfl rfl d9_118 rfl ?_
        refine Go.aloadN C d9_121 rfl rfl rfl ?_
        refine Go.gf C (wd hw 34 rfl) 3 0 rfl rfl d9_122 rfl ?_
        refine Go.getR C (wd hw 102 rfl) (fun _ r => r.fld 0 3 rfl rfl) d9_125 (q := 128) rfl ?_
        refine Go.laload C (fun _ r => r.arr 1 rfl) (by decide) (v := (.long kA1)) rfl d9_128 (q := 129) rfl ?_
        refine Go.aloadN C d9_129 rfl rfl rfl ?_
        refine Go.gf C (wd hw 45 rfl) 3 1 rfl rfl d9_130 rfl ?_
        refine Go.gv C (wd hw 134 rfl) (wd hw 128 rfl) 4 0 rfl rfl d9_133 rfl ?_
        refine Go.iconst C d9_136 rfl (v := (0 : Int32)) rfl ?_
        refine Go.laload C (fun _ r => r.arr 5 rfl) (by decide) (v := (.long kA7)) rfl d9_137 (q := 138) rfl ?_
        refine Go.lcmp C d9_138 rfl ?_
        refine Go.ifYes C d9_139 (by decide) (q := 153) rfl (XT.ll_gt_t (by simp only [Int64.lt_iff_toInt_lt] at h63_3 h36_1 ⊢; omega)) ?_
        refine Go.aloadN C d9_153 rfl rfl rfl ?_
        refine Go.gf C (wd hw 45 rfl) 3 1 rfl rfl d9_154 rfl ?_
        refine Go.pick (M' := (nH pA4 pA5 pA6 2 :: nK pA5 kA7 kA8 kA9 kA10 kA11 kA12 :: nE pA6 (.ref eA2) (.ref eA3) .null .null .null .null :: nR pA1 pA2 pA3 2 0 :: nK pA2 kA1 kA0 kA3 kA4 kA5 kA6 :: nE pA3 (.ref eA1) (.ref eA0) .null .null .null .null :: nQ pA0 pA1 pA4 1 kA0 (.ref eA0) :: F)) 7 [4, 5, 6, 0, 1, 2, 3] (by decide) (by decide) rfl ?_
        refine Go.callPR C (y := yN11) (a := pA4) (as := []) (rest := []) (wd hw 140 rfl) (wd hw 141 rfl) (sel_priv (y := yN11) (wd hw 37 rfl) (wd hw 141 rfl) (wd hw 142 rfl) (by decide)) (wd hw 142 rfl) (wd hw 143 rfl) (wd hw 38 rfl) (fun _ r => r.exa 0 rfl) (u_SequenceQueue_Heap_poll_55 l Z a0 hw _ pA4 pA5 pA6 eA2 eA3 kA7 kA8 kA9 kA10 kA11 kA12 hE_eA2 hE_eA3) rfl d9_157 (q := 160) rfl (by decide) rfl (na := 0) (by decide +kernel) rfl (by decide) (W := 0) rfl (by decide) (by decide) (by decide) (k' := 0) (n' := 0) rfl rfl ?_
        rintro _ _ ⟨rfl, rfl⟩
        show Go _ _ _ _ _ _ _ _ _ _ [(.ref eA2)]
        refine Go.astoreN C d9_160 rfl rfl (Ls' := #[.val (.ref pA0), .val (.ref eA2), .unset]) rfl ?_
        refine Go.aloadN C d9_161 rfl rfl rfl ?_
        refine Go.iconst C d9_162 rfl (v := (0 : Int32)) rfl ?_
        refine Go.pf C (wd hw 59 rfl) Via.refl 6 2 rfl rfl (wd hw 60 rfl) (wd hw 8 rfl) (ty := .boolean) (by decide) rfl rfl d9_163 rfl (M' := (nH pA4 pA5 pA6 1 :: nK pA5 kA8 kA8 kA9 kA10 kA11 kA12 :: nE pA6 (.ref eA3) .null .null .null .null .null :: nR pA1 pA2 pA3 2 0 :: nK pA2 kA1 kA0 kA3 kA4 kA5 kA6 :: nE pA3 (.ref eA1) (.ref eA0) .null .null .null .null :: nQ pA0 pA1 pA4 0 kA0 (.ref eA0) :: F)) rfl ?_
        refine Go.aloadN C d9_166 rfl rfl rfl ?_
        refine Go.aconstNull C d9_167 rfl ?_
        refine Go.pf C (wd hw 63 rfl) Via.refl 6 4 rfl rfl (wd hw 64 rfl) (wd hw 8 rfl) (ty := (.object "java/lang/Object")) (by decide) rfl rfl d9_168 rfl (M' := (nH pA4 pA5 pA6 1 :: nK pA5 kA8 kA8 kA9 kA10 kA11 kA12 :: nE pA6 (.ref eA3) .null .null .null .null .null :: nR pA1 pA2 pA3 2 0 :: nK pA2 kA1 kA0 kA3 kA4 kA5 kA6 :: nE pA3 (.ref eA1) (.ref eA0) .null .null .null .null :: nQ pA0 pA1 pA4 0 kA0 .null :: F)) rfl ?_
        refine Go.aloadN C d9_171 rfl rfl rfl ?_
        refine Go.astoreN C d9_172 rfl rfl (Ls' := #[.val (.ref pA0), .val (.ref eA2), .val (.ref eA2)]) rfl ?_
        refine Go.aloadN C d9_173 rfl rfl rfl ?_
        refine Go.pick (M' := (nQ pA0 pA1 pA4 0 kA0 .null :: nR pA1 pA2 pA3 2 0 :: nK pA2 kA1 kA0 kA3 kA4 kA5 kA6 :: nE pA3 (.ref eA1) (.ref eA0) .null .null .null .null :: nH pA4 pA5 pA6 1 :: nK pA5 kA8 kA8 kA9 kA10 kA11 kA12 :: nE pA6 (.ref eA3) .null .null .null .null .null :: F)) 7 [6, 3, 4, 5, 0, 1, 2] (by decide) (by decide) rfl ?_
        refine Go.retA C rfl rfl rfl d9_174 (by decide) (by decide) ?_
        exact Or.inr (Or.inr (Or.inr (Or.inr (Or.inl ⟨h36_1, h63_3, hc58, rfl, rfl⟩))))
    · refine Go.aloadN C d9_67 rfl rfl rfl ?_
      refine Go.gf C (wd hw 63 rfl) 0 4 rfl rfl d9_68 rfl ?_
      refine Go.astoreN C d9_71 rfl rfl (Ls' := #[.val (.ref pA0), .val (.ref eA0), .unset]) rfl ?_
      refine Go.goto C d9_72 (by decide) (q := 161) rfl ?_
      refine Go.aloadN C d9_161 rfl rfl rfl ?_
      refine Go.iconst C d9_162 rfl (v := (0 : Int32)) rfl ?_
      refine Go.pf C (wd hw 59 rfl) Via.refl 0 2 rfl rfl (wd hw 60 rfl) (wd hw 8 rfl) (ty := .boolean) (by decide) rfl rfl d9_163 rfl (M' := (nQ pA0 pA1 pA4 0 kA0 (.ref eA0) :: nR pA1 pA2 pA3 1 0 :: nK pA2 kA1 kA2 kA3 kA4 kA5 kA6 :: nE pA3 (.ref eA1) .null .null .null .null .null :: nH pA4 pA5 pA6 2 :: nK pA5 kA7 kA8 kA9 kA10 kA11 kA12 :: nE pA6 (.ref eA2) (.ref eA3) .null .null .null .null :: F)) rfl ?_
      refine Go.aloadN C d9_166 rfl rfl rfl ?_
      refine Go.aconstNull C d9_167 rfl ?_
      refine Go.pf C (wd hw 63 rfl) Via.refl 0 4 rfl rfl (wd hw 64 rfl) (wd hw 8 rfl) (ty := (.object "java/lang/Object")) (by decide) rfl rfl d9_168 rfl (M' := (nQ pA0 pA1 pA4 0 kA0 .null :: nR pA1 pA2 pA3 1 0 :: nK pA2 kA1 kA2 kA3 kA4 kA5 kA6 :: nE pA3 (.ref eA1) .null .null .null .null .null :: nH pA4 pA5 pA6 2 :: nK pA5 kA7 kA8 kA9 kA10 kA11 kA12 :: nE pA6 (.ref eA2) (.ref eA3) .null .null .null .null :: F)) rfl ?_
      refine Go.aloadN C d9_171 rfl rfl rfl ?_
      refine Go.astoreN C d9_172 rfl rfl (Ls' := #[.val (.ref pA0), .val (.ref eA0), .val (.ref eA0)]) rfl ?_
      refine Go.aloadN C d9_173 rfl rfl rfl ?_
      refine Go.retA C rfl rfl rfl d9_174 (by decide) (by decide) ?_
      exact Or.inr (Or.inr (Or.inr (Or.inr (Or.inr (⟨h36_1, h63_3, rfl, rfl⟩)))))
theorem u_SequenceQueue_poll_128 (l : Launch) (Z : State) (a0 : Array Value) (hw : HW Z a0) (F : List Ent) (pA0 pA1 pA2 pA3 pA4 pA5 pA6 eA0 eA1 eA2 : Addr) (kA0 kA1 kA2 kA3 kA4 kA5 kA6 kA7 kA8 kA9 kA10 kA11 kA12 : Int64) (hE_eA0 : XI Z eA0) (hE_eA1 : XI Z eA1) (hE_eA2 : XI Z eA2) (hK0 : ¬ kA2 < kA1) :
    Met l Z yN15 prog_20_method_3_code 3 (some (.object "java/lang/Object")) { frames := 3, cells := 0, slots := 0, locals := 45 } #[(.ref pA0)] (nQ pA0 pA1 pA4 1 kA0 (.ref eA0) :: nR pA1 pA2 pA3 2 0 :: nK pA2 kA1 kA2 kA3 kA4 kA5 kA6 :: nE pA3 (.ref eA1) (.ref eA2) .null .null .null .null :: nH pA4 pA5 pA6 0 :: nK pA5 kA7 kA8 kA9 kA10 kA11 kA12 :: nE pA6 .null .null .null .null .null .null :: F) (fun r M' => ((kA1 < kA0) ∧ (kA0 < kA2) ∧ r = (some (.ref eA1)) ∧ M' = (nQ pA0 pA1 pA4 0 kA0 .null :: nR pA1 pA2 pA3 1 1 :: nK pA2 kA1 kA2 kA3 kA4 kA5 kA6 :: nE pA3 .null (.ref eA2) .null .null .null .null :: nH pA4 pA5 pA6 1 :: nK pA5 kA0 kA8 kA9 kA10 kA11 kA12 :: nE pA6 (.ref eA0) .null .null .null .null .null :: F)) ∨ ((kA1 < kA0) ∧ (¬ kA0 < kA2) ∧ r = (some (.ref eA1)) ∧ M' = (nQ pA0 pA1 pA4 0 kA0 .null :: nR pA1 pA2 pA3 2 1 :: nK pA2 kA1 kA2 kA0 kA4 kA5 kA6 :: nE pA3 .null (.ref eA2) (.ref eA0) .null .null .null :: nH pA4 pA5 pA6 0 :: nK pA5 kA7 kA8 kA9 kA10 kA11 kA12 :: nE pA6 .null .null .null .null .null .null :: F)) ∨ ((¬ kA1 < kA0) ∧ r = (some (.ref eA0)) ∧ M' = (nQ pA0 pA1 pA4 0 kA0 .null :: nR pA1 pA2 pA3 2 0 :: nK pA2 kA1 kA2 kA3 kA4 kA5 kA6 :: nE pA3 (.ref eA1) (.ref eA2) .null .null .null .null :: nH pA4 pA5 pA6 0 :: nK pA5 kA7 kA8 kA9 kA10 kA11 kA12 :: nE pA6 .null .null .null .null .null .null :: F))) := by
  refine Met.of_go pn_11 (Ls := #[.val (.ref pA0), .unset, .unset]) (fun m => rfl) ?_
  intro E C
  refine Go.aloadN C d9_0 rfl rfl rfl ?_
  refine Go.gf C (wd hw 59 rfl) 0 2 rfl rfl d9_1 rfl ?_
  refine Go.ifNo C d9_4 (q := 7) rfl (XT.i0_eq_f (by decide)) ?_
  refine Go.aloadN C d9_7 rfl rfl rfl ?_
  refine Go.gf C (wd hw 34 rfl) 0 0 rfl rfl d9_8 rfl ?_
  refine Go.gv C (wd hw 69 rfl) (wd hw 70 rfl) 1 2 rfl rfl d9_11 rfl ?_
  refine Go.ifNo C d9_14 (q := 17) rfl (XT.i0_eq_f (by decide)) ?_
  refine Go.aloadN C d9_17 rfl rfl rfl ?_
  refine Go.gf C (wd hw 61 rfl) 0 3 rfl rfl d9_18 rfl ?_
  refine Go.aloadN C d9_21 rfl rfl rfl ?_
  refine Go.gf C (wd hw 34 rfl) 0 0 rfl rfl d9_22 rfl ?_
  refine Go.gv C (wd hw 101 rfl) (wd hw 91 rfl) 1 0 rfl rfl d9_25 rfl ?_
  refine Go.aloadN C d9_28 rfl rfl rfl ?_
  refine Go.gf C (wd hw 34 rfl) 0 0 rfl rfl d9_29 rfl ?_
  refine Go.getR C (wd hw 102 rfl) (fun _ r => r.fld 1 3 rfl rfl) d9_32 (q := 35) rfl ?_
  refine Go.laload C (fun _ r => r.arr 2 rfl) (by decide) (v := (.long kA1)) rfl d9_35 (q := 36) rfl ?_
  refine Go.lcmpif C d9_36 rfl d9_37 (by decide) (q := 75) rfl (q' := 40) rfl (fun (h36_1 : kA1 < kA0) => ?_) (fun (h36_1 : ¬ kA1 < kA0) => ?_)
  · refine Go.aloadN C d9_75 rfl rfl rfl ?_
    refine Go.gf C (wd hw 59 rfl) 0 2 rfl rfl d9_76 rfl ?_
    refine Go.ifNo C d9_79 (q := 82) rfl (XT.i0_eq_f (by decide)) ?_
    refine Go.aloadN C d9_82 rfl rfl rfl ?_
    refine Go.aloadN C d9_83 rfl rfl rfl ?_
    refine Go.gf C (wd hw 61 rfl) 0 3 rfl rfl d9_84 rfl ?_
    refine Go.aloadN C d9_87 rfl rfl rfl ?_
    refine Go.gf C (wd hw 63 rfl) 0 4 rfl rfl d9_88 rfl ?_
    refine Go.callP C (y := yN6) (a := pA0) (as := [(.long kA0), (.ref eA0)]) (rest := []) (wd hw 65 rfl) (wd hw 66 rfl) (sel_priv (y := yN6) (wd hw 8 rfl) (wd hw 66 rfl) (wd hw 67 rfl) (by decide)) (wd hw 67 rfl) (wd hw 68 rfl) (wd hw 9 rfl) (fun _ r => r.exa 0 rfl) (u_SequenceQueue_place_37 l Z a0 hw _ pA0 pA1 pA2 pA3 pA4 pA5 pA6 eA0 eA0 eA1 eA2 kA0 kA0 kA1 kA2 kA3 kA4 kA5 kA6 kA7 kA8 kA9 kA10 kA11 kA12 hE_eA0 hE_eA0 hE_eA1 hE_eA2) rfl d9_91 (q := 94) rfl (by decide) rfl (na := 2) (by decide +kernel) rfl (by decide) (W := 0) rfl (by decide) (by decide) (by decide) (k' := 0) (n' := 0) rfl rfl ?_
    rintro _ _ (⟨hc70, rfl, rfl⟩ | ⟨hc71, rfl, rfl⟩)
    · show Go _ _ _ _ _ _ _ _ _ _ []
      refine Go.aloadN C d9_94 rfl rfl rfl ?_
      refine Go.gf C (wd hw 45 rfl) 5 1 rfl rfl d9_95 rfl ?_
      refine Go.gv C (wd hw 106 rfl) (wd hw 107 rfl) 0 2 rfl rfl d9_98 rfl ?_
      refine Go.ifNo C d9_101 (q := 104) rfl (XT.i0_eq_f (by decide)) ?_
      refine Go.aloadN C d9_104 rfl rfl rfl ?_
      refine Go.gf C (wd hw 34 rfl) 5 0 rfl rfl d9_105 rfl ?_
      refine Go.gv C (wd hw 69 rfl) (wd hw 70 rfl) 3 2 rfl rfl d9_108 rfl ?_
      refine Go.ifNo C d9_111 (q := 114) rfl (XT.i0_le_f (by decide)) ?_
      refine Go.aloadN C d9_114 rfl rfl rfl ?_
      refine Go.gf C (wd hw 34 rfl) 5 0 rfl rfl d9_115 rfl ?_
      refine Go.gv C (wd hw 101 rfl) (wd hw 91 rfl) 3 0 rfl rfl d9_118 rfl ?_
      refine Go.aloadN C d9_121 rfl rfl rfl ?_
      refine Go.gf C (wd hw 34 rfl) 5 0 rfl rfl d9_122 rfl ?_
      refine Go.getR C (wd hw 102 rfl) (fun _ r => r.fld 3 3 rfl rfl) d9_125 (q := 128) rfl ?_
      refine Go.laload C (fun _ r => r.arr 4 rfl) (by decide) (v := (.long kA1)) rfl d9_128 (q := 129) rfl ?_
      refine Go.aloadN C d9_129 rfl rfl rfl ?_
      refine Go.gf C (wd hw 45 rfl) 5 1 rfl rfl d9_130 rfl ?_
      refine Go.gv C (wd hw 134 rfl) (wd hw 128 rfl) 0 0 rfl rfl d9_133 rfl ?_
      refine Go.iconst C d9_136 rfl (v := (0 : Int32)) rfl ?_
      refine Go.laload C (fun _ r => r.arr 1 rfl) (by decide) (v := (.long kA0)) rfl d9_137 (q := 138) rfl ?_
      refine Go.lcmp C d9_138 rfl ?_
      refine Go.ifNo C d9_139 (q := 142) rfl (XT.ll_gt_f (by simp only [Int64.lt_iff_toInt_lt] at h36_1 ⊢; omega)) ?_
      refine Go.aloadN C d9_142 rfl rfl rfl ?_
      refine Go.gf C (wd hw 34 rfl) 5 0 rfl rfl d9_143 rfl ?_
      refine Go.pick (M' := (nR pA1 pA2 pA3 2 0 :: nK pA2 kA1 kA2 kA3 kA4 kA5 kA6 :: nE pA3 (.ref eA1) (.ref eA2) .null .null .null .null :: nH pA4 pA5 pA6 1 :: nK pA5 kA0 kA8 kA9 kA10 kA11 kA12 :: nE pA6 (.ref eA0) .null .null .null .null .null :: nQ pA0 pA1 pA4 1 kA0 (.ref eA0) :: F)) 7 [3, 4, 6, 0, 1, 2, 5] (by decide) (by decide) rfl ?_
      refine Go.callPR C (y := yN13) (a := pA1) (as := []) (rest := []) (wd hw 159 rfl) (wd hw 160 rfl) (sel_priv (y := yN13) (wd hw 17 rfl) (wd hw 160 rfl) (wd hw 161 rfl) (by decide)) (wd hw 161 rfl) (wd hw 162 rfl) (wd hw 18 rfl) (fun _ r => r.exa 0 rfl) (u_SequenceQueue_Run_poll_67 l Z a0 hw _ pA1 pA2 pA3 eA1 eA2 kA1 kA2 kA3 kA4 kA5 kA6 hE_eA1 hE_eA2) rfl d9_146 (q := 149) rfl (by decide) rfl (na := 0) (by decide +kernel) rfl (by decide) (W := 0) rfl (by decide) (by decide) (by decide) (k' := 0) (n' := 0) rfl rfl ?_
      rintro _ _ ⟨rfl, rfl⟩
      show Go _ _ _ _ _ _ _ _ _ _ [(.ref eA1)]
      refine Go.astoreN C d9_149 rfl rfl (Ls' := #[.val (.ref pA0), .val (.ref eA1), .unset]) rfl ?_
      refine Go.goto C d9_150 (by decide) (q := 161) rfl ?_
      refine Go.aloadN C d9_161 rfl rfl rfl ?_
      refine Go.iconst C d9_162 rfl (v := (0 : Int32)) rfl ?_
      refine Go.pf C (wd hw 59 rfl) Via.refl 6 2 rfl rfl (wd hw 60 rfl) (wd hw 8 rfl) (ty := .boolean) (by decide) rfl rfl d9_163 rfl (M' := (nR pA1 pA2 pA3 1 1 :: nK pA2 kA1 kA2 kA3 kA4 kA5 kA6 :: nE pA3 .null (.ref eA2) .null .null .null .null :: nH pA4 pA5 pA6 1 :: nK pA5 kA0 kA8 kA9 kA10 kA11 kA12 :: nE pA6 (.ref eA0) .null .null .null .null .null :: nQ pA0 pA1 pA4 0 kA0 (.ref eA0) :: F)) rfl ?_
      refine Go.aloadN C d9_166 rfl rfl rfl ?_
      refine Go.aconstNull C d9_167 rfl ?_
      refine Go.pf C (wd hw 63 rfl) Via.refl 6 4 rfl rfl (wd hw 64 rfl) (wd hw 8 rfl) (ty := (.object "java/lang/Object")) (by decide) rfl rfl d9_168 rfl (M' := (nR pA1 pA2 pA3 1 1 :: nK pA2 kA1 kA2 kA3 kA4 kA5 kA6 :: nE pA3 .null (.ref eA2) .null .null .null .null :: nH pA4 pA5 pA6 1 :: nK pA5 kA0 kA8 kA9 kA10 kA11 kA12 :: nE pA6 (.ref eA0) .null .null .null .null .null :: nQ pA0 pA1 pA4 0 kA0 .null :: F)) rfl ?_
      refine Go.aloadN C d9_171 rfl rfl rfl ?_
      refine Go.astoreN C d9_172 rfl rfl (Ls' := #[.val (.ref pA0), .val (.ref eA1), .val (.ref eA1)]) rfl ?_
      refine Go.aloadN C d9_173 rfl rfl rfl ?_
      refine Go.pick (M' := (nQ pA0 pA1 pA4 0 kA0 .null :: nR pA1 pA2 pA3 1 1 :: nK pA2 kA1 kA2 kA3 kA4 kA5 kA6 :: nE pA3 .null (.ref eA2) .null .null .null .null :: nH pA4 pA5 pA6 1 :: nK pA5 kA0 kA8 kA9 kA10 kA11 kA12 :: nE pA6 (.ref eA0) .null .null .null .null .null :: F)) 7 [6, 0, 1, 2, 3, 4, 5] (by decide) (by decide) rfl ?_
      refine Go.retA C rfl rfl rfl d9_174 (by decide) (by decide) ?_
      exact Or.inl ⟨h36_1, hc70, rfl, rfl⟩
    · show Go _ _ _ _ _ _ _ _ _ _ []
      refine Go.aloadN C d9_94 rfl rfl rfl ?_
      refine Go.gf C (wd hw 45 rfl) 3 1 rfl rfl d9_95 rfl ?_
      refine Go.gv C (wd hw 106 rfl) (wd hw 107 rfl) 4 2 rfl rfl d9_98 rfl ?_
      refine Go.ifYes C d9_101 (by decide) (q := 142) rfl (XT.i0_eq_t (by decide)) ?_
      refine Go.aloadN C d9_142 rfl rfl rfl ?_
      refine Go.gf C (wd hw 34 rfl) 3 0 rfl rfl d9_143 rfl ?_
      refine Go.callPR C (y := yN13) (a := pA1) (as := []) (rest := []) (wd hw 159 rfl) (wd hw 160 rfl) (sel_priv (y := yN13) (wd hw 17 rfl) (wd hw 160 rfl) (wd hw 161 rfl) (by decide)) (wd hw 161 rfl) (wd hw 162 rfl) (wd hw 18 rfl) (fun _ r => r.exa 0 rfl) (u_SequenceQueue_Run_poll_73 l Z a0 hw _ pA1 pA2 pA3 eA1 eA2 eA0 kA1 kA2 kA0 kA4 kA5 kA6 hE_eA1 hE_eA2 hE_eA0) rfl d9_146 (q := 149) rfl (by decide) rfl (na := 0) (by decide +kernel) rfl (by decide) (W := 0) rfl (by decide) (by decide) (by decide) (k' := 0) (n' := 0) rfl rfl ?_
      rintro _ _ ⟨rfl, rfl⟩
      show Go _ _ _ _ _ _ _ _ _ _ [(.ref eA1)]
      refine Go.astoreN C d9_149 rfl rfl (Ls' := #[.val (.ref pA0), .val (.ref eA1), .unset]) rfl ?_
      refine Go.goto C d9_150 (by decide) (q := 161) rfl ?_
      refine Go.aloadN C d9_161 rfl rfl rfl ?_
      refine Go.iconst C d9_162 rfl (v := (0 : Int32)) rfl ?_
      refine Go.pf C (wd hw 59 rfl) Via.refl 3 2 rfl rfl (wd hw 60 rfl) (wd hw 8 rfl) (ty := .boolean) (by decide) rfl rfl d9_163 rfl (M' := (nR pA1 pA2 pA3 2 1 :: nK pA2 kA1 kA2 kA0 kA4 kA5 kA6 :: nE pA3 .null (.ref eA2) (.ref eA0) .null .null .null :: nQ pA0 pA1 pA4 0 kA0 (.ref eA0) :: nH pA4 pA5 pA6 0 :: nK pA5 kA7 kA8 kA9 kA10 kA11 kA12 :: nE pA6 .null .null .null .null .null .null :: F)) rfl ?_
      refine Go.aloadN C d9_166 rfl rfl rfl ?_
      refine Go.aconstNull C d9_167 rfl ?_
      refine Go.pf C (wd hw 63 rfl) Via.refl 3 4 rfl rfl (wd hw 64 rfl) (wd hw 8 rfl) (ty := (.object "java/lang/Object")) (by decide) rfl rfl d9_168 rfl (M' := (nR pA1 pA2 pA3 2 1 :: nK pA2 kA1 kA2 kA0 kA4 kA5 kA6 :: nE pA3 .null (.ref eA2) (.ref eA0) .null .null .null :: nQ pA0 pA1 pA4 0 kA0 .null :: nH pA4 pA5 pA6 0 :: nK pA5 kA7 kA8 kA9 kA10 kA11 kA12 :: nE pA6 .null .null .null .null .null .null :: F)) rfl ?_
      refine Go.aloadN C d9_171 rfl rfl rfl ?_
      refine Go.astoreN C d9_172 rfl rfl (Ls' := #[.val (.ref pA0), .val (.ref eA1), .val (.ref eA1)]) rfl ?_
      refine Go.aloadN C d9_173 rfl rfl rfl ?_
      refine Go.pick (M' := (nQ pA0 pA1 pA4 0 kA0 .null :: nR pA1 pA2 pA3 2 1 :: nK pA2 kA1 kA2 kA0 kA4 kA5 kA6 :: nE pA3 .null (.ref eA2) (.ref eA0) .null .null .null :: nH pA4 pA5 pA6 0 :: nK pA5 kA7 kA8 kA9 kA10 kA11 kA12 :: nE pA6 .null .null .null .null .null .null :: F)) 7 [3, 0, 1, 2, 4, 5, 6] (by decide) (by decide) rfl ?_
      refine Go.retA C rfl rfl rfl d9_174 (by decide) (by decide) ?_
      exact Or.inr (Or.inl ⟨h36_1, hc71, rfl, rfl⟩)
  · refine Go.aloadN C d9_40 rfl rfl rfl ?_
    refine Go.gf C (wd hw 45 rfl) 0 1 rfl rfl d9_41 rfl ?_
    refine Go.gv C (wd hw 106 rfl) (wd hw 107 rfl) 4 2 rfl rfl d9_44 rfl ?_
    refine Go.ifYes C d9_47 (by decide) (q := 67) rfl (XT.i0_eq_t (by decide)) ?_
    refine Go.aloadN C d9_67 rfl rfl rfl ?_
    refine Go.gf C (wd hw 63 rfl) 0 4 rfl rfl d9_68 rfl ?_
    refine Go.astoreN C d9_71 rfl rfl (Ls' := #[.val (.ref pA0), .val (.ref eA0), .unset]) rfl ?_
    refine Go.goto C d9_72 (by decide) (q := 161) rfl ?_
    refine Go.aloadN C d9_161 rfl rfl rfl ?_
    refine Go.iconst C d9_162 rfl (v := (0 : Int32)) rfl ?_
    refine Go.pf C (wd hw 59 rfl) Via.refl 0 2 rfl rfl (wd hw 60 rfl) (wd hw 8 rfl) (ty := .boolean) (by decide) rfl rfl d9_163 rfl (M' := (nQ pA0 pA1 pA4 0 kA0 (.ref eA0) :: nR pA1 pA2 pA3 2 0 :: nK pA2 kA1 kA2 kA3 kA4 kA5 kA6 :: nE pA3 (.ref eA1) (.ref eA2) .null .null .null .null :: nH pA4 pA5 pA6 0 :: nK pA5 kA7 kA8 kA9 kA10 kA11 kA12 :: nE pA6 .null .null .null .null .null .null :: F)) rfl ?_
    refine Go.aloadN C d9_166 rfl rfl rfl ?_
    refine Go.aconstNull C d9_167 rfl ?_
    refine Go.pf C (wd hw 63 rfl) Via.refl 0 4 rfl rfl (wd hw 64 rfl) (wd hw 8 rfl) (ty := (.object "java/lang/Object")) (by decide) rfl rfl d9_168 rfl (M' := (nQ pA0 pA1 pA4 0 kA0 .null :: nR pA1 pA2 pA3 2 0 :: nK pA2 kA1 kA2 kA3 kA4 kA5 kA6 :: nE pA3 (.ref eA1) (.ref eA2) .null .null .null .null :: nH pA4 pA5 pA6 0 :: nK pA5 kA7 kA8 kA9 kA10 kA11 kA12 :: nE pA6 .null .null .null .null .null .null :: F)) rfl ?_
    refine Go.aloadN C d9_171 rfl rfl rfl ?_
    refine Go.astoreN C d9_172 rfl rfl (Ls' := #[.val (.ref pA0), .val (.ref eA0), .val (.ref eA0)]) rfl ?_
    refine Go.aloadN C d9_173 rfl rfl rfl ?_
    refine Go.retA C rfl rfl rfl d9_174 (by decide) (by decide) ?_
    exact Or.inr (Or.inr (⟨h36_1, rfl, rfl⟩))
theorem u_SequenceQueue_poll_130 (l : Launch) (Z : State) (a0 : Array Value) (hw : HW Z a0) (F : List Ent) (pA0 pA1 pA2 pA3 pA4 pA5 pA6 eA0 eA1 eA2 eA3 : Addr) (kA0 kA1 kA2 kA3 kA4 kA5 kA6 kA7 kA8 kA9 kA10 kA11 kA12 : Int64) (hE_eA0 : XI Z eA0) (hE_eA1 : XI Z eA1) (hE_eA2 : XI Z eA2) (hE_eA3 : XI Z eA3) (hK0 : ¬ kA2 < kA1) :
    Met l Z yN15 prog_20_method_3_code 3 (some (.object "java/lang/Object")) { frames := 3, cells := 0, slots := 0, locals := 45 } #[(.ref pA0)] (nQ pA0 pA1 pA4 1 kA0 (.ref eA0) :: nR pA1 pA2 pA3 2 0 :: nK pA2 kA1 kA2 kA3 kA4 kA5 kA6 :: nE pA3 (.ref eA1) (.ref eA2) .null .null .null .null :: nH pA4 pA5 pA6 1 :: nK pA5 kA7 kA8 kA9 kA10 kA11 kA12 :: nE pA6 (.ref eA3) .null .null .null .null .null :: F) (fun r M' => ((kA1 < kA0) ∧ (kA0 < kA2) ∧ (kA0 < kA7) ∧ r = (some (.ref eA1)) ∧ M' = (nQ pA0 pA1 pA4 0 kA0 .null :: nR pA1 pA2 pA3 1 1 :: nK pA2 kA1 kA2 kA3 kA4 kA5 kA6 :: nE pA3 .null (.ref eA2) .null .null .null .null :: nH pA4 pA5 pA6 2 :: nK pA5 kA0 kA7 kA9 kA10 kA11 kA12 :: nE pA6 (.ref eA0) (.ref eA3) .null .null .null .null :: F)) ∨ ((kA1 < kA0) ∧ (kA0 < kA2) ∧ (¬ kA0 < kA7) ∧ (kA7 < kA1) ∧ r = (some (.ref eA3)) ∧ M' = (nQ pA0 pA1 pA4 0 kA0 .null :: nR pA1 pA2 pA3 2 0 :: nK pA2 kA1 kA2 kA3 kA4 kA5 kA6 :: nE pA3 (.ref eA1) (.ref eA2) .null .null .null .null :: nH pA4 pA5 pA6 1 :: nK pA5 kA0 kA0 kA9 kA10 kA11 kA12 :: nE pA6 (.ref eA0) .null .null .null .null .null :: F)) ∨ ((kA1 < kA0) ∧ (kA0 < kA2) ∧ (¬ kA0 < kA7) ∧ (¬ kA7 < kA1) ∧ r = (some (.ref eA1)) ∧ M' = (nQ pA0 pA1 pA4 0 kA0 .null :: nR pA1 pA2 pA3 1 1 :: nK pA2 kA1 kA2 kA3 kA4 kA5 kA6 :: nE pA3 .null (.ref eA2) .null .null .null .null :: nH pA4 pA5 pA6 2 :: nK pA5 kA7 kA0 kA9 kA10 kA11 kA12 :: nE pA6 (.ref eA3) (.ref eA0) .null .null .null .null :: F)) ∨ ((kA1 < kA0) ∧ (¬ kA0 < kA2) ∧ (kA7 < kA1) ∧ r = (some (.ref eA3)) ∧ M' = (nQ pA0 pA1 pA4 0 kA0 .null :: nR pA1 pA2 pA3 3 0 :: nK pA2 kA1 kA2 kA0 kA4 kA5 kA6 :: nE pA3 (.ref eA1) (.ref eA2) (.ref eA0) .null .null .null :: nH pA4 pA5 pA6 0 :: nK pA5 kA7 kA8 kA9 kA10 kA11 kA12 :: nE pA6 .null .null .null .null .null .null :: F)) ∨ ((kA1 < kA0) ∧ (¬ kA0 < kA2) ∧ (¬ kA7 < kA1) ∧ r = (some (.ref eA1)) ∧ M' = (nQ pA0 pA1 pA4 0 kA0 .null :: nR pA1 pA2 pA3 2 1 :: nK pA2 kA1 kA2 kA0 kA4 kA5 kA6 :: nE pA3 .null (.ref eA2) (.ref eA0) .null .null .null :: nH pA4 pA5 pA6 1 :: nK pA5 kA7 kA8 kA9 kA10 kA11 kA12 :: nE pA6 (.ref eA3) .null .null .null .null .null :: F)) ∨ ((¬ kA1 < kA0) ∧ (kA7 < kA0) ∧ (kA0 < kA2) ∧ (¬ kA0 < kA7) ∧ r = (some (.ref eA3)) ∧ M' = (nQ pA0 pA1 pA4 0 kA0 .null :: nR pA1 pA2 pA3 2 0 :: nK pA2 kA1 kA2 kA3 kA4 kA5 kA6 :: nE pA3 (.ref eA1) (.ref eA2) .null .null .null .null :: nH pA4 pA5 pA6 1 :: nK pA5 kA0 kA0 kA9 kA10 kA11 kA12 :: nE pA6 (.ref eA0) .null .null .null .null .null :: F)) ∨ ((¬ kA1 < kA0) ∧ (kA7 < kA0) ∧ (¬ kA0 < kA2) ∧ r = (some (.ref eA3)) ∧ M' = (nQ pA0 pA1 pA4 0 kA0 .null :: nR pA1 pA2 pA3 3 0 :: nK pA2 kA1 kA2 kA0 kA4 kA5 kA6 :: nE pA3 (.ref eA1) (.ref eA2) (.ref eA0) .null .null .null :: nH pA4 pA5 pA6 0 :: nK pA5 kA7 kA8 kA9 kA10 kA11 kA12 :: nE pA6 .null .null .null .null .null .null :: F)) ∨ ((¬ kA1 < kA0) ∧ (¬ kA7 < kA0) ∧ r = (some (.ref eA0)) ∧ M' = (nQ pA0 pA1 pA4 0 kA0 .null :: nR pA1 pA2 pA3 2 0 :: nK pA2 kA1 kA2 kA3 kA4 kA5 kA6 :: nE pA3 (.ref eA1) (.ref eA2) .null .null .null .null :: nH pA4 pA5 pA6 1 :: nK pA5 kA7 kA8 kA9 kA10 kA11 kA12 :: nE pA6 (.ref eA3) .null .null .null .null .null :: F))) := by
  refine Met.of_go pn_11 (Ls := #[.val (.ref pA0), .unset, .unset]) (fun m => rfl) ?_
  intro E C
  refine Go.aloadN C d9_0 rfl rfl rfl ?_
  refine Go.gf C (wd hw 59 rfl) 0 2 rfl rfl d9_1 rfl ?_
  refine Go.ifNo C d9_4 (q := 7) rfl (XT.i0_eq_f (by decide)) ?_
  refine Go.aloadN C d9_7 rfl rfl rfl ?_
  refine Go.gf C (wd hw 34 rfl) 0 0 rfl rfl d9_8 rfl ?_
  refine Go.gv C (wd hw 69 rfl) (wd hw 70 rfl) 1 2 rfl rfl d9_11 rfl ?_
  refine Go.ifNo C d9_14 (q := 17) rfl (XT.i0_eq_f (by decide)) ?_
  refine Go.aloadN C d9_17 rfl rfl rfl ?_
  refine Go.gf C (wd hw 61 rfl) 0 3 rfl rfl d9_18 rfl ?_
  refine Go.aloadN C d9_21 rfl rfl rfl ?_
  refine Go.gf C (wd hw 34 rfl) 0 0 rfl rfl d9_22 rfl ?_
  refine Go.gv C (wd hw 101 rfl) (wd hw 91 rfl) 1 0 rfl rfl d9_25 rfl ?_
  refine Go.aloadN C d9_28 rfl rfl rfl ?_
  refine Go.gf C (wd hw 34 rfl) 0 0 rfl rfl d9_29 rfl ?_
  refine Go.getR C (wd hw 102 rfl) (fun _ r => r.fld 1 3 rfl rfl) d9_32 (q := 35) rfl ?_
  refine Go.laload C (fun _ r => r.arr 2 rfl) (by decide) (v := (.long kA1)) rfl d9_35 (q := 36) rfl ?_
  refine Go.lcmpif C d9_36 rfl d9_37 (by decide) (q := 75) rfl (q' := 40) rfl (fun (h36_1 : kA1 < kA0) => ?_) (fun (h36_1 : ¬ kA1 < kA0) => ?_)
  · refine Go.aloadN C d9_75 rfl rfl rfl ?_
    refine Go.gf C (wd hw 59 rfl) 0 2 rfl rfl d9_76 rfl ?_
    refine Go.ifNo C d9_79 (q := 82) rfl (XT.i0_eq_f (by decide)) ?_
    refine Go.aloadN C d9_82 rfl rfl rfl ?_
    refine Go.aloadN C d9_83 rfl rfl rfl ?_
    refine Go.gf C (wd hw 61 rfl) 0 3 rfl rfl d9_84 rfl ?_
    refine Go.aloadN C d9_87 rfl rfl rfl ?_
    refine Go.gf C (wd hw 63 rfl) 0 4 rfl rfl d9_88 rfl ?_
    refine Go.callP C (y := yN6) (a := pA0) (as := [(.long kA0), (.ref eA0)]) (rest := []) (wd hw 65 rfl) (wd hw 66 rfl) (sel_priv (y := yN6) (wd hw 8 rfl) (wd hw 66 rfl) (wd hw 67 rfl) (by decide)) (wd hw 67 rfl) (wd hw 68 rfl) (wd hw 9 rfl) (fun _ r => r.exa 0 rfl) (u_SequenceQueue_place_40 l Z a0 hw _ pA0 pA1 pA2 pA3 pA4 pA5 pA6 eA0 eA0 eA1 eA2 eA3 kA0 kA0 kA1 kA2 kA3 kA4 kA5 kA6 kA7 kA8 kA9 kA10 kA11 kA12 hE_eA0 hE_eA0 hE_eA1 hE_eA2 hE_eA3) rfl d9_91 (q := 94) rfl (by decide) rfl (na := 2) (by decide +kernel) rfl (by decide) (W := 0) rfl (by decide) (by decide) (by decide) (k' := 0) (n' := 0) rfl rfl ?_
    rintro _ _ (⟨hc75, hc76, rfl, rfl⟩ | ⟨hc77, hc78, rfl, rfl⟩ | ⟨hc79, rfl, rfl⟩)
    · show Go _ _ _ _ _ _ _ _ _ _ []
      refine Go.aloadN C d9_94 rfl rfl rfl ?_
      refine Go.gf C (wd hw 45 rfl) 5 1 rfl rfl d9_95 rfl ?_
      refine Go.gv C (wd hw 106 rfl) (wd hw 107 rfl) 0 2 rfl rfl d9_98 rfl ?_
      refine Go.ifNo C d9_101 (q := 104) rfl (XT.i0_eq_f (by decide)) ?_
      refine Go.aloadN C d9_104 rfl rfl rfl ?_
      refine Go.gf C (wd hw 34 rfl) 5 0 rfl rfl d9_105 rfl ?_
      refine Go.gv C (wd hw 69 rfl) (wd hw 70 rfl) 3 2 rfl rfl d9_108 rfl ?_
      refine Go.ifNo C d9_111 (q := 114) rfl (XT.i0_le_f (by decide)) ?_
      refine Go.aloadN C d9_114 rfl rfl rfl ?_
      refine Go.gf C (wd hw 34 rfl) 5 0 rfl rfl d9_115 rfl ?_
      refine Go.gv C (wd hw 101 rfl) (wd hw 91 rfl) 3 0 rfl rfl d9_118 rfl ?_
      refine Go.aloadN C d9_121 rfl rfl rfl ?_
      refine Go.gf C (wd hw 34 rfl) 5 0 rfl rfl d9_122 rfl ?_
      refine Go.getR C (wd hw 102 rfl) (fun _ r => r.fld 3 3 rfl rfl) d9_125 (q := 128) rfl ?_
      refine Go.laload C (fun _ r => r.arr 4 rfl) (by decide) (v := (.long kA1)) rfl d9_128 (q := 129) rfl ?_
      refine Go.aloadN C d9_129 rfl rfl rfl ?_
      refine Go.gf C (wd hw 45 rfl) 5 1 rfl rfl d9_130 rfl ?_
      refine Go.gv C (wd hw 134 rfl) (wd hw 128 rfl) 0 0 rfl rfl d9_133 rfl ?_
      refine Go.iconst C d9_136 rfl (v := (0 : Int32)) rfl ?_
      refine Go.laload C (fun _ r => r.arr 1 rfl) (by decide) (v := (.long kA0)) rfl d9_137 (q := 138) rfl ?_
      refine Go.lcmp C d9_138 rfl ?_
      refine Go.ifNo C d9_139 (q := 142) rfl (XT.ll_gt_f (by simp only [Int64.lt_iff_toInt_lt] at h36_1 ⊢; omega)) ?_
      refine Go.aloadN C d9_142 rfl rfl rfl ?_
      refine Go.gf C (wd hw 34 rfl) 5 0 rfl rfl d9_143 rfl ?_
      refine Go.pick (M' := (nR pA1 pA2 pA3 2 0 :: nK pA2 kA1 kA2 kA3 kA4 kA5 kA6 :: nE pA3 (.ref eA1) (.ref eA2) .null .null .null .null :: nH pA4 pA5 pA6 2 :: nK pA5 kA0 kA7 kA9 kA10 kA11 kA12 :: nE pA6 (.ref eA0) (.ref eA3) .null .null .null .null :: nQ pA0 pA1 pA4 1 kA0 (.ref eA0) :: F)) 7 [3, 4, 6, 0, 1, 2, 5] (by decide) (by decide) rfl ?_
      refine Go.callPR C (y := yN13) (a := pA1) (as := []) (rest := []) (wd hw 159 rfl) (wd hw 160 rfl) (sel_priv (y := yN13) (wd hw 17 rfl) (wd hw 160 rfl) (wd hw 161 rfl) (by decide)) (wd hw 161 rfl) (wd hw 162 rfl) (wd hw 18 rfl) (fun _ r => r.exa 0 rfl) (u_SequenceQueue_Run_poll_67 l Z a0 hw _ pA1 pA2 pA3 eA1 eA2 kA1 kA2 kA3 kA4 kA5 kA6 hE_eA1 hE_eA2) rfl d9_146 (q := 149) rfl (by decide) rfl (na := 0) (by decide +kernel) rfl (by decide) (W := 0) rfl (by decide) (by decide) (by decide) (k' := 0) (n' := 0) rfl rfl ?_
      rintro _ _ ⟨rfl, rfl⟩
      show Go _ _ _ _ _ _ _ _ _ _ [(.ref eA1)]
      refine Go.astoreN C d9_149 rfl rfl (Ls' := #[.val (.ref pA0), .val (.ref eA1), .unset]) rfl ?_
      refine Go.goto C d9_150 (by decide) (q := 161) rfl ?_
      refine Go.aloadN C d9_161 rfl rfl rfl ?_
      refine Go.iconst C d9_162 rfl (v := (0 : Int32)) rfl ?_
      refine Go.pf C (wd hw 59 rfl) Via.refl 6 2 rfl rfl (wd hw 60 rfl) (wd hw 8 rfl) (ty := .boolean) (by decide) rfl rfl d9_163 rfl (M' := (nR pA1 pA2 pA3 1 1 :: nK pA2 kA1 kA2 kA3 kA4 kA5 kA6 :: nE pA3 .null (.ref eA2) .null .null .null .null :: nH pA4 pA5 pA6 2 :: nK pA5 kA0 kA7 kA9 kA10 kA11 kA12 :: nE pA6 (.ref eA0) (.ref eA3) .null .null .null .null :: nQ pA0 pA1 pA4 0 kA0 (.ref eA0) :: F)) rfl ?_
      refine Go.aloadN C d9_166 rfl rfl rfl ?_
      refine Go.aconstNull C d9_167 rfl ?_
      refine Go.pf C (wd hw 63 rfl) Via.refl 6 4 rfl rfl (wd hw 64 rfl) (wd hw 8 rfl) (ty := (.object "java/lang/Object")) (by decide) rfl rfl d9_168 rfl (M' := (nR pA1 pA2 pA3 1 1 :: nK pA2 kA1 kA2 kA3 kA4 kA5 kA6 :: nE pA3 .null (.ref eA2) .null .null .null .null :: nH pA4 pA5 pA6 2 :: nK pA5 kA0 kA7 kA9 kA10 kA11 kA12 :: nE pA6 (.ref eA0) (.ref eA3) .null .null .null .null :: nQ pA0 pA1 pA4 0 kA0 .null :: F)) rfl ?_
      refine Go.aloadN C d9_171 rfl rfl rfl ?_
      refine Go.astoreN C d9_172 rfl rfl (Ls' := #[.val (.ref pA0), .val (.ref eA1), .val (.ref eA1)]) rfl ?_
      refine Go.aloadN C d9_173 rfl rfl rfl ?_
      refine Go.pick (M' := (nQ pA0 pA1 pA4 0 kA0 .null :: nR pA1 pA2 pA3 1 1 :: nK pA2 kA1 kA2 kA3 kA4 kA5 kA6 :: nE pA3 .null (.ref eA2) .null .null .null .null :: nH pA4 pA5 pA6 2 :: nK pA5 kA0 kA7 kA9 kA10 kA11 kA12 :: nE pA6 (.ref eA0) (.ref eA3) .null .null .null .null :: F)) 7 [6, 0, 1, 2, 3, 4, 5] (by decide) (by decide) rfl ?_
      refine Go.retA C rfl rfl rfl d9_174 (by decide) (by decide) ?_
      exact Or.inl ⟨h36_1, hc75, hc76, rfl, rfl⟩
    · show Go _ _ _ _ _ _ _ _ _ _ []
      refine Go.aloadN C d9_94 rfl rfl rfl ?_
      refine Go.gf C (wd hw 45 rfl) 5 1 rfl rfl d9_95 rfl ?_
      refine Go.gv C (wd hw 106 rfl) (wd hw 107 rfl) 0 2 rfl rfl d9_98 rfl ?_
      refine Go.ifNo C d9_101 (q := 104) rfl (XT.i0_eq_f (by decide)) ?_
      refine Go.aloadN C d9_104 rfl rfl rfl ?_
      refine Go.gf C (wd hw 34 rfl) 5 0 rfl rfl d9_105 rfl ?_
      refine Go.gv C (wd hw 69 rfl) (wd hw 70 rfl) 3 2 rfl rfl d9_108 rfl ?_
      refine Go.ifNo C d9_111 (q := 114) rfl (XT.i0_le_f (by decide)) ?_
      refine Go.aloadN C d9_114 rfl rfl rfl ?_
      refine Go.gf C (wd hw 34 rfl) 5 0 rfl rfl d9_115 rfl ?_
      refine Go.gv C (wd hw 101 rfl) (wd hw 91 rfl) 3 0 rfl rfl d9_118 rfl ?_
      refine Go.aloadN C d9_121 rfl rfl rfl ?_
      refine Go.gf C (wd hw 34 rfl) 5 0 rfl rfl d9_122 rfl ?_
      refine Go.getR C (wd hw 102 rfl) (fun _ r => r.fld 3 3 rfl rfl) d9_125 (q := 128) rfl ?_
      refine Go.laload C (fun _ r => r.arr 4 rfl) (by decide) (v := (.long kA1)) rfl d9_128 (q := 129) rfl ?_
      refine Go.aloadN C d9_129 rfl rfl rfl ?_
      refine Go.gf C (wd hw 45 rfl) 5 1 rfl rfl d9_130 rfl ?_
      refine Go.gv C (wd hw 134 rfl) (wd hw 128 rfl) 0 0 rfl rfl d9_133 rfl ?_
      refine Go.iconst C d9_136 rfl (v := (0 : Int32)) rfl ?_
      refine Go.laload C (fun _ r => r.arr 1 rfl) (by decide) (v := (.long kA7)) rfl d9_137 (q := 138) rfl ?_
      refine Go.lcmpif C d9_138 rfl d9_139 (by decide) (q := 153) rfl (q' := 142) rfl (fun (h138_2 : kA7 < kA1) => ?_) (fun (h138_2 : ¬ kA7 < kA1) => ?_)
      · refine Go.aloadN C d9_153 rfl rfl rfl ?_
        refine Go.gf C (wd hw 45 rfl) 5 1 rfl rfl d9_154 rfl ?_
        refine Go.callPR C (y := yN11) (a := pA4) (as := []) (rest := []) (wd hw 140 rfl) (wd hw 141 rfl) (sel_priv (y := yN11) (wd hw 37 rfl) (wd hw 141 rfl) (wd hw 142 rfl) (by decide)) (wd hw 142 rfl) (wd hw 143 rfl) (wd hw 38 rfl) (fun _ r => r.exa 0 rfl) (u_SequenceQueue_Heap_poll_55 l Z a0 hw _ pA4 pA5 pA6 eA3 eA0 kA7 kA0 kA9 kA10 kA11 kA12 hE_eA3 hE_eA0) rfl d9_157 (q := 160) rfl (by decide) rfl (na := 0) (by decide +kernel) rfl (by decide) (W := 0) rfl (by decide) (by decide) (by decide) (k' := 0) (n' := 0) rfl rfl ?_
        rintro _ _ ⟨rfl, rfl⟩
        show Go _ _ _ _ _ _ _ _ _ _ [(.ref eA3)]
        refine Go.astoreN C d9_160 rfl rfl (Ls' := #[.val (.ref pA0), .val (.ref eA3), .unset]) rfl ?_
        refine Go.aloadN C d9_161 rfl rfl rfl ?_
        refine Go.iconst C d9_162 rfl (v := (0 : Int32)) rfl ?_
        refine Go.pf C (wd hw 59 rfl) Via.refl 5 2 rfl rfl (wd hw 60 rfl) (wd hw 8 rfl) (ty := .boolean) (by decide) rfl rfl d9_163 rfl (M' := (nH pA4 pA5 pA6 1 :: nK pA5 kA0 kA0 kA9 kA10 kA11 kA12 :: nE pA6 (.ref eA0) .null .null .null .null .null :: nR pA1 pA2 pA3 2 0 :: nK pA2 kA1 kA2 kA3 kA4 kA5 kA6 :: nQ pA0 pA1 pA4 0 kA0 (.ref eA0) :: nE pA3 (.ref eA1) (.ref eA2) .null .null .null .null :: F)) rfl ?_
        refine Go.aloadN C d9_166 rfl rfl rfl ?_
        refine Go.aconstNull C d9_167 rfl ?_
        refine Go.pf C (wd hw 63 rfl) Via.refl 5 4 rfl rfl (wd hw 64 rfl) (wd hw 8 rfl) (ty := (.object "java/lang/Object")) (by decide) rfl rfl d9_168 rfl (M' := (nH pA4 pA5 pA6 1 :: nK pA5 kA0 kA0 kA9 kA10 kA11 kA12 :: nE pA6 (.ref eA0) .null .null .null .null .null :: nR pA1 pA2 pA3 2 0 :: nK pA2 kA1 kA2 kA3 kA4 kA5 kA6 :: nQ pA0 pA1 pA4 0 kA0 .null :: nE pA3 (.ref eA1) (.ref eA2) .null .null .null .null :: F)) rfl ?_
        refine Go.aloadN C d9_171 rfl rfl rfl ?_
        refine Go.astoreN C d9_172 rfl rfl (Ls' := #[.val (.ref pA0), .val (.ref eA3), .val (.ref eA3)]) rfl ?_
        refine Go.aloadN C d9_173 rfl rfl rfl ?_
        refine Go.pick (M' := (nQ pA0 pA1 pA4 0 kA0 .null :: nR pA1 pA2 pA3 2 0 :: nK pA2 kA1 kA2 kA3 kA4 kA5 kA6 :: nE pA3 (.ref eA1) (.ref eA2) .null .null .null .null :: nH pA4 pA5 pA6 1 :: nK pA5 kA0 kA0 kA9 kA10 kA11 kA12 :: nE pA6 (.ref eA0) .null .null .null .null .null :: F)) 7 [5, 3, 4, 6, 0, 1, 2] (by decide) (by decide) rfl ?_
        refine Go.retA C rfl rfl rfl d9_174 (by decide) (by decide) ?_
        exact Or.inr (Or.inl ⟨h36_1, hc77, hc78, h138_2, rfl, rfl⟩)
      · refine Go.aloadN C d9_142 rfl rfl rfl ?_
        refine Go.gf C (wd hw 34 rfl) 5 0 rfl rfl d9_143 rfl ?_
        refine Go.pick (M' := (nR pA1 pA2 pA3 2 0 :: nK pA2 kA1 kA2 kA3 kA4 kA5 kA6 :: nE pA3 (.ref eA1) (.ref eA2) .null .null .null .null :: nH pA4 pA5 pA6 2 :: nK pA5 kA7 kA0 kA9 kA10 kA11 kA12 :: nE pA6 (.ref eA3) (.ref eA0) .null .null .null .null :: nQ pA0 pA1 pA4 1 kA0 (.ref eA0) :: F)) 7 [3, 4, 6, 0, 1, 2, 5] (by decide) (by decide) rfl ?_
        refine Go.callPR C (y := yN13) (a := pA1) (as := []) (rest := []) (wd hw 159 rfl) (wd hw 160 rfl) (sel_priv (y := yN13) (wd hw 17 rfl) (wd hw 160 rfl) (wd hw 161 rfl) (by decide)) (wd hw 161 rfl) (wd hw 162 rfl) (wd hw 18 rfl) (fun _ r => r.exa 0 rfl) (u_SequenceQueue_Run_poll_67 l Z a0 hw _ pA1 pA2 pA3 eA1 eA2 kA1 kA2 kA3 kA4 kA5 kA6 hE_eA1 hE_eA2) rfl d9_146 (q := 149) rfl (by decide) rfl (na := 0) (by decide +kernel) rfl (by decide) (W := 0) rfl (by decide) (by decide) (by decide) (k' := 0) (n' := 0) rfl rfl ?_
        rintro _ _ ⟨rfl, rfl⟩
        show Go _ _ _ _ _ _ _ _ _ _ [(.ref eA1)]
        refine Go.astoreN C d9_149 rfl rfl (Ls' := #[.val (.ref pA0), .val (.ref eA1), .unset]) rfl ?_
        refine Go.goto C d9_150 (by decide) (q := 161) rfl ?_
        refine Go.aloadN C d9_161 rfl rfl rfl ?_
        refine Go.iconst C d9_162 rfl (v := (0 : Int32)) rfl ?_
        refine Go.pf C (wd hw 59 rfl) Via.refl 6 2 rfl rfl (wd hw 60 rfl) (wd hw 8 rfl) (ty := .boolean) (by decide) rfl rfl d9_163 rfl (M' := (nR pA1 pA2 pA3 1 1 :: nK pA2 kA1 kA2 kA3 kA4 kA5 kA6 :: nE pA3 .null (.ref eA2) .null .null .null .null :: nH pA4 pA5 pA6 2 :: nK pA5 kA7 kA0 kA9 kA10 kA11 kA12 :: nE pA6 (.ref eA3) (.ref eA0) .null .null .null .null :: nQ pA0 pA1 pA4 0 kA0 (.ref eA0) :: F)) rfl ?_
        refine Go.aloadN C d9_166 rfl rfl rfl ?_
        refine Go.aconstNull C d9_167 rfl ?_
        refine Go.pf C (wd hw 63 rfl) Via.refl 6 4 rfl rfl (wd hw 64 rfl) (wd hw 8 rfl) (ty := (.object "java/lang/Object")) (by decide) rfl rfl d9_168 rfl (M' := (nR pA1 pA2 pA3 1 1 :: nK pA2 kA1 kA2 kA3 kA4 kA5 kA6 :: nE pA3 .null (.ref eA2) .null .null .null .null :: nH pA4 pA5 pA6 2 :: nK pA5 kA7 kA0 kA9 kA10 kA11 kA12 :: nE pA6 (.ref eA3) (.ref eA0) .null .null .null .null :: nQ pA0 pA1 pA4 0 kA0 .null :: F)) rfl ?_
        refine Go.aloadN C d9_171 rfl rfl rfl ?_
        refine Go.astoreN C d9_172 rfl rfl (Ls' := #[.val (.ref pA0), .val (.ref eA1), .val (.ref eA1)]) rfl ?_
        refine Go.aloadN C d9_173 rfl rfl rfl ?_
        refine Go.pick (M' := (nQ pA0 pA1 pA4 0 kA0 .null :: nR pA1 pA2 pA3 1 1 :: nK pA2 kA1 kA2 kA3 kA4 kA5 kA6 :: nE pA3 .null (.ref eA2) .null .null .null .null :: nH pA4 pA5 pA6 2 :: nK pA5 kA7 kA0 kA9 kA10 kA11 kA12 :: nE pA6 (.ref eA3) (.ref eA0) .null .null .null .null :: F)) 7 [6, 0, 1, 2, 3, 4, 5] (by decide) (by decide) rfl ?_
        refine Go.retA C rfl rfl rfl d9_174 (by decide) (by decide) ?_
        exact Or.inr (Or.inr (Or.inl ⟨h36_1, hc77, hc78, h138_2, rfl, rfl⟩))
    · show Go _ _ _ _ _ _ _ _ _ _ []
      refine Go.aloadN C d9_94 rfl rfl rfl ?_
      refine Go.gf C (wd hw 45 rfl) 3 1 rfl rfl d9_95 rfl ?_
      refine Go.gv C (wd hw 106 rfl) (wd hw 107 rfl) 4 2 rfl rfl d9_98 rfl ?_
      refine Go.ifNo C d9_101 (q := 104) rfl (XT.i0_eq_f (by decide)) ?_
      refine Go.aloadN C d9_104 rfl rfl rfl ?_
      refine Go.gf C (wd hw 34 rfl) 3 0 rfl rfl d9_105 rfl ?_
      refine Go.gv C (wd hw 69 rfl) (wd hw 70 rfl) 0 2 rfl rfl d9_108 rfl ?_
      refine Go.ifNo C d9_111 (q := 114) rfl (XT.i0_le_f (by decide)) ?_
      refine Go.aloadN C d9_114 rfl rfl rfl ?_
      refine Go.gf C (wd hw 34 rfl) 3 0 rfl rfl d9_115 rfl ?_
      refine Go.gv C (wd hw 101 rfl) (wd hw 91 rfl) 0 0 rfl rfl d9_118 rfl ?_
      refine Go.aloadN C d9_121 rfl rfl rfl ?_
      refine Go.gf C (wd hw 34 rfl) 3 0 rfl rfl d9_122 rfl ?_
      refine Go.getR C (wd hw 102 rfl) (fun _ r => r.fld 0 3 rfl rfl) d9_125 (q := 128) rfl ?_
      refine Go.laload C (fun _ r => r.arr 1 rfl) (by decide) (v := (.long kA1)) rfl d9_128 (q := 129) rfl ?_
      refine Go.aloadN C d9_129 rfl rfl rfl ?_
      refine Go.gf C (wd hw 45 rfl) 3 1 rfl rfl d9_130 rfl ?_
      refine Go.gv C (wd hw 134 rfl) (wd hw 128 rfl) 4 0 rfl rfl d9_133 rfl ?_
      refine Go.iconst C d9_136 rfl (v := (0 : Int32)) rfl ?_
      refine Go.laload C (fun _ r => r.arr 5 rfl) (by decide) (v := (.long kA7)) rfl d9_137 (q := 138) rfl ?_
      refine Go.lcmpif C d9_138 rfl d9_139 (by decide) (q := 153) rfl (q' := 142) rfl (fun (h138_3 : kA7 < kA1) => ?_) (fun (h138_3 : ¬ kA7 < kA1) => ?_)
      · refine Go.aloadN C d9_153 rfl rfl rfl ?_
        refine Go.gf C (wd hw 45 rfl) 3 1 rfl rfl d9_154 rfl ?_
        refine Go.pick (M' := (nH pA4 pA5 pA6 1 :: nK pA5 kA7 kA8 kA9 kA10 kA11 kA12 :: nE pA6 (.ref eA3) .null .null .null .null .null :: nR pA1 pA2 pA3 3 0 :: nK pA2 kA1 kA2 kA0 kA4 kA5 kA6 :: nE pA3 (.ref eA1) (.ref eA2) (.ref eA0) .null .null .null :: nQ pA0 pA1 pA4 1 kA0 (.ref eA0) :: F)) 7 [4, 5, 6, 0, 1, 2, 3] (by decide) (by decide) rfl ?_
        refine Go.callPR C (y := yN11) (a := pA4) (as := []) (rest := []) (wd hw 140 rfl) (wd hw 141 rfl) (sel_priv (y := yN11) (wd hw 37 rfl) (wd hw 141 rfl) (wd hw 142 rfl) (by decide)) (wd hw 142 rfl) (wd hw 143 rfl) (wd hw 38 rfl) (fun _ r => r.exa 0 rfl) (u_SequenceQueue_Heap_poll_52 l Z a0 hw _ pA4 pA5 pA6 eA3 kA7 kA8 kA9 kA10 kA11 kA12 hE_eA3) rfl d9_157 (q := 160) rfl (by decide) rfl (na := 0) (by decide +kernel) rfl (by decide) (W := 0) rfl (by decide) (by decide) (by decide) (k' := 0) (n' := 0) rfl rfl ?_
        rintro _ _ ⟨rfl, rfl⟩
        show Go _ _ _ _ _ _ _ _ _ _ [(.ref eA3)]
        refine Go.astoreN C d9_160 rfl rfl (Ls' := #[.val (.ref pA0), .val (.ref eA3), .unset]) rfl ?_
        refine Go.aloadN C d9_161 rfl rfl rfl ?_
        refine Go.iconst C d9_162 rfl (v := (0 : Int32)) rfl ?_
        refine Go.pf C (wd hw 59 rfl) Via.refl 6 2 rfl rfl (wd hw 60 rfl) (wd hw 8 rfl) (ty := .boolean) (by decide) rfl rfl d9_163 rfl (M' := (nH pA4 pA5 pA6 0 :: nK pA5 kA7 kA8 kA9 kA10 kA11 kA12 :: nE pA6 .null .null .null .null .null .null :: nR pA1 pA2 pA3 3 0 :: nK pA2 kA1 kA2 kA0 kA4 kA5 kA6 :: nE pA3 (.ref eA1) (.ref eA2) (.ref eA0) .null .null .null :: nQ pA0 pA1 pA4 0 kA0 (.ref eA0) :: F)) rfl ?_
        refine Go.aloadN C d9_166 rfl rfl rfl ?_
        refine Go.aconstNull C d9_167 rfl ?_
        refine Go.pf C (wd hw 63 rfl) Via.refl 6 4 rfl rfl (wd hw 64 rfl) (wd hw 8 rfl) (ty := (.object "java/lang/Object")) (by decide) rfl rfl d9_168 rfl (M' := (nH pA4 pA5 pA6 0 :: nK pA5 kA7 kA8 kA9 kA10 kA11 kA12 :: nE pA6 .null .null .null .null .null .null :: nR pA1 pA2 pA3 3 0 :: nK pA2 kA1 kA2 kA0 kA4 kA5 kA6 :: nE pA3 (.ref eA1) (.ref eA2) (.ref eA0) .null .null .null :: nQ pA0 pA1 pA4 0 kA0 .null :: F)) rfl ?_
        refine Go.aloadN C d9_171 rfl rfl rfl ?_
        refine Go.astoreN C d9_172 rfl rfl (Ls' := #[.val (.ref pA0), .val (.ref eA3), .val (.ref eA3)]) rfl ?_
        refine Go.aloadN C d9_173 rfl rfl rfl ?_
        refine Go.pick (M' := (nQ pA0 pA1 pA4 0 kA0 .null :: nR pA1 pA2 pA3 3 0 :: nK pA2 kA1 kA2 kA0 kA4 kA5 kA6 :: nE pA3 (.ref eA1) (.ref eA2) (.ref eA0) .null .null .null :: nH pA4 pA5 pA6 0 :: nK pA5 kA7 kA8 kA9 kA10 kA11 kA12 :: nE pA6 .null .null .null .null .null .null :: F)) 7 [6, 3, 4, 5, 0, 1, 2] (by decide) (by decide) rfl ?_
        refine Go.retA C rfl rfl rfl d9_174 (by decide) (by decide) ?_
        exact Or.inr (Or.inr (Or.inr (Or.inl ⟨h36_1, hc79, h138_3, rfl, rfl⟩)))
      · refine Go.aloadN C d9_142 rfl rfl rfl ?_
        refine Go.gf C (wd hw 34 rfl) 3 0 rfl rfl d9_143 rfl ?_
        refine Go.callPR C (y := yN13) (a := pA1) (as := []) (rest := []) (wd hw 159 rfl) (wd hw 160 rfl) (sel_priv (y := yN13) (wd hw 17 rfl) (wd hw 160 rfl) (wd hw 161 rfl) (by decide)) (wd hw 161 rfl) (wd hw 162 rfl) (wd hw 18 rfl) (fun _ r => r.exa 0 rfl) (u_SequenceQueue_Run_poll_73 l Z a0 hw _ pA1 pA2 pA3 eA1 eA2 eA0 kA1 kA2 kA0 kA4 kA5 kA6 hE_eA1 hE_eA2 hE_eA0) rfl d9_146 (q := 149) rfl (by decide) rfl (na := 0) (by decide +kernel) rfl (by decide) (W := 0) rfl (by decide) (by decide) (by decide) (k' := 0) (n' := 0) rfl rfl ?_
        rintro _ _ ⟨rfl, rfl⟩
        show Go _ _ _ _ _ _ _ _ _ _ [(.ref eA1)]
        refine Go.astoreN C d9_149 rfl rfl (Ls' := #[.val (.ref pA0), .val (.ref eA1), .unset]) rfl ?_
        refine Go.goto C d9_150 (by decide) (q := 161) rfl ?_
        refine Go.aloadN C d9_161 rfl rfl rfl ?_
        refine Go.iconst C d9_162 rfl (v := (0 : Int32)) rfl ?_
        refine Go.pf C (wd hw 59 rfl) Via.refl 3 2 rfl rfl (wd hw 60 rfl) (wd hw 8 rfl) (ty := .boolean) (by decide) rfl rfl d9_163 rfl (M' := (nR pA1 pA2 pA3 2 1 :: nK pA2 kA1 kA2 kA0 kA4 kA5 kA6 :: nE pA3 .null (.ref eA2) (.ref eA0) .null .null .null :: nQ pA0 pA1 pA4 0 kA0 (.ref eA0) :: nH pA4 pA5 pA6 1 :: nK pA5 kA7 kA8 kA9 kA10 kA11 kA12 :: nE pA6 (.ref eA3) .null .null .null .null .null :: F)) rfl ?_
        refine Go.aloadN C d9_166 rfl rfl rfl ?_
        refine Go.aconstNull C d9_167 rfl ?_
        refine Go.pf C (wd hw 63 rfl) Via.refl 3 4 rfl rfl (wd hw 64 rfl) (wd hw 8 rfl) (ty := (.object "java/lang/Object")) (by decide) rfl rfl d9_168 rfl (M' := (nR pA1 pA2 pA3 2 1 :: nK pA2 kA1 kA2 kA0 kA4 kA5 kA6 :: nE pA3 .null (.ref eA2) (.ref eA0) .null .null .null :: nQ pA0 pA1 pA4 0 kA0 .null :: nH pA4 pA5 pA6 1 :: nK pA5 kA7 kA8 kA9 kA10 kA11 kA12 :: nE pA6 (.ref eA3) .null .null .null .null .null :: F)) rfl ?_
        refine Go.aloadN C d9_171 rfl rfl rfl ?_
        refine Go.astoreN C d9_172 rfl rfl (Ls' := #[.val (.ref pA0), .val (.ref eA1), .val (.ref eA1)]) rfl ?_
        refine Go.aloadN C d9_173 rfl rfl rfl ?_
        refine Go.pick (M' := (nQ pA0 pA1 pA4 0 kA0 .null :: nR pA1 pA2 pA3 2 1 :: nK pA2 kA1 kA2 kA0 kA4 kA5 kA6 :: nE pA3 .null (.ref eA2) (.ref eA0) .null .null .null :: nH pA4 pA5 pA6 1 :: nK pA5 kA7 kA8 kA9 kA10 kA11 kA12 :: nE pA6 (.ref eA3) .null .null .null .null .null :: F)) 7 [3, 0, 1, 2, 4, 5, 6] (by decide) (by decide) rfl ?_
        refine Go.retA C rfl rfl rfl d9_174 (by decide) (by decide) ?_
        exact Or.inr (Or.inr (Or.inr (Or.inr (Or.inl ⟨h36_1, hc79, h138_3, rfl, rfl⟩))))
  · refine Go.aloadN C d9_40 rfl rfl rfl ?_
    refine Go.gf C (wd hw 45 rfl) 0 1 rfl rfl d9_41 rfl ?_
    refine Go.gv C (wd hw 106 rfl) (wd hw 107 rfl) 4 2 rfl rfl d9_44 rfl ?_
    refine Go.ifNo C d9_47 (q := 50) rfl (XT.i0_eq_f (by decide)) ?_
    refine Go.aloadN C d9_50 rfl rfl rfl ?_
    refine Go.gf C (wd hw 61 rfl) 0 3 rfl rfl d9_51 rfl ?_
    refine Go.aloadN C d9_54 rfl rfl rfl ?_
    refine Go.gf C (wd hw 45 rfl) 0 1 rfl rfl d9_55 rfl ?_
    refine Go.gv C (wd hw 134 rfl) (wd hw 128 rfl) 4 0 rfl rfl d9_58 rfl ?_
    refine Go.iconst C d9_61 rfl (v := (0 : Int32)) rfl ?_
    refine Go.laload C (fun _ r => r.arr 5 rfl) (by decide) (v := (.long kA7)) rfl d9_62 (q := 63) rfl ?_
    refine Go.lcmpif C d9_63 rfl d9_64 (by decide) (q := 75) rfl (q' := 67) rfl (fun (h63_4 : kA7 < kA0) => ?_) (fun (h63_4 : ¬ kA7 < kA0) => ?_)
    · refine Go.aloadN C d9_75 rfl rfl rfl ?_
      refine Go.gf C (wd hw 59 rfl) 0 2 rfl rfl d9_76 rfl ?_
      refine Go.ifNo C d9_79 (q := 82) rfl (XT.i0_eq_f (by decide)) ?_
      refine Go.aloadN C d9_82 rfl rfl rfl ?_
      refine Go.aloadN C d9_83 rfl rfl rfl ?_
      refine Go.gf C (wd hw 61 rfl) 0 3 rfl rfl d9_84 rfl ?_
      refine Go.aloadN C d9_87 rfl rfl rfl ?_
      refine Go.gf C (wd hw 63 rfl) 0 4 rfl rfl d9_88 rfl ?_
      refine Go.callP C (y := yN6) (a := pA0) (as := [(.long kA0), (.ref eA0)]) (rest := []) (wd hw 65 rfl) (wd hw 66 rfl) (sel_priv (y := yN6) (wd hw 8 rfl) (wd hw 66 rfl) (wd hw 67 rfl) (by decide)) (wd hw 67 rfl) (wd hw 68 rfl) (wd hw 9 rfl) (fun _ r => r.exa 0 rfl) (u_SequenceQueue_place_40 l Z a0 hw _ pA0 pA1 pA2 pA3 pA4 pA5 pA6 eA0 eA0 eA1 eA2 eA3 kA0 kA0 kA1 kA2 kA3 kA4 kA5 kA6 kA7 kA8 kA9 kA10 kA11 kA12 hE_eA0 hE_eA0 hE_eA1 hE_eA2 hE_eA3) rfl d9_91 (q := 94) rfl (by decide) rfl (na := 2) (by decide +kernel) rfl (by decide) (W := 0) rfl (by decide) (by decide) (by decide) (k' := 0) (n' := 0) rfl rfl ?_
      rintro _ _ (⟨hc80, hc81, rfl, rfl⟩ | ⟨hc82, hc83, rfl, rfl⟩ | ⟨hc84, rfl, rfl⟩)
      · exact absurd trivial (fun _ => (by simp only [Int64.lt_iff_toInt_lt] at h63_4 hc81; omega))
      · show Go _ _ _ _ _ _ _ _ _ _ []
        refine Go.aloadN C d9_94 rfl rfl rfl ?_
        refine Go.gf C (wd hw 45 rfl) 5 1 rfl rfl d9_95 rfl ?_
        refine Go.gv C (wd hw 106 rfl) (wd hw 107 rfl) 0 2 rfl rfl d9_98 rfl ?_
        refine Go.ifNo C d9_101 (q := 104) rfl (XT.i0_eq_f (by decide)) ?_
        refine Go.aloadN C d9_104 rfl rfl rfl ?_
        refine Go.gf C (wd hw 34 rfl) 5 0 rfl rfl d9_105 rfl ?_
        refine Go.gv C (wd hw 69 rfl) (wd hw 70 rfl) 3 2 rfl rfl d9_108 rfl ?_
        refine Go.ifNo C d9_111 (q := 114) rfl (XT.i0_le_f (by decide)) ?_
        refine Go.aloadN C d9_114 rfl rfl rfl ?_
        refine Go.gf C (wd hw 34 rfl) 5 0 rfl rfl d9_115 rfl ?_
        refine Go.gv C (wd hw 101 rfl) (wd hw 91 rfl) 3 0 rfl rfl d9_118 rfl ?_
        refine Go.aloadN C d9_121 rfl rfl rfl ?_
        refine Go.gf C (wd hw 34 rfl) 5 0 rfl rfl d9_122 rfl ?_
        refine Go.getR C (wd hw 102 rfl) (fun _ r => r.fld 3 3 rfl rfl) d9_125 (q := 128) rfl ?_
        refine Go.laload C (fun _ r => r.arr 4 rfl) (by decide) (v := (.long kA1)) rfl d9_128 (q := 129) rfl ?_
        refine Go.aloadN C d9_129 rfl rfl rfl ?_
        refine Go.gf C (wd hw 45 rfl) 5 1 rfl rfl d9_130 rfl ?_
        refine Go.gv C (wd hw 134 rfl) (wd hw 128 rfl) 0 0 rfl rfl d9_133 rfl ?_
        refine Go.iconst C d9_136 rfl (v := (0 : Int32)) rfl ?_
        refine Go.laload C (fun _ r => r.arr 1 rfl) (by decide) (v := (.long kA7)) rfl d9_137 (q := 138) rfl ?_
        refine Go.lcmp C d9_138 rfl ?_
        refine Go.ifYes C d9_139 (by decide) (q := 153) rfl (XT.ll_gt_t (by simp only [Int64.lt_iff_toInt_lt] at h63_4 h36_1 ⊢; omega)) ?_
        refine Go.aloadN C d9_153 rfl rfl rfl ?_
        refine Go.gf C (wd hw 45 rfl) 5 1 rfl rfl d9_154 rfl ?_
        refine Go.callPR C (y := yN11) (a := pA4) (as := []) (rest := []) (wd hw 140 rfl) (wd hw 141 rfl) (sel_priv (y := yN11) (wd hw 37 rfl) (wd hw 141 rfl) (wd hw 142 rfl) (by decide)) (wd hw 142 rfl) (wd hw 143 rfl) (wd hw 38 rfl) (fun _ r => r.exa 0 rfl) (u_SequenceQueue_Heap_poll_55 l Z a0 hw _ pA4 pA5 pA6 eA3 eA0 kA7 kA0 kA9 kA10 kA11 kA12 hE_eA3 hE_eA0) rfl d9_157 (q := 160) rfl (by decide) rfl (na := 0) (by decide +kernel) rfl (by decide) (W := 0) rfl (by decide) (by decide) (by decide) (k' := 0) (n' := 0) rfl rfl ?_
        rintro _ _ ⟨rfl, rfl⟩
        show Go _ _ _ _ _ _ _ _ _ _ [(.ref eA3)]
        refine Go.astoreN C d9_160 rfl rfl (Ls' := #[.val (.ref pA0), .val (.ref eA3), .unset]) rfl ?_
        refine Go.aloadN C d9_161 rfl rfl rfl ?_
        refine Go.iconst C d9_162 rfl (v := (0 : Int32)) rfl ?_
        refine Go.pf C (wd hw 59 rfl) Via.refl 5 2 rfl rfl (wd hw 60 rfl) (wd hw 8 rfl) (ty := .boolean) (by decide) rfl rfl d9_163 rfl (M' := (nH pA4 pA5 pA6 1 :: nK pA5 kA0 kA0 kA9 kA10 kA11 kA12 :: nE pA6 (.ref eA0) .null .null .null .null .null :: nR pA1 pA2 pA3 2 0 :: nK pA2 kA1 kA2 kA3 kA4 kA5 kA6 :: nQ pA0 pA1 pA4 0 kA0 (.ref eA0) :: nE pA3 (.ref eA1) (.ref eA2) .null .null .null .null :: F)) rfl ?_
        refine Go.aloadN C d9_166 rfl rfl rfl ?_
        refine Go.aconstNull C d9_167 rfl ?_
        refine Go.pf C (wd hw 63 rfl) Via.refl 5 4 rfl rfl (wd hw 64 rfl) (wd hw 8 rfl) (ty := (.object "java/lang/Object")) (by decide) rfl rfl d9_168 rfl (M' := (nH pA4 pA5 pA6 1 :: nK pA5 kA0 kA0 kA9 kA10 kA11 kA12 :: nE pA6 (.ref eA0) .null .null .null .null .null :: nR pA1 pA2 pA3 2 0 :: nK pA2 kA1 kA2 kA3 kA4 kA5 kA6 :: nQ pA0 pA1 pA4 0 kA0 .null :: nE pA3 (.ref eA1) (.ref eA2) .null .null .null .null :: F)) rfl ?_
        refine Go.aloadN C d9_171 rfl rfl rfl ?_
        refine Go.astoreN C d9_172 rfl rfl (Ls' := #[.val (.ref pA0), .val (.ref eA3), .val (.ref eA3)]) rfl ?_
        refine Go.aloadN C d9_173 rfl rfl rfl ?_
        refine Go.pick (M' := (nQ pA0 pA1 pA4 0 kA0 .null :: nR pA1 pA2 pA3 2 0 :: nK pA2 kA1 kA2 kA3 kA4 kA5 kA6 :: nE pA3 (.ref eA1) (.ref eA2) .null .null .null .null :: nH pA4 pA5 pA6 1 :: nK pA5 kA0 kA0 kA9 kA10 kA11 kA12 :: nE pA6 (.ref eA0) .null .null .null .null .null :: F)) 7 [5, 3, 4, 6, 0, 1, 2] (by decide) (by decide) rfl ?_
        refine Go.retA C rfl rfl rfl d9_174 (by decide) (by decide) ?_
        exact Or.inr (Or.inr (Or.inr (Or.inr (Or.inr (Or.inl ⟨h36_1, h63_4, hc82, hc83, rfl, rfl⟩)))))
      · show Go _ _ _ _ _ _ _ _ _ _ []
        refine Go.aloadN C d9_94 rfl rfl rfl ?_
        refine Go.gf C (wd hw 45 rfl) 3 1 rfl rfl d9_95 rfl ?_
        refine Go.gv C (wd hw 106 rfl) (wd hw 107 rfl) 4 2 rfl rfl d9_98 rfl ?_
        refine Go.ifNo C d9_101 (q := 104) rfl (XT.i0_eq_f (by decide)) ?_
        refine Go.aloadN C d9_104 rfl rfl rfl ?_
        refine Go.gf C (wd hw 34 rfl) 3 0 rfl rfl d9_105 rfl ?_
        refine Go.gv C (wd hw 69 rfl) (wd hw 70 rfl) 0 2 rfl rfl d9_108 rfl ?_
        refine Go.ifNo C d9_111 (q := 114) rfl (XT.i0_le_f (by decide)) ?_
        refine Go.aloadN C d9_114 rfl rfl rfl ?_
        refine Go.gf C (wd hw 34 rfl) 3 0 rfl rfl d9_115 rfl ?_
        refine Go.gv C (wd hw 101 rfl) (wd hw 91 rfl) 0 0 rfl rfl d9_118 rfl ?_
        refine Go.aloadN C d9_121 rfl rfl rfl ?_
        refine Go.gf C (wd hw 34 rfl) 3 0 rfl rfl d9_122 rfl ?_
        refine Go.getR C (wd hw 102 rfl) (fun _ r => r.fld 0 3 rfl rfl) d9_125 (q := 128) rfl ?_
        refine Go.laload C (fun _ r => r.arr 1 rfl) (by decide) (v := (.long kA1)) rfl d9_128 (q := 129) rfl ?_
        refine Go.aloadN C d9_129 rfl rfl rfl ?_
        refine Go.gf C (wd hw 45 rfl) 3 1 rfl rfl d9_130 rfl ?_
        refine Go.gv C (wd hw 134 rfl) (wd hw 128 rfl) 4 0 rfl rfl d9_133 rfl ?_
        refine Go.iconst C d9_136 rfl (v := (0 : Int32)) rfl ?_
        refine Go.laload C (fun _ r => r.arr 5 rfl) (by decide) (v := (.long kA7)) rfl d9_137 (q := 138) rfl ?_
        refine Go.lcmp C d9_138 rfl ?_
        refine Go.ifYes C d9_139 (by decide) (q := 153) rfl (XT.ll_gt_t (by simp only [Int64.lt_iff_toInt_lt] at h63_4 h36_1 ⊢; omega)) ?_
        refine Go.aloadN C d9_153 rfl rfl rfl ?_
        refine Go.gf C (wd hw 45 rfl) 3 1 rfl rfl d9_154 rfl ?_
        refine Go.pick (M' := (nH pA4 pA5 pA6 1 :: nK pA5 kA7 kA8 kA9 kA10 kA11 kA12 :: nE pA6 (.ref eA3) .null .null .null .null .null :: nR pA1 pA2 pA3 3 0 :: nK pA2 kA1 kA2 kA0 kA4 kA5 kA6 :: nE pA3 (.ref eA1) (.ref eA2) (.ref eA0) .null .null .null :: nQ pA0 pA1 pA4 1 kA0 (.ref eA0) :: F)) 7 [4, 5, 6, 0, 1, 2, 3] (by decide) (by decide) rfl ?_
        refine Go.callPR C (y := yN11) (a := pA4) (as := []) (rest := []) (wd hw 140 rfl) (wd hw 141 rfl) (sel_priv (y := yN11) (wd hw 37 rfl) (wd hw 141 rfl) (wd hw 142 rfl) (by decide)) (wd hw 142 rfl) (wd hw 143 rfl) (wd hw 38 rfl) (fun _ r => r.exa 0 rfl) (u_SequenceQueue_Heap_poll_52 l Z a0 hw _ pA4 pA5 pA6 eA3 kA7 kA8 kA9 kA10 kA11 kA12 hE_eA3) rfl d9_157 (q := 160) rfl (by decide) rfl (na := 0) (by decide +kernel) rfl (by decide) (W := 0) rfl (by decide) (by decide) (by decide) (k' := 0) (n' := 0) rfl rfl ?_
        rintro _ _ ⟨rfl, rfl⟩
        show Go _ _ _ _ _ _ _ _ _ _ [(.ref eA3)]
        refine Go.astoreN C d9_160 rfl rfl (Ls' := #[.val (.ref pA0), .val (.ref eA3), .unset]) rfl ?_
        refine Go.aloadN C d9_161 rfl rfl rfl ?_
        refine Go.iconst C d9_162 rfl (v := (0 : Int32)) rfl ?_
        refine Go.pf C (wd hw 59 rfl) Via.refl 6 2 rfl rfl (wd hw 60 rfl) (wd hw 8 rfl) (ty := .boolean) (by decide) rfl rfl d9_163 rfl (M' := (nH pA4 pA5 pA6 0 :: nK pA5 kA7 kA8 kA9 kA10 kA11 kA12 :: nE pA6 .null .null .null .null .null .null :: nR pA1 pA2 pA3 3 0 :: nK pA2 kA1 kA2 kA0 kA4 kA5 kA6 :: nE pA3 (.ref eA1) (.ref eA2) (.ref eA0) .null .null .null :: nQ pA0 pA1 pA4 0 kA0 (.ref eA0) :: F)) rfl ?_
        refine Go.aloadN C d9_166 rfl rfl rfl ?_
        refine Go.aconstNull C d9_167 rfl ?_
        refine Go.pf C (wd hw 63 rfl) Via.refl 6 4 rfl rfl (wd hw 64 rfl) (wd hw 8 rfl) (ty := (.object "java/lang/Object")) (by decide) rfl rfl d9_168 rfl (M' := (nH pA4 pA5 pA6 0 :: nK pA5 kA7 kA8 kA9 kA10 kA11 kA12 :: nE pA6 .null .null .null .null .null .null :: nR pA1 pA2 pA3 3 0 :: nK pA2 kA1 kA2 kA0 kA4 kA5 kA6 :: nE pA3 (.ref eA1) (.ref eA2) (.ref eA0) .null .null .null :: nQ pA0 pA1 pA4 0 kA0 .null :: F)) rfl ?_
        refine Go.aloadN C d9_171 rfl rfl rfl ?_
        refine Go.astoreN C d9_172 rfl rfl (Ls' := #[.val (.ref pA0), .val (.ref eA3), .val (.ref eA3)]) rfl ?_
        refine Go.aloadN C d9_173 rfl rfl rfl ?_
        refine Go.pick (M' := (nQ pA0 pA1 pA4 0 kA0 .null :: nR pA1 pA2 pA3 3 0 :: nK pA2 kA1 kA2 kA0 kA4 kA5 kA6 :: nE pA3 (.ref eA1) (.ref eA2) (.ref eA0) .null .null .null :: nH pA4 pA5 pA6 0 :: nK pA5 kA7 kA8 kA9 kA10 kA11 kA12 :: nE pA6 .null .null .null .null .null .null :: F)) 7 [6, 3, 4, 5, 0, 1, 2] (by decide) (by decide) rfl ?_
        refine Go.retA C rfl rfl rfl d9_174 (by decide) (by decide) ?_
        exact Or.inr (Or.inr (Or.inr (Or.inr (Or.inr (Or.inr (Or.inl ⟨h36_1, h63_4, hc84, rfl, rfl⟩))))))
    · refine Go.aloadN C d9_67 rfl rfl rfl ?_
      refine Go.gf C (wd hw 63 rfl) 0 4 rfl rfl d9_68 rfl ?_
      refine Go.astoreN C d9_71 rfl rfl (Ls' := #[.val (.ref pA0), .val (.ref eA0), .unset]) rfl ?_
      refine Go.goto C d9_72 (by decide) (q := 161) rfl ?_
      refine Go.aloadN C d9_161 rfl rfl rfl ?_
      refine Go.iconst C d9_162 rfl (v := (0 : Int32)) rfl ?_
      refine Go.pf C (wd hw 59 rfl) Via.refl 0 2 rfl rfl (wd hw 60 rfl) (wd hw 8 rfl) (ty := .boolean) (by decide) rfl rfl d9_163 rfl (M' := (nQ pA0 pA1 pA4 0 kA0 (.ref eA0) :: nR pA1 pA2 pA3 2 0 :: nK pA2 kA1 kA2 kA3 kA4 kA5 kA6 :: nE pA3 (.ref eA1) (.ref eA2) .null .null .null .null :: nH pA4 pA5 pA6 1 :: nK pA5 kA7 kA8 kA9 kA10 kA11 kA12 :: nE pA6 (.ref eA3) .null .null .null .null .null :: F)) rfl ?_
      refine Go.aloadN C d9_166 rfl rfl rfl ?_
      refine Go.aconstNull C d9_167 rfl ?_
      refine Go.pf C (wd hw 63 rfl) Via.refl 0 4 rfl rfl (wd hw 64 rfl) (wd hw 8 rfl) (ty := (.object "java/lang/Object")) (by decide) rfl rfl d9_168 rfl (M' := (nQ pA0 pA1 pA4 0 kA0 .null :: nR pA1 pA2 pA3 2 0 :: nK pA2 kA1 kA2 kA3 kA4 kA5 kA6 :: nE pA3 (.ref eA1) (.ref eA2) .null .null .null .null :: nH pA4 pA5 pA6 1 :: nK pA5 kA7 kA8 kA9 kA10 kA11 kA12 :: nE pA6 (.ref eA3) .null .null .null .null .null :: F)) rfl ?_
      refine Go.aloadN C d9_171 rfl rfl rfl ?_
      refine Go.astoreN C d9_172 rfl rfl (Ls' := #[.val (.ref pA0), .val (.ref eA0), .val (.ref eA0)]) rfl ?_
      refine Go.aloadN C d9_173 rfl rfl rfl ?_
      refine Go.retA C rfl rfl rfl d9_174 (by decide) (by decide) ?_
      exact Or.inr (Or.inr (Or.inr (Or.inr (Or.inr (Or.inr (Or.inr (⟨h36_1, h63_4, rfl, rfl⟩)))))))
theorem u_SequenceQueue_poll_132 (l : Launch) (Z : State) (a0 : Array Value) (hw : HW Z a0) (F : List Ent) (pA0 pA1 pA2 pA3 pA4 pA5 pA6 eA0 eA1 eA2 eA3 : Addr) (kA0 kA1 kA2 kA3 kA4 kA5 kA6 kA7 kA8 kA9 kA10 kA11 kA12 : Int64) (hE_eA0 : XI Z eA0) (hE_eA1 : XI Z eA1) (hE_eA2 : XI Z eA2) (hE_eA3 : XI Z eA3) (hK0 : ¬ kA2 < kA1) (hK1 : ¬ kA3 < kA2) :
    Met l Z yN15 prog_20_method_3_code 3 (some (.object "java/lang/Object")) { frames := 3, cells := 0, slots := 0, locals := 45 } #[(.ref pA0)] (nQ pA0 pA1 pA4 1 kA0 (.ref eA0) :: nR pA1 pA2 pA3 3 0 :: nK pA2 kA1 kA2 kA3 kA4 kA5 kA6 :: nE pA3 (.ref eA1) (.ref eA2) (.ref eA3) .null .null .null :: nH pA4 pA5 pA6 0 :: nK pA5 kA7 kA8 kA9 kA10 kA11 kA12 :: nE pA6 .null .null .null .null .null .null :: F) (fun r M' => ((kA1 < kA0) ∧ (kA0 < kA3) ∧ r = (some (.ref eA1)) ∧ M' = (nQ pA0 pA1 pA4 0 kA0 .null :: nR pA1 pA2 pA3 2 1 :: nK pA2 kA1 kA2 kA3 kA4 kA5 kA6 :: nE pA3 .null (.ref eA2) (.ref eA3) .null .null .null :: nH pA4 pA5 pA6 1 :: nK pA5 kA0 kA8 kA9 kA10 kA11 kA12 :: nE pA6 (.ref eA0) .null .null .null .null .null :: F)) ∨ ((kA1 < kA0) ∧ (¬ kA0 < kA3) ∧ r = (some (.ref eA1)) ∧ M' = (nQ pA0 pA1 pA4 0 kA0 .null :: nR pA1 pA2 pA3 3 1 :: nK pA2 kA1 kA2 kA3 kA0 kA5 kA6 :: nE pA3 .null (.ref eA2) (.ref eA3) (.ref eA0) .null .null :: nH pA4 pA5 pA6 0 :: nK pA5 kA7 kA8 kA9 kA10 kA11 kA12 :: nE pA6 .null .null .null .null .null .null :: F)) ∨ ((¬ kA1 < kA0) ∧ r = (some (.ref eA0)) ∧ M' = (nQ pA0 pA1 pA4 0 kA0 .null :: nR pA1 pA2 pA3 3 0 :: nK pA2 kA1 kA2 kA3 kA4 kA5 kA6 :: nE pA3 (.ref eA1) (.ref eA2) (.ref eA3) .null .null .null :: nH pA4 pA5 pA6 0 :: nK pA5 kA7 kA8 kA9 kA10 kA11 kA12 :: nE pA6 .null .null .null .null .null .null :: F))) := by
  refine Met.of_go pn_11 (Ls := #[.val (.ref pA0), .unset, .unset]) (fun m => rfl) ?_
  intro E C
  refine Go.aloadN C d9_0 rfl rfl rfl ?_
  refine Go.gf C (wd hw 59 rfl) 0 2 rfl rfl d9_1 rfl ?_
  refine Go.ifNo C d9_4 (q := 7) rfl (XT.i0_eq_f (by decide)) ?_
  refine Go.aloadN C d9_7 rfl rfl rfl ?_
  refine Go.gf C (wd hw 34 rfl) 0 0 rfl rfl d9_8 rfl ?_
  refine Go.gv C (wd hw 69 rfl) (wd hw 70 rfl) 1 2 rfl rfl d9_11 rfl ?_
  refine Go.ifNo C d9_14 (q := 17) rfl (XT.i0_eq_f (by decide)) ?_
  refine Go.aloadN C d9_17 rfl rfl rfl ?_
  refine Go.gf C (wd hw 61 rfl) 0 3 rfl rfl d9_18 rfl ?_
  refine Go.aloadN C d9_21 rfl rfl rfl ?_
  refine Go.gf C (wd hw 34 rfl) 0 0 rfl rfl d9_22 rfl ?_
  refine Go.gv C (wd hw 101 rfl) (wd hw 91 rfl) 1 0 rfl rfl d9_25 rfl ?_
  refine Go.aloadN C d9_28 rfl rfl rfl ?_
  refine Go.gf C (wd hw 34 rfl) 0 0 rfl rfl d9_29 rfl ?_
  refine Go.getR C (wd hw 102 rfl) (fun _ r => r.fld 1 3 rfl rfl) d9_32 (q := 35) rfl ?_
  refine Go.laload C (fun _ r => r.arr 2 rfl) (by decide) (v := (.long kA1)) rfl d9_35 (q := 36) rfl ?_
  refine Go.lcmpif C d9_36 rfl d9_37 (by decide) (q := 75) rfl (q' := 40) rfl (fun (h36_1 : kA1 < kA0) => ?_) (fun (h36_1 : ¬ kA1 < kA0) => ?_)
  · refine Go.aloadN C d9_75 rfl rfl rfl ?_
    refine Go.gf C (wd hw 59 rfl) 0 2 rfl rfl d9_76 rfl ?_
    refine Go.ifNo C d9_79 (q := 82) rfl (XT.i0_eq_f (by decide)) ?_
    refine Go.aloadN C d9_82 rfl rfl rfl ?_
    refine Go.aloadN C d9_83 rfl rfl rfl ?_
    refine Go.gf C (wd hw 61 rfl) 0 3 rfl rfl d9_84 rfl ?_
    refine Go.aloadN C d9_87 rfl rfl rfl ?_
    refine Go.gf C (wd hw 63 rfl) 0 4 rfl rfl d9_88 rfl ?_
    refine Go.callP C (y := yN6) (a := pA0) (as := [(.long kA0), (.ref eA0)]) (rest := []) (wd hw 65 rfl) (wd hw 66 rfl) (sel_priv (y := yN6) (wd hw 8 rfl) (wd hw 66 rfl) (wd hw 67 rfl) (by decide)) (wd hw 67 rfl) (wd hw 68 rfl) (wd hw 9 rfl) (fun _ r => r.exa 0 rfl) (u_SequenceQueue_place_49 l Z a0 hw _ pA0 pA1 pA2 pA3 pA4 pA5 pA6 eA0 eA0 eA1 eA2 eA3 kA0 kA0 kA1 kA2 kA3 kA4 kA5 kA6 kA7 kA8 kA9 kA10 kA11 kA12 hE_eA0 hE_eA0 hE_eA1 hE_eA2 hE_eA3) rfl d9_91 (q := 94) rfl (by decide) rfl (na := 2) (by decide +kernel) rfl (by decide) (W := 0) rfl (by decide) (by decide) (by decide) (k' := 0) (n' := 0) rfl rfl ?_
    rintro _ _ (⟨hc101, rfl, rfl⟩ | ⟨hc102, rfl, rfl⟩)
    · show Go _ _ _ _ _ _ _ _ _ _ []
      refine Go.aloadN C d9_94 rfl rfl rfl ?_
      refine Go.gf C (wd hw 45 rfl) 5 1 rfl rfl d9_95 rfl ?_
      refine Go.gv C (wd hw 106 rfl) (wd hw 107 rfl) 0 2 rfl rfl d9_98 rfl ?_
      refine Go.ifNo C d9_101 (q := 104) rfl (XT.i0_eq_f (by decide)) ?_
      refine Go.aloadN C d9_104 rfl rfl rfl ?_
      refine Go.gf C (wd hw 34 rfl) 5 0 rfl rfl d9_105 rfl ?_
      refine Go.gv C (wd hw 69 rfl) (wd hw 70 rfl) 3 2 rfl rfl d9_108 rfl ?_
      refine Go.ifNo C d9_111 (q := 114) rfl (XT.i0_le_f (by decide)) ?_
      refine Go.aloadN C d9_114 rfl rfl rfl ?_
      refine Go.gf C (wd hw 34 rfl) 5 0 rfl rfl d9_115 rfl ?_
      refine Go.gv C (wd hw 101 rfl) (wd hw 91 rfl) 3 0 rfl rfl d9_118 rfl ?_
      refine Go.aloadN C d9_121 rfl rfl rfl ?_
      refine Go.gf C (wd hw 34 rfl) 5 0 rfl rfl d9_122 rfl ?_
      refine Go.getR C (wd hw 102 rfl) (fun _ r => r.fld 3 3 rfl rfl) d9_125 (q := 128) rfl ?_
      refine Go.laload C (fun _ r => r.arr 4 rfl) (by decide) (v := (.long kA1)) rfl d9_128 (q := 129) rfl ?_
      refine Go.aloadN C d9_129 rfl rfl rfl ?_
      refine Go.gf C (wd hw 45 rfl) 5 1 rfl rfl d9_130 rfl ?_
      refine Go.gv C (wd hw 134 rfl) (wd hw 128 rfl) 0 0 rfl rfl d9_133 rfl ?_
      refine Go.iconst C d9_136 rfl (v := (0 : Int32)) rfl ?_
      refine Go.laload C (fun _ r => r.arr 1 rfl) (by decide) (v := (.long kA0)) rfl d9_137 (q := 138) rfl ?_
      refine Go.lcmp C d9_138 rfl ?_
      refine Go.ifNo C d9_139 (q := 142) rfl (XT.ll_gt_f (by simp only [Int64.lt_iff_toInt_lt] at h36_1 ⊢; omega)) ?_
      refine Go.aloadN C d9_142 rfl rfl rfl ?_
      refine Go.gf C (wd hw 34 rfl) 5 0 rfl rfl d9_143 rfl ?_
      refine Go.pick (M' := (nR pA1 pA2 pA3 3 0 :: nK pA2 kA1 kA2 kA3 kA4 kA5 kA6 :: nE pA3 (.ref eA1) (.ref eA2) (.ref eA3) .null .null .null :: nH pA4 pA5 pA6 1 :: nK pA5 kA0 kA8 kA9 kA10 kA11 kA12 :: nE pA6 (.ref eA0) .null .null .null .null .null :: nQ pA0 pA1 pA4 1 kA0 (.ref eA0) :: F)) 7 [3, 4, 6, 0, 1, 2, 5] (by decide) (by decide) rfl ?_
      refine Go.callPR C (y := yN13) (a := pA1) (as := []) (rest := []) (wd hw 159 rfl) (wd hw 160 rfl) (sel_priv (y := yN13) (wd hw 17 rfl) (wd hw 160 rfl) (wd hw 161 rfl) (by decide)) (wd hw 161 rfl) (wd hw 162 rfl) (wd hw 18 rfl) (fun _ r => r.exa 0 rfl) (u_SequenceQueue_Run_poll_73 l Z a0 hw _ pA1 pA2 pA3 eA1 eA2 eA3 kA1 kA2 kA3 kA4 kA5 kA6 hE_eA1 hE_eA2 hE_eA3) rfl d9_146 (q := 149) rfl (by decide) rfl (na := 0) (by decide +kernel) rfl (by decide) (W := 0) rfl (by decide) (by decide) (by decide) (k' := 0) (n' := 0) rfl rfl ?_
      rintro _ _ ⟨rfl, rfl⟩
      show Go _ _ _ _ _ _ _ _ _ _ [(.ref eA1)]
      refine Go.astoreN C d9_149 rfl rfl (Ls' := #[.val (.ref pA0), .val (.ref eA1), .unset]) rfl ?_
      refine Go.goto C d9_150 (by decide) (q := 161) rfl ?_
      refine Go.aloadN C d9_161 rfl rfl rfl ?_
      refine Go.iconst C d9_162 rfl (v := (0 : Int32)) rfl ?_
      refine Go.pf C (wd hw 59 rfl) Via.refl 6 2 rfl rfl (wd hw 60 rfl) (wd hw 8 rfl) (ty := .boolean) (by decide) rfl rfl d9_163 rfl (M' := (nR pA1 pA2 pA3 2 1 :: nK pA2 kA1 kA2 kA3 kA4 kA5 kA6 :: nE pA3 .null (.ref eA2) (.ref eA3) .null .null .null :: nH pA4 pA5 pA6 1 :: nK pA5 kA0 kA8 kA9 kA10 kA11 kA12 :: nE pA6 (.ref eA0) .null .null .null .null .null :: nQ pA0 pA1 pA4 0 kA0 (.ref eA0) :: F)) rfl ?_
      refine Go.aloadN C d9_166 rfl rfl rfl ?_
      refine Go.aconstNull C d9_167 rfl ?_
      refine Go.pf C (wd hw 63 rfl) Via.refl 6 4 rfl rfl (wd hw 64 rfl) (wd hw 8 rfl) (ty := (.object "java/lang/Object")) (by decide) rfl rfl d9_168 rfl (M' := (nR pA1 pA2 pA3 2 1 :: nK pA2 kA1 kA2 kA3 kA4 kA5 kA6 :: nE pA3 .null (.ref eA2) (.ref eA3) .null .null .null :: nH pA4 pA5 pA6 1 :: nK pA5 kA0 kA8 kA9 kA10 kA11 kA12 :: nE pA6 (.ref eA0) .null .null .null .null .null :: nQ pA0 pA1 pA4 0 kA0 .null :: F)) rfl ?_
      refine Go.aloadN C d9_171 rfl rfl rfl ?_
      refine Go.astoreN C d9_172 rfl rfl (Ls' := #[.val (.ref pA0), .val (.ref eA1), .val (.ref eA1)]) rfl ?_
      refine Go.aloadN C d9_173 rfl rfl rfl ?_
      refine Go.pick (M' := (nQ pA0 pA1 pA4 0 kA0 .null :: nR pA1 pA2 pA3 2 1 :: nK pA2 kA1 kA2 kA3 kA4 kA5 kA6 :: nE pA3 .null (.ref eA2) (.ref eA3) .null .null .null :: nH pA4 pA5 pA6 1 :: nK pA5 kA0 kA8 kA9 kA10 kA11 kA12 :: nE pA6 (.ref eA0) .null .null .null .null .null :: F)) 7 [6, 0, 1, 2, 3, 4, 5] (by decide) (by decide) rfl ?_
      refine Go.retA C rfl rfl rfl d9_174 (by decide) (by decide) ?_
      exact Or.inl ⟨h36_1, hc101, rfl, rfl⟩
    · show Go _ _ _ _ _ _ _ _ _ _ []
      refine Go.aloadN C d9_94 rfl rfl rfl ?_
      refine Go.gf C (wd hw 45 rfl) 3 1 rfl rfl d9_95 rfl ?_
      refine Go.gv C (wd hw 106 rfl) (wd hw 107 rfl) 4 2 rfl rfl d9_98 rfl ?_
      refine Go.ifYes C d9_101 (by decide) (q := 142) rfl (XT.i0_eq_t (by decide)) ?_
      refine Go.aloadN C d9_142 rfl rfl rfl ?_
      refine Go.gf C (wd hw 34 rfl) 3 0 rfl rfl d9_143 rfl ?_
      refine Go.callPR C (y := yN13) (a := pA1) (as := []) (rest := []) (wd hw 159 rfl) (wd hw 160 rfl) (sel_priv (y := yN13) (wd hw 17 rfl) (wd hw 160 rfl) (wd hw 161 rfl) (by decide)) (wd hw 161 rfl) (wd hw 162 rfl) (wd hw 18 rfl) (fun _ r => r.exa 0 rfl) (u_SequenceQueue_Run_poll_79 l Z a0 hw _ pA1 pA2 pA3 eA1 eA2 eA3 eA0 kA1 kA2 kA3 kA0 kA5 kA6 hE_eA1 hE_eA2 hE_eA3 hE_eA0) rfl d9_146 (q := 149) rfl (by decide) rfl (na := 0) (by decide +kernel) rfl (by decide) (W := 0) rfl (by decide) (by decide) (by decide) (k' := 0) (n' := 0) rfl rfl ?_
      rintro _ _ ⟨rfl, rfl⟩
      show Go _ _ _ _ _ _ _ _ _ _ [(.ref eA1)]
      refine Go.astoreN C d9_149 rfl rfl (Ls' := #[.val (.ref pA0), .val (.ref eA1), .unset]) rfl ?_
      refine Go.goto C d9_150 (by decide) (q := 161) rfl ?_
      refine Go.aloadN C d9_161 rfl rfl rfl ?_
      refine Go.iconst C d9_162 rfl (v := (0 : Int32)) rfl ?_
      refine Go.pf C (wd hw 59 rfl) Via.refl 3 2 rfl rfl (wd hw 60 rfl) (wd hw 8 rfl) (ty := .boolean) (by decide) rfl rfl d9_163 rfl (M' := (nR pA1 pA2 pA3 3 1 :: nK pA2 kA1 kA2 kA3 kA0 kA5 kA6 :: nE pA3 .null (.ref eA2) (.ref eA3) (.ref eA0) .null .null :: nQ pA0 pA1 pA4 0 kA0 (.ref eA0) :: nH pA4 pA5 pA6 0 :: nK pA5 kA7 kA8 kA9 kA10 kA11 kA12 :: nE pA6 .null .null .null .null .null .null :: F)) rfl ?_
      refine Go.aloadN C d9_166 rfl rfl rfl ?_
      refine Go.aconstNull C d9_167 rfl ?_
      refine Go.pf C (wd hw 63 rfl) Via.refl 3 4 rfl rfl (wd hw 64 rfl) (wd hw 8 rfl) (ty := (.object "java/lang/Object")) (by decide) rfl rfl d9_168 rfl (M' := (nR pA1 pA2 pA3 3 1 :: nK pA2 kA1 kA2 kA3 kA0 kA5 kA6 :: nE pA3 .null (.ref eA2) (.ref eA3) (.ref eA0) .null .null :: nQ pA0 pA1 pA4 0 kA0 .null :: nH pA4 pA5 pA6 0 :: nK pA5 kA7 kA8 kA9 kA10 kA11 kA12 :: nE pA6 .null .null .null .null .null .null :: F)) rfl ?_
      refine Go.aloadN C d9_171 rfl rfl rfl ?_
      refine Go.astoreN C d9_172 rfl rfl (Ls' := #[.val (.ref pA0), .val (.ref eA1), .val (.ref eA1)]) rfl ?_
      refine Go.aloadN C d9_173 rfl rfl rfl ?_
      refine Go.pick (M' := (nQ pA0 pA1 pA4 0 kA0 .null :: nR pA1 pA2 pA3 3 1 :: nK pA2 kA1 kA2 kA3 kA0 kA5 kA6 :: nE pA3 .null (.ref eA2) (.ref eA3) (.ref eA0) .null .null :: nH pA4 pA5 pA6 0 :: nK pA5 kA7 kA8 kA9 kA10 kA11 kA12 :: nE pA6 .null .null .null .null .null .null :: F)) 7 [3, 0, 1, 2, 4, 5, 6] (by decide) (by decide) rfl ?_
      refine Go.retA C rfl rfl rfl d9_174 (by decide) (by decide) ?_
      exact Or.inr (Or.inl ⟨h36_1, hc102, rfl, rfl⟩)
  · refine Go.aloadN C d9_40 rfl rfl rfl ?_
    refine Go.gf C (wd hw 45 rfl) 0 1 rfl rfl d9_41 rfl ?_
    refine Go.gv C (wd hw 106 rfl) (wd hw 107 rfl) 4 2 rfl rfl d9_44 rfl ?_
    refine Go.ifYes C d9_47 (by decide) (q := 67) rfl (XT.i0_eq_t (by decide)) ?_
    refine Go.aloadN C d9_67 rfl rfl rfl ?_
    refine Go.gf C (wd hw 63 rfl) 0 4 rfl rfl d9_68 rfl ?_
    refine Go.astoreN C d9_71 rfl rfl (Ls' := #[.val (.ref pA0), .val (.ref eA0), .unset]) rfl ?_
    refine Go.goto C d9_72 (by decide) (q := 161) rfl ?_
    refine Go.aloadN C d9_161 rfl rfl rfl ?_
    refine Go.iconst C d9_162 rfl (v := (0 : Int32)) rfl ?_
    refine Go.pf C (wd hw 59 rfl) Via.refl 0 2 rfl rfl (wd hw 60 rfl) (wd hw 8 rfl) (ty := .boolean) (by decide) rfl rfl d9_163 rfl (M' := (nQ pA0 pA1 pA4 0 kA0 (.ref eA0) :: nR pA1 pA2 pA3 3 0 :: nK pA2 kA1 kA2 kA3 kA4 kA5 kA6 :: nE pA3 (.ref eA1) (.ref eA2) (.ref eA3) .null .null .null :: nH pA4 pA5 pA6 0 :: nK pA5 kA7 kA8 kA9 kA10 kA11 kA12 :: nE pA6 .null .null .null .null .null .null :: F)) rfl ?_
    refine Go.aloadN C d9_166 rfl rfl rfl ?_
    refine Go.aconstNull C d9_167 rfl ?_
    refine Go.pf C (wd hw 63 rfl) Via.refl 0 4 rfl rfl (wd hw 64 rfl) (wd hw 8 rfl) (ty := (.object "java/lang/Object")) (by decide) rfl rfl d9_168 rfl (M' := (nQ pA0 pA1 pA4 0 kA0 .null :: nR pA1 pA2 pA3 3 0 :: nK pA2 kA1 kA2 kA3 kA4 kA5 kA6 :: nE pA3 (.ref eA1) (.ref eA2) (.ref eA3) .null .null .null :: nH pA4 pA5 pA6 0 :: nK pA5 kA7 kA8 kA9 kA10 kA11 kA12 :: nE pA6 .null .null .null .null .null .null :: F)) rfl ?_
    refine Go.aloadN C d9_171 rfl rfl rfl ?_
    refine Go.astoreN C d9_172 rfl rfl (Ls' := #[.val (.ref pA0), .val (.ref eA0), .val (.ref eA0)]) rfl ?_
    refine Go.aloadN C d9_173 rfl rfl rfl ?_
    refine Go.retA C rfl rfl rfl d9_174 (by decide) (by decide) ?_
    exact Or.inr (Or.inr (⟨h36_1, rfl, rfl⟩))
theorem own_pollA (l : Launch) (Z : State) (a0 : Array Value) (hw : ∀ d ∈ tables_1, d.before a0 Z = true) (F : List Ent) (K : Nat → Int64) (e : Nat → Addr) (hE : ∀ i, Exa Z Z.heap (e i) "java/lang/Integer") (q : Addr) {t : Nat} {L : List Nat} {M : List Ent} (i : Nat) (ht0 : t ∈ [1, 2, 3, 4]) (hne : L ≠ []) (hQ : QS K e q t L M) :
    Met l Z yN15 prog_20_method_3_code 3 (some (.object "java/lang/Object")) { frames := 3, cells := 0, slots := 0, locals := 45 } #[(.ref q)] (M ++ F) (fun r M' => ∃ i L2 M2, r = some (.ref (e i)) ∧ QS K e q 5 L2 M2 ∧ M' = M2 ++ F ∧ (i :: L2).Perm L ∧ own_kmin K L = K i) := by
  obtain ⟨-, L0, n, hp, h⟩ := hQ
  match n, h with
  | 0, h =>
    obtain ⟨pr, pk, pe, ph, pj, pf, z, x0, x1, x2, x3, x4, x5, y0, y1, y2, y3, y4, y5, ht, rfl, rfl⟩ := h
    exact absurd ht0 (by simp at ht ⊢; omega)
  | 1, h =>
    obtain ⟨pr, pk, pe, ph, pj, pf, z, x0, x1, x2, x3, x4, x5, y0, y1, y2, y3, y4, y5, ht, rfl, rfl⟩ := h
    exact absurd ht0 (by simp at ht ⊢; omega)
  | 2, h =>
    obtain ⟨pr, pk, pe, ph, pj, pf, j0, z, x0, x1, x2, x3, x4, x5, y1, y2, y3, y4, y5, ht, rfl, rfl⟩ := h
    exact absurd ht0 (by simp at ht ⊢; omega)
  | 3, h =>
    obtain ⟨pr, pk, pe, ph, pj, pf, j0, j1, z, x0, x1, x2, x3, x4, x5, y2, y3, y4, y5, ht, hv0, rfl, rfl⟩ := h
    exact absurd ht0 (by simp at ht ⊢; omega)
  | 4, h =>
    obtain ⟨pr, pk, pe, ph, pj, pf, j0, j1, j2, z, x0, x1, x2, x3, x4, x5, y3, y4, y5, ht, hv0, hv1, rfl, rfl⟩ := h
    exact absurd ht0 (by simp at ht ⊢; omega)
  | 5, h =>
    obtain ⟨pr, pk, pe, ph, pj, pf, z, x0, x1, x2, x3, x4, x5, y0, y1, y2, y3, y4, y5, ht, rfl, rfl⟩ := h
    exact absurd ht0 (by simp at ht ⊢; omega)
  | 6, h =>
    obtain ⟨pr, pk, pe, ph, pj, pf, j0, z, x0, x1, x2, x3, x4, x5, y1, y2, y3, y4, y5, ht, rfl, rfl⟩ := h
    exact absurd ht0 (by simp at ht ⊢; omega)
  | 7, h =>
    obtain ⟨pr, pk, pe, ph, pj, pf, j0, j1, z, x0, x1, x2, x3, x4, x5, y2, y3, y4, y5, ht, hv0, rfl, rfl⟩ := h
    exact absurd ht0 (by simp at ht ⊢; omega)
  | 8, h =>
    obtain ⟨pr, pk, pe, ph, pj, pf, i0, z, x1, x2, x3, x4, x5, y0, y1, y2, y3, y4, y5, ht, rfl, rfl⟩ := h
    exact absurd ht0 (by simp at ht ⊢; omega)
  | 9, h =>
    obtain ⟨pr, pk, pe, ph, pj, pf, i0, j0, z, x1, x2, x3, x4, x5, y1, y2, y3, y4, y5, ht, rfl, rfl⟩ := h
    exact absurd ht0 (by simp at ht ⊢; omega)
  | 10, h =>
    obtain ⟨pr, pk, pe, ph, pj, pf, i0, j0, j1, z, x1, x2, x3, x4, x5, y2, y3, y4, y5, ht, hv0, rfl, rfl⟩ := h
    exact absurd ht0 (by simp at ht ⊢; omega)
  | 11, h =>
    obtain ⟨pr, pk, pe, ph, pj, pf, i0, z, x0, x2, x3, x4, x5, y0, y1, y2, y3, y4, y5, ht, rfl, rfl⟩ := h
    exact absurd ht0 (by simp at ht ⊢; omega)
  | 12, h =>
    obtain ⟨pr, pk, pe, ph, pj, pf, i0, j0, z, x0, x2, x3, x4, x5, y1, y2, y3, y4, y5, ht, rfl, rfl⟩ := h
    exact absurd ht0 (by simp at ht ⊢; omega)
  | 13, h =>
    obtain ⟨pr, pk, pe, ph, pj, pf, i0, j0, j1, z, x0, x2, x3, x4, x5, y2, y3, y4, y5, ht, hv0, rfl, rfl⟩ := h
    exact absurd ht0 (by simp at ht ⊢; omega)
  | 14, h =>
    obtain ⟨pr, pk, pe, ph, pj, pf, i0, z, x0, x1, x3, x4, x5, y0, y1, y2, y3, y4, y5, ht, rfl, rfl⟩ := h
    exact absurd ht0 (by simp at ht ⊢; omega)
  | 15, h =>
    obtain ⟨pr, pk, pe, ph, pj, pf, i0, j0, z, x0, x1, x3, x4, x5, y1, y2, y3, y4, y5, ht, rfl, rfl⟩ := h
    exact absurd ht0 (by simp at ht ⊢; omega)
  | 16, h =>
    obtain ⟨pr, pk, pe, ph, pj, pf, i0, i1, z, x2, x3, x4, x5, y0, y1, y2, y3, y4, y5, ht, hv0, rfl, rfl⟩ := h
    exact absurd ht0 (by simp at ht ⊢; omega)
  | 17, h =>
    obtain ⟨pr, pk, pe, ph, pj, pf, i0, i1, j0, z, x2, x3, x4, x5, y1, y2, y3, y4, y5, ht, hv0, rfl, rfl⟩ := h
    exact absurd ht0 (by simp at ht ⊢; omega)
  | 18, h =>
    obtain ⟨pr, pk, pe, ph, pj, pf, i0, i1, z, x0, x3, x4, x5, y0, y1, y2, y3, y4, y5, ht, hv0, rfl, rfl⟩ := h
    exact absurd ht0 (by simp at ht ⊢; omega)
  | 19, h =>
    obtain ⟨pr, pk, pe, ph, pj, pf, i0, i1, j0, z, x0, x3, x4, x5, y1, y2, y3, y4, y5, ht, hv0, rfl, rfl⟩ := h
    exact absurd ht0 (by simp at ht ⊢; omega)
  | 20, h =>
    obtain ⟨pr, pk, pe, ph, pj, pf, i0, i1, z, x0, x1, x4, x5, y0, y1, y2, y3, y4, y5, ht, hv0, rfl, rfl⟩ := h
    exact absurd ht0 (by simp at ht ⊢; omega)
  | 21, h =>
    obtain ⟨pr, pk, pe, ph, pj, pf, i0, i1, i2, z, x3, x4, x5, y0, y1, y2, y3, y4, y5, ht, hv0, hv1, rfl, rfl⟩ := h
    exact absurd ht0 (by simp at ht ⊢; omega)
  | 22, h =>
    obtain ⟨pr, pk, pe, ph, pj, pf, i0, i1, i2, z, x0, x4, x5, y0, y1, y2, y3, y4, y5, ht, hv0, hv1, rfl, rfl⟩ := h
    exact absurd ht0 (by simp at ht ⊢; omega)
  | 23, h =>
    obtain ⟨pr, pk, pe, ph, pj, pf, w, x0, x1, x2, x3, x4, x5, y0, y1, y2, y3, y4, y5, ht, rfl, rfl⟩ := h
   
    refine Met.mono (u_SequenceQueue_poll_120 l Z a0 hw _ q pr pk pe ph pj pf (e w) (K w) x0 x1 x2 x3 x4 x5 y0 y1 y2 y3 y4 y5 (hE w)) ?_
    rintro _ _ ⟨rfl, rfl⟩
    · exact ⟨w, _, _, rfl, QS.c0000 (by decide) pr pk pe ph pj pf (K w) x0 x1 x2 x3 x4 x5 y0 y1 y2 y3 y4 y5  (List.Perm.refl _), rfl, (((by rw [List.perm_iff_count]; intro a; simp only [List.count_cons, List.count_nil] <;> omega) : List.Perm ([w] : List Nat) [w]).trans hp), (Int64.toInt_inj.mp (by rw [← own_kperm K hp]; simp only [own_kmin, own_minI, own_maxI, Int64.lt_iff_toInt_lt] at ⊢; have := own_le (K w); omega))⟩
  | 24, h =>
    obtain ⟨pr, pk, pe, ph, pj, pf, w, x0, x1, x2, x3, x4, x5, y0, y1, y2, y3, y4, y5, ht, rfl, rfl⟩ := h
    exact absurd ht0 (by simp at ht ⊢; omega)
  | 25, h =>
    obtain ⟨pr, pk, pe, ph, pj, pf, w, j0, x0, x1, x2, x3, x4, x5, y1, y2, y3, y4, y5, ht, rfl, rfl⟩ := h
    exact absurd ht0 (by simp at ht ⊢; omega)
  | 26, h =>
    obtain ⟨pr, pk, pe, ph, pj, pf, w, j0, j1, x0, x1, x2, x3, x4, x5, y2, y3, y4, y5, ht, hv0, rfl, rfl⟩ := h
    exact absurd ht0 (by simp at ht ⊢; omega)
  | 27, h =>
    obtain ⟨pr, pk, pe, ph, pj, pf, w, j0, j1, j2, x0, x1, x2, x3, x4, x5, y3, y4, y5, ht, hv0, hv1, rfl, rfl⟩ := h
    exact absurd ht0 (by simp at ht ⊢; omega)
  | 28, h =>
    obtain ⟨pr, pk, pe, ph, pj, pf, w, x0, x1, x2, x3, x4, x5, y0, y1, y2, y3, y4, y5, ht, rfl, rfl⟩ := h
    exact absurd ht0 (by simp at ht ⊢; omega)
  | 29, h =>
    obtain ⟨pr, pk, pe, ph, pj, pf, w, j0, x0, x1, x2, x3, x4, x5, y1, y2, y3, y4, y5, ht, rfl, rfl⟩ := h
    exact absurd ht0 (by simp at ht ⊢; omega)
  | 30, h =>
    obtain ⟨pr, pk, pe, ph, pj, pf, w, j0, j1, x0, x1, x2, x3, x4, x5, y2, y3, y4, y5, ht, hv0, rfl, rfl⟩ := h
    exact absurd ht0 (by simp at ht ⊢; omega)
  | 31, h =>
    obtain ⟨pr, pk, pe, ph, pj, pf, w, i0, x1, x2, x3, x4, x5, y0, y1, y2, y3, y4, y5, ht, rfl, rfl⟩ := h
   
    refine Met.mono (u_SequenceQueue_poll_122 l Z a0 hw _ q pr pk pe ph pj pf (e w) (e i0) (K w) (K i0) x1 x2 x3 x4 x5 y0 y1 y2 y3 y4 y5 (hE w) (hE i0)) ?_
    rintro _ _ (⟨hc31, hc32, rfl, rfl⟩ | ⟨hc33, rfl, rfl⟩)
    · exact ⟨i0, _, _, rfl, QS.c0110 (by decide) pr pk pe ph pj pf w (K w) (K i0) x2 x3 x4 x5 y0 y1 y2 y3 y4 y5  (List.Perm.refl _), rfl, (((by rw [List.perm_iff_count]; intro a; simp only [List.count_cons, List.count_nil] <;> omega) : List.Perm ([i0, w] : List Nat) [w, i0]).trans hp), (Int64.toInt_inj.mp (by rw [← own_kperm K hp]; simp only [own_kmin, own_minI, own_maxI, Int64.lt_iff_toInt_lt] at hc31 hc32 ⊢; have := own_le (K w); have := own_le (K i0); omega))⟩
    · exact ⟨w, _, _, rfl, QS.c0100 (by decide) pr pk pe ph pj pf i0 (K w) x1 x2 x3 x4 x5 y0 y1 y2 y3 y4 y5  (List.Perm.refl _), rfl, (((by rw [List.perm_iff_count]; intro a; simp only [List.count_cons, List.count_nil] <;> omega) : List.Perm ([w, i0] : List Nat) [w, i0]).trans hp), (Int64.toInt_inj.mp (by rw [← own_kperm K hp]; simp only [own_kmin, own_minI, own_maxI, Int64.lt_iff_toInt_lt] at hc33 ⊢; have := own_le (K w); have := own_le (K i0); omega))⟩
  | 32, h =>
    obtain ⟨pr, pk, pe, ph, pj, pf, w, i0, j0, x1, x2, x3, x4, x5, y1, y2, y3, y4, y5, ht, rfl, rfl⟩ := h
   
    refine Met.mono (u_SequenceQueue_poll_124 l Z a0 hw _ q pr pk pe ph pj pf (e w) (e i0) (e j0) (K w) (K i0) x1 x2 x3 x4 x5 (K j0) y1 y2 y3 y4 y5 (hE w) (hE i0) (hE j0)) ?_
    rintro _ _ (⟨hc34, hc35, hc36, rfl, rfl⟩ | ⟨hc37, hc38, hc39, rfl, rfl⟩ | ⟨hc40, hc41, hc42, hc43, rfl, rfl⟩ | ⟨hc44, hc45, hc46, rfl, rfl⟩ | ⟨hc47, hc48, rfl, rfl⟩)
    · exact ⟨j0, _, _, rfl, QS.c0200 (by decide) pr pk pe ph pj pf i0 w (K w) x2 x3 x4 x5 (K j0) y1 y2 y3 y4 y5 (by simp only [Int64.lt_iff_toInt_lt] at hc34 hc35 hc36 ⊢; omega) (List.Perm.refl _), rfl, (((by rw [List.perm_iff_count]; intro a; simp only [List.count_cons, List.count_nil] <;> omega) : List.Perm ([j0, i0, w] : List Nat) [w, i0, j0]).trans hp), (Int64.toInt_inj.mp (by rw [← own_kperm K hp]; simp only [own_kmin, own_minI, own_maxI, Int64.lt_iff_toInt_lt] at hc34 hc35 hc36 ⊢; have := own_le (K w); have := own_le (K i0); have := own_le (K j0); omega))⟩
    · exact ⟨i0, _, _, rfl, QS.c0111 (by decide) pr pk pe ph pj pf w j0 (K w) (K i0) x2 x3 x4 x5 y1 y2 y3 y4 y5  (List.Perm.refl _), rfl, (((by rw [List.perm_iff_count]; intro a; simp only [List.count_cons, List.count_nil] <;> omega) : List.Perm ([i0, w, j0] : List Nat) [w, i0, j0]).trans hp), (Int64.toInt_inj.mp (by rw [← own_kperm K hp]; simp only [own_kmin, own_minI, own_maxI, Int64.lt_iff_toInt_lt] at hc37 hc38 hc39 ⊢; have := own_le (K w); have := own_le (K i0); have := own_le (K j0); omega))⟩
    · exact ⟨j0, _, _, rfl, QS.c0101 (by decide) pr pk pe ph pj pf i0 w (K w) x1 x2 x3 x4 x5 (K w) y2 y3 y4 y5  (List.Perm.refl _), rfl, (((by rw [List.perm_iff_count]; intro a; simp only [List.count_cons, List.count_nil] <;> omega) : List.Perm ([j0, i0, w] : List Nat) [w, i0, j0]).trans hp), (Int64.toInt_inj.mp (by rw [← own_kperm K hp]; simp only [own_kmin, own_minI, own_maxI, Int64.lt_iff_toInt_lt] at hc40 hc41 hc42 hc43 ⊢; have := own_le (K w); have := own_le (K i0); have := own_le (K j0); omega))⟩
    · exact ⟨j0, _, _, rfl, QS.c0200 (by decide) pr pk pe ph pj pf i0 w (K w) x2 x3 x4 x5 (K j0) y1 y2 y3 y4 y5 (by simp only [Int64.lt_iff_toInt_lt] at hc44 hc45 hc46 ⊢; omega) (List.Perm.refl _), rfl, (((by rw [List.perm_iff_count]; intro a; simp only [List.count_cons, List.count_nil] <;> omega) : List.Perm ([j0, i0, w] : List Nat) [w, i0, j0]).trans hp), (Int64.toInt_inj.mp (by rw [← own_kperm K hp]; simp only [own_kmin, own_minI, own_maxI, Int64.lt_iff_toInt_lt] at hc44 hc45 hc46 ⊢; have := own_le (K w); have := own_le (K i0); have := own_le (K j0); omega))⟩
    · exact ⟨w, _, _, rfl, QS.c0101 (by decide) pr pk pe ph pj pf i0 j0 (K w) x1 x2 x3 x4 x5 y1 y2 y3 y4 y5  (List.Perm.refl _), rfl, (((by rw [List.perm_iff_count]; intro a; simp only [List.count_cons, List.count_nil] <;> omega) : List.Perm ([w, i0, j0] : List Nat) [w, i0, j0]).trans hp), (Int64.toInt_inj.mp (by rw [← own_kperm K hp]; simp only [own_kmin, own_minI, own_maxI, Int64.lt_iff_toInt_lt] at hc47 hc48 ⊢; have := own_le (K w); have := own_le (K i0); have := own_le (K j0); omega))⟩
  | 33, h =>
    obtain ⟨pr, pk, pe, ph, pj, pf, w, i0, j0, j1, x1, x2, x3, x4, x5, y2, y3, y4, y5, ht, hv0, rfl, rfl⟩ := h
   
    refine Met.mono (u_SequenceQueue_poll_126 l Z a0 hw _ q pr pk pe ph pj pf (e w) (e i0) (e j0) (e j1) (K w) (K i0) x1 x2 x3 x4 x5 (K j0) (K j1) y2 y3 y4 y5 (hE w) (hE i0) (hE j0) (hE j1) hv0) ?_
    rintro _ _ (⟨hc49, hc50, hc51, rfl, rfl⟩ | ⟨hc52, hc53, hc54, rfl, rfl⟩ | ⟨hc55, hc56, hc57, hc58, hc59, rfl, rfl⟩ | ⟨hc60, hc61, hc62, hc63, hc64, rfl, rfl⟩ | ⟨hc65, hc66, hc67, rfl, rfl⟩ | ⟨hc68, hc69, rfl, rfl⟩)
    · exact ⟨j0, _, _, rfl, QS.c0201 (by decide) pr pk pe ph pj pf i0 w j1 (K w) x2 x3 x4 x5 (K j1) y2 y3 y4 y5 (by simp only [Int64.lt_iff_toInt_lt] at hv0 hc49 hc50 hc51 ⊢; omega) (List.Perm.refl _), rfl, (((by rw [List.perm_iff_count]; intro a; simp only [List.count_cons, List.count_nil] <;> omega) : List.Perm ([j0, i0, w, j1] : List Nat) [w, i0, j0, j1]).trans hp), (Int64.toInt_inj.mp (by rw [← own_kperm K hp]; simp only [own_kmin, own_minI, own_maxI, Int64.lt_iff_toInt_lt] at hv0 hc49 hc50 hc51 ⊢; have := own_le (K w); have := own_le (K i0); have := own_le (K j0); have := own_le (K j1); omega))⟩
    · exact ⟨i0, _, _, rfl, QS.c0112 (by decide) pr pk pe ph pj pf w j0 j1 (K w) (K i0) x2 x3 x4 x5 y2 y3 y4 y5 (by simp only [Int64.lt_iff_toInt_lt] at hv0 hc52 hc53 hc54 ⊢; omega) (List.Perm.refl _), rfl, (((by rw [List.perm_iff_count]; intro a; simp only [List.count_cons, List.count_nil] <;> omega) : List.Perm ([i0, w, j0, j1] : List Nat) [w, i0, j0, j1]).trans hp), (Int64.toInt_inj.mp (by rw [← own_kperm K hp]; simp only [own_kmin, own_minI, own_maxI, Int64.lt_iff_toInt_lt] at hv0 hc52 hc53 hc54 ⊢; have := own_le (K w); have := own_le (K i0); have := own_le (K j0); have := own_le (K j1); omega))⟩
    · exact ⟨j0, _, _, rfl, QS.c0102 (by decide) pr pk pe ph pj pf i0 j1 w (K w) x1 x2 x3 x4 x5 (K w) y3 y4 y5 (by simp only [Int64.lt_iff_toInt_lt] at hv0 hc55 hc56 hc57 hc58 hc59 ⊢; omega) (List.Perm.refl _), rfl, (((by rw [List.perm_iff_count]; intro a; simp only [List.count_cons, List.count_nil] <;> omega) : List.Perm ([j0, i0, j1, w] : List Nat) [w, i0, j0, j1]).trans hp), (Int64.toInt_inj.mp (by rw [← own_kperm K hp]; simp only [own_kmin, own_minI, own_maxI, Int64.lt_iff_toInt_lt] at hv0 hc55 hc56 hc57 hc58 hc59 ⊢; have := own_le (K w); have := own_le (K i0); have := own_le (K j0); have := own_le (K j1); omega))⟩
    · exact ⟨j0, _, _, rfl, QS.c0102 (by decide) pr pk pe ph pj pf i0 w j1 (K w) x1 x2 x3 x4 x5 (K w) y3 y4 y5 (by simp only [Int64.lt_iff_toInt_lt] at hv0 hc60 hc61 hc62 hc63 hc64 ⊢; omega) (List.Perm.refl _), rfl, (((by rw [List.perm_iff_count]; intro a; simp only [List.count_cons, List.count_nil] <;> omega) : List.Perm ([j0, i0, w, j1] : List Nat) [w, i0, j0, j1]).trans hp), (Int64.toInt_inj.mp (by rw [← own_kperm K hp]; simp only [own_kmin, own_minI, own_maxI, Int64.lt_iff_toInt_lt] at hv0 hc60 hc61 hc62 hc63 hc64 ⊢; have := own_le (K w); have := own_le (K i0); have := own_le (K j0); have := own_le (K j1); omega))⟩
    · exact ⟨j0, _, _, rfl, QS.c0201 (by decide) pr pk pe ph pj pf i0 w j1 (K w) x2 x3 x4 x5 (K j1) y2 y3 y4 y5 (by simp only [Int64.lt_iff_toInt_lt] at hv0 hc65 hc66 hc67 ⊢; omega) (List.Perm.refl _), rfl, (((by rw [List.perm_iff_count]; intro a; simp only [List.count_cons, List.count_nil] <;> omega) : List.Perm ([j0, i0, w, j1] : List Nat) [w, i0, j0, j1]).trans hp), (Int64.toInt_inj.mp (by rw [← own_kperm K hp]; simp only [own_kmin, own_minI, own_maxI, Int64.lt_iff_toInt_lt] at hv0 hc65 hc66 hc67 ⊢; have := own_le (K w); have := own_le (K i0); have := own_le (K j0); have := own_le (K j1); omega))⟩
    · exact ⟨w, _, _, rfl, QS.c0102 (by decide) pr pk pe ph pj pf i0 j0 j1 (K w) x1 x2 x3 x4 x5 y2 y3 y4 y5 (by simp only [Int64.lt_iff_toInt_lt] at hv0 hc68 hc69 ⊢; omega) (List.Perm.refl _), rfl, (((by rw [List.perm_iff_count]; intro a; simp only [List.count_cons, List.count_nil] <;> omega) : List.Perm ([w, i0, j0, j1] : List Nat) [w, i0, j0, j1]).trans hp), (Int64.toInt_inj.mp (by rw [← own_kperm K hp]; simp only [own_kmin, own_minI, own_maxI, Int64.lt_iff_toInt_lt] at hv0 hc68 hc69 ⊢; have := own_le (K w); have := own_le (K i0); have := own_le (K j0); have := own_le (K j1); omega))⟩
  | 34, h =>
    obtain ⟨pr, pk, pe, ph, pj, pf, w, i0, j0, j1, j2, x1, x2, x3, x4, x5, y3, y4, y5, ht, hv0, hv1, rfl, rfl⟩ := h
    exact absurd ht0 (by simp at ht ⊢; omega)
  | 35, h =>
    obtain ⟨pr, pk, pe, ph, pj, pf, w, i0, x0, x2, x3, x4, x5, y0, y1, y2, y3, y4, y5, ht, rfl, rfl⟩ := h
    exact absurd ht0 (by simp at ht ⊢; omega)
  | 36, h =>
    obtain ⟨pr, pk, pe, ph, pj, pf, w, i0, j0, x0, x2, x3, x4, x5, y1, y2, y3, y4, y5, ht, rfl, rfl⟩ := h
    exact absurd ht0 (by simp at ht ⊢; omega)
  | 37, h =>
    obtain ⟨pr, pk, pe, ph, pj, pf, w, i0, j0, j1, x0, x2, x3, x4, x5, y2, y3, y4, y5, ht, hv0, rfl, rfl⟩ := h
    exact absurd ht0 (by simp at ht ⊢; omega)
  | 38, h =>
    obtain ⟨pr, pk, pe, ph, pj, pf, w, i0, x0, x1, x3, x4, x5, y0, y1, y2, y3, y4, y5, ht, rfl, rfl⟩ := h
    exact absurd ht0 (by simp at ht ⊢; omega)
  | 39, h =>
    obtain ⟨pr, pk, pe, ph, pj, pf, w, i0, j0, x0, x1, x3, x4, x5, y1, y2, y3, y4, y5, ht, rfl, rfl⟩ := h
    exact absurd ht0 (by simp at ht ⊢; omega)
  | 40, h =>
    obtain ⟨pr, pk, pe, ph, pj, pf, w, i0, i1, x2, x3, x4, x5, y0, y1, y2, y3, y4, y5, ht, hv0, rfl, rfl⟩ := h
   
    refine Met.mono (u_SequenceQueue_poll_128 l Z a0 hw _ q pr pk pe ph pj pf (e w) (e i0) (e i1) (K w) (K i0) (K i1) x2 x3 x4 x5 y0 y1 y2 y3 y4 y5 (hE w) (hE i0) (hE i1) hv0) ?_
    rintro _ _ (⟨hc70, hc71, rfl, rfl⟩ | ⟨hc72, hc73, rfl, rfl⟩ | ⟨hc74, rfl, rfl⟩)
    · exact ⟨i0, _, _, rfl, QS.c0111 (by decide) pr pk pe ph pj pf i1 w (K w) (K i0) x2 x3 x4 x5 y1 y2 y3 y4 y5  (List.Perm.refl _), rfl, (((by rw [List.perm_iff_count]; intro a; simp only [List.count_cons, List.count_nil] <;> omega) : List.Perm ([i0, i1, w] : List Nat) [w, i0, i1]).trans hp), (Int64.toInt_inj.mp (by rw [← own_kperm K hp]; simp only [own_kmin, own_minI, own_maxI, Int64.lt_iff_toInt_lt] at hv0 hc70 hc71 ⊢; have := own_le (K w); have := own_le (K i0); have := own_le (K i1); omega))⟩
    · exact ⟨i0, _, _, rfl, QS.c0210 (by decide) pr pk pe ph pj pf i1 w (K w) (K i0) x3 x4 x5 y0 y1 y2 y3 y4 y5 (by simp only [Int64.lt_iff_toInt_lt] at hv0 hc72 hc73 ⊢; omega) (List.Perm.refl _), rfl, (((by rw [List.perm_iff_count]; intro a; simp only [List.count_cons, List.count_nil] <;> omega) : List.Perm ([i0, i1, w] : List Nat) [w, i0, i1]).trans hp), (Int64.toInt_inj.mp (by rw [← own_kperm K hp]; simp only [own_kmin, own_minI, own_maxI, Int64.lt_iff_toInt_lt] at hv0 hc72 hc73 ⊢; have := own_le (K w); have := own_le (K i0); have := own_le (K i1); omega))⟩
    · exact ⟨w, _, _, rfl, QS.c0200 (by decide) pr pk pe ph pj pf i0 i1 (K w) x2 x3 x4 x5 y0 y1 y2 y3 y4 y5 (by simp only [Int64.lt_iff_toInt_lt] at hv0 hc74 ⊢; omega) (List.Perm.refl _), rfl, (((by rw [List.perm_iff_count]; intro a; simp only [List.count_cons, List.count_nil] <;> omega) : List.Perm ([w, i0, i1] : List Nat) [w, i0, i1]).trans hp), (Int64.toInt_inj.mp (by rw [← own_kperm K hp]; simp only [own_kmin, own_minI, own_maxI, Int64.lt_iff_toInt_lt] at hv0 hc74 ⊢; have := own_le (K w); have := own_le (K i0); have := own_le (K i1); omega))⟩
  | 41, h =>
    obtain ⟨pr, pk, pe, ph, pj, pf, w, i0, i1, j0, x2, x3, x4, x5, y1, y2, y3, y4, y5, ht, hv0, rfl, rfl⟩ := h
   
    refine Met.mono (u_SequenceQueue_poll_130 l Z a0 hw _ q pr pk pe ph pj pf (e w) (e i0) (e i1) (e j0) (K w) (K i0) (K i1) x2 x3 x4 x5 (K j0) y1 y2 y3 y4 y5 (hE w) (hE i0) (hE i1) (hE j0) hv0) ?_
    rintro _ _ (⟨hc75, hc76, hc77, rfl, rfl⟩ | ⟨hc78, hc79, hc80, hc81, rfl, rfl⟩ | ⟨hc82, hc83, hc84, hc85, rfl, rfl⟩ | ⟨hc86, hc87, hc88, rfl, rfl⟩ | ⟨hc89, hc90, hc91, rfl, rfl⟩ | ⟨hc92, hc93, hc94, hc95, rfl, rfl⟩ | ⟨hc96, hc97, hc98, rfl, rfl⟩ | ⟨hc99, hc100, rfl, rfl⟩)
    · exact ⟨i0, _, _, rfl, QS.c0112 (by decide) pr pk pe ph pj pf i1 w j0 (K w) (K i0) x2 x3 x4 x5 y2 y3 y4 y5 (by simp only [Int64.lt_iff_toInt_lt] at hv0 hc75 hc76 hc77 ⊢; omega) (List.Perm.refl _), rfl, (((by rw [List.perm_iff_count]; intro a; simp only [List.count_cons, List.count_nil] <;> omega) : List.Perm ([i0, i1, w, j0] : List Nat) [w, i0, i1, j0]).trans hp), (Int64.toInt_inj.mp (by rw [← own_kperm K hp]; simp only [own_kmin, own_minI, own_maxI, Int64.lt_iff_toInt_lt] at hv0 hc75 hc76 hc77 ⊢; have := own_le (K w); have := own_le (K i0); have := own_le (K i1); have := own_le (K j0); omega))⟩
    · exact ⟨j0, _, _, rfl, QS.c0201 (by decide) pr pk pe ph pj pf i0 i1 w (K w) x2 x3 x4 x5 (K w) y2 y3 y4 y5 (by simp only [Int64.lt_iff_toInt_lt] at hv0 hc78 hc79 hc80 hc81 ⊢; omega) (List.Perm.refl _), rfl, (((by rw [List.perm_iff_count]; intro a; simp only [List.count_cons, List.count_nil] <;> omega) : List.Perm ([j0, i0, i1, w] : List Nat) [w, i0, i1, j0]).trans hp), (Int64.toInt_inj.mp (by rw [← own_kperm K hp]; simp only [own_kmin, own_minI, own_maxI, Int64.lt_iff_toInt_lt] at hv0 hc78 hc79 hc80 hc81 ⊢; have := own_le (K w); have := own_le (K i0); have := own_le (K i1); have := own_le (K j0); omega))⟩
    · exact ⟨i0, _, _, rfl, QS.c0112 (by decide) pr pk pe ph pj pf i1 j0 w (K w) (K i0) x2 x3 x4 x5 y2 y3 y4 y5 (by simp only [Int64.lt_iff_toInt_lt] at hv0 hc82 hc83 hc84 hc85 ⊢; omega) (List.Perm.refl _), rfl, (((by rw [List.perm_iff_count]; intro a; simp only [List.count_cons, List.count_nil] <;> omega) : List.Perm ([i0, i1, j0, w] : List Nat) [w, i0, i1, j0]).trans hp), (Int64.toInt_inj.mp (by rw [← own_kperm K hp]; simp only [own_kmin, own_minI, own_maxI, Int64.lt_iff_toInt_lt] at hv0 hc82 hc83 hc84 hc85 ⊢; have := own_le (K w); have := own_le (K i0); have := own_le (K i1); have := own_le (K j0); omega))⟩
    · exact ⟨j0, _, _, rfl, QS.c0300 (by decide) pr pk pe ph pj pf i0 i1 w (K w) x3 x4 x5 (K j0) y1 y2 y3 y4 y5 (by simp only [Int64.lt_iff_toInt_lt] at hv0 hc86 hc87 hc88 ⊢; omega) (by simp only [Int64.lt_iff_toInt_lt] at hv0 hc86 hc87 hc88 ⊢; omega) (List.Perm.refl _), rfl, (((by rw [List.perm_iff_count]; intro a; simp only [List.count_cons, List.count_nil] <;> omega) : List.Perm ([j0, i0, i1, w] : List Nat) [w, i0, i1, j0]).trans hp), (Int64.toInt_inj.mp (by rw [← own_kperm K hp]; simp only [own_kmin, own_minI, own_maxI, Int64.lt_iff_toInt_lt] at hv0 hc86 hc87 hc88 ⊢; have := own_le (K w); have := own_le (K i0); have := own_le (K i1); have := own_le (K j0); omega))⟩
    · exact ⟨i0, _, _, rfl, QS.c0211 (by decide) pr pk pe ph pj pf i1 w j0 (K w) (K i0) x3 x4 x5 y1 y2 y3 y4 y5 (by simp only [Int64.lt_iff_toInt_lt] at hv0 hc89 hc90 hc91 ⊢; omega) (List.Perm.refl _), rfl, (((by rw [List.perm_iff_count]; intro a; simp only [List.count_cons, List.count_nil] <;> omega) : List.Perm ([i0, i1, w, j0] : List Nat) [w, i0, i1, j0]).trans hp), (Int64.toInt_inj.mp (by rw [← own_kperm K hp]; simp only [own_kmin, own_minI, own_maxI, Int64.lt_iff_toInt_lt] at hv0 hc89 hc90 hc91 ⊢; have := own_le (K w); have := own_le (K i0); have := own_le (K i1); have := own_le (K j0); omega))⟩
    · exact ⟨j0, _, _, rfl, QS.c0201 (by decide) pr pk pe ph pj pf i0 i1 w (K w) x2 x3 x4 x5 (K w) y2 y3 y4 y5 (by simp only [Int64.lt_iff_toInt_lt] at hv0 hc92 hc93 hc94 hc95 ⊢; omega) (List.Perm.refl _), rfl, (((by rw [List.perm_iff_count]; intro a; simp only [List.count_cons, List.count_nil] <;> omega) : List.Perm ([j0, i0, i1, w] : List Nat) [w, i0, i1, j0]).trans hp), (Int64.toInt_inj.mp (by rw [← own_kperm K hp]; simp only [own_kmin, own_minI, own_maxI, Int64.lt_iff_toInt_lt] at hv0 hc92 hc93 hc94 hc95 ⊢; have := own_le (K w); have := own_le (K i0); have := own_le (K i1); have := own_le (K j0); omega))⟩
    · exact ⟨j0, _, _, rfl, QS.c0300 (by decide) pr pk pe ph pj pf i0 i1 w (K w) x3 x4 x5 (K j0) y1 y2 y3 y4 y5 (by simp only [Int64.lt_iff_toInt_lt] at hv0 hc96 hc97 hc98 ⊢; omega) (by simp only [Int64.lt_iff_toInt_lt] at hv0 hc96 hc97 hc98 ⊢; omega) (List.Perm.refl _), rfl, (((by rw [List.perm_iff_count]; intro a; simp only [List.count_cons, List.count_nil] <;> omega) : List.Perm ([j0, i0, i1, w] : List Nat) [w, i0, i1, j0]).trans hp), (Int64.toInt_inj.mp (by rw [← own_kperm K hp]; simp only [own_kmin, own_minI, own_maxI, Int64.lt_iff_toInt_lt] at hv0 hc96 hc97 hc98 ⊢; have := own_le (K w); have := own_le (K i0); have := own_le (K i1); have := own_le (K j0); omega))⟩
    · exact ⟨w, _, _, rfl, QS.c0201 (by decide) pr pk pe ph pj pf i0 i1 j0 (K w) x2 x3 x4 x5 y1 y2 y3 y4 y5 (by simp only [Int64.lt_iff_toInt_lt] at hv0 hc99 hc100 ⊢; omega) (List.Perm.refl _), rfl, (((by rw [List.perm_iff_count]; intro a; simp only [List.count_cons, List.count_nil] <;> omega) : List.Perm ([w, i0, i1, j0] : List Nat) [w, i0, i1, j0]).trans hp), (Int64.toInt_inj.mp (by rw [← own_kperm K hp]; simp only [own_kmin, own_minI, own_maxI, Int64.lt_iff_toInt_lt] at hv0 hc99 hc100 ⊢; have := own_le (K w); have := own_le (K i0); have := own_le (K i1); have := own_le (K j0); omega))⟩
  | 42, h =>
    obtain ⟨pr, pk, pe, ph, pj, pf, w, i0, i1, j0, j1, x2, x3, x4, x5, y2, y3, y4, y5, ht, hv0, hv1, rfl, rfl⟩ := h
    exact absurd ht0 (by simp at ht ⊢; omega)
  | 43, h =>
    obtain ⟨pr, pk, pe, ph, pj, pf, w, i0, i1, x0, x3, x4, x5, y0, y1, y2, y3, y4, y5, ht, hv0, rfl, rfl⟩ := h
    exact absurd ht0 (by simp at ht ⊢; omega)
  | 44, h =>
    obtain ⟨pr, pk, pe, ph, pj, pf, w, i0, i1, j0, x0, x3, x4, x5, y1, y2, y3, y4, y5, ht, hv0, rfl, rfl⟩ := h
    exact absurd ht0 (by simp at ht ⊢; omega)
  | 45, h =>
    obtain ⟨pr, pk, pe, ph, pj, pf, w, i0, i1, x0, x1, x4, x5, y0, y1, y2, y3, y4, y5, ht, hv0, rfl, rfl⟩ := h
    exact absurd ht0 (by simp at ht ⊢; omega)
  | 46, h =>
    obtain ⟨pr, pk, pe, ph, pj, pf, w, i0, i1, i2, x3, x4, x5, y0, y1, y2, y3, y4, y5, ht, hv0, hv1, rfl, rfl⟩ := h
   
    refine Met.mono (u_SequenceQueue_poll_132 l Z a0 hw _ q pr pk pe ph pj pf (e w) (e i0) (e i1) (e i2) (K w) (K i0) (K i1) (K i2) x3 x4 x5 y0 y1 y2 y3 y4 y5 (hE w) (hE i0) (hE i1) (hE i2) hv0 hv1) ?_
    rintro _ _ (⟨hc101, hc102, rfl, rfl⟩ | ⟨hc103, hc104, rfl, rfl⟩ | ⟨hc105, rfl, rfl⟩)
    · exact ⟨i0, _, _, rfl, QS.c0211 (by decide) pr pk pe ph pj pf i1 i2 w (K w) (K i0) x3 x4 x5 y1 y2 y3 y4 y5 (by simp only [Int64.lt_iff_toInt_lt] at hv0 hv1 hc101 hc102 ⊢; omega) (List.Perm.refl _), rfl, (((by rw [List.perm_iff_count]; intro a; simp only [List.count_cons, List.count_nil] <;> omega) : List.Perm ([i0, i1, i2, w] : List Nat) [w, i0, i1, i2]).trans hp), (Int64.toInt_inj.mp (by rw [← own_kperm K hp]; simp only [own_kmin, own_minI, own_maxI, Int64.lt_iff_toInt_lt] at hv0 hv1 hc101 hc102 ⊢; have := own_le (K w); have := own_le (K i0); have := own_le (K i1); have := own_le (K i2); omega))⟩
    · exact ⟨i0, _, _, rfl, QS.c0310 (by decide) pr pk pe ph pj pf i1 i2 w (K w) (K i0) x4 x5 y0 y1 y2 y3 y4 y5 (by simp only [Int64.lt_iff_toInt_lt] at hv0 hv1 hc103 hc104 ⊢; omega) (by simp only [Int64.lt_iff_toInt_lt] at hv0 hv1 hc103 hc104 ⊢; omega) (List.Perm.refl _), rfl, (((by rw [List.perm_iff_count]; intro a; simp only [List.count_cons, List.count_nil] <;> omega) : List.Perm ([i0, i1, i2, w] : List Nat) [w, i0, i1, i2]).trans hp), (Int64.toInt_inj.mp (by rw [← own_kperm K hp]; simp only [own_kmin, own_minI, own_maxI, Int64.lt_iff_toInt_lt] at hv0 hv1 hc103 hc104 ⊢; have := own_le (K w); have := own_le (K i0); have := own_le (K i1); have := own_le (K i2); omega))⟩
    · exact ⟨w, _, _, rfl, QS.c0300 (by decide) pr pk pe ph pj pf i0 i1 i2 (K w) x3 x4 x5 y0 y1 y2 y3 y4 y5 (by simp only [Int64.lt_iff_toInt_lt] at hv0 hv1 hc105 ⊢; omega) (by simp only [Int64.lt_iff_toInt_lt] at hv0 hv1 hc105 ⊢; omega) (List.Perm.refl _), rfl, (((by rw [List.perm_iff_count]; intro a; simp only [List.count_cons, List.count_nil] <;> omega) : List.Perm ([w, i0, i1, i2] : List Nat) [w, i0, i1, i2]).trans hp), (Int64.toInt_inj.mp (by rw [← own_kperm K hp]; simp only [own_kmin, own_minI, own_maxI, Int64.lt_iff_toInt_lt] at hv0 hv1 hc105 ⊢; have := own_le (K w); have := own_le (K i0); have := own_le (K i1); have := own_le (K i2); omega))⟩
  | 47, h =>
    obtain ⟨pr, pk, pe, ph, pj, pf, w, i0, i1, i2, j0, x3, x4, x5, y1, y2, y3, y4, y5, ht, hv0, hv1, rfl, rfl⟩ := h
    exact absurd ht0 (by simp at ht ⊢; omega)
  | 48, h =>
    obtain ⟨pr, pk, pe, ph, pj, pf, w, i0, i1, i2, x0, x4, x5, y0, y1, y2, y3, y4, y5, ht, hv0, hv1, rfl, rfl⟩ := h
    exact absurd ht0 (by simp at ht ⊢; omega)
  | 49, h =>
    obtain ⟨pr, pk, pe, ph, pj, pf, w, i0, i1, i2, i3, x4, x5, y0, y1, y2, y3, y4, y5, ht, hv0, hv1, hv2, rfl, rfl⟩ := h
    exact absurd ht0 (by simp at ht ⊢; omega)
  | (_ + 50), h => exact (h : False).elim
theorem u_SequenceQueue_poll_134 (l : Launch) (Z : State) (a0 : Array Value) (hw : HW Z a0) (F : List Ent) (pA0 pA1 pA2 pA3 pA4 pA5 pA6 eA0 : Addr) (kA0 kA1 kA2 kA3 kA4 kA5 kA6 kA7 kA8 kA9 kA10 kA11 kA12 : Int64) (hE_eA0 : XI Z eA0) :
    Met l Z yN15 prog_20_method_3_code 3 (some (.object "java/lang/Object")) { frames := 3, cells := 0, slots := 0, locals := 45 } #[(.ref pA0)] (nQ pA0 pA1 pA4 0 kA0 .null :: nR pA1 pA2 pA3 0 1 :: nK pA2 kA1 kA2 kA3 kA4 kA5 kA6 :: nE pA3 .null .null .null .null .null .null :: nH pA4 pA5 pA6 1 :: nK pA5 kA7 kA8 kA9 kA10 kA11 kA12 :: nE pA6 (.ref eA0) .null .null .null .null .null :: F) (fun r M' => (r = (some (.ref eA0)) ∧ M' = (nQ pA0 pA1 pA4 0 kA0 .null :: nR pA1 pA2 pA3 0 1 :: nK pA2 kA1 kA2 kA3 kA4 kA5 kA6 :: nE pA3 .null .null .null .null .null .null :: nH pA4 pA5 pA6 0 :: nK pA5 kA7 kA8 kA9 kA10 kA11 kA12 :: nE pA6 .null .null .null .null .null .null :: F))) := by
  refine Met.of_go pn_11 (Ls := #[.val (.ref pA0), .unset, .unset]) (fun m => rfl) ?_
  intro E C
  refine Go.aloadN C d9_0 rfl rfl rfl ?_
  refine Go.gf C (wd hw 59 rfl) 0 2 rfl rfl d9_1 rfl ?_
  refine Go.ifYes C d9_4 (by decide) (q := 75) rfl (XT.i0_eq_t (by decide)) ?_
  refine Go.aloadN C d9_75 rfl rfl rfl ?_
  refine Go.gf C (wd hw 59 rfl) 0 2 rfl rfl d9_76 rfl ?_
  refine Go.ifYes C d9_79 (by decide) (q := 94) rfl (XT.i0_eq_t (by decide)) ?_
  refine Go.aloadN C d9_94 rfl rfl rfl ?_
  refine Go.gf C (wd hw 45 rfl) 0 1 rfl rfl d9_95 rfl ?_
  refine Go.gv C (wd hw 106 rfl) (wd hw 107 rfl) 4 2 rfl rfl d9_98 rfl ?_
  refine Go.ifNo C d9_101 (q := 104) rfl (XT.i0_eq_f (by decide)) ?_
  refine Go.aloadN C d9_104 rfl rfl rfl ?_
  refine Go.gf C (wd hw 34 rfl) 0 0 rfl rfl d9_105 rfl ?_
  refine Go.gv C (wd hw 69 rfl) (wd hw 70 rfl) 1 2 rfl rfl d9_108 rfl ?_
  refine Go.ifYes C d9_111 (by decide) (q := 153) rfl (XT.i0_le_t (by decide)) ?_
  refine Go.aloadN C d9_153 rfl rfl rfl ?_
  refine Go.gf C (wd hw 45 rfl) 0 1 rfl rfl d9_154 rfl ?_
  refine Go.pick (M' := (nH pA4 pA5 pA6 1 :: nK pA5 kA7 kA8 kA9 kA10 kA11 kA12 :: nE pA6 (.ref eA0) .null .null .null .null .null :: nQ pA0 pA1 pA4 0 kA0 .null :: nR pA1 pA2 pA3 0 1 :: nK pA2 kA1 kA2 kA3 kA4 kA5 kA6 :: nE pA3 .null .null .null .null .null .null :: F)) 7 [4, 5, 6, 0, 1, 2, 3] (by decide) (by decide) rfl ?_
  refine Go.callPR C (y := yN11) (a := pA4) (as := []) (rest := []) (wd hw 140 rfl) (wd hw 141 rfl) (sel_priv (y := yN11) (wd hw 37 rfl) (wd hw 141 rfl) (wd hw 142 rfl) (by decide)) (wd hw 142 rfl) (wd hw 143 rfl) (wd hw 38 rfl) (fun _ r => r.exa 0 rfl) (u_SequenceQueue_Heap_poll_52 l Z a0 hw _ pA4 pA5 pA6 eA0 kA7 kA8 kA9 kA10 kA11 kA12 hE_eA0) rfl d9_157 (q := 160) rfl (by decide) rfl (na := 0) (by decide +kernel) rfl (by decide) (W := 0) rfl (by decide) (by decide) (by decide) (k' := 0) (n' := 0) rfl rfl ?_
  rintro _ _ ⟨rfl, rfl⟩
  show Go _ _ _ _ _ _ _ _ _ _ [(.ref eA0)]
  refine Go.astoreN C d9_160 rfl rfl (Ls' := #[.val (.ref pA0), .val (.ref eA0), .unset]) rfl ?_
  refine Go.aloadN C d9_161 rfl rfl rfl ?_
  refine Go.iconst C d9_162 rfl (v := (0 : Int32)) rfl ?_
  refine Go.pf C (wd hw 59 rfl) Via.refl 3 2 rfl rfl (wd hw 60 rfl) (wd hw 8 rfl) (ty := .boolean) (by decide) rfl rfl d9_163 rfl (M' := (nH pA4 pA5 pA6 0 :: nK pA5 kA7 kA8 kA9 kA10 kA11 kA12 :: nE pA6 .null .null .null .null .null .null :: nQ pA0 pA1 pA4 0 kA0 .null :: nR pA1 pA2 pA3 0 1 :: nK pA2 kA1 kA2 kA3 kA4 kA5 kA6 :: nE pA3 .null .null .null .null .null .null :: F)) rfl ?_
  refine Go.aloadN C d9_166 rfl rfl rfl ?_
  refine Go.aconstNull C d9_167 rfl ?_
  refine Go.pf C (wd hw 63 rfl) Via.refl 3 4 rfl rfl (wd hw 64 rfl) (wd hw 8 rfl) (ty := (.object "java/lang/Object")) (by decide) rfl rfl d9_168 rfl (M' := (nH pA4 pA5 pA6 0 :: nK pA5 kA7 kA8 kA9 kA10 kA11 kA12 :: nE pA6 .null .null .null .null .null .null :: nQ pA0 pA1 pA4 0 kA0 .null :: nR pA1 pA2 pA3 0 1 :: nK pA2 kA1 kA2 kA3 kA4 kA5 kA6 :: nE pA3 .null .null .null .null .null .null :: F)) rfl ?_
  refine Go.aloadN C d9_171 rfl rfl rfl ?_
  refine Go.astoreN C d9_172 rfl rfl (Ls' := #[.val (.ref pA0), .val (.ref eA0), .val (.ref eA0)]) rfl ?_
  refine Go.aloadN C d9_173 rfl rfl rfl ?_
  refine Go.pick (M' := (nQ pA0 pA1 pA4 0 kA0 .null :: nR pA1 pA2 pA3 0 1 :: nK pA2 kA1 kA2 kA3 kA4 kA5 kA6 :: nE pA3 .null .null .null .null .null .null :: nH pA4 pA5 pA6 0 :: nK pA5 kA7 kA8 kA9 kA10 kA11 kA12 :: nE pA6 .null .null .null .null .null .null :: F)) 7 [3, 4, 5, 6, 0, 1, 2] (by decide) (by decide) rfl ?_
  refine Go.retA C rfl rfl rfl d9_174 (by decide) (by decide) ?_
  exact ⟨rfl, rfl⟩
theorem u_SequenceQueue_poll_136 (l : Launch) (Z : State) (a0 : Array Value) (hw : HW Z a0) (F : List Ent) (pA0 pA1 pA2 pA3 pA4 pA5 pA6 eA0 eA1 : Addr) (kA0 kA1 kA2 kA3 kA4 kA5 kA6 kA7 kA8 kA9 kA10 kA11 kA12 : Int64) (hE_eA0 : XI Z eA0) (hE_eA1 : XI Z eA1) (hK0 : ¬ kA8 < kA7) :
    Met l Z yN15 prog_20_method_3_code 3 (some (.object "java/lang/Object")) { frames := 3, cells := 0, slots := 0, locals := 45 } #[(.ref pA0)] (nQ pA0 pA1 pA4 0 kA0 .null :: nR pA1 pA2 pA3 0 1 :: nK pA2 kA1 kA2 kA3 kA4 kA5 kA6 :: nE pA3 .null .null .null .null .null .null :: nH pA4 pA5 pA6 2 :: nK pA5 kA7 kA8 kA9 kA10 kA11 kA12 :: nE pA6 (.ref eA0) (.ref eA1) .null .null .null .null :: F) (fun r M' => (r = (some (.ref eA0)) ∧ M' = (nQ pA0 pA1 pA4 0 kA0 .null :: nR pA1 pA2 pA3 0 1 :: nK pA2 kA1 kA2 kA3 kA4 kA5 kA6 :: nE pA3 .null .null .null .null .null .null :: nH pA4 pA5 pA6 1 :: nK pA5 kA8 kA8 kA9 kA10 kA11 kA12 :: nE pA6 (.ref eA1) .null .null .null .null .null :: F))) := by
  refine Met.of_go pn_11 (Ls := #[.val (.ref pA0), .unset, .unset]) (fun m => rfl) ?_
  intro E C
  refine Go.aloadN C d9_0 rfl rfl rfl ?_
  refine Go.gf C (wd hw 59 rfl) 0 2 rfl rfl d9_1 rfl ?_
  refine Go.ifYes C d9_4 (by decide) (q := 75) rfl (XT.i0_eq_t (by decide)) ?_
  refine Go.aloadN C d9_75 rfl rfl rfl ?_
  refine Go.gf C (wd hw 59 rfl) 0 2 rfl rfl d9_76 rfl ?_
  refine Go.ifYes C d9_79 (by decide) (q := 94) rfl (XT.i0_eq_t (by decide)) ?_
  refine Go.aloadN C d9_94 rfl rfl rfl ?_
  refine Go.gf C (wd hw 45 rfl) 0 1 rfl rfl d9_95 rfl ?_
  refine Go.gv C (wd hw 106 rfl) (wd hw 107 rfl) 4 2 rfl rfl d9_98 rfl ?_
  refine Go.ifNo C d9_101 (q := 104) rfl (XT.i0_eq_f (by decide)) ?_
  refine Go.aloadN C d9_104 rfl rfl rfl ?_
  refine Go.gf C (wd hw 34 rfl) 0 0 rfl rfl d9_105 rfl ?_
  refine Go.gv C (wd hw 69 rfl) (wd hw 70 rfl) 1 2 rfl rfl d9_108 rfl ?_
  refine Go.ifYes C d9_111 (by decide) (q := 153) rfl (XT.i0_le_t (by decide)) ?_
  refine Go.aloadN C d9_153 rfl rfl rfl ?_
  refine Go.gf C (wd hw 45 rfl) 0 1 rfl rfl d9_154 rfl ?_
  refine Go.pick (M' := (nH pA4 pA5 pA6 2 :: nK pA5 kA7 kA8 kA9 kA10 kA11 kA12 :: nE pA6 (.ref eA0) (.ref eA1) .null .null .null .null :: nQ pA0 pA1 pA4 0 kA0 .null :: nR pA1 pA2 pA3 0 1 :: nK pA2 kA1 kA2 kA3 kA4 kA5 kA6 :: nE pA3 .null .null .null .null .null .null :: F)) 7 [4, 5, 6, 0, 1, 2, 3] (by decide) (by decide) rfl ?_
  refine Go.callPR C (y := yN11) (a := pA4) (as := []) (rest := []) (wd hw 140 rfl) (wd hw 141 rfl) (sel_priv (y := yN11) (wd hw 37 rfl) (wd hw 141 rfl) (wd hw 142 rfl) (by decide)) (wd hw 142 rfl) (wd hw 143 rfl) (wd hw 38 rfl) (fun _ r => r.exa 0 rfl) (u_SequenceQueue_Heap_poll_55 l Z a0 hw _ pA4 pA5 pA6 eA0 eA1 kA7 kA8 kA9 kA10 kA11 kA12 hE_eA0 hE_eA1) rfl d9_157 (q := 160) rfl (by decide) rfl (na := 0) (by decide +kernel) rfl (by decide) (W := 0) rfl (by decide) (by decide) (by decide) (k' := 0) (n' := 0) rfl rfl ?_
  rintro _ _ ⟨rfl, rfl⟩
  show Go _ _ _ _ _ _ _ _ _ _ [(.ref eA0)]
  refine Go.astoreN C d9_160 rfl rfl (Ls' := #[.val (.ref pA0), .val (.ref eA0), .unset]) rfl ?_
  refine Go.aloadN C d9_161 rfl rfl rfl ?_
  refine Go.iconst C d9_162 rfl (v := (0 : Int32)) rfl ?_
  refine Go.pf C (wd hw 59 rfl) Via.refl 3 2 rfl rfl (wd hw 60 rfl) (wd hw 8 rfl) (ty := .boolean) (by decide) rfl rfl d9_163 rfl (M' := (nH pA4 pA5 pA6 1 :: nK pA5 kA8 kA8 kA9 kA10 kA11 kA12 :: nE pA6 (.ref eA1) .null .null .null .null .null :: nQ pA0 pA1 pA4 0 kA0 .null :: nR pA1 pA2 pA3 0 1 :: nK pA2 kA1 kA2 kA3 kA4 kA5 kA6 :: nE pA3 .null .null .null .null .null .null :: F)) rfl ?_
  refine Go.aloadN C d9_166 rfl rfl rfl ?_
  refine Go.aconstNull C d9_167 rfl ?_
  refine Go.pf C (wd hw 63 rfl) Via.refl 3 4 rfl rfl (wd hw 64 rfl) (wd hw 8 rfl) (ty := (.object "java/lang/Object")) (by decide) rfl rfl d9_168 rfl (M' := (nH pA4 pA5 pA6 1 :: nK pA5 kA8 kA8 kA9 kA10 kA11 kA12 :: nE pA6 (.ref eA1) .null .null .null .null .null :: nQ pA0 pA1 pA4 0 kA0 .null :: nR pA1 pA2 pA3 0 1 :: nK pA2 kA1 kA2 kA3 kA4 kA5 kA6 :: nE pA3 .null .null .null .null .null .null :: F)) rfl ?_
  refine Go.aloadN C d9_171 rfl rfl rfl ?_
  refine Go.astoreN C d9_172 rfl rfl (Ls' := #[.val (.ref pA0), .val (.ref eA0), .val (.ref eA0)]) rfl ?_
  refine Go.aloadN C d9_173 rfl rfl rfl ?_
  refine Go.pick (M' := (nQ pA0 pA1 pA4 0 kA0 .null :: nR pA1 pA2 pA3 0 1 :: nK pA2 kA1 kA2 kA3 kA4 kA5 kA6 :: nE pA3 .null .null .null .null .null .null :: nH pA4 pA5 pA6 1 :: nK pA5 kA8 kA8 kA9 kA10 kA11 kA12 :: nE pA6 (.ref eA1) .null .null .null .null .null :: F)) 7 [3, 4, 5, 6, 0, 1, 2] (by decide) (by decide) rfl ?_
  refine Go.retA C rfl rfl rfl d9_174 (by decide) (by decide) ?_
  exact ⟨rfl, rfl⟩
theorem u_SequenceQueue_poll_138 (l : Launch) (Z : State) (a0 : Array Value) (hw : HW Z a0) (F : List Ent) (pA0 pA1 pA2 pA3 pA4 pA5 pA6 eA0 eA1 eA2 : Addr) (kA0 kA1 kA2 kA3 kA4 kA5 kA6 kA7 kA8 kA9 kA10 kA11 kA12 : Int64) (hE_eA0 : XI Z eA0) (hE_eA1 : XI Z eA1) (hE_eA2 : XI Z eA2) (hK0 : ¬ kA8 < kA7) (hK1 : ¬ kA9 < kA7) :
    Met l Z yN15 prog_20_method_3_code 3 (some (.object "java/lang/Object")) { frames := 3, cells := 0, slots := 0, locals := 45 } #[(.ref pA0)] (nQ pA0 pA1 pA4 0 kA0 .null :: nR pA1 pA2 pA3 0 1 :: nK pA2 kA1 kA2 kA3 kA4 kA5 kA6 :: nE pA3 .null .null .null .null .null .null :: nH pA4 pA5 pA6 3 :: nK pA5 kA7 kA8 kA9 kA10 kA11 kA12 :: nE pA6 (.ref eA0) (.ref eA1) (.ref eA2) .null .null .null :: F) (fun r M' => ((kA8 < kA9) ∧ r = (some (.ref eA0)) ∧ M' = (nQ pA0 pA1 pA4 0 kA0 .null :: nR pA1 pA2 pA3 0 1 :: nK pA2 kA1 kA2 kA3 kA4 kA5 kA6 :: nE pA3 .null .null .null .null .null .null :: nH pA4 pA5 pA6 2 :: nK pA5 kA8 kA9 kA9 kA10 kA11 kA12 :: nE pA6 (.ref eA1) (.ref eA2) .null .null .null .null :: F)) ∨ ((¬ kA8 < kA9) ∧ r = (some (.ref eA0)) ∧ M' = (nQ pA0 pA1 pA4 0 kA0 .null :: nR pA1 pA2 pA3 0 1 :: nK pA2 kA1 kA2 kA3 kA4 kA5 kA6 :: nE pA3 .null .null .null .null .null .null :: nH pA4 pA5 pA6 2 :: nK pA5 kA9 kA8 kA9 kA10 kA11 kA12 :: nE pA6 (.ref eA2) (.ref eA1) .null .null .null .null :: F))) := by
  refine Met.of_go pn_11 (Ls := #[.val (.ref pA0), .unset, .unset]) (fun m => rfl) ?_
  intro E C
  refine Go.aloadN C d9_0 rfl rfl rfl ?_
  refine Go.gf C (wd hw 59 rfl) 0 2 rfl rfl d9_1 rfl ?_
  refine Go.ifYes C d9_4 (by decide) (q := 75) rfl (XT.i0_eq_t (by decide)) ?_
  refine Go.aloadN C d9_75 rfl rfl rfl ?_
  refine Go.gf C (wd hw 59 rfl) 0 2 rfl rfl d9_76 rfl ?_
  refine Go.ifYes C d9_79 (by decide) (q := 94) rfl (XT.i0_eq_t (by decide)) ?_
  refine Go.aloadN C d9_94 rfl rfl rfl ?_
  refine Go.gf C (wd hw 45 rfl) 0 1 rfl rfl d9_95 rfl ?_
  refine Go.gv C (wd hw 106 rfl) (wd hw 107 rfl) 4 2 rfl rfl d9_98 rfl ?_
  refine Go.ifNo C d9_101 (q := 104) rfl (XT.i0_eq_f (by decide)) ?_
  refine Go.aloadN C d9_104 rfl rfl rfl ?_
  refine Go.gf C (wd hw 34 rfl) 0 0 rfl rfl d9_105 rfl ?_
  refine Go.gv C (wd hw 69 rfl) (wd hw 70 rfl) 1 2 rfl rfl d9_108 rfl ?_
  refine Go.ifYes C d9_111 (by decide) (q := 153) rfl (XT.i0_le_t (by decide)) ?_
  refine Go.aloadN C d9_153 rfl rfl rfl ?_
  refine Go.gf C (wd hw 45 rfl) 0 1 rfl rfl d9_154 rfl ?_
  refine Go.pick (M' := (nH pA4 pA5 pA6 3 :: nK pA5 kA7 kA8 kA9 kA10 kA11 kA12 :: nE pA6 (.ref eA0) (.ref eA1) (.ref eA2) .null .null .null :: nQ pA0 pA1 pA4 0 kA0 .null :: nR pA1 pA2 pA3 0 1 :: nK pA2 kA1 kA2 kA3 kA4 kA5 kA6 :: nE pA3 .null .null .null .null .null .null :: F)) 7 [4, 5, 6, 0, 1, 2, 3] (by decide) (by decide) rfl ?_
  refine Go.callPR C (y := yN11) (a := pA4) (as := []) (rest := []) (wd hw 140 rfl) (wd hw 141 rfl) (sel_priv (y := yN11) (wd hw 37 rfl) (wd hw 141 rfl) (wd hw 142 rfl) (by decide)) (wd hw 142 rfl) (wd hw 143 rfl) (wd hw 38 rfl) (fun _ r => r.exa 0 rfl) (u_SequenceQueue_Heap_poll_58 l Z a0 hw _ pA4 pA5 pA6 eA0 eA1 eA2 kA7 kA8 kA9 kA10 kA11 kA12 hE_eA0 hE_eA1 hE_eA2) rfl d9_157 (q := 160) rfl (by decide) rfl (na := 0) (by decide +kernel) rfl (by decide) (W := 0) rfl (by decide) (by decide) (by decide) (k' := 0) (n' := 0) rfl rfl ?_
  rintro _ _ (⟨hc106, rfl, rfl⟩ | ⟨hc107, rfl, rfl⟩)
  · show Go _ _ _ _ _ _ _ _ _ _ [(.ref eA0)]
    refine Go.astoreN C d9_160 rfl rfl (Ls' := #[.val (.ref pA0), .val (.ref eA0), .unset]) rfl ?_
    refine Go.aloadN C d9_161 rfl rfl rfl ?_
    refine Go.iconst C d9_162 rfl (v := (0 : Int32)) rfl ?_
    refine Go.pf C (wd hw 59 rfl) Via.refl 3 2 rfl rfl (wd hw 60 rfl) (wd hw 8 rfl) (ty := .boolean) (by decide) rfl rfl d9_163 rfl (M' := (nH pA4 pA5 pA6 2 :: nK pA5 kA8 kA9 kA9 kA10 kA11 kA12 :: nE pA6 (.ref eA1) (.ref eA2) .null .null .null .null :: nQ pA0 pA1 pA4 0 kA0 .null :: nR pA1 pA2 pA3 0 1 :: nK pA2 kA1 kA2 kA3 kA4 kA5 kA6 :: nE pA3 .null .null .null .null .null .null :: F)) rfl ?_
    refine Go.aloadN C d9_166 rfl rfl rfl ?_
    refine Go.aconstNull C d9_167 rfl ?_
    refine Go.pf C (wd hw 63 rfl) Via.refl 3 4 rfl rfl (wd hw 64 rfl) (wd hw 8 rfl) (ty := (.object "java/lang/Object")) (by decide) rfl rfl d9_168 rfl (M' := (nH pA4 pA5 pA6 2 :: nK pA5 kA8 kA9 kA9 kA10 kA11 kA12 :: nE pA6 (.ref eA1) (.ref eA2) .null .null .null .null :: nQ pA0 pA1 pA4 0 kA0 .null :: nR pA1 pA2 pA3 0 1 :: nK pA2 kA1 kA2 kA3 kA4 kA5 kA6 :: nE pA3 .null .null .null .null .null .null :: F)) rfl ?_
    refine Go.aloadN C d9_171 rfl rfl rfl ?_
    refine Go.astoreN C d9_172 rfl rfl (Ls' := #[.val (.ref pA0), .val (.ref eA0), .val (.ref eA0)]) rfl ?_
    refine Go.aloadN C d9_173 rfl rfl rfl ?_
    refine Go.pick (M' := (nQ pA0 pA1 pA4 0 kA0 .null :: nR pA1 pA2 pA3 0 1 :: nK pA2 kA1 kA2 kA3 kA4 kA5 kA6 :: nE pA3 .null .null .null .null .null .null :: nH pA4 pA5 pA6 2 :: nK pA5 kA8 kA9 kA9 kA10 kA11 kA12 :: nE pA6 (.ref eA1) (.ref eA2) .null .null .null .null :: F)) 7 [3, 4, 5, 6, 0, 1, 2] (by decide) (by decide) rfl ?_
    refine Go.retA C rfl rfl rfl d9_174 (by decide) (by decide) ?_
    exact Or.inl ⟨hc106, rfl, rfl⟩
  · show Go _ _ _ _ _ _ _ _ _ _ [(.ref eA0)]
    refine Go.astoreN C d9_160 rfl rfl (Ls' := #[.val (.ref pA0), .val (.ref eA0), .unset]) rfl ?_
    refine Go.aloadN C d9_161 rfl rfl rfl ?_
    refine Go.iconst C d9_162 rfl (v := (0 : Int32)) rfl ?_
    refine Go.pf C (wd hw 59 rfl) Via.refl 3 2 rfl rfl (wd hw 60 rfl) (wd hw 8 rfl) (ty := .boolean) (by decide) rfl rfl d9_163 rfl (M' := (nH pA4 pA5 pA6 2 :: nK pA5 kA9 kA8 kA9 kA10 kA11 kA12 :: nE pA6 (.ref eA2) (.ref eA1) .null .null .null .null :: nQ pA0 pA1 pA4 0 kA0 .null :: nR pA1 pA2 pA3 0 1 :: nK pA2 kA1 kA2 kA3 kA4 kA5 kA6 :: nE pA3 .null .null .null .null .null .null :: F)) rfl ?_
    refine Go.aloadN C d9_166 rfl rfl rfl ?_
    refine Go.aconstNull C d9_167 rfl ?_
    refine Go.pf C (wd hw 63 rfl) Via.refl 3 4 rfl rfl (wd hw 64 rfl) (wd hw 8 rfl) (ty := (.object "java/lang/Object")) (by decide) rfl rfl d9_168 rfl (M' := (nH pA4 pA5 pA6 2 :: nK pA5 kA9 kA8 kA9 kA10 kA11 kA12 :: nE pA6 (.ref eA2) (.ref eA1) .null .null .null .null :: nQ pA0 pA1 pA4 0 kA0 .null :: nR pA1 pA2 pA3 0 1 :: nK pA2 kA1 kA2 kA3 kA4 kA5 kA6 :: nE pA3 .null .null .null .null .null .null :: F)) rfl ?_
    refine Go.aloadN C d9_171 rfl rfl rfl ?_
    refine Go.astoreN C d9_172 rfl rfl (Ls' := #[.val (.ref pA0), .val (.ref eA0), .val (.ref eA0)]) rfl ?_
    refine Go.aloadN C d9_173 rfl rfl rfl ?_
    refine Go.pick (M' := (nQ pA0 pA1 pA4 0 kA0 .null :: nR pA1 pA2 pA3 0 1 :: nK pA2 kA1 kA2 kA3 kA4 kA5 kA6 :: nE pA3 .null .null .null .null .null .null :: nH pA4 pA5 pA6 2 :: nK pA5 kA9 kA8 kA9 kA10 kA11 kA12 :: nE pA6 (.ref eA2) (.ref eA1) .null .null .null .null :: F)) 7 [3, 4, 5, 6, 0, 1, 2] (by decide) (by decide) rfl ?_
    refine Go.retA C rfl rfl rfl d9_174 (by decide) (by decide) ?_
    exact Or.inr (⟨hc107, rfl, rfl⟩)
theorem u_SequenceQueue_poll_140 (l : Launch) (Z : State) (a0 : Array Value) (hw : HW Z a0) (F : List Ent) (pA0 pA1 pA2 pA3 pA4 pA5 pA6 eA0 : Addr) (kA0 kA1 kA2 kA3 kA4 kA5 kA6 kA7 kA8 kA9 kA10 kA11 kA12 : Int64) (hE_eA0 : XI Z eA0) :
    Met l Z yN15 prog_20_method_3_code 3 (some (.object "java/lang/Object")) { frames := 3, cells := 0, slots := 0, locals := 45 } #[(.ref pA0)] (nQ pA0 pA1 pA4 0 kA0 .null :: nR pA1 pA2 pA3 1 0 :: nK pA2 kA1 kA2 kA3 kA4 kA5 kA6 :: nE pA3 (.ref eA0) .null .null .null .null .null :: nH pA4 pA5 pA6 0 :: nK pA5 kA7 kA8 kA9 kA10 kA11 kA12 :: nE pA6 .null .null .null .null .null .null :: F) (fun r M' => (r = (some (.ref eA0)) ∧ M' = (nQ pA0 pA1 pA4 0 kA0 .null :: nR pA1 pA2 pA3 0 1 :: nK pA2 kA1 kA2 kA3 kA4 kA5 kA6 :: nE pA3 .null .null .null .null .null .null :: nH pA4 pA5 pA6 0 :: nK pA5 kA7 kA8 kA9 kA10 kA11 kA12 :: nE pA6 .null .null .null .null .null .null :: F))) := by
  refine Met.of_go pn_11 (Ls := #[.val (.ref pA0), .unset, .unset]) (fun m => rfl) ?_
  intro E C
  refine Go.aloadN C d9_0 rfl rfl rfl ?_
  refine Go.gf C (wd hw 59 rfl) 0 2 rfl rfl d9_1 rfl ?_
  refine Go.ifYes C d9_4 (by decide) (q := 75) rfl (XT.i0_eq_t (by decide)) ?_
  refine Go.aloadN C d9_75 rfl rfl rfl ?_
  refine Go.gf C (wd hw 59 rfl) 0 2 rfl rfl d9_76 rfl ?_
  refine Go.ifYes C d9_79 (by decide) (q := 94) rfl (XT.i0_eq_t (by decide)) ?_
  refine Go.aloadN C d9_94 rfl rfl rfl ?_
  refine Go.gf C (wd hw 45 rfl) 0 1 rfl rfl d9_95 rfl ?_
  refine Go.gv C (wd hw 106 rfl) (wd hw 107 rfl) 4 2 rfl rfl d9_98 rfl ?_
  refine Go.ifYes C d9_101 (by decide) (q := 142) rfl (XT.i0_eq_t (by decide)) ?_
  refine Go.aloadN C d9_142 rfl rfl rfl ?_
  refine Go.gf C (wd hw 34 rfl) 0 0 rfl rfl d9_143 rfl ?_
  refine Go.pick (M' := (nR pA1 pA2 pA3 1 0 :: nK pA2 kA1 kA2 kA3 kA4 kA5 kA6 :: nE pA3 (.ref eA0) .null .null .null .null .null :: nQ pA0 pA1 pA4 0 kA0 .null :: nH pA4 pA5 pA6 0 :: nK pA5 kA7 kA8 kA9 kA10 kA11 kA12 :: nE pA6 .null .null .null .null .null .null :: F)) 7 [1, 2, 3, 0, 4, 5, 6] (by decide) (by decide) rfl ?_
  refine Go.callPR C (y := yN13) (a := pA1) (as := []) (rest := []) (wd hw 159 rfl) (wd hw 160 rfl) (sel_priv (y := yN13) (wd hw 17 rfl) (wd hw 160 rfl) (wd hw 161 rfl) (by decide)) (wd hw 161 rfl) (wd hw 162 rfl) (wd hw 18 rfl) (fun _ r => r.exa 0 rfl) (u_SequenceQueue_Run_poll_61 l Z a0 hw _ pA1 pA2 pA3 eA0 kA1 kA2 kA3 kA4 kA5 kA6 hE_eA0) rfl d9_146 (q := 149) rfl (by decide) rfl (na := 0) (by decide +kernel) rfl (by decide) (W := 0) rfl (by decide) (by decide) (by decide) (k' := 0) (n' := 0) rfl rfl ?_
  rintro _ _ ⟨rfl, rfl⟩
  show Go _ _ _ _ _ _ _ _ _ _ [(.ref eA0)]
  refine Go.astoreN C d9_149 rfl rfl (Ls' := #[.val (.ref pA0), .val (.ref eA0), .unset]) rfl ?_
  refine Go.goto C d9_150 (by decide) (q := 161) rfl ?_
  refine Go.aloadN C d9_161 rfl rfl rfl ?_
  refine Go.iconst C d9_162 rfl (v := (0 : Int32)) rfl ?_
  refine Go.pf C (wd hw 59 rfl) Via.refl 3 2 rfl rfl (wd hw 60 rfl) (wd hw 8 rfl) (ty := .boolean) (by decide) rfl rfl d9_163 rfl (M' := (nR pA1 pA2 pA3 0 1 :: nK pA2 kA1 kA2 kA3 kA4 kA5 kA6 :: nE pA3 .null .null .null .null .null .null :: nQ pA0 pA1 pA4 0 kA0 .null :: nH pA4 pA5 pA6 0 :: nK pA5 kA7 kA8 kA9 kA10 kA11 kA12 :: nE pA6 .null .null .null .null .null .null :: F)) rfl ?_
  refine Go.aloadN C d9_166 rfl rfl rfl ?_
  refine Go.aconstNull C d9_167 rfl ?_
  refine Go.pf C (wd hw 63 rfl) Via.refl 3 4 rfl rfl (wd hw 64 rfl) (wd hw 8 rfl) (ty := (.object "java/lang/Object")) (by decide) rfl rfl d9_168 rfl (M' := (nR pA1 pA2 pA3 0 1 :: nK pA2 kA1 kA2 kA3 kA4 kA5 kA6 :: nE pA3 .null .null .null .null .null .null :: nQ pA0 pA1 pA4 0 kA0 .null :: nH pA4 pA5 pA6 0 :: nK pA5 kA7 kA8 kA9 kA10 kA11 kA12 :: nE pA6 .null .null .null .null .null .null :: F)) rfl ?_
  refine Go.aloadN C d9_171 rfl rfl rfl ?_
  refine Go.astoreN C d9_172 rfl rfl (Ls' := #[.val (.ref pA0), .val (.ref eA0), .val (.ref eA0)]) rfl ?_
  refine Go.aloadN C d9_173 rfl rfl rfl ?_
  refine Go.pick (M' := (nQ pA0 pA1 pA4 0 kA0 .null :: nR pA1 pA2 pA3 0 1 :: nK pA2 kA1 kA2 kA3 kA4 kA5 kA6 :: nE pA3 .null .null .null .null .null .null :: nH pA4 pA5 pA6 0 :: nK pA5 kA7 kA8 kA9 kA10 kA11 kA12 :: nE pA6 .null .null .null .null .null .null :: F)) 7 [3, 0, 1, 2, 4, 5, 6] (by decide) (by decide) rfl ?_
  refine Go.retA C rfl rfl rfl d9_174 (by decide) (by decide) ?_
  exact ⟨rfl, rfl⟩
theorem u_SequenceQueue_poll_142 (l : Launch) (Z : State) (a0 : Array Value) (hw : HW Z a0) (F : List Ent) (pA0 pA1 pA2 pA3 pA4 pA5 pA6 eA0 eA1 : Addr) (kA0 kA1 kA2 kA3 kA4 kA5 kA6 kA7 kA8 kA9 kA10 kA11 kA12 : Int64) (hE_eA0 : XI Z eA0) (hE_eA1 : XI Z eA1) :
    Met l Z yN15 prog_20_method_3_code 3 (some (.object "java/lang/Object")) { frames := 3, cells := 0, slots := 0, locals := 45 } #[(.ref pA0)] (nQ pA0 pA1 pA4 0 kA0 .null :: nR pA1 pA2 pA3 1 0 :: nK pA2 kA1 kA2 kA3 kA4 kA5 kA6 :: nE pA3 (.ref eA0) .null .null .null .null .null :: nH pA4 pA5 pA6 1 :: nK pA5 kA7 kA8 kA9 kA10 kA11 kA12 :: nE pA6 (.ref eA1) .null .null .null .null .null :: F) (fun r M' => ((kA7 < kA1) ∧ r = (some (.ref eA1)) ∧ M' = (nQ pA0 pA1 pA4 0 kA0 .null :: nR pA1 pA2 pA3 1 0 :: nK pA2 kA1 kA2 kA3 kA4 kA5 kA6 :: nE pA3 (.ref eA0) .null .null .null .null .null :: nH pA4 pA5 pA6 0 :: nK pA5 kA7 kA8 kA9 kA10 kA11 kA12 :: nE pA6 .null .null .null .null .null .null :: F)) ∨ ((¬ kA7 < kA1) ∧ r = (some (.ref eA0)) ∧ M' = (nQ pA0 pA1 pA4 0 kA0 .null :: nR pA1 pA2 pA3 0 1 :: nK pA2 kA1 kA2 kA3 kA4 kA5 kA6 :: nE pA3 .null .null .null .null .null .null :: nH pA4 pA5 pA6 1 :: nK pA5 kA7 kA8 kA9 kA10 kA11 kA12 :: nE pA6 (.ref eA1) .null .null .null .null .null :: F))) := by
  refine Met.of_go pn_11 (Ls := #[.val (.ref pA0), .unset, .unset]) (fun m => rfl) ?_
  intro E C
  refine Go.aloadN C d9_0 rfl rfl rfl ?_
  refine Go.gf C (wd hw 59 rfl) 0 2 rfl rfl d9_1 rfl ?_
  refine Go.ifYes C d9_4 (by decide) (q := 75) rfl (XT.i0_eq_t (by decide)) ?_
  refine Go.aloadN C d9_75 rfl rfl rfl ?_
  refine Go.gf C (wd hw 59 rfl) 0 2 rfl rfl d9_76 rfl ?_
  refine Go.ifYes C d9_79 (by decide) (q := 94) rfl (XT.i0_eq_t (by decide)) ?_
  refine Go.aloadN C d9_94 rfl rfl rfl ?_
  refine Go.gf C (wd hw 45 rfl) 0 1 rfl rfl d9_95 rfl ?_
  refine Go.gv C (wd hw 106 rfl) (wd hw 107 rfl) 4 2 rfl rfl d9_98 rfl ?_
  refine Go.ifNo C d9_101 (q := 104) rfl (XT.i0_eq_f (by decide)) ?_
  refine Go.aloadN C d9_104 rfl rfl rfl ?_
  refine Go.gf C (wd hw 34 rfl) 0 0 rfl rfl d9_105 rfl ?_
  refine Go.gv C (wd hw 69 rfl) (wd hw 70 rfl) 1 2 rfl rfl d9_108 rfl ?_
  refine Go.ifNo C d9_111 (q := 114) rfl (XT.i0_le_f (by decide)) ?_
  refine Go.aloadN C d9_114 rfl rfl rfl ?_
  refine Go.gf C (wd hw 34 rfl) 0 0 rfl rfl d9_115 rfl ?_
  refine Go.gv C (wd hw 101 rfl) (wd hw 91 rfl) 1 0 rfl rfl d9_118 rfl ?_
  refine Go.aloadN C d9_121 rfl rfl rfl ?_
  refine Go.gf C (wd hw 34 rfl) 0 0 rfl rfl d9_122 rfl ?_
  refine Go.getR C (wd hw 102 rfl) (fun _ r => r.fld 1 3 rfl rfl) d9_125 (q := 128) rfl ?_
  refine Go.laload C (fun _ r => r.arr 2 rfl) (by decide) (v := (.long kA1)) rfl d9_128 (q := 129) rfl ?_
  refine Go.aloadN C d9_129 rfl rfl rfl ?_
  refine Go.gf C (wd hw 45 rfl) 0 1 rfl rfl d9_130 rfl ?_
  refine Go.gv C (wd hw 134 rfl) (wd hw 128 rfl) 4 0 rfl rfl d9_133 rfl ?_
  refine Go.iconst C d9_136 rfl (v := (0 : Int32)) rfl ?_
  refine Go.laload C (fun _ r => r.arr 5 rfl) (by decide) (v := (.long kA7)) rfl d9_137 (q := 138) rfl ?_
  refine Go.lcmpif C d9_138 rfl d9_139 (by decide) (q := 153) rfl (q' := 142) rfl (fun (h138_1 : kA7 < kA1) => ?_) (fun (h138_1 : ¬ kA7 < kA1) => ?_)
  · refine Go.aloadN C d9_153 rfl rfl rfl ?_
    refine Go.gf C (wd hw 45 rfl) 0 1 rfl rfl d9_154 rfl ?_
    refine Go.pick (M' := (nH pA4 pA5 pA6 1 :: nK pA5 kA7 kA8 kA9 kA10 kA11 kA12 :: nE pA6 (.ref eA1) .null .null .null .null .null :: nQ pA0 pA1 pA4 0 kA0 .null :: nR pA1 pA2 pA3 1 0 :: nK pA2 kA1 kA2 kA3 kA4 kA5 kA6 :: nE pA3 (.ref eA0) .null .null .null .null .null :: F)) 7 [4, 5, 6, 0, 1, 2, 3] (by decide) (by decide) rfl ?_
    refine Go.callPR C (y := yN11) (a := pA4) (as := []) (rest := []) (wd hw 140 rfl) (wd hw 141 rfl) (sel_priv (y := yN11) (wd hw 37 rfl) (wd hw 141 rfl) (wd hw 142 rfl) (by decide)) (wd hw 142 rfl) (wd hw 143 rfl) (wd hw 38 rfl) (fun _ r => r.exa 0 rfl) (u_SequenceQueue_Heap_poll_52 l Z a0 hw _ pA4 pA5 pA6 eA1 kA7 kA8 kA9 kA10 kA11 kA12 hE_eA1) rfl d9_157 (q := 160) rfl (by decide) rfl (na := 0) (by decide +kernel) rfl (by decide) (W := 0) rfl (by decide) (by decide) (by decide) (k' := 0) (n' := 0) rfl rfl ?_
    rintro _ _ ⟨rfl, rfl⟩
    show Go _ _ _ _ _ _ _ _ _ _ [(.ref eA1)]
    refine Go.astoreN C d9_160 rfl rfl (Ls' := #[.val (.ref pA0), .val (.ref eA1), .unset]) rfl ?_
    refine Go.aloadN C d9_161 rfl rfl rfl ?_
    refine Go.iconst C d9_162 rfl (v := (0 : Int32)) rfl ?_
    refine Go.pf C (wd hw 59 rfl) Via.refl 3 2 rfl rfl (wd hw 60 rfl) (wd hw 8 rfl) (ty := .boolean) (by decide) rfl rfl d9_163 rfl (M' := (nH pA4 pA5 pA6 0 :: nK pA5 kA7 kA8 kA9 kA10 kA11 kA12 :: nE pA6 .null .null .null .null .null .null :: nQ pA0 pA1 pA4 0 kA0 .null :: nR pA1 pA2 pA3 1 0 :: nK pA2 kA1 kA2 kA3 kA4 kA5 kA6 :: nE pA3 (.ref eA0) .null .null .null .null .null :: F)) rfl ?_
    refine Go.aloadN C d9_166 rfl rfl rfl ?_
    refine Go.aconstNull C d9_167 rfl ?_
    refine Go.pf C (wd hw 63 rfl) Via.refl 3 4 rfl rfl (wd hw 64 rfl) (wd hw 8 rfl) (ty := (.object "java/lang/Object")) (by decide) rfl rfl d9_168 rfl (M' := (nH pA4 pA5 pA6 0 :: nK pA5 kA7 kA8 kA9 kA10 kA11 kA12 :: nE pA6 .null .null .null .null .null .null :: nQ pA0 pA1 pA4 0 kA0 .null :: nR pA1 pA2 pA3 1 0 :: nK pA2 kA1 kA2 kA3 kA4 kA5 kA6 :: nE pA3 (.ref eA0) .null .null .null .null .null :: F)) rfl ?_
    refine Go.aloadN C d9_171 rfl rfl rfl ?_
    refine Go.astoreN C d9_172 rfl rfl (Ls' := #[.val (.ref pA0), .val (.ref eA1), .val (.ref eA1)]) rfl ?_
    refine Go.aloadN C d9_173 rfl rfl rfl ?_
    refine Go.pick (M' := (nQ pA0 pA1 pA4 0 kA0 .null :: nR pA1 pA2 pA3 1 0 :: nK pA2 kA1 kA2 kA3 kA4 kA5 kA6 :: nE pA3 (.ref eA0) .null .null .null .null .null :: nH pA4 pA5 pA6 0 :: nK pA5 kA7 kA8 kA9 kA10 kA11 kA12 :: nE pA6 .null .null .null .null .null .null :: F)) 7 [3, 4, 5, 6, 0, 1, 2] (by decide) (by decide) rfl ?_
    refine Go.retA C rfl rfl rfl d9_174 (by decide) (by decide) ?_
    exact Or.inl ⟨h138_1, rfl, rfl⟩
  · refine Go.aloadN C d9_142 rfl rfl rfl ?_
    refine Go.gf C (wd hw 34 rfl) 0 0 rfl rfl d9_143 rfl ?_
    refine Go.pick (M' := (nR pA1 pA2 pA3 1 0 :: nK pA2 kA1 kA2 kA3 kA4 kA5 kA6 :: nE pA3 (.ref eA0) .null .null .null .null .null :: nQ pA0 pA1 pA4 0 kA0 .null :: nH pA4 pA5 pA6 1 :: nK pA5 kA7 kA8 kA9 kA10 kA11 kA12 :: nE pA6 (.ref eA1) .null .null .null .null .null :: F)) 7 [1, 2, 3, 0, 4, 5, 6] (by decide) (by decide) rfl ?_
    refine Go.callPR C (y := yN13) (a := pA1) (as := []) (rest := []) (wd hw 159 rfl) (wd hw 160 rfl) (sel_priv (y := yN13) (wd hw 17 rfl) (wd hw 160 rfl) (wd hw 161 rfl) (by decide)) (wd hw 161 rfl) (wd hw 162 rfl) (wd hw 18 rfl) (fun _ r => r.exa 0 rfl) (u_SequenceQueue_Run_poll_61 l Z a0 hw _ pA1 pA2 pA3 eA0 kA1 kA2 kA3 kA4 kA5 kA6 hE_eA0) rfl d9_146 (q := 149) rfl (by decide) rfl (na := 0) (by decide +kernel) rfl (by decide) (W := 0) rfl (by decide) (by decide) (by decide) (k' := 0) (n' := 0) rfl rfl ?_
    rintro _ _ ⟨rfl, rfl⟩
    show Go _ _ _ _ _ _ _ _ _ _ [(.ref eA0)]
    refine Go.astoreN C d9_149 rfl rfl (Ls' := #[.val (.ref pA0), .val (.ref eA0), .unset]) rfl ?_
    refine Go.goto C d9_150 (by decide) (q := 161) rfl ?_
    refine Go.aloadN C d9_161 rfl rfl rfl ?_
    refine Go.iconst C d9_162 rfl (v := (0 : Int32)) rfl ?_
    refine Go.pf C (wd hw 59 rfl) Via.refl 3 2 rfl rfl (wd hw 60 rfl) (wd hw 8 rfl) (ty := .boolean) (by decide) rfl rfl d9_163 rfl (M' := (nR pA1 pA2 pA3 0 1 :: nK pA2 kA1 kA2 kA3 kA4 kA5 kA6 :: nE pA3 .null .null .null .null .null .null :: nQ pA0 pA1 pA4 0 kA0 .null :: nH pA4 pA5 pA6 1 :: nK pA5 kA7 kA8 kA9 kA10 kA11 kA12 :: nE pA6 (.ref eA1) .null .null .null .null .null :: F)) rfl ?_
    refine Go.aloadN C d9_166 rfl rfl rfl ?_
    refine Go.aconstNull C d9_167 rfl ?_
    refine Go.pf C (wd hw 63 rfl) Via.refl 3 4 rfl rfl (wd hw 64 rfl) (wd hw 8 rfl) (ty := (.object "java/lang/Object")) (by decide) rfl rfl d9_168 rfl (M' := (nR pA1 pA2 pA3 0 1 :: nK pA2 kA1 kA2 kA3 kA4 kA5 kA6 :: nE pA3 .null .null .null .null .null .null :: nQ pA0 pA1 pA4 0 kA0 .null :: nH pA4 pA5 pA6 1 :: nK pA5 kA7 kA8 kA9 kA10 kA11 kA12 :: nE pA6 (.ref eA1) .null .null .null .null .null :: F)) rfl ?_
    refine Go.aloadN C d9_171 rfl rfl rfl ?_
    refine Go.astoreN C d9_172 rfl rfl (Ls' := #[.val (.ref pA0), .val (.ref eA0), .val (.ref eA0)]) rfl ?_
    refine Go.aloadN C d9_173 rfl rfl rfl ?_
    refine Go.pick (M' := (nQ pA0 pA1 pA4 0 kA0 .null :: nR pA1 pA2 pA3 0 1 :: nK pA2 kA1 kA2 kA3 kA4 kA5 kA6 :: nE pA3 .null .null .null .null .null .null :: nH pA4 pA5 pA6 1 :: nK pA5 kA7 kA8 kA9 kA10 kA11 kA12 :: nE pA6 (.ref eA1) .null .null .null .null .null :: F)) 7 [3, 0, 1, 2, 4, 5, 6] (by decide) (by decide) rfl ?_
    refine Go.retA C rfl rfl rfl d9_174 (by decide) (by decide) ?_
    exact Or.inr (⟨h138_1, rfl, rfl⟩)
theorem u_SequenceQueue_poll_144 (l : Launch) (Z : State) (a0 : Array Value) (hw : HW Z a0) (F : List Ent) (pA0 pA1 pA2 pA3 pA4 pA5 pA6 eA0 eA1 eA2 : Addr) (kA0 kA1 kA2 kA3 kA4 kA5 kA6 kA7 kA8 kA9 kA10 kA11 kA12 : Int64) (hE_eA0 : XI Z eA0) (hE_eA1 : XI Z eA1) (hE_eA2 : XI Z eA2) (hK0 : ¬ kA8 < kA7) :
    Met l Z yN15 prog_20_method_3_code 3 (some (.object "java/lang/Object")) { frames := 3, cells := 0, slots := 0, locals := 45 } #[(.ref pA0)] (nQ pA0 pA1 pA4 0 kA0 .null :: nR pA1 pA2 pA3 1 0 :: nK pA2 kA1 kA2 kA3 kA4 kA5 kA6 :: nE pA3 (.ref eA0) .null .null .null .null .null :: nH pA4 pA5 pA6 2 :: nK pA5 kA7 kA8 kA9 kA10 kA11 kA12 :: nE pA6 (.ref eA1) (.ref eA2) .null .null .null .null :: F) (fun r M' => ((kA7 < kA1) ∧ r = (some (.ref eA1)) ∧ M' = (nQ pA0 pA1 pA4 0 kA0 .null :: nR pA1 pA2 pA3 1 0 :: nK pA2 kA1 kA2 kA3 kA4 kA5 kA6 :: nE pA3 (.ref eA0) .null .null .null .null .null :: nH pA4 pA5 pA6 1 :: nK pA5 kA8 kA8 kA9 kA10 kA11 kA12 :: nE pA6 (.ref eA2) .null .null .null .null .null :: F)) ∨ ((¬ kA7 < kA1) ∧ r = (some (.ref eA0)) ∧ M' = (nQ pA0 pA1 pA4 0 kA0 .null :: nR pA1 pA2 pA3 0 1 :: nK pA2 kA1 kA2 kA3 kA4 kA5 kA6 :: nE pA3 .null .null .null .null .null .null :: nH pA4 pA5 pA6 2 :: nK pA5 kA7 kA8 kA9 kA10 kA11 kA12 :: nE pA6 (.ref eA1) (.ref eA2) .null .null .null .null :: F))) := by
  refine Met.of_go pn_11 (Ls := #[.val (.ref pA0), .unset, .unset]) (fun m => rfl) ?_
  intro E C
  refine Go.aloadN C d9_0 rfl rfl rfl ?_
  refine Go.gf C (wd hw 59 rfl) 0 2 rfl rfl d9_1 rfl ?_
  refine Go.ifYes C d9_4 (by decide) (q := 75) rfl (XT.i0_eq_t (by decide)) ?_
  refine Go.aloadN C d9_75 rfl rfl rfl ?_
  refine Go.gf C (wd hw 59 rfl) 0 2 rfl rfl d9_76 rfl ?_
  refine Go.ifYes C d9_79 (by decide) (q := 94) rfl (XT.i0_eq_t (by decide)) ?_
  refine Go.aloadN C d9_94 rfl rfl rfl ?_
  refine Go.gf C (wd hw 45 rfl) 0 1 rfl rfl d9_95 rfl ?_
  refine Go.gv C (wd hw 106 rfl) (wd hw 107 rfl) 4 2 rfl rfl d9_98 rfl ?_
  refine Go.ifNo C d9_101 (q := 104) rfl (XT.i0_eq_f (by decide)) ?_
  refine Go.aloadN C d9_104 rfl rfl rfl ?_
  refine Go.gf C (wd hw 34 rfl) 0 0 rfl rfl d9_105 rfl ?_
  refine Go.gv C (wd hw 69 rfl) (wd hw 70 rfl) 1 2 rfl rfl d9_108 rfl ?_
  refine Go.ifNo C d9_111 (q := 114) rfl (XT.i0_le_f (by decide)) ?_
  refine Go.aloadN C d9_114 rfl rfl rfl ?_
  refine Go.gf C (wd hw 34 rfl) 0 0 rfl rfl d9_115 rfl ?_
  refine Go.gv C (wd hw 101 rfl) (wd hw 91 rfl) 1 0 rfl rfl d9_118 rfl ?_
  refine Go.aloadN C d9_121 rfl rfl rfl ?_
  refine Go.gf C (wd hw 34 rfl) 0 0 rfl rfl d9_122 rfl ?_
  refine Go.getR C (wd hw 102 rfl) (fun _ r => r.fld 1 3 rfl rfl) d9_125 (q := 128) rfl ?_
  refine Go.laload C (fun _ r => r.arr 2 rfl) (by decide) (v := (.long kA1)) rfl d9_128 (q := 129) rfl ?_
  refine Go.aloadN C d9_129 rfl rfl rfl ?_
  refine Go.gf C (wd hw 45 rfl) 0 1 rfl rfl d9_130 rfl ?_
  refine Go.gv C (wd hw 134 rfl) (wd hw 128 rfl) 4 0 rfl rfl d9_133 rfl ?_
  refine Go.iconst C d9_136 rfl (v := (0 : Int32)) rfl ?_
  refine Go.laload C (fun _ r => r.arr 5 rfl) (by decide) (v := (.long kA7)) rfl d9_137 (q := 138) rfl ?_
  refine Go.lcmpif C d9_138 rfl d9_139 (by decide) (q := 153) rfl (q' := 142) rfl (fun (h138_1 : kA7 < kA1) => ?_) (fun (h138_1 : ¬ kA7 < kA1) => ?_)
  · refine Go.aloadN C d9_153 rfl rfl rfl ?_
    refine Go.gf C (wd hw 45 rfl) 0 1 rfl rfl d9_154 rfl ?_
    refine Go.pick (M' := (nH pA4 pA5 pA6 2 :: nK pA5 kA7 kA8 kA9 kA10 kA11 kA12 :: nE pA6 (.ref eA1) (.ref eA2) .null .null .null .null :: nQ pA0 pA1 pA4 0 kA0 .null :: nR pA1 pA2 pA3 1 0 :: nK pA2 kA1 kA2 kA3 kA4 kA5 kA6 :: nE pA3 (.ref eA0) .null .null .null .null .null :: F)) 7 [4, 5, 6, 0, 1, 2, 3] (by decide) (by decide) rfl ?_
    refine Go.callPR C (y := yN11) (a := pA4) (as := []) (rest := []) (wd hw 140 rfl) (wd hw 141 rfl) (sel_priv (y := yN11) (wd hw 37 rfl) (wd hw 141 rfl) (wd hw 142 rfl) (by decide)) (wd hw 142 rfl) (wd hw 143 rfl) (wd hw 38 rfl) (fun _ r => r.exa 0 rfl) (u_SequenceQueue_Heap_poll_55 l Z a0 hw _ pA4 pA5 pA6 eA1 eA2 kA7 kA8 kA9 kA10 kA11 kA12 hE_eA1 hE_eA2) rfl d9_157 (q := 160) rfl (by decide) rfl (na := 0) (by decide +kernel) rfl (by decide) (W := 0) rfl (by decide) (by decide) (by decide) (k' := 0) (n' := 0) rfl rfl ?_
    rintro _ _ ⟨rfl, rfl⟩
    show Go _ _ _ _ _ _ _ _ _ _ [(.ref eA1)]
    refine Go.astoreN C d9_160 rfl rfl (Ls' := #[.val (.ref pA0), .val (.ref eA1), .unset]) rfl ?_
    refine Go.aloadN C d9_161 rfl rfl rfl ?_
    refine Go.iconst C d9_162 rfl (v := (0 : Int32)) rfl ?_
    refine Go.pf C (wd hw 59 rfl) Via.refl 3 2 rfl rfl (wd hw 60 rfl) (wd hw 8 rfl) (ty := .boolean) (by decide) rfl rfl d9_163 rfl (M' := (nH pA4 pA5 pA6 1 :: nK pA5 kA8 kA8 kA9 kA10 kA11 kA12 :: nE pA6 (.ref eA2) .null .null .null .null .null :: nQ pA0 pA1 pA4 0 kA0 .null :: nR pA1 pA2 pA3 1 0 :: nK pA2 kA1 kA2 kA3 kA4 kA5 kA6 :: nE pA3 (.ref eA0) .null .null .null .null .null :: F)) rfl ?_
    refine Go.aloadN C d9_166 rfl rfl rfl ?_
    refine Go.aconstNull C d9_167 rfl ?_
    refine Go.pf C (wd hw 63 rfl) Via.refl 3 4 rfl rfl (wd hw 64 rfl) (wd hw 8 rfl) (ty := (.object "java/lang/Object")) (by decide) rfl rfl d9_168 rfl (M' := (nH pA4 pA5 pA6 1 :: nK pA5 kA8 kA8 kA9 kA10 kA11 kA12 :: nE pA6 (.ref eA2) .null .null .null .null .null :: nQ pA0 pA1 pA4 0 kA0 .null :: nR pA1 pA2 pA3 1 0 :: nK pA2 kA1 kA2 kA3 kA4 kA5 kA6 :: nE pA3 (.ref eA0) .null .null .null .null .null :: F)) rfl ?_
    refine Go.aloadN C d9_171 rfl rfl rfl ?_
    refine Go.astoreN C d9_172 rfl rfl (Ls' := #[.val (.ref pA0), .val (.ref eA1), .val (.ref eA1)]) rfl ?_
    refine Go.aloadN C d9_173 rfl rfl rfl ?_
    refine Go.pick (M' := (nQ pA0 pA1 pA4 0 kA0 .null :: nR pA1 pA2 pA3 1 0 :: nK pA2 kA1 kA2 kA3 kA4 kA5 kA6 :: nE pA3 (.ref eA0) .null .null .null .null .null :: nH pA4 pA5 pA6 1 :: nK pA5 kA8 kA8 kA9 kA10 kA11 kA12 :: nE pA6 (.ref eA2) .null .null .null .null .null :: F)) 7 [3, 4, 5, 6, 0, 1, 2] (by decide) (by decide) rfl ?_
    refine Go.retA C rfl rfl rfl d9_174 (by decide) (by decide) ?_
    exact Or.inl ⟨h138_1, rfl, rfl⟩
  · refine Go.aloadN C d9_142 rfl rfl rfl ?_
    refine Go.gf C (wd hw 34 rfl) 0 0 rfl rfl d9_143 rfl ?_
    refine Go.pick (M' := (nR pA1 pA2 pA3 1 0 :: nK pA2 kA1 kA2 kA3 kA4 kA5 kA6 :: nE pA3 (.ref eA0) .null .null .null .null .null :: nQ pA0 pA1 pA4 0 kA0 .null :: nH pA4 pA5 pA6 2 :: nK pA5 kA7 kA8 kA9 kA10 kA11 kA12 :: nE pA6 (.ref eA1) (.ref eA2) .null .null .null .null :: F)) 7 [1, 2, 3, 0, 4, 5, 6] (by decide) (by decide) rfl ?_
    refine Go.callPR C (y := yN13) (a := pA1) (as := []) (rest := []) (wd hw 159 rfl) (wd hw 160 rfl) (sel_priv (y := yN13) (wd hw 17 rfl) (wd hw 160 rfl) (wd hw 161 rfl) (by decide)) (wd hw 161 rfl) (wd hw 162 rfl) (wd hw 18 rfl) (fun _ r => r.exa 0 rfl) (u_SequenceQueue_Run_poll_61 l Z a0 hw _ pA1 pA2 pA3 eA0 kA1 kA2 kA3 kA4 kA5 kA6 hE_eA0) rfl d9_146 (q := 149) rfl (by decide) rfl (na := 0) (by decide +kernel) rfl (by decide) (W := 0) rfl (by decide) (by decide) (by decide) (k' := 0) (n' := 0) rfl rfl ?_
    rintro _ _ ⟨rfl, rfl⟩
    show Go _ _ _ _ _ _ _ _ _ _ [(.ref eA0)]
    refine Go.astoreN C d9_149 rfl rfl (Ls' := #[.val (.ref pA0), .val (.ref eA0), .unset]) rfl ?_
    refine Go.goto C d9_150 (by decide) (q := 161) rfl ?_
    refine Go.aloadN C d9_161 rfl rfl rfl ?_
    refine Go.iconst C d9_162 rfl (v := (0 : Int32)) rfl ?_
    refine Go.pf C (wd hw 59 rfl) Via.refl 3 2 rfl rfl (wd hw 60 rfl) (wd hw 8 rfl) (ty := .boolean) (by decide) rfl rfl d9_163 rfl (M' := (nR pA1 pA2 pA3 0 1 :: nK pA2 kA1 kA2 kA3 kA4 kA5 kA6 :: nE pA3 .null .null .null .null .null .null :: nQ pA0 pA1 pA4 0 kA0 .null :: nH pA4 pA5 pA6 2 :: nK pA5 kA7 kA8 kA9 kA10 kA11 kA12 :: nE pA6 (.ref eA1) (.ref eA2) .null .null .null .null :: F)) rfl ?_
    refine Go.aloadN C d9_166 rfl rfl rfl ?_
    refine Go.aconstNull C d9_167 rfl ?_
    refine Go.pf C (wd hw 63 rfl) Via.refl 3 4 rfl rfl (wd hw 64 rfl) (wd hw 8 rfl) (ty := (.object "java/lang/Object")) (by decide) rfl rfl d9_168 rfl (M' := (nR pA1 pA2 pA3 0 1 :: nK pA2 kA1 kA2 kA3 kA4 kA5 kA6 :: nE pA3 .null .null .null .null .null .null :: nQ pA0 pA1 pA4 0 kA0 .null :: nH pA4 pA5 pA6 2 :: nK pA5 kA7 kA8 kA9 kA10 kA11 kA12 :: nE pA6 (.ref eA1) (.ref eA2) .null .null .null .null :: F)) rfl ?_
    refine Go.aloadN C d9_171 rfl rfl rfl ?_
    refine Go.astoreN C d9_172 rfl rfl (Ls' := #[.val (.ref pA0), .val (.ref eA0), .val (.ref eA0)]) rfl ?_
    refine Go.aloadN C d9_173 rfl rfl rfl ?_
    refine Go.pick (M' := (nQ pA0 pA1 pA4 0 kA0 .null :: nR pA1 pA2 pA3 0 1 :: nK pA2 kA1 kA2 kA3 kA4 kA5 kA6 :: nE pA3 .null .null .null .null .null .null :: nH pA4 pA5 pA6 2 :: nK pA5 kA7 kA8 kA9 kA10 kA11 kA12 :: nE pA6 (.ref eA1) (.ref eA2) .null .null .null .null :: F)) 7 [3, 0, 1, 2, 4, 5, 6] (by decide) (by decide) rfl ?_
    refine Go.retA C rfl rfl rfl d9_174 (by decide) (by decide) ?_
    exact Or.inr (⟨h138_1, rfl, rfl⟩)
theorem u_SequenceQueue_poll_146 (l : Launch) (Z : State) (a0 : Array Value) (hw : HW Z a0) (F : List Ent) (pA0 pA1 pA2 pA3 pA4 pA5 pA6 eA0 : Addr) (kA0 kA1 kA2 kA3 kA4 kA5 kA6 kA7 kA8 kA9 kA10 kA11 kA12 : Int64) (hE_eA0 : XI Z eA0) :
    Met l Z yN15 prog_20_method_3_code 3 (some (.object "java/lang/Object")) { frames := 3, cells := 0, slots := 0, locals := 45 } #[(.ref pA0)] (nQ pA0 pA1 pA4 0 kA0 .null :: nR pA1 pA2 pA3 1 1 :: nK pA2 kA1 kA2 kA3 kA4 kA5 kA6 :: nE pA3 .null (.ref eA0) .null .null .null .null :: nH pA4 pA5 pA6 0 :: nK pA5 kA7 kA8 kA9 kA10 kA11 kA12 :: nE pA6 .null .null .null .null .null .null :: F) (fun r M' => (r = (some (.ref eA0)) ∧ M' = (nQ pA0 pA1 pA4 0 kA0 .null :: nR pA1 pA2 pA3 0 2 :: nK pA2 kA1 kA2 kA3 kA4 kA5 kA6 :: nE pA3 .null .null .null .null .null .null :: nH pA4 pA5 pA6 0 :: nK pA5 kA7 kA8 kA9 kA10 kA11 kA12 :: nE pA6 .null .null .null .null .null .null :: F))) := by
  refine Met.of_go pn_11 (Ls := #[.val (.ref pA0), .unset, .unset]) (fun m => rfl) ?_
  intro E C
  refine Go.aloadN C d9_0 rfl rfl rfl ?_
  refine Go.gf C (wd hw 59 rfl) 0 2 rfl rfl d9_1 rfl ?_
  refine Go.ifYes C d9_4 (by decide) (q := 75) rfl (XT.i0_eq_t (by decide)) ?_
  refine Go.aloadN C d9_75 rfl rfl rfl ?_
  refine Go.gf C (wd hw 59 rfl) 0 2 rfl rfl d9_76 rfl ?_
  refine Go.ifYes C d9_79 (by decide) (q := 94) rfl (XT.i0_eq_t (by decide)) ?_
  refine Go.aloadN C d9_94 rfl rfl rfl ?_
  refine Go.gf C (wd hw 45 rfl) 0 1 rfl rfl d9_95 rfl ?_
  refine Go.gv C (wd hw 106 rfl) (wd hw 107 rfl) 4 2 rfl rfl d9_98 rfl ?_
  refine Go.ifYes C d9_101 (by decide) (q := 142) rfl (XT.i0_eq_t (by decide)) ?_
  refine Go.aloadN C d9_142 rfl rfl rfl ?_
  refine Go.gf C (wd hw 34 rfl) 0 0 rfl rfl d9_143 rfl ?_
  refine Go.pick (M' := (nR pA1 pA2 pA3 1 1 :: nK pA2 kA1 kA2 kA3 kA4 kA5 kA6 :: nE pA3 .null (.ref eA0) .null .null .null .null :: nQ pA0 pA1 pA4 0 kA0 .null :: nH pA4 pA5 pA6 0 :: nK pA5 kA7 kA8 kA9 kA10 kA11 kA12 :: nE pA6 .null .null .null .null .null .null :: F)) 7 [1, 2, 3, 0, 4, 5, 6] (by decide) (by decide) rfl ?_
  refine Go.callPR C (y := yN13) (a := pA1) (as := []) (rest := []) (wd hw 159 rfl) (wd hw 160 rfl) (sel_priv (y := yN13) (wd hw 17 rfl) (wd hw 160 rfl) (wd hw 161 rfl) (by decide)) (wd hw 161 rfl) (wd hw 162 rfl) (wd hw 18 rfl) (fun _ r => r.exa 0 rfl) (u_SequenceQueue_Run_poll_64 l Z a0 hw _ pA1 pA2 pA3 eA0 kA1 kA2 kA3 kA4 kA5 kA6 hE_eA0) rfl d9_146 (q := 149) rfl (by decide) rfl (na := 0) (by decide +kernel) rfl (by decide) (W := 0) rfl (by decide) (by decide) (by decide) (k' := 0) (n' := 0) rfl rfl ?_
  rintro _ _ ⟨rfl, rfl⟩
  show Go _ _ _ _ _ _ _ _ _ _ [(.ref eA0)]
  refine Go.astoreN C d9_149 rfl rfl (Ls' := #[.val (.ref pA0), .val (.ref eA0), .unset]) rfl ?_
  refine Go.goto C d9_150 (by decide) (q := 161) rfl ?_
  refine Go.aloadN C d9_161 rfl rfl rfl ?_
  refine Go.iconst C d9_162 rfl (v := (0 : Int32)) rfl ?_
  refine Go.pf C (wd hw 59 rfl) Via.refl 3 2 rfl rfl (wd hw 60 rfl) (wd hw 8 rfl) (ty := .boolean) (by decide) rfl rfl d9_163 rfl (M' := (nR pA1 pA2 pA3 0 2 :: nK pA2 kA1 kA2 kA3 kA4 kA5 kA6 :: nE pA3 .null .null .null .null .null .null :: nQ pA0 pA1 pA4 0 kA0 .null :: nH pA4 pA5 pA6 0 :: nK pA5 kA7 kA8 kA9 kA10 kA11 kA12 :: nE pA6 .null .null .null .null .null .null :: F)) rfl ?_
  refine Go.aloadN C d9_166 rfl rfl rfl ?_
  refine Go.aconstNull C d9_167 rfl ?_
  refine Go.pf C (wd hw 63 rfl) Via.refl 3 4 rfl rfl (wd hw 64 rfl) (wd hw 8 rfl) (ty := (.object "java/lang/Object")) (by decide) rfl rfl d9_168 rfl (M' := (nR pA1 pA2 pA3 0 2 :: nK pA2 kA1 kA2 kA3 kA4 kA5 kA6 :: nE pA3 .null .null .null .null .null .null :: nQ pA0 pA1 pA4 0 kA0 .null :: nH pA4 pA5 pA6 0 :: nK pA5 kA7 kA8 kA9 kA10 kA11 kA12 :: nE pA6 .null .null .null .null .null .null :: F)) rfl ?_
  refine Go.aloadN C d9_171 rfl rfl rfl ?_
  refine Go.astoreN C d9_172 rfl rfl (Ls' := #[.val (.ref pA0), .val (.ref eA0), .val (.ref eA0)]) rfl ?_
  refine Go.aloadN C d9_173 rfl rfl rfl ?_
  refine Go.pick (M' := (nQ pA0 pA1 pA4 0 kA0 .null :: nR pA1 pA2 pA3 0 2 :: nK pA2 kA1 kA2 kA3 kA4 kA5 kA6 :: nE pA3 .null .null .null .null .null .null :: nH pA4 pA5 pA6 0 :: nK pA5 kA7 kA8 kA9 kA10 kA11 kA12 :: nE pA6 .null .null .null .null .null .null :: F)) 7 [3, 0, 1, 2, 4, 5, 6] (by decide) (by decide) rfl ?_
  refine Go.retA C rfl rfl rfl d9_174 (by decide) (by decide) ?_
  exact ⟨rfl, rfl⟩
theorem u_SequenceQueue_poll_148 (l : Launch) (Z : State) (a0 : Array Value) (hw : HW Z a0) (F : List Ent) (pA0 pA1 pA2 pA3 pA4 pA5 pA6 eA0 eA1 : Addr) (kA0 kA1 kA2 kA3 kA4 kA5 kA6 kA7 kA8 kA9 kA10 kA11 kA12 : Int64) (hE_eA0 : XI Z eA0) (hE_eA1 : XI Z eA1) :
    Met l Z yN15 prog_20_method_3_code 3 (some (.object "java/lang/Object")) { frames := 3, cells := 0, slots := 0, locals := 45 } #[(.ref pA0)] (nQ pA0 pA1 pA4 0 kA0 .null :: nR pA1 pA2 pA3 1 1 :: nK pA2 kA1 kA2 kA3 kA4 kA5 kA6 :: nE pA3 .null (.ref eA0) .null .null .null .null :: nH pA4 pA5 pA6 1 :: nK pA5 kA7 kA8 kA9 kA10 kA11 kA12 :: nE pA6 (.ref eA1) .null .null .null .null .null :: F) (fun r M' => ((kA7 < kA2) ∧ r = (some (.ref eA1)) ∧ M' = (nQ pA0 pA1 pA4 0 kA0 .null :: nR pA1 pA2 pA3 1 1 :: nK pA2 kA1 kA2 kA3 kA4 kA5 kA6 :: nE pA3 .null (.ref eA0) .null .null .null .null :: nH pA4 pA5 pA6 0 :: nK pA5 kA7 kA8 kA9 kA10 kA11 kA12 :: nE pA6 .null .null .null .null .null .null :: F)) ∨ ((¬ kA7 < kA2) ∧ r = (some (.ref eA0)) ∧ M' = (nQ pA0 pA1 pA4 0 kA0 .null :: nR pA1 pA2 pA3 0 2 :: nK pA2 kA1 kA2 kA3 kA4 kA5 kA6 :: nE pA3 .null .null .null .null .null .null :: nH pA4 pA5 pA6 1 :: nK pA5 kA7 kA8 kA9 kA10 kA11 kA12 :: nE pA6 (.ref eA1) .null .null .null .null .null :: F))) := by
  refine Met.of_go pn_11 (Ls := #[.val (.ref pA0), .unset, .unset]) (fun m => rfl) ?_
  intro E C
  refine Go.aloadN C d9_0 rfl rfl rfl ?_
  refine Go.gf C (wd hw 59 rfl) 0 2 rfl rfl d9_1 rfl ?_
  refine Go.ifYes C d9_4 (by decide) (q := 75) rfl (XT.i0_eq_t (by decide)) ?_
  refine Go.aloadN C d9_75 rfl rfl rfl ?_
  refine Go.gf C (wd hw 59 rfl) 0 2 rfl rfl d9_76 rfl ?_
  refine Go.ifYes C d9_79 (by decide) (q := 94) rfl (XT.i0_eq_t (by decide)) ?_
  refine Go.aloadN C d9_94 rfl rfl rfl ?_
  refine Go.gf C (wd hw 45 rfl) 0 1 rfl rfl d9_95 rfl ?_
  refine Go.gv C (wd hw 106 rfl) (wd hw 107 rfl) 4 2 rfl rfl d9_98 rfl ?_
  refine Go.ifNo C d9_101 (q := 104) rfl (XT.i0_eq_f (by decide)) ?_
  refine Go.aloadN C d9_104 rfl rfl rfl ?_
  refine Go.gf C (wd hw 34 rfl) 0 0 rfl rfl d9_105 rfl ?_
  refine Go.gv C (wd hw 69 rfl) (wd hw 70 rfl) 1 2 rfl rfl d9_108 rfl ?_
  refine Go.ifNo C d9_111 (q := 114) rfl (XT.i0_le_f (by decide)) ?_
  refine Go.aloadN C d9_114 rfl rfl rfl ?_
  refine Go.gf C (wd hw 34 rfl) 0 0 rfl rfl d9_115 rfl ?_
  refine Go.gv C (wd hw 101 rfl) (wd hw 91 rfl) 1 0 rfl rfl d9_118 rfl ?_
  refine Go.aloadN C d9_121 rfl rfl rfl ?_
  refine Go.gf C (wd hw 34 rfl) 0 0 rfl rfl d9_122 rfl ?_
  refine Go.getR C (wd hw 102 rfl) (fun _ r => r.fld 1 3 rfl rfl) d9_125 (q := 128) rfl ?_
  refine Go.laload C (fun _ r => r.arr 2 rfl) (by decide) (v := (.long kA2)) rfl d9_128 (q := 129) rfl ?_
  refine Go.aloadN C d9_129 rfl rfl rfl ?_
  refine Go.gf C (wd hw 45 rfl) 0 1 rfl rfl d9_130 rfl ?_
  refine Go.gv C (wd hw 134 rfl) (wd hw 128 rfl) 4 0 rfl rfl d9_133 rfl ?_
  refine Go.iconst C d9_136 rfl (v := (0 : Int32)) rfl ?_
  refine Go.laload C (fun _ r => r.arr 5 rfl) (by decide) (v := (.long kA7)) rfl d9_137 (q := 138) rfl ?_
  refine Go.lcmpif C d9_138 rfl d9_139 (by decide) (q := 153) rfl (q' := 142) rfl (fun (h138_1 : kA7 < kA2) => ?_) (fun (h138_1 : ¬ kA7 < kA2) => ?_)
  · refine Go.aloadN C d9_153 rfl rfl rfl ?_
    refine Go.gf C (wd hw 45 rfl) 0 1 rfl rfl d9_154 rfl ?_
    refine Go.pick (M' := (nH pA4 pA5 pA6 1 :: nK pA5 kA7 kA8 kA9 kA10 kA11 kA12 :: nE pA6 (.ref eA1) .null .null .null .null .null :: nQ pA0 pA1 pA4 0 kA0 .null :: nR pA1 pA2 pA3 1 1 :: nK pA2 kA1 kA2 kA3 kA4 kA5 kA6 :: nE pA3 .null (.ref eA0) .null .null .null .null :: F)) 7 [4, 5, 6, 0, 1, 2, 3] (by decide) (by decide) rfl ?_
    refine Go.callPR C (y := yN11) (a := pA4) (as := []) (rest := []) (wd hw 140 rfl) (wd hw 141 rfl) (sel_priv (y := yN11) (wd hw 37 rfl) (wd hw 141 rfl) (wd hw 142 rfl) (by decide)) (wd hw 142 rfl) (wd hw 143 rfl) (wd hw 38 rfl) (fun _ r => r.exa 0 rfl) (u_SequenceQueue_Heap_poll_52 l Z a0 hw _ pA4 pA5 pA6 eA1 kA7 kA8 kA9 kA10 kA11 kA12 hE_eA1) rfl d9_157 (q := 160) rfl (by decide) rfl (na := 0) (by decide +kernel) rfl (by decide) (W := 0) rfl (by decide) (by decide) (by decide) (k' := 0) (n' := 0) rfl rfl ?_
    rintro _ _ ⟨rfl, rfl⟩
    show Go _ _ _ _ _ _ _ _ _ _ [(.ref eA1)]
    refine Go.astoreN C d9_160 rfl rfl (Ls' := #[.val (.ref pA0), .val (.ref eA1), .unset]) rfl ?_
    refine Go.aloadN C d9_161 rfl rfl rfl ?_
    refine Go.iconst C d9_162 rfl (v := (0 : Int32)) rfl ?_
    refine Go.pf C (wd hw 59 rfl) Via.refl 3 2 rfl rfl (wd hw 60 rfl) (wd hw 8 rfl) (ty := .boolean) (by decide) rfl rfl d9_163 rfl (M' := (nH pA4 pA5 pA6 0 :: nK pA5 kA7 kA8 kA9 kA10 kA11 kA12 :: nE pA6 .null .null .null .null .null .null :: nQ pA0 pA1 pA4 0 kA0 .null :: nR pA1 pA2 pA3 1 1 :: nK pA2 kA1 kA2 kA3 kA4 kA5 kA6 :: nE pA3 .null (.ref eA0) .null .null .null .null :: F)) rfl ?_
    refine Go.aloadN C d9_166 rfl rfl rfl ?_
    refine Go.aconstNull C d9_167 rfl ?_
    refine Go.pf C (wd hw 63 rfl) Via.refl 3 4 rfl rfl (wd hw 64 rfl) (wd hw 8 rfl) (ty := (.object "java/lang/Object")) (by decide) rfl rfl d9_168 rfl (M' := (nH pA4 pA5 pA6 0 :: nK pA5 kA7 kA8 kA9 kA10 kA11 kA12 :: nE pA6 .null .null .null .null .null .null :: nQ pA0 pA1 pA4 0 kA0 .null :: nR pA1 pA2 pA3 1 1 :: nK pA2 kA1 kA2 kA3 kA4 kA5 kA6 :: nE pA3 .null (.ref eA0) .null .null .null .null :: F)) rfl ?_
    refine Go.aloadN C d9_171 rfl rfl rfl ?_
    refine Go.astoreN C d9_172 rfl rfl (Ls' := #[.val (.ref pA0), .val (.ref eA1), .val (.ref eA1)]) rfl ?_
    refine Go.aloadN C d9_173 rfl rfl rfl ?_
    refine Go.pick (M' := (nQ pA0 pA1 pA4 0 kA0 .null :: nR pA1 pA2 pA3 1 1 :: nK pA2 kA1 kA2 kA3 kA4 kA5 kA6 :: nE pA3 .null (.ref eA0) .null .null .null .null :: nH pA4 pA5 pA6 0 :: nK pA5 kA7 kA8 kA9 kA10 kA11 kA12 :: nE pA6 .null .null .null .null .null .null :: F)) 7 [3, 4, 5, 6, 0, 1, 2] (by decide) (by decide) rfl ?_
    refine Go.retA C rfl rfl rfl d9_174 (by decide) (by decide) ?_
    exact Or.inl ⟨h138_1, rfl, rfl⟩
  · refine Go.aloadN C d9_142 rfl rfl rfl ?_
    refine Go.gf C (wd hw 34 rfl) 0 0 rfl rfl d9_143 rfl ?_
    refine Go.pick (M' := (nR pA1 pA2 pA3 1 1 :: nK pA2 kA1 kA2 kA3 kA4 kA5 kA6 :: nE pA3 .null (.ref eA0) .null .null .null .null :: nQ pA0 pA1 pA4 0 kA0 .null :: nH pA4 pA5 pA6 1 :: nK pA5 kA7 kA8 kA9 kA10 kA11 kA12 :: nE pA6 (.ref eA1) .null .null .null .null .null :: F)) 7 [1, 2, 3, 0, 4, 5, 6] (by decide) (by decide) rfl ?_
    refine Go.callPR C (y := yN13) (a := pA1) (as := []) (rest := []) (wd hw 159 rfl) (wd hw 160 rfl) (sel_priv (y := yN13) (wd hw 17 rfl) (wd hw 160 rfl) (wd hw 161 rfl) (by decide)) (wd hw 161 rfl) (wd hw 162 rfl) (wd hw 18 rfl) (fun _ r => r.exa 0 rfl) (u_SequenceQueue_Run_poll_64 l Z a0 hw _ pA1 pA2 pA3 eA0 kA1 kA2 kA3 kA4 kA5 kA6 hE_eA0) rfl d9_146 (q := 149) rfl (by decide) rfl (na := 0) (by decide +kernel) rfl (by decide) (W := 0) rfl (by decide) (by decide) (by decide) (k' := 0) (n' := 0) rfl rfl ?_
    rintro _ _ ⟨rfl, rfl⟩
    show Go _ _ _ _ _ _ _ _ _ _ [(.ref eA0)]
    refine Go.astoreN C d9_149 rfl rfl (Ls' := #[.val (.ref pA0), .val (.ref eA0), .unset]) rfl ?_
    refine Go.goto C d9_150 (by decide) (q := 161) rfl ?_
    refine Go.aloadN C d9_161 rfl rfl rfl ?_
    refine Go.iconst C d9_162 rfl (v := (0 : Int32)) rfl ?_
    refine Go.pf C (wd hw 59 rfl) Via.refl 3 2 rfl rfl (wd hw 60 rfl) (wd hw 8 rfl) (ty := .boolean) (by decide) rfl rfl d9_163 rfl (M' := (nR pA1 pA2 pA3 0 2 :: nK pA2 kA1 kA2 kA3 kA4 kA5 kA6 :: nE pA3 .null .null .null .null .null .null :: nQ pA0 pA1 pA4 0 kA0 .null :: nH pA4 pA5 pA6 1 :: nK pA5 kA7 kA8 kA9 kA10 kA11 kA12 :: nE pA6 (.ref eA1) .null .null .null .null .null :: F)) rfl ?_
    refine Go.aloadN C d9_166 rfl rfl rfl ?_
    refine Go.aconstNull C d9_167 rfl ?_
    refine Go.pf C (wd hw 63 rfl) Via.refl 3 4 rfl rfl (wd hw 64 rfl) (wd hw 8 rfl) (ty := (.object "java/lang/Object")) (by decide) rfl rfl d9_168 rfl (M' := (nR pA1 pA2 pA3 0 2 :: nK pA2 kA1 kA2 kA3 kA4 kA5 kA6 :: nE pA3 .null .null .null .null .null .null :: nQ pA0 pA1 pA4 0 kA0 .null :: nH pA4 pA5 pA6 1 :: nK pA5 kA7 kA8 kA9 kA10 kA11 kA12 :: nE pA6 (.ref eA1) .null .null .null .null .null :: F)) rfl ?_
    refine Go.aloadN C d9_171 rfl rfl rfl ?_
    refine Go.astoreN C d9_172 rfl rfl (Ls' := #[.val (.ref pA0), .val (.ref eA0), .val (.ref eA0)]) rfl ?_
    refine Go.aloadN C d9_173 rfl rfl rfl ?_
    refine Go.pick (M' := (nQ pA0 pA1 pA4 0 kA0 .null :: nR pA1 pA2 pA3 0 2 :: nK pA2 kA1 kA2 kA3 kA4 kA5 kA6 :: nE pA3 .null .null .null .null .null .null :: nH pA4 pA5 pA6 1 :: nK pA5 kA7 kA8 kA9 kA10 kA11 kA12 :: nE pA6 (.ref eA1) .null .null .null .null .null :: F)) 7 [3, 0, 1, 2, 4, 5, 6] (by decide) (by decide) rfl ?_
    refine Go.retA C rfl rfl rfl d9_174 (by decide) (by decide) ?_
    exact Or.inr (⟨h138_1, rfl, rfl⟩)
theorem u_SequenceQueue_poll_150 (l : Launch) (Z : State) (a0 : Array Value) (hw : HW Z a0) (F : List Ent) (pA0 pA1 pA2 pA3 pA4 pA5 pA6 eA0 eA1 eA2 : Addr) (kA0 kA1 kA2 kA3 kA4 kA5 kA6 kA7 kA8 kA9 kA10 kA11 kA12 : Int64) (hE_eA0 : XI Z eA0) (hE_eA1 : XI Z eA1) (hE_eA2 : XI Z eA2) (hK0 : ¬ kA8 < kA7) :
    Met l Z yN15 prog_20_method_3_code 3 (some (.object "java/lang/Object")) { frames := 3, cells := 0, slots := 0, locals := 45 } #[(.ref pA0)] (nQ pA0 pA1 pA4 0 kA0 .null :: nR pA1 pA2 pA3 1 1 :: nK pA2 kA1 kA2 kA3 kA4 kA5 kA6 :: nE pA3 .null (.ref eA0) .null .null .null .null :: nH pA4 pA5 pA6 2 :: nK pA5 kA7 kA8 kA9 kA10 kA11 kA12 :: nE pA6 (.ref eA1) (.ref eA2) .null .null .null .null :: F) (fun r M' => ((kA7 < kA2) ∧ r = (some (.ref eA1)) ∧ M' = (nQ pA0 pA1 pA4 0 kA0 .null :: nR pA1 pA2 pA3 1 1 :: nK pA2 kA1 kA2 kA3 kA4 kA5 kA6 :: nE pA3 .null (.ref eA0) .null .null .null .null :: nH pA4 pA5 pA6 1 :: nK pA5 kA8 kA8 kA9 kA10 kA11 kA12 :: nE pA6 (.ref eA2) .null .null .null .null .null :: F)) ∨ ((¬ kA7 < kA2) ∧ r = (some (.ref eA0)) ∧ M' = (nQ pA0 pA1 pA4 0 kA0 .null :: nR pA1 pA2 pA3 0 2 :: nK pA2 kA1 kA2 kA3 kA4 kA5 kA6 :: nE pA3 .null .null .null .null .null .null :: nH pA4 pA5 pA6 2 :: nK pA5 kA7 kA8 kA9 kA10 kA11 kA12 :: nE pA6 (.ref eA1) (.ref eA2) .null .null .null .null :: F))) := by
  refine Met.of_go pn_11 (Ls := #[.val (.ref pA0), .unset, .unset]) (fun m => rfl) ?_
  intro E C
  refine Go.aloadN C d9_0 rfl rfl rfl ?_
  refine Go.gf C (wd hw 59 rfl) 0 2 rfl rfl d9_1 rfl ?_
  refine Go.ifYes C d9_4 (by decide) (q := 75) rfl (XT.i0_eq_t (by decide)) ?_
  refine Go.aloadN C d9_75 rfl rfl rfl ?_
  refine Go.gf C (wd hw 59 rfl) 0 2 rfl rfl d9_76 rfl ?_
  refine Go.ifYes C d9_79 (by decide) (q := 94) rfl (XT.i0_eq_t (by decide)) ?_
  refine Go.aloadN C d9_94 rfl rfl rfl ?_
  refine Go.gf C (wd hw 45 rfl) 0 1 rfl rfl d9_95 rfl ?_
  refine Go.gv C (wd hw 106 rfl) (wd hw 107 rfl) 4 2 rfl rfl d9_98 rfl ?_
  refine Go.ifNo C d9_101 (q := 104) rfl (XT.i0_eq_f (by decide)) ?_
  refine Go.aloadN C d9_104 rfl rfl rfl ?_
  refine Go.gf C (wd hw 34 rfl) 0 0 rfl rfl d9_105 rfl ?_
  refine Go.gv C (wd hw 69 rfl) (wd hw 70 rfl) 1 2 rfl rfl d9_108 rfl ?_
  refine Go.ifNo C d9_111 (q := 114) rfl (XT.i0_le_f (by decide)) ?_
  refine Go.aloadN C d9_114 rfl rfl rfl ?_
  refine Go.gf C (wd hw 34 rfl) 0 0 rfl rfl d9_115 rfl ?_
  refine Go.gv C (wd hw 101 rfl) (wd hw 91 rfl) 1 0 rfl rfl d9_118 rfl ?_
  refine Go.aloadN C d9_121 rfl rfl rfl ?_
  refine Go.gf C (wd hw 34 rfl) 0 0 rfl rfl d9_122 rfl ?_
  refine Go.getR C (wd hw 102 rfl) (fun _ r => r.fld 1 3 rfl rfl) d9_125 (q := 128) rfl ?_
  refine Go.laload C (fun _ r => r.arr 2 rfl) (by decide) (v := (.long kA2)) rfl d9_128 (q := 129) rfl ?_
  refine Go.aloadN C d9_129 rfl rfl rfl ?_
  refine Go.gf C (wd hw 45 rfl) 0 1 rfl rfl d9_130 rfl ?_
  refine Go.gv C (wd hw 134 rfl) (wd hw 128 rfl) 4 0 rfl rfl d9_133 rfl ?_
  refine Go.iconst C d9_136 rfl (v := (0 : Int32)) rfl ?_
  refine Go.laload C (fun _ r => r.arr 5 rfl) (by decide) (v := (.long kA7)) rfl d9_137 (q := 138) rfl ?_
  refine Go.lcmpif C d9_138 rfl d9_139 (by decide) (q := 153) rfl (q' := 142) rfl (fun (h138_1 : kA7 < kA2) => ?_) (fun (h138_1 : ¬ kA7 < kA2) => ?_)
  · refine Go.aloadN C d9_153 rfl rfl rfl ?_
    refine Go.gf C (wd hw 45 rfl) 0 1 rfl rfl d9_154 rfl ?_
    refine Go.pick (M' := (nH pA4 pA5 pA6 2 :: nK pA5 kA7 kA8 kA9 kA10 kA11 kA12 :: nE pA6 (.ref eA1) (.ref eA2) .null .null .null .null :: nQ pA0 pA1 pA4 0 kA0 .null :: nR pA1 pA2 pA3 1 1 :: nK pA2 kA1 kA2 kA3 kA4 kA5 kA6 :: nE pA3 .null (.ref eA0) .null .null .null .null :: F)) 7 [4, 5, 6, 0, 1, 2, 3] (by decide) (by decide) rfl ?_
    refine Go.callPR C (y := yN11) (a := pA4) (as := []) (rest := []) (wd hw 140 rfl) (wd hw 141 rfl) (sel_priv (y := yN11) (wd hw 37 rfl) (wd hw 141 rfl) (wd hw 142 rfl) (by decide)) (wd hw 142 rfl) (wd hw 143 rfl) (wd hw 38 rfl) (fun _ r => r.exa 0 rfl) (u_SequenceQueue_Heap_poll_55 l Z a0 hw _ pA4 pA5 pA6 eA1 eA2 kA7 kA8 kA9 kA10 kA11 kA12 hE_eA1 hE_eA2) rfl d9_157 (q := 160) rfl (by decide) rfl (na := 0) (by decide +kernel) rfl (by decide) (W := 0) rfl (by decide) (by decide) (by decide) (k' := 0) (n' := 0) rfl rfl ?_
    rintro _ _ ⟨rfl, rfl⟩
    show Go _ _ _ _ _ _ _ _ _ _ [(.ref eA1)]
    refine Go.astoreN C d9_160 rfl rfl (Ls' := #[.val (.ref pA0), .val (.ref eA1), .unset]) rfl ?_
    refine Go.aloadN C d9_161 rfl rfl rfl ?_
    refine Go.iconst C d9_162 rfl (v := (0 : Int32)) rfl ?_
    refine Go.pf C (wd hw 59 rfl) Via.refl 3 2 rfl rfl (wd hw 60 rfl) (wd hw 8 rfl) (ty := .boolean) (by decide) rfl rfl d9_163 rfl (M' := (nH pA4 pA5 pA6 1 :: nK pA5 kA8 kA8 kA9 kA10 kA11 kA12 :: nE pA6 (.ref eA2) .null .null .null .null .null :: nQ pA0 pA1 pA4 0 kA0 .null :: nR pA1 pA2 pA3 1 1 :: nK pA2 kA1 kA2 kA3 kA4 kA5 kA6 :: nE pA3 .null (.ref eA0) .null .null .null .null :: F)) rfl ?_
    refine Go.aloadN C d9_166 rfl rfl rfl ?_
    refine Go.aconstNull C d9_167 rfl ?_
    refine Go.pf C (wd hw 63 rfl) Via.refl 3 4 rfl rfl (wd hw 64 rfl) (wd hw 8 rfl) (ty := (.object "java/lang/Object")) (by decide) rfl rfl d9_168 rfl (M' := (nH pA4 pA5 pA6 1 :: nK pA5 kA8 kA8 kA9 kA10 kA11 kA12 :: nE pA6 (.ref eA2) .null .null .null .null .null :: nQ pA0 pA1 pA4 0 kA0 .null :: nR pA1 pA2 pA3 1 1 :: nK pA2 kA1 kA2 kA3 kA4 kA5 kA6 :: nE pA3 .null (.ref eA0) .null .null .null .null :: F)) rfl ?_
    refine Go.aloadN C d9_171 rfl rfl rfl ?_
    refine Go.astoreN C d9_172 rfl rfl (Ls' := #[.val (.ref pA0), .val (.ref eA1), .val (.ref eA1)]) rfl ?_
    refine Go.aloadN C d9_173 rfl rfl rfl ?_
    refine Go.pick (M' := (nQ pA0 pA1 pA4 0 kA0 .null :: nR pA1 pA2 pA3 1 1 :: nK pA2 kA1 kA2 kA3 kA4 kA5 kA6 :: nE pA3 .null (.ref eA0) .null .null .null .null :: nH pA4 pA5 pA6 1 :: nK pA5 kA8 kA8 kA9 kA10 kA11 kA12 :: nE pA6 (.ref eA2) .null .null .null .null .null :: F)) 7 [3, 4, 5, 6, 0, 1, 2] (by decide) (by decide) rfl ?_
    refine Go.retA C rfl rfl rfl d9_174 (by decide) (by decide) ?_
    exact Or.inl ⟨h138_1, rfl, rfl⟩
  · refine Go.aloadN C d9_142 rfl rfl rfl ?_
    refine Go.gf C (wd hw 34 rfl) 0 0 rfl rfl d9_143 rfl ?_
    refine Go.pick (M' := (nR pA1 pA2 pA3 1 1 :: nK pA2 kA1 kA2 kA3 kA4 kA5 kA6 :: nE pA3 .null (.ref eA0) .null .null .null .null :: nQ pA0 pA1 pA4 0 kA0 .null :: nH pA4 pA5 pA6 2 :: nK pA5 kA7 kA8 kA9 kA10 kA11 kA12 :: nE pA6 (.ref eA1) (.ref eA2) .null .null .null .null :: F)) 7 [1, 2, 3, 0, 4, 5, 6] (by decide) (by decide) rfl ?_
    refine Go.callPR C (y := yN13) (a := pA1) (as := []) (rest := []) (wd hw 159 rfl) (wd hw 160 rfl) (sel_priv (y := yN13) (wd hw 17 rfl) (wd hw 160 rfl) (wd hw 161 rfl) (by decide)) (wd hw 161 rfl) (wd hw 162 rfl) (wd hw 18 rfl) (fun _ r => r.exa 0 rfl) (u_SequenceQueue_Run_poll_64 l Z a0 hw _ pA1 pA2 pA3 eA0 kA1 kA2 kA3 kA4 kA5 kA6 hE_eA0) rfl d9_146 (q := 149) rfl (by decide) rfl (na := 0) (by decide +kernel) rfl (by decide) (W := 0) rfl (by decide) (by decide) (by decide) (k' := 0) (n' := 0) rfl rfl ?_
    rintro _ _ ⟨rfl, rfl⟩
    show Go _ _ _ _ _ _ _ _ _ _ [(.ref eA0)]
    refine Go.astoreN C d9_149 rfl rfl (Ls' := #[.val (.ref pA0), .val (.ref eA0), .unset]) rfl ?_
    refine Go.goto C d9_150 (by decide) (q := 161) rfl ?_
    refine Go.aloadN C d9_161 rfl rfl rfl ?_
    refine Go.iconst C d9_162 rfl (v := (0 : Int32)) rfl ?_
    refine Go.pf C (wd hw 59 rfl) Via.refl 3 2 rfl rfl (wd hw 60 rfl) (wd hw 8 rfl) (ty := .boolean) (by decide) rfl rfl d9_163 rfl (M' := (nR pA1 pA2 pA3 0 2 :: nK pA2 kA1 kA2 kA3 kA4 kA5 kA6 :: nE pA3 .null .null .null .null .null .null :: nQ pA0 pA1 pA4 0 kA0 .null :: nH pA4 pA5 pA6 2 :: nK pA5 kA7 kA8 kA9 kA10 kA11 kA12 :: nE pA6 (.ref eA1) (.ref eA2) .null .null .null .null :: F)) rfl ?_
    refine Go.aloadN C d9_166 rfl rfl rfl ?_
    refine Go.aconstNull C d9_167 rfl ?_
    refine Go.pf C (wd hw 63 rfl) Via.refl 3 4 rfl rfl (wd hw 64 rfl) (wd hw 8 rfl) (ty := (.object "java/lang/Object")) (by decide) rfl rfl d9_168 rfl (M' := (nR pA1 pA2 pA3 0 2 :: nK pA2 kA1 kA2 kA3 kA4 kA5 kA6 :: nE pA3 .null .null .null .null .null .null :: nQ pA0 pA1 pA4 0 kA0 .null :: nH pA4 pA5 pA6 2 :: nK pA5 kA7 kA8 kA9 kA10 kA11 kA12 :: nE pA6 (.ref eA1) (.ref eA2) .null .null .null .null :: F)) rfl ?_
    refine Go.aloadN C d9_171 rfl rfl rfl ?_
    refine Go.astoreN C d9_172 rfl rfl (Ls' := #[.val (.ref pA0), .val (.ref eA0), .val (.ref eA0)]) rfl ?_
    refine Go.aloadN C d9_173 rfl rfl rfl ?_
    refine Go.pick (M' := (nQ pA0 pA1 pA4 0 kA0 .null :: nR pA1 pA2 pA3 0 2 :: nK pA2 kA1 kA2 kA3 kA4 kA5 kA6 :: nE pA3 .null .null .null .null .null .null :: nH pA4 pA5 pA6 2 :: nK pA5 kA7 kA8 kA9 kA10 kA11 kA12 :: nE pA6 (.ref eA1) (.ref eA2) .null .null .null .null :: F)) 7 [3, 0, 1, 2, 4, 5, 6] (by decide) (by decide) rfl ?_
    refine Go.retA C rfl rfl rfl d9_174 (by decide) (by decide) ?_
    exact Or.inr (⟨h138_1, rfl, rfl⟩)
theorem u_SequenceQueue_poll_152 (l : Launch) (Z : State) (a0 : Array Value) (hw : HW Z a0) (F : List Ent) (pA0 pA1 pA2 pA3 pA4 pA5 pA6 eA0 eA1 : Addr) (kA0 kA1 kA2 kA3 kA4 kA5 kA6 kA7 kA8 kA9 kA10 kA11 kA12 : Int64) (hE_eA0 : XI Z eA0) (hE_eA1 : XI Z eA1) (hK0 : ¬ kA2 < kA1) :
    Met l Z yN15 prog_20_method_3_code 3 (some (.object "java/lang/Object")) { frames := 3, cells := 0, slots := 0, locals := 45 } #[(.ref pA0)] (nQ pA0 pA1 pA4 0 kA0 .null :: nR pA1 pA2 pA3 2 0 :: nK pA2 kA1 kA2 kA3 kA4 kA5 kA6 :: nE pA3 (.ref eA0) (.ref eA1) .null .null .null .null :: nH pA4 pA5 pA6 0 :: nK pA5 kA7 kA8 kA9 kA10 kA11 kA12 :: nE pA6 .null .null .null .null .null .null :: F) (fun r M' => (r = (some (.ref eA0)) ∧ M' = (nQ pA0 pA1 pA4 0 kA0 .null :: nR pA1 pA2 pA3 1 1 :: nK pA2 kA1 kA2 kA3 kA4 kA5 kA6 :: nE pA3 .null (.ref eA1) .null .null .null .null :: nH pA4 pA5 pA6 0 :: nK pA5 kA7 kA8 kA9 kA10 kA11 kA12 :: nE pA6 .null .null .null .null .null .null :: F))) := by
  refine Met.of_go pn_11 (Ls := #[.val (.ref pA0), .unset, .unset]) (fun m => rfl) ?_
  intro E C
  refine Go.aloadN C d9_0 rfl rfl rfl ?_
  refine Go.gf C (wd hw 59 rfl) 0 2 rfl rfl d9_1 rfl ?_
  refine Go.ifYes C d9_4 (by decide) (q := 75) rfl (XT.i0_eq_t (by decide)) ?_
  refine Go.aloadN C d9_75 rfl rfl rfl ?_
  refine Go.gf C (wd hw 59 rfl) 0 2 rfl rfl d9_76 rfl ?_
  refine Go.ifYes C d9_79 (by decide) (q := 94) rfl (XT.i0_eq_t (by decide)) ?_
  refine Go.aloadN C d9_94 rfl rfl rfl ?_
  refine Go.gf C (wd hw 45 rfl) 0 1 rfl rfl d9_95 rfl ?_
  refine Go.gv C (wd hw 106 rfl) (wd hw 107 rfl) 4 2 rfl rfl d9_98 rfl ?_
  refine Go.ifYes C d9_101 (by decide) (q := 142) rfl (XT.i0_eq_t (by decide)) ?_
  refine Go.aloadN C d9_142 rfl rfl rfl ?_
  refine Go.gf C (wd hw 34 rfl) 0 0 rfl rfl d9_143 rfl ?_
  refine Go.pick (M' := (nR pA1 pA2 pA3 2 0 :: nK pA2 kA1 kA2 kA3 kA4 kA5 kA6 :: nE pA3 (.ref eA0) (.ref eA1) .null .null .null .null :: nQ pA0 pA1 pA4 0 kA0 .null :: nH pA4 pA5 pA6 0 :: nK pA5 kA7 kA8 kA9 kA10 kA11 kA12 :: nE pA6 .null .null .null .null .null .null :: F)) 7 [1, 2, 3, 0, 4, 5, 6] (by decide) (by decide) rfl ?_
  refine Go.callPR C (y := yN13) (a := pA1) (as := []) (rest := []) (wd hw 159 rfl) (wd hw 160 rfl) (sel_priv (y := yN13) (wd hw 17 rfl) (wd hw 160 rfl) (wd hw 161 rfl) (by decide)) (wd hw 161 rfl) (wd hw 162 rfl) (wd hw 18 rfl) (fun _ r => r.exa 0 rfl) (u_SequenceQueue_Run_poll_67 l Z a0 hw _ pA1 pA2 pA3 eA0 eA1 kA1 kA2 kA3 kA4 kA5 kA6 hE_eA0 hE_eA1) rfl d9_146 (q := 149) rfl (by decide) rfl (na := 0) (by decide +kernel) rfl (by decide) (W := 0) rfl (by decide) (by decide) (by decide) (k' := 0) (n' := 0) rfl rfl ?_
  rintro _ _ ⟨rfl, rfl⟩
  show Go _ _ _ _ _ _ _ _ _ _ [(.ref eA0)]
  refine Go.astoreN C d9_149 rfl rfl (Ls' := #[.val (.ref pA0), .val (.ref eA0), .unset]) rfl ?_
  refine Go.goto C d9_150 (by decide) (q := 161) rfl ?_
  refine Go.aloadN C d9_161 rfl rfl rfl ?_
  refine Go.iconst C d9_162 rfl (v := (0 : Int32)) rfl ?_
  refine Go.pf C (wd hw 59 rfl) Via.refl 3 2 rfl rfl (wd hw 60 rfl) (wd hw 8 rfl) (ty := .boolean) (by decide) rfl rfl d9_163 rfl (M' := (nR pA1 pA2 pA3 1 1 :: nK pA2 kA1 kA2 kA3 kA4 kA5 kA6 :: nE pA3 .null (.ref eA1) .null .null .null .null :: nQ pA0 pA1 pA4 0 kA0 .null :: nH pA4 pA5 pA6 0 :: nK pA5 kA7 kA8 kA9 kA10 kA11 kA12 :: nE pA6 .null .null .null .null .null .null :: F)) rfl ?_
  refine Go.aloadN C d9_166 rfl rfl rfl ?_
  refine Go.aconstNull C d9_167 rfl ?_
  refine Go.pf C (wd hw 63 rfl) Via.refl 3 4 rfl rfl (wd hw 64 rfl) (wd hw 8 rfl) (ty := (.object "java/lang/Object")) (by decide) rfl rfl d9_168 rfl (M' := (nR pA1 pA2 pA3 1 1 :: nK pA2 kA1 kA2 kA3 kA4 kA5 kA6 :: nE pA3 .null (.ref eA1) .null .null .null .null :: nQ pA0 pA1 pA4 0 kA0 .null :: nH pA4 pA5 pA6 0 :: nK pA5 kA7 kA8 kA9 kA10 kA11 kA12 :: nE pA6 .null .null .null .null .null .null :: F)) rfl ?_
  refine Go.aloadN C d9_171 rfl rfl rfl ?_
  refine Go.astoreN C d9_172 rfl rfl (Ls' := #[.val (.ref pA0), .val (.ref eA0), .val (.ref eA0)]) rfl ?_
  refine Go.aloadN C d9_173 rfl rfl rfl ?_
  refine Go.pick (M' := (nQ pA0 pA1 pA4 0 kA0 .null :: nR pA1 pA2 pA3 1 1 :: nK pA2 kA1 kA2 kA3 kA4 kA5 kA6 :: nE pA3 .null (.ref eA1) .null .null .null .null :: nH pA4 pA5 pA6 0 :: nK pA5 kA7 kA8 kA9 kA10 kA11 kA12 :: nE pA6 .null .null .null .null .null .null :: F)) 7 [3, 0, 1, 2, 4, 5, 6] (by decide) (by decide) rfl ?_
  refine Go.retA C rfl rfl rfl d9_174 (by decide) (by decide) ?_
  exact ⟨rfl, rfl⟩
theorem u_SequenceQueue_poll_154 (l : Launch) (Z : State) (a0 : Array Value) (hw : HW Z a0) (F : List Ent) (pA0 pA1 pA2 pA3 pA4 pA5 pA6 eA0 eA1 eA2 : Addr) (kA0 kA1 kA2 kA3 kA4 kA5 kA6 kA7 kA8 kA9 kA10 kA11 kA12 : Int64) (hE_eA0 : XI Z eA0) (hE_eA1 : XI Z eA1) (hE_eA2 : XI Z eA2) (hK0 : ¬ kA2 < kA1) :
    Met l Z yN15 prog_20_method_3_code 3 (some (.object "java/lang/Object")) { frames := 3, cells := 0, slots := 0, locals := 45 } #[(.ref pA0)] (nQ pA0 pA1 pA4 0 kA0 .null :: nR pA1 pA2 pA3 2 0 :: nK pA2 kA1 kA2 kA3 kA4 kA5 kA6 :: nE pA3 (.ref eA0) (.ref eA1) .null .null .null .null :: nH pA4 pA5 pA6 1 :: nK pA5 kA7 kA8 kA9 kA10 kA11 kA12 :: nE pA6 (.ref eA2) .null .null .null .null .null :: F) (fun r M' => ((kA7 < kA1) ∧ r = (some (.ref eA2)) ∧ M' = (nQ pA0 pA1 pA4 0 kA0 .null :: nR pA1 pA2 pA3 2 0 :: nK pA2 kA1 kA2 kA3 kA4 kA5 kA6 :: nE pA3 (.ref eA0) (.ref eA1) .null .null .null .null :: nH pA4 pA5 pA6 0 :: nK pA5 kA7 kA8 kA9 kA10 kA11 kA12 :: nE pA6 .null .null .null .null .null .null :: F)) ∨ ((¬ kA7 < kA1) ∧ r = (some (.ref eA0)) ∧ M' = (nQ pA0 pA1 pA4 0 kA0 .null :: nR pA1 pA2 pA3 1 1 :: nK pA2 kA1 kA2 kA3 kA4 kA5 kA6 :: nE pA3 .null (.ref eA1) .null .null .null .null :: nH pA4 pA5 pA6 1 :: nK pA5 kA7 kA8 kA9 kA10 kA11 kA12 :: nE pA6 (.ref eA2) .null .null .null .null .null :: F))) := by
  refine Met.of_go pn_11 (Ls := #[.val (.ref pA0), .unset, .unset]) (fun m => rfl) ?_
  intro E C
  refine Go.aloadN C d9_0 rfl rfl rfl ?_
  refine Go.gf C (wd hw 59 rfl) 0 2 rfl rfl d9_1 rfl ?_
  refine Go.ifYes C d9_4 (by decide) (q := 75) rfl (XT.i0_eq_t (by decide)) ?_
  refine Go.aloadN C d9_75 rfl rfl rfl ?_
  refine Go.gf C (wd hw 59 rfl) 0 2 rfl rfl d9_76 rfl ?_
  refine Go.ifYes C d9_79 (by decide) (q := 94) rfl (XT.i0_eq_t (by decide)) ?_
  refine Go.aloadN C d9_94 rfl rfl rfl ?_
  refine Go.gf C (wd hw 45 rfl) 0 1 rfl rfl d9_95 rfl ?_
  refine Go.gv C (wd hw 106 rfl) (wd hw 107 rfl) 4 2 rfl rfl d9_98 rfl ?_
  refine Go.ifNo C d9_101 (q := 104) rfl (XT.i0_eq_f (by decide)) ?_
  refine Go.aloadN C d9_104 rfl rfl rfl ?_
  refine Go.gf C (wd hw 34 rfl) 0 0 rfl rfl d9_105 rfl ?_
  refine Go.gv C (wd hw 69 rfl) (wd hw 70 rfl) 1 2 rfl rfl d9_108 rfl ?_
  refine Go.ifNo C d9_111 (q := 114) rfl (XT.i0_le_f (by decide)) ?_
  refine Go.aloadN C d9_114 rfl rfl rfl ?_
  refine Go.gf C (wd hw 34 rfl) 0 0 rfl rfl d9_115 rfl ?_
  refine Go.gv C (wd hw 101 rfl) (wd hw 91 rfl) 1 0 rfl rfl d9_118 rfl ?_
  refine Go.aloadN C d9_121 rfl rfl rfl ?_
  refine Go.gf C (wd hw 34 rfl) 0 0 rfl rfl d9_122 rfl ?_
  refine Go.getR C (wd hw 102 rfl) (fun _ r => r.fld 1 3 rfl rfl) d9_125 (q := 128) rfl ?_
  refine Go.laload C (fun _ r => r.arr 2 rfl) (by decide) (v := (.long kA1)) rfl d9_128 (q := 129) rfl ?_
  refine Go.aloadN C d9_129 rfl rfl rfl ?_
  refine Go.gf C (wd hw 45 rfl) 0 1 rfl rfl d9_130 rfl ?_
  refine Go.gv C (wd hw 134 rfl) (wd hw 128 rfl) 4 0 rfl rfl d9_133 rfl ?_
  refine Go.iconst C d9_136 rfl (v := (0 : Int32)) rfl ?_
  refine Go.laload C (fun _ r => r.arr 5 rfl) (by decide) (v := (.long kA7)) rfl d9_137 (q := 138) rfl ?_
  refine Go.lcmpif C d9_138 rfl d9_139 (by decide) (q := 153) rfl (q' := 142) rfl (fun (h138_1 : kA7 < kA1) => ?_) (fun (h138_1 : ¬ kA7 < kA1) => ?_)
  · refine Go.aloadN C d9_153 rfl rfl rfl ?_
    refine Go.gf C (wd hw 45 rfl) 0 1 rfl rfl d9_154 rfl ?_
    refine Go.pick (M' := (nH pA4 pA5 pA6 1 :: nK pA5 kA7 kA8 kA9 kA10 kA11 kA12 :: nE pA6 (.ref eA2) .null .null .null .null .null :: nQ pA0 pA1 pA4 0 kA0 .null :: nR pA1 pA2 pA3 2 0 :: nK pA2 kA1 kA2 kA3 kA4 kA5 kA6 :: nE pA3 (.ref eA0) (.ref eA1) .null .null .null .null :: F)) 7 [4, 5, 6, 0, 1, 2, 3] (by decide) (by decide) rfl ?_
    refine Go.callPR C (y := yN11) (a := pA4) (as := []) (rest := []) (wd hw 140 rfl) (wd hw 141 rfl) (sel_priv (y := yN11) (wd hw 37 rfl) (wd hw 141 rfl) (wd hw 142 rfl) (by decide)) (wd hw 142 rfl) (wd hw 143 rfl) (wd hw 38 rfl) (fun _ r => r.exa 0 rfl) (u_SequenceQueue_Heap_poll_52 l Z a0 hw _ pA4 pA5 pA6 eA2 kA7 kA8 kA9 kA10 kA11 kA12 hE_eA2) rfl d9_157 (q := 160) rfl (by decide) rfl (na := 0) (by decide +kernel) rfl (by decide) (W := 0) rfl (by decide) (by decide) (by decide) (k' := 0) (n' := 0) rfl rfl ?_
    rintro _ _ ⟨rfl, rfl⟩
    show Go _ _ _ _ _ _ _ _ _ _ [(.ref eA2)]
    refine Go.astoreN C d9_160 rfl rfl (Ls' := #[.val (.ref pA0), .val (.ref eA2), .unset]) rfl ?_
    refine Go.aloadN C d9_161 rfl rfl rfl ?_
    refine Go.iconst C d9_162 rfl (v := (0 : Int32)) rfl ?_
    refine Go.pf C (wd hw 59 rfl) Via.refl 3 2 rfl rfl (wd hw 60 rfl) (wd hw 8 rfl) (ty := .boolean) (by decide) rfl rfl d9_163 rfl (M' := (nH pA4 pA5 pA6 0 :: nK pA5 kA7 kA8 kA9 kA10 kA11 kA12 :: nE pA6 .null .null .null .null .null .null :: nQ pA0 pA1 pA4 0 kA0 .null :: nR pA1 pA2 pA3 2 0 :: nK pA2 kA1 kA2 kA3 kA4 kA5 kA6 :: nE pA3 (.ref eA0) (.ref eA1) .null .null .null .null :: F)) rfl ?_
    refine Go.aloadN C d9_166 rfl rfl rfl ?_
    refine Go.aconstNull C d9_167 rfl ?_
    refine Go.pf C (wd hw 63 rfl) Via.refl 3 4 rfl rfl (wd hw 64 rfl) (wd hw 8 rfl) (ty := (.object "java/lang/Object")) (by decide) rfl rfl d9_168 rfl (M' := (nH pA4 pA5 pA6 0 :: nK pA5 kA7 kA8 kA9 kA10 kA11 kA12 :: nE pA6 .null .null .null .null .null .null :: nQ pA0 pA1 pA4 0 kA0 .null :: nR pA1 pA2 pA3 2 0 :: nK pA2 kA1 kA2 kA3 kA4 kA5 kA6 :: nE pA3 (.ref eA0) (.ref eA1) .null .null .null .null :: F)) rfl ?_
    refine Go.aloadN C d9_171 rfl rfl rfl ?_
    refine Go.astoreN C d9_172 rfl rfl (Ls' := #[.val (.ref pA0), .val (.ref eA2), .val (.ref eA2)]) rfl ?_
    refine Go.aloadN C d9_173 rfl rfl rfl ?_
    refine Go.pick (M' := (nQ pA0 pA1 pA4 0 kA0 .null :: nR pA1 pA2 pA3 2 0 :: nK pA2 kA1 kA2 kA3 kA4 kA5 kA6 :: nE pA3 (.ref eA0) (.ref eA1) .null .null .null .null :: nH pA4 pA5 pA6 0 :: nK pA5 kA7 kA8 kA9 kA10 kA11 kA12 :: nE pA6 .null .null .null .null .null .null :: F)) 7 [3, 4, 5, 6, 0, 1, 2] (by decide) (by decide) rfl ?_
    refine Go.retA C rfl rfl rfl d9_174 (by decide) (by decide) ?_
    exact Or.inl ⟨h138_1, rfl, rfl⟩
  · refine Go.aloadN C d9_142 rfl rfl rfl ?_
    refine Go.gf C (wd hw 34 rfl) 0 0 rfl rfl d9_143 rfl ?_
    refine Go.pick (M' := (nR pA1 pA2 pA3 2 0 :: nK pA2 kA1 kA2 kA3 kA4 kA5 kA6 :: nE pA3 (.ref eA0) (.ref eA1) .null .null .null .null :: nQ pA0 pA1 pA4 0 kA0 .null :: nH pA4 pA5 pA6 1 :: nK pA5 kA7 kA8 kA9 kA10 kA11 kA12 :: nE pA6 (.ref eA2) .null .null .null .null .null :: F)) 7 [1, 2, 3, 0, 4, 5, 6] (by decide) (by decide) rfl ?_
    refine Go.callPR C (y := yN13) (a := pA1) (as := []) (rest := []) (wd hw 159 rfl) (wd hw 160 rfl) (sel_priv (y := yN13) (wd hw 17 rfl) (wd hw 160 rfl) (wd hw 161 rfl) (by decide)) (wd hw 161 rfl) (wd hw 162 rfl) (wd hw 18 rfl) (fun _ r => r.exa 0 rfl) (u_SequenceQueue_Run_poll_67 l Z a0 hw _ pA1 pA2 pA3 eA0 eA1 kA1 kA2 kA3 kA4 kA5 kA6 hE_eA0 hE_eA1) rfl d9_146 (q := 149) rfl (by decide) rfl (na := 0) (by decide +kernel) rfl (by decide) (W := 0) rfl (by decide) (by decide) (by decide) (k' := 0) (n' := 0) rfl rfl ?_
    rintro _ _ ⟨rfl, rfl⟩
    show Go _ _ _ _ _ _ _ _ _ _ [(.ref eA0)]
    refine Go.astoreN C d9_149 rfl rfl (Ls' := #[.val (.ref pA0), .val (.ref eA0), .unset]) rfl ?_
    refine Go.goto C d9_150 (by decide) (q := 161) rfl ?_
    refine Go.aloadN C d9_161 rfl rfl rfl ?_
    refine Go.iconst C d9_162 rfl (v := (0 : Int32)) rfl ?_
    refine Go.pf C (wd hw 59 rfl) Via.refl 3 2 rfl rfl (wd hw 60 rfl) (wd hw 8 rfl) (ty := .boolean) (by decide) rfl rfl d9_163 rfl (M' := (nR pA1 pA2 pA3 1 1 :: nK pA2 kA1 kA2 kA3 kA4 kA5 kA6 :: nE pA3 .null (.ref eA1) .null .null .null .null :: nQ pA0 pA1 pA4 0 kA0 .null :: nH pA4 pA5 pA6 1 :: nK pA5 kA7 kA8 kA9 kA10 kA11 kA12 :: nE pA6 (.ref eA2) .null .null .null .null .null :: F)) rfl ?_
    refine Go.aloadN C d9_166 rfl rfl rfl ?_
    refine Go.aconstNull C d9_167 rfl ?_
    refine Go.pf C (wd hw 63 rfl) Via.refl 3 4 rfl rfl (wd hw 64 rfl) (wd hw 8 rfl) (ty := (.object "java/lang/Object")) (by decide) rfl rfl d9_168 rfl (M' := (nR pA1 pA2 pA3 1 1 :: nK pA2 kA1 kA2 kA3 kA4 kA5 kA6 :: nE pA3 .null (.ref eA1) .null .null .null .null :: nQ pA0 pA1 pA4 0 kA0 .null :: nH pA4 pA5 pA6 1 :: nK pA5 kA7 kA8 kA9 kA10 kA11 kA12 :: nE pA6 (.ref eA2) .null .null .null .null .null :: F)) rfl ?_
    refine Go.aloadN C d9_171 rfl rfl rfl ?_
    refine Go.astoreN C d9_172 rfl rfl (Ls' := #[.val (.ref pA0), .val (.ref eA0), .val (.ref eA0)]) rfl ?_
    refine Go.aloadN C d9_173 rfl rfl rfl ?_
    refine Go.pick (M' := (nQ pA0 pA1 pA4 0 kA0 .null :: nR pA1 pA2 pA3 1 1 :: nK pA2 kA1 kA2 kA3 kA4 kA5 kA6 :: nE pA3 .null (.ref eA1) .null .null .null .null :: nH pA4 pA5 pA6 1 :: nK pA5 kA7 kA8 kA9 kA10 kA11 kA12 :: nE pA6 (.ref eA2) .null .null .null .null .null :: F)) 7 [3, 0, 1, 2, 4, 5, 6] (by decide) (by decide) rfl ?_
    refine Go.retA C rfl rfl rfl d9_174 (by decide) (by decide) ?_
    exact Or.inr (⟨h138_1, rfl, rfl⟩)
theorem u_SequenceQueue_poll_156 (l : Launch) (Z : State) (a0 : Array Value) (hw : HW Z a0) (F : List Ent) (pA0 pA1 pA2 pA3 pA4 pA5 pA6 eA0 eA1 : Addr) (kA0 kA1 kA2 kA3 kA4 kA5 kA6 kA7 kA8 kA9 kA10 kA11 kA12 : Int64) (hE_eA0 : XI Z eA0) (hE_eA1 : XI Z eA1) (hK0 : ¬ kA3 < kA2) :
    Met l Z yN15 prog_20_method_3_code 3 (some (.object "java/lang/Object")) { frames := 3, cells := 0, slots := 0, locals := 45 } #[(.ref pA0)] (nQ pA0 pA1 pA4 0 kA0 .null :: nR pA1 pA2 pA3 2 1 :: nK pA2 kA1 kA2 kA3 kA4 kA5 kA6 :: nE pA3 .null (.ref eA0) (.ref eA1) .null .null .null :: nH pA4 pA5 pA6 0 :: nK pA5 kA7 kA8 kA9 kA10 kA11 kA12 :: nE pA6 .null .null .null .null .null .null :: F) (fun r M' => (r = (some (.ref eA0)) ∧ M' = (nQ pA0 pA1 pA4 0 kA0 .null :: nR pA1 pA2 pA3 1 2 :: nK pA2 kA1 kA2 kA3 kA4 kA5 kA6 :: nE pA3 .null .null (.ref eA1) .null .null .null :: nH pA4 pA5 pA6 0 :: nK pA5 kA7 kA8 kA9 kA10 kA11 kA12 :: nE pA6 .null .null .null .null .null .null :: F))) := by
  refine Met.of_go pn_11 (Ls := #[.val (.ref pA0), .unset, .unset]) (fun m => rfl) ?_
  intro E C
  refine Go.aloadN C d9_0 rfl rfl rfl ?_
  refine Go.gf C (wd hw 59 rfl) 0 2 rfl rfl d9_1 rfl ?_
  refine Go.ifYes C d9_4 (by decide) (q := 75) rfl (XT.i0_eq_t (by decide)) ?_
  refine Go.aloadN C d9_75 rfl rfl rfl ?_
  refine Go.gf C (wd hw 59 rfl) 0 2 rfl rfl d9_76 rfl ?_
  refine Go.ifYes C d9_79 (by decide) (q := 94) rfl (XT.i0_eq_t (by decide)) ?_
  refine Go.aloadN C d9_94 rfl rfl rfl ?_
  refine Go.gf C (wd hw 45 rfl) 0 1 rfl rfl d9_95 rfl ?_
  refine Go.gv C (wd hw 106 rfl) (wd hw 107 rfl) 4 2 rfl rfl d9_98 rfl ?_
  refine Go.ifYes C d9_101 (by decide) (q := 142) rfl (XT.i0_eq_t (by decide)) ?_
  refine Go.aloadN C d9_142 rfl rfl rfl ?_
  refine Go.gf C (wd hw 34 rfl) 0 0 rfl rfl d9_143 rfl ?_
  refine Go.pick (M' := (nR pA1 pA2 pA3 2 1 :: nK pA2 kA1 kA2 kA3 kA4 kA5 kA6 :: nE pA3 .null (.ref eA0) (.ref eA1) .null .null .null :: nQ pA0 pA1 pA4 0 kA0 .null :: nH pA4 pA5 pA6 0 :: nK pA5 kA7 kA8 kA9 kA10 kA11 kA12 :: nE pA6 .null .null .null .null .null .null :: F)) 7 [1, 2, 3, 0, 4, 5, 6] (by decide) (by decide) rfl ?_
  refine Go.callPR C (y := yN13) (a := pA1) (as := []) (rest := []) (wd hw 159 rfl) (wd hw 160 rfl) (sel_priv (y := yN13) (wd hw 17 rfl) (wd hw 160 rfl) (wd hw 161 rfl) (by decide)) (wd hw 161 rfl) (wd hw 162 rfl) (wd hw 18 rfl) (fun _ r => r.exa 0 rfl) (u_SequenceQueue_Run_poll_70 l Z a0 hw _ pA1 pA2 pA3 eA0 eA1 kA1 kA2 kA3 kA4 kA5 kA6 hE_eA0 hE_eA1) rfl d9_146 (q := 149) rfl (by decide) rfl (na := 0) (by decide +kernel) rfl (by decide) (W := 0) rfl (by decide) (by decide) (by decide) (k' := 0) (n' := 0) rfl rfl ?_
  rintro _ _ ⟨rfl, rfl⟩
  show Go _ _ _ _ _ _ _ _ _ _ [(.ref eA0)]
  refine Go.astoreN C d9_149 rfl rfl (Ls' := #[.val (.ref pA0), .val (.ref eA0), .unset]) rfl ?_
  refine Go.goto C d9_150 (by decide) (q := 161) rfl ?_
  refine Go.aloadN C d9_161 rfl rfl rfl ?_
  refine Go.iconst C d9_162 rfl (v := (0 : Int32)) rfl ?_
  refine Go.pf C (wd hw 59 rfl) Via.refl 3 2 rfl rfl (wd hw 60 rfl) (wd hw 8 rfl) (ty := .boolean) (by decide) rfl rfl d9_163 rfl (M' := (nR pA1 pA2 pA3 1 2 :: nK pA2 kA1 kA2 kA3 kA4 kA5 kA6 :: nE pA3 .null .null (.ref eA1) .null .null .null :: nQ pA0 pA1 pA4 0 kA0 .null :: nH pA4 pA5 pA6 0 :: nK pA5 kA7 kA8 kA9 kA10 kA11 kA12 :: nE pA6 .null .null .null .null .null .null :: F)) rfl ?_
  refine Go.aloadN C d9_166 rfl rfl rfl ?_
  refine Go.aconstNull C d9_167 rfl ?_
  refine Go.pf C (wd hw 63 rfl) Via.refl 3 4 rfl rfl (wd hw 64 rfl) (wd hw 8 rfl) (ty := (.object "java/lang/Object")) (by decide) rfl rfl d9_168 rfl (M' := (nR pA1 pA2 pA3 1 2 :: nK pA2 kA1 kA2 kA3 kA4 kA5 kA6 :: nE pA3 .null .null (.ref eA1) .null .null .null :: nQ pA0 pA1 pA4 0 kA0 .null :: nH pA4 pA5 pA6 0 :: nK pA5 kA7 kA8 kA9 kA10 kA11 kA12 :: nE pA6 .null .null .null .null .null .null :: F)) rfl ?_
  refine Go.aloadN C d9_171 rfl rfl rfl ?_
  refine Go.astoreN C d9_172 rfl rfl (Ls' := #[.val (.ref pA0), .val (.ref eA0), .val (.ref eA0)]) rfl ?_
  refine Go.aloadN C d9_173 rfl rfl rfl ?_
  refine Go.pick (M' := (nQ pA0 pA1 pA4 0 kA0 .null :: nR pA1 pA2 pA3 1 2 :: nK pA2 kA1 kA2 kA3 kA4 kA5 kA6 :: nE pA3 .null .null (.ref eA1) .null .null .null :: nH pA4 pA5 pA6 0 :: nK pA5 kA7 kA8 kA9 kA10 kA11 kA12 :: nE pA6 .null .null .null .null .null .null :: F)) 7 [3, 0, 1, 2, 4, 5, 6] (by decide) (by decide) rfl ?_
  refine Go.retA C rfl rfl rfl d9_174 (by decide) (by decide) ?_
  exact ⟨rfl, rfl⟩
theorem u_SequenceQueue_poll_158 (l : Launch) (Z : State) (a0 : Array Value) (hw : HW Z a0) (F : List Ent) (pA0 pA1 pA2 pA3 pA4 pA5 pA6 eA0 eA1 eA2 : Addr) (kA0 kA1 kA2 kA3 kA4 kA5 kA6 kA7 kA8 kA9 kA10 kA11 kA12 : Int64) (hE_eA0 : XI Z eA0) (hE_eA1 : XI Z eA1) (hE_eA2 : XI Z eA2) (hK0 : ¬ kA3 < kA2) :
    Met l Z yN15 prog_20_method_3_code 3 (some (.object "java/lang/Object")) { frames := 3, cells := 0, slots := 0, locals := 45 } #[(.ref pA0)] (nQ pA0 pA1 pA4 0 kA0 .null :: nR pA1 pA2 pA3 2 1 :: nK pA2 kA1 kA2 kA3 kA4 kA5 kA6 :: nE pA3 .null (.ref eA0) (.ref eA1) .null .null .null :: nH pA4 pA5 pA6 1 :: nK pA5 kA7 kA8 kA9 kA10 kA11 kA12 :: nE pA6 (.ref eA2) .null .null .null .null .null :: F) (fun r M' => ((kA7 < kA2) ∧ r = (some (.ref eA2)) ∧ M' = (nQ pA0 pA1 pA4 0 kA0 .null :: nR pA1 pA2 pA3 2 1 :: nK pA2 kA1 kA2 kA3 kA4 kA5 kA6 :: nE pA3 .null (.ref eA0) (.ref eA1) .null .null .null :: nH pA4 pA5 pA6 0 :: nK pA5 kA7 kA8 kA9 kA10 kA11 kA12 :: nE pA6 .null .null .null .null .null .null :: F)) ∨ ((¬ kA7 < kA2) ∧ r = (some (.ref eA0)) ∧ M' = (nQ pA0 pA1 pA4 0 kA0 .null :: nR pA1 pA2 pA3 1 2 :: nK pA2 kA1 kA2 kA3 kA4 kA5 kA6 :: nE pA3 .null .null (.ref eA1) .null .null .null :: nH pA4 pA5 pA6 1 :: nK pA5 kA7 kA8 kA9 kA10 kA11 kA12 :: nE pA6 (.ref eA2) .null .null .null .null .null :: F))) := by
  refine Met.of_go pn_11 (Ls := #[.val (.ref pA0), .unset, .unset]) (fun m => rfl) ?_
  intro E C
  refine Go.aloadN C d9_0 rfl rfl rfl ?_
  refine Go.gf C (wd hw 59 rfl) 0 2 rfl rfl d9_1 rfl ?_
  refine Go.ifYes C d9_4 (by decide) (q := 75) rfl (XT.i0_eq_t (by decide)) ?_
  refine Go.aloadN C d9_75 rfl rfl rfl ?_
  refine Go.gf C (wd hw 59 rfl) 0 2 rfl rfl d9_76 rfl ?_
  refine Go.ifYes C d9_79 (by decide) (q := 94) rfl (XT.i0_eq_t (by decide)) ?_
  refine Go.aloadN C d9_94 rfl rfl rfl ?_
  refine Go.gf C (wd hw 45 rfl) 0 1 rfl rfl d9_95 rfl ?_
  refine Go.gv C (wd hw 106 rfl) (wd hw 107 rfl) 4 2 rfl rfl d9_98 rfl ?_
  refine Go.ifNo C d9_101 (q := 104) rfl (XT.i0_eq_f (by decide)) ?_
  refine Go.aloadN C d9_104 rfl rfl rfl ?_
  refine Go.gf C (wd hw 34 rfl) 0 0 rfl rfl d9_105 rfl ?_
  refine Go.gv C (wd hw 69 rfl) (wd hw 70 rfl) 1 2 rfl rfl d9_108 rfl ?_
  refine Go.ifNo C d9_111 (q := 114) rfl (XT.i0_le_f (by decide)) ?_
  refine Go.aloadN C d9_114 rfl rfl rfl ?_
  refine Go.gf C (wd hw 34 rfl) 0 0 rfl rfl d9_115 rfl ?_
  refine Go.gv C (wd hw 101 rfl) (wd hw 91 rfl) 1 0 rfl rfl d9_118 rfl ?_
  refine Go.aloadN C d9_121 rfl rfl rfl ?_
  refine Go.gf C (wd hw 34 rfl) 0 0 rfl rfl d9_122 rfl ?_
  refine Go.getR C (wd hw 102 rfl) (fun _ r => r.fld 1 3 rfl rfl) d9_125 (q := 128) rfl ?_
  refine Go.laload C (fun _ r => r.arr 2 rfl) (by decide) (v := (.long kA2)) rfl d9_128 (q := 129) rfl ?_
  refine Go.aloadN C d9_129 rfl rfl rfl ?_
  refine Go.gf C (wd hw 45 rfl) 0 1 rfl rfl d9_130 rfl ?_
  refine Go.gv C (wd hw 134 rfl) (wd hw 128 rfl) 4 0 rfl rfl d9_133 rfl ?_
  refine Go.iconst C d9_136 rfl (v := (0 : Int32)) rfl ?_
  refine Go.laload C (fun _ r => r.arr 5 rfl) (by decide) (v := (.long kA7)) rfl d9_137 (q := 138) rfl ?_
  refine Go.lcmpif C d9_138 rfl d9_139 (by decide) (q := 153) rfl (q' := 142) rfl (fun (h138_1 : kA7 < kA2) => ?_) (fun (h138_1 : ¬ kA7 < kA2) => ?_)
  · refine Go.aloadN C d9_153 rfl rfl rfl ?_
    refine Go.gf C (wd hw 45 rfl) 0 1 rfl rfl d9_154 rfl ?_
    refine Go.pick (M' := (nH pA4 pA5 pA6 1 :: nK pA5 kA7 kA8 kA9 kA10 kA11 kA12 :: nE pA6 (.ref eA2) .null .null .null .null .null :: nQ pA0 pA1 pA4 0 kA0 .null :: nR pA1 pA2 pA3 2 1 :: nK pA2 kA1 kA2 kA3 kA4 kA5 kA6 :: nE pA3 .null (.ref eA0) (.ref eA1) .null .null .null :: F)) 7 [4, 5, 6, 0, 1, 2, 3] (by decide) (by decide) rfl ?_
    refine Go.callPR C (y := yN11) (a := pA4) (as := []) (rest := []) (wd hw 140 rfl) (wd hw 141 rfl) (sel_priv (y := yN11) (wd hw 37 rfl) (wd hw 141 rfl) (wd hw 142 rfl) (by decide)) (wd hw 142 rfl) (wd hw 143 rfl) (wd hw 38 rfl) (fun _ r => r.exa 0 rfl) (u_SequenceQueue_Heap_poll_52 l Z a0 hw _ pA4 pA5 pA6 eA2 kA7 kA8 kA9 kA10 kA11 kA12 hE_eA2) rfl d9_157 (q := 160) rfl (by decide) rfl (na := 0) (by decide +kernel) rfl (by decide) (W := 0) rfl (by decide) (by decide) (by decide) (k' := 0) (n' := 0) rfl rfl ?_
    rintro _ _ ⟨rfl, rfl⟩
    show Go _ _ _ _ _ _ _ _ _ _ [(.ref eA2)]
    refine Go.astoreN C d9_160 rfl rfl (Ls' := #[.val (.ref pA0), .val (.ref eA2), .unset]) rfl ?_
    refine Go.aloadN C d9_161 rfl rfl rfl ?_
    refine Go.iconst C d9_162 rfl (v := (0 : Int32)) rfl ?_
    refine Go.pf C (wd hw 59 rfl) Via.refl 3 2 rfl rfl (wd hw 60 rfl) (wd hw 8 rfl) (ty := .boolean) (by decide) rfl rfl d9_163 rfl (M' := (nH pA4 pA5 pA6 0 :: nK pA5 kA7 kA8 kA9 kA10 kA11 kA12 :: nE pA6 .null .null .null .null .null .null :: nQ pA0 pA1 pA4 0 kA0 .null :: nR pA1 pA2 pA3 2 1 :: nK pA2 kA1 kA2 kA3 kA4 kA5 kA6 :: nE pA3 .null (.ref eA0) (.ref eA1) .null .null .null :: F)) rfl ?_
    refine Go.aloadN C d9_166 rfl rfl rfl ?_
    refine Go.aconstNull C d9_167 rfl ?_
    refine Go.pf C (wd hw 63 rfl) Via.refl 3 4 rfl rfl (wd hw 64 rfl) (wd hw 8 rfl) (ty := (.object "java/lang/Object")) (by decide) rfl rfl d9_168 rfl (M' := (nH pA4 pA5 pA6 0 :: nK pA5 kA7 kA8 kA9 kA10 kA11 kA12 :: nE pA6 .null .null .null .null .null .null :: nQ pA0 pA1 pA4 0 kA0 .null :: nR pA1 pA2 pA3 2 1 :: nK pA2 kA1 kA2 kA3 kA4 kA5 kA6 :: nE pA3 .null (.ref eA0) (.ref eA1) .null .null .null :: F)) rfl ?_
    refine Go.aloadN C d9_171 rfl rfl rfl ?_
    refine Go.astoreN C d9_172 rfl rfl (Ls' := #[.val (.ref pA0), .val (.ref eA2), .val (.ref eA2)]) rfl ?_
    refine Go.aloadN C d9_173 rfl rfl rfl ?_
    refine Go.pick (M' := (nQ pA0 pA1 pA4 0 kA0 .null :: nR pA1 pA2 pA3 2 1 :: nK pA2 kA1 kA2 kA3 kA4 kA5 kA6 :: nE pA3 .null (.ref eA0) (.ref eA1) .null .null .null :: nH pA4 pA5 pA6 0 :: nK pA5 kA7 kA8 kA9 kA10 kA11 kA12 :: nE pA6 .null .null .null .null .null .null :: F)) 7 [3, 4, 5, 6, 0, 1, 2] (by decide) (by decide) rfl ?_
    refine Go.retA C rfl rfl rfl d9_174 (by decide) (by decide) ?_
    exact Or.inl ⟨h138_1, rfl, rfl⟩
  · refine Go.aloadN C d9_142 rfl rfl rfl ?_
    refine Go.gf C (wd hw 34 rfl) 0 0 rfl rfl d9_143 rfl ?_
    refine Go.pick (M' := (nR pA1 pA2 pA3 2 1 :: nK pA2 kA1 kA2 kA3 kA4 kA5 kA6 :: nE pA3 .null (.ref eA0) (.ref eA1) .null .null .null :: nQ pA0 pA1 pA4 0 kA0 .null :: nH pA4 pA5 pA6 1 :: nK pA5 kA7 kA8 kA9 kA10 kA11 kA12 :: nE pA6 (.ref eA2) .null .null .null .null .null :: F)) 7 [1, 2, 3, 0, 4, 5, 6] (by decide) (by decide) rfl ?_
    refine Go.callPR C (y := yN13) (a := pA1) (as := []) (rest := []) (wd hw 159 rfl) (wd hw 160 rfl) (sel_priv (y := yN13) (wd hw 17 rfl) (wd hw 160 rfl) (wd hw 161 rfl) (by decide)) (wd hw 161 rfl) (wd hw 162 rfl) (wd hw 18 rfl) (fun _ r => r.exa 0 rfl) (u_SequenceQueue_Run_poll_70 l Z a0 hw _ pA1 pA2 pA3 eA0 eA1 kA1 kA2 kA3 kA4 kA5 kA6 hE_eA0 hE_eA1) rfl d9_146 (q := 149) rfl (by decide) rfl (na := 0) (by decide +kernel) rfl (by decide) (W := 0) rfl (by decide) (by decide) (by decide) (k' := 0) (n' := 0) rfl rfl ?_
    rintro _ _ ⟨rfl, rfl⟩
    show Go _ _ _ _ _ _ _ _ _ _ [(.ref eA0)]
    refine Go.astoreN C d9_149 rfl rfl (Ls' := #[.val (.ref pA0), .val (.ref eA0), .unset]) rfl ?_
    refine Go.goto C d9_150 (by decide) (q := 161) rfl ?_
    refine Go.aloadN C d9_161 rfl rfl rfl ?_
    refine Go.iconst C d9_162 rfl (v := (0 : Int32)) rfl ?_
    refine Go.pf C (wd hw 59 rfl) Via.refl 3 2 rfl rfl (wd hw 60 rfl) (wd hw 8 rfl) (ty := .boolean) (by decide) rfl rfl d9_163 rfl (M' := (nR pA1 pA2 pA3 1 2 :: nK pA2 kA1 kA2 kA3 kA4 kA5 kA6 :: nE pA3 .null .null (.ref eA1) .null .null .null :: nQ pA0 pA1 pA4 0 kA0 .null :: nH pA4 pA5 pA6 1 :: nK pA5 kA7 kA8 kA9 kA10 kA11 kA12 :: nE pA6 (.ref eA2) .null .null .null .null .null :: F)) rfl ?_
    refine Go.aloadN C d9_166 rfl rfl rfl ?_
    refine Go.aconstNull C d9_167 rfl ?_
    refine Go.pf C (wd hw 63 rfl) Via.refl 3 4 rfl rfl (wd hw 64 rfl) (wd hw 8 rfl) (ty := (.object "java/lang/Object")) (by decide) rfl rfl d9_168 rfl (M' := (nR pA1 pA2 pA3 1 2 :: nK pA2 kA1 kA2 kA3 kA4 kA5 kA6 :: nE pA3 .null .null (.ref eA1) .null .null .null :: nQ pA0 pA1 pA4 0 kA0 .null :: nH pA4 pA5 pA6 1 :: nK pA5 kA7 kA8 kA9 kA10 kA11 kA12 :: nE pA6 (.ref eA2) .null .null .null .null .null :: F)) rfl ?_
    refine Go.aloadN C d9_171 rfl rfl rfl ?_
    refine Go.astoreN C d9_172 rfl rfl (Ls' := #[.val (.ref pA0), .val (.ref eA0), .val (.ref eA0)]) rfl ?_
    refine Go.aloadN C d9_173 rfl rfl rfl ?_
    refine Go.pick (M' := (nQ pA0 pA1 pA4 0 kA0 .null :: nR pA1 pA2 pA3 1 2 :: nK pA2 kA1 kA2 kA3 kA4 kA5 kA6 :: nE pA3 .null .null (.ref eA1) .null .null .null :: nH pA4 pA5 pA6 1 :: nK pA5 kA7 kA8 kA9 kA10 kA11 kA12 :: nE pA6 (.ref eA2) .null .null .null .null .null :: F)) 7 [3, 0, 1, 2, 4, 5, 6] (by decide) (by decide) rfl ?_
    refine Go.retA C rfl rfl rfl d9_174 (by decide) (by decide) ?_
    exact Or.inr (⟨h138_1, rfl, rfl⟩)
theorem u_SequenceQueue_poll_160 (l : Launch) (Z : State) (a0 : Array Value) (hw : HW Z a0) (F : List Ent) (pA0 pA1 pA2 pA3 pA4 pA5 pA6 eA0 eA1 eA2 : Addr) (kA0 kA1 kA2 kA3 kA4 kA5 kA6 kA7 kA8 kA9 kA10 kA11 kA12 : Int64) (hE_eA0 : XI Z eA0) (hE_eA1 : XI Z eA1) (hE_eA2 : XI Z eA2) (hK0 : ¬ kA2 < kA1) (hK1 : ¬ kA3 < kA2) :
    Met l Z yN15 prog_20_method_3_code 3 (some (.object "java/lang/Object")) { frames := 3, cells := 0, slots := 0, locals := 45 } #[(.ref pA0)] (nQ pA0 pA1 pA4 0 kA0 .null :: nR pA1 pA2 pA3 3 0 :: nK pA2 kA1 kA2 kA3 kA4 kA5 kA6 :: nE pA3 (.ref eA0) (.ref eA1) (.ref eA2) .null .null .null :: nH pA4 pA5 pA6 0 :: nK pA5 kA7 kA8 kA9 kA10 kA11 kA12 :: nE pA6 .null .null .null .null .null .null :: F) (fun r M' => (r = (some (.ref eA0)) ∧ M' = (nQ pA0 pA1 pA4 0 kA0 .null :: nR pA1 pA2 pA3 2 1 :: nK pA2 kA1 kA2 kA3 kA4 kA5 kA6 :: nE pA3 .null (.ref eA1) (.ref eA2) .null .null .null :: nH pA4 pA5 pA6 0 :: nK pA5 kA7 kA8 kA9 kA10 kA11 kA12 :: nE pA6 .null .null .null .null .null .null :: F))) := by
  refine Met.of_go pn_11 (Ls := #[.val (.ref pA0), .unset, .unset]) (fun m => rfl) ?_
  intro E C
  refine Go.aloadN C d9_0 rfl rfl rfl ?_
  refine Go.gf C (wd hw 59 rfl) 0 2 rfl rfl d9_1 rfl ?_
  refine Go.ifYes C d9_4 (by decide) (q := 75) rfl (XT.i0_eq_t (by decide)) ?_
  refine Go.aloadN C d9_75 rfl rfl rfl ?_
  refine Go.gf C (wd hw 59 rfl) 0 2 rfl rfl d9_76 rfl ?_
  refine Go.ifYes C d9_79 (by decide) (q := 94) rfl (XT.i0_eq_t (by decide)) ?_
  refine Go.aloadN C d9_94 rfl rfl rfl ?_
  refine Go.gf C (wd hw 45 rfl) 0 1 rfl rfl d9_95 rfl ?_
  refine Go.gv C (wd hw 106 rfl) (wd hw 107 rfl) 4 2 rfl rfl d9_98 rfl ?_
  refine Go.ifYes C d9_101 (by decide) (q := 142) rfl (XT.i0_eq_t (by decide)) ?_
  refine Go.aloadN C d9_142 rfl rfl rfl ?_
  refine Go.gf C (wd hw 34 rfl) 0 0 rfl rfl d9_143 rfl ?_
  refine Go.pick (M' := (nR pA1 pA2 pA3 3 0 :: nK pA2 kA1 kA2 kA3 kA4 kA5 kA6 :: nE pA3 (.ref eA0) (.ref eA1) (.ref eA2) .null .null .null :: nQ pA0 pA1 pA4 0 kA0 .null :: nH pA4 pA5 pA6 0 :: nK pA5 kA7 kA8 kA9 kA10 kA11 kA12 :: nE pA6 .null .null .null .null .null .null :: F)) 7 [1, 2, 3, 0, 4, 5, 6] (by decide) (by decide) rfl ?_
  refine Go.callPR C (y := yN13) (a := pA1) (as := []) (rest := []) (wd hw 159 rfl) (wd hw 160 rfl) (sel_priv (y := yN13) (wd hw 17 rfl) (wd hw 160 rfl) (wd hw 161 rfl) (by decide)) (wd hw 161 rfl) (wd hw 162 rfl) (wd hw 18 rfl) (fun _ r => r.exa 0 rfl) (u_SequenceQueue_Run_poll_73 l Z a0 hw _ pA1 pA2 pA3 eA0 eA1 eA2 kA1 kA2 kA3 kA4 kA5 kA6 hE_eA0 hE_eA1 hE_eA2) rfl d9_146 (q := 149) rfl (by decide) rfl (na := 0) (by decide +kernel) rfl (by decide) (W := 0) rfl (by decide) (by decide) (by decide) (k' := 0) (n' := 0) rfl rfl ?_
  rintro _ _ ⟨rfl, rfl⟩
  show Go _ _ _ _ _ _ _ _ _ _ [(.ref eA0)]
  refine Go.astoreN C d9_149 rfl rfl (Ls' := #[.val (.ref pA0), .val (.ref eA0), .unset]) rfl ?_
  refine Go.goto C d9_150 (by decide) (q := 161) rfl ?_
  refine Go.aloadN C d9_161 rfl rfl rfl ?_
  refine Go.iconst C d9_162 rfl (v := (0 : Int32)) rfl ?_
  refine Go.pf C (wd hw 59 rfl) Via.refl 3 2 rfl rfl (wd hw 60 rfl) (wd hw 8 rfl) (ty := .boolean) (by decide) rfl rfl d9_163 rfl (M' := (nR pA1 pA2 pA3 2 1 :: nK pA2 kA1 kA2 kA3 kA4 kA5 kA6 :: nE pA3 .null (.ref eA1) (.ref eA2) .null .null .null :: nQ pA0 pA1 pA4 0 kA0 .null :: nH pA4 pA5 pA6 0 :: nK pA5 kA7 kA8 kA9 kA10 kA11 kA12 :: nE pA6 .null .null .null .null .null .null :: F)) rfl ?_
  refine Go.aloadN C d9_166 rfl rfl rfl ?_
  refine Go.aconstNull C d9_167 rfl ?_
  refine Go.pf C (wd hw 63 rfl) Via.refl 3 4 rfl rfl (wd hw 64 rfl) (wd hw 8 rfl) (ty := (.object "java/lang/Object")) (by decide) rfl rfl d9_168 rfl (M' := (nR pA1 pA2 pA3 2 1 :: nK pA2 kA1 kA2 kA3 kA4 kA5 kA6 :: nE pA3 .null (.ref eA1) (.ref eA2) .null .null .null :: nQ pA0 pA1 pA4 0 kA0 .null :: nH pA4 pA5 pA6 0 :: nK pA5 kA7 kA8 kA9 kA10 kA11 kA12 :: nE pA6 .null .null .null .null .null .null :: F)) rfl ?_
  refine Go.aloadN C d9_171 rfl rfl rfl ?_
  refine Go.astoreN C d9_172 rfl rfl (Ls' := #[.val (.ref pA0), .val (.ref eA0), .val (.ref eA0)]) rfl ?_
  refine Go.aloadN C d9_173 rfl rfl rfl ?_
  refine Go.pick (M' := (nQ pA0 pA1 pA4 0 kA0 .null :: nR pA1 pA2 pA3 2 1 :: nK pA2 kA1 kA2 kA3 kA4 kA5 kA6 :: nE pA3 .null (.ref eA1) (.ref eA2) .null .null .null :: nH pA4 pA5 pA6 0 :: nK pA5 kA7 kA8 kA9 kA10 kA11 kA12 :: nE pA6 .null .null .null .null .null .null :: F)) 7 [3, 0, 1, 2, 4, 5, 6] (by decide) (by decide) rfl ?_
  refine Go.retA C rfl rfl rfl d9_174 (by decide) (by decide) ?_
  exact ⟨rfl, rfl⟩
theorem u_SequenceQueue_poll_162 (l : Launch) (Z : State) (a0 : Array Value) (hw : HW Z a0) (F : List Ent) (pA0 pA1 pA2 pA3 pA4 pA5 pA6 eA0 eA1 eA2 : Addr) (kA0 kA1 kA2 kA3 kA4 kA5 kA6 kA7 kA8 kA9 kA10 kA11 kA12 : Int64) (hE_eA0 : XI Z eA0) (hE_eA1 : XI Z eA1) (hE_eA2 : XI Z eA2) (hK0 : ¬ kA3 < kA2) (hK1 : ¬ kA4 < kA3) :
    Met l Z yN15 prog_20_method_3_code 3 (some (.object "java/lang/Object")) { frames := 3, cells := 0, slots := 0, locals := 45 } #[(.ref pA0)] (nQ pA0 pA1 pA4 0 kA0 .null :: nR pA1 pA2 pA3 3 1 :: nK pA2 kA1 kA2 kA3 kA4 kA5 kA6 :: nE pA3 .null (.ref eA0) (.ref eA1) (.ref eA2) .null .null :: nH pA4 pA5 pA6 0 :: nK pA5 kA7 kA8 kA9 kA10 kA11 kA12 :: nE pA6 .null .null .null .null .null .null :: F) (fun r M' => (r = (some (.ref eA0)) ∧ M' = (nQ pA0 pA1 pA4 0 kA0 .null :: nR pA1 pA2 pA3 2 2 :: nK pA2 kA1 kA2 kA3 kA4 kA5 kA6 :: nE pA3 .null .null (.ref eA1) (.ref eA2) .null .null :: nH pA4 pA5 pA6 0 :: nK pA5 kA7 kA8 kA9 kA10 kA11 kA12 :: nE pA6 .null .null .null .null .null .null :: F))) := by
  refine Met.of_go pn_11 (Ls := #[.val (.ref pA0), .unset, .unset]) (fun m => rfl) ?_
  intro E C
  refine Go.aloadN C d9_0 rfl rfl rfl ?_
  refine Go.gf C (wd hw 59 rfl) 0 2 rfl rfl d9_1 rfl ?_
  refine Go.ifYes C d9_4 (by decide) (q := 75) rfl (XT.i0_eq_t (by decide)) ?_
  refine Go.aloadN C d9_75 rfl rfl rfl ?_
  refine Go.gf C (wd hw 59 rfl) 0 2 rfl rfl d9_76 rfl ?_
  refine Go.ifYes C d9_79 (by decide) (q := 94) rfl (XT.i0_eq_t (by decide)) ?_
  refine Go.aloadN C d9_94 rfl rfl rfl ?_
  refine Go.gf C (wd hw 45 rfl) 0 1 rfl rfl d9_95 rfl ?_
  refine Go.gv C (wd hw 106 rfl) (wd hw 107 rfl) 4 2 rfl rfl d9_98 rfl ?_
  refine Go.ifYes C d9_101 (by decide) (q := 142) rfl (XT.i0_eq_t (by decide)) ?_
  refine Go.aloadN C d9_142 rfl rfl rfl ?_
  refine Go.gf C (wd hw 34 rfl) 0 0 rfl rfl d9_143 rfl ?_
  refine Go.pick (M' := (nR pA1 pA2 pA3 3 1 :: nK pA2 kA1 kA2 kA3 kA4 kA5 kA6 :: nE pA3 .null (.ref eA0) (.ref eA1) (.ref eA2) .null .null :: nQ pA0 pA1 pA4 0 kA0 .null :: nH pA4 pA5 pA6 0 :: nK pA5 kA7 kA8 kA9 kA10 kA11 kA12 :: nE pA6 .null .null .null .null .null .null :: F)) 7 [1, 2, 3, 0, 4, 5, 6] (by decide) (by decide) rfl ?_
  refine Go.callPR C (y := yN13) (a := pA1) (as := []) (rest := []) (wd hw 159 rfl) (wd hw 160 rfl) (sel_priv (y := yN13) (wd hw 17 rfl) (wd hw 160 rfl) (wd hw 161 rfl) (by decide)) (wd hw 161 rfl) (wd hw 162 rfl) (wd hw 18 rfl) (fun _ r => r.exa 0 rfl) (u_SequenceQueue_Run_poll_76 l Z a0 hw _ pA1 pA2 pA3 eA0 eA1 eA2 kA1 kA2 kA3 kA4 kA5 kA6 hE_eA0 hE_eA1 hE_eA2) rfl d9_146 (q := 149) rfl (by decide) rfl (na := 0) (by decide +kernel) rfl (by decide) (W := 0) rfl (by decide) (by decide) (by decide) (k' := 0) (n' := 0) rfl rfl ?_
  rintro _ _ ⟨rfl, rfl⟩
  show Go _ _ _ _ _ _ _ _ _ _ [(.ref eA0)]
  refine Go.astoreN C d9_149 rfl rfl (Ls' := #[.val (.ref pA0), .val (.ref eA0), .unset]) rfl ?_
  refine Go.goto C d9_150 (by decide) (q := 161) rfl ?_
  refine Go.aloadN C d9_161 rfl rfl rfl ?_
  refine Go.iconst C d9_162 rfl (v := (0 : Int32)) rfl ?_
  refine Go.pf C (wd hw 59 rfl) Via.refl 3 2 rfl rfl (wd hw 60 rfl) (wd hw 8 rfl) (ty := .boolean) (by decide) rfl rfl d9_163 rfl (M' := (nR pA1 pA2 pA3 2 2 :: nK pA2 kA1 kA2 kA3 kA4 kA5 kA6 :: nE pA3 .null .null (.ref eA1) (.ref eA2) .null .null :: nQ pA0 pA1 pA4 0 kA0 .null :: nH pA4 pA5 pA6 0 :: nK pA5 kA7 kA8 kA9 kA10 kA11 kA12 :: nE pA6 .null .null .null .null .null .null :: F)) rfl ?_
  refine Go.aloadN C d9_166 rfl rfl rfl ?_
  refine Go.aconstNull C d9_167 rfl ?_
  refine Go.pf C (wd hw 63 rfl) Via.refl 3 4 rfl rfl (wd hw 64 rfl) (wd hw 8 rfl) (ty := (.object "java/lang/Object")) (by decide) rfl rfl d9_168 rfl (M' := (nR pA1 pA2 pA3 2 2 :: nK pA2 kA1 kA2 kA3 kA4 kA5 kA6 :: nE pA3 .null .null (.ref eA1) (.ref eA2) .null .null :: nQ pA0 pA1 pA4 0 kA0 .null :: nH pA4 pA5 pA6 0 :: nK pA5 kA7 kA8 kA9 kA10 kA11 kA12 :: nE pA6 .null .null .null .null .null .null :: F)) rfl ?_
  refine Go.aloadN C d9_171 rfl rfl rfl ?_
  refine Go.astoreN C d9_172 rfl rfl (Ls' := #[.val (.ref pA0), .val (.ref eA0), .val (.ref eA0)]) rfl ?_
  refine Go.aloadN C d9_173 rfl rfl rfl ?_
  refine Go.pick (M' := (nQ pA0 pA1 pA4 0 kA0 .null :: nR pA1 pA2 pA3 2 2 :: nK pA2 kA1 kA2 kA3 kA4 kA5 kA6 :: nE pA3 .null .null (.ref eA1) (.ref eA2) .null .null :: nH pA4 pA5 pA6 0 :: nK pA5 kA7 kA8 kA9 kA10 kA11 kA12 :: nE pA6 .null .null .null .null .null .null :: F)) 7 [3, 0, 1, 2, 4, 5, 6] (by decide) (by decide) rfl ?_
  refine Go.retA C rfl rfl rfl d9_174 (by decide) (by decide) ?_
  exact ⟨rfl, rfl⟩
theorem own_pollB (l : Launch) (Z : State) (a0 : Array Value) (hw : ∀ d ∈ tables_1, d.before a0 Z = true) (F : List Ent) (K : Nat → Int64) (e : Nat → Addr) (hE : ∀ i, Exa Z Z.heap (e i) "java/lang/Integer") (q : Addr) {t : Nat} {L : List Nat} {M : List Ent} (i : Nat) (ht0 : t ∈ [5]) (hne : L ≠ []) (hQ : QS K e q t L M) :
    Met l Z yN15 prog_20_method_3_code 3 (some (.object "java/lang/Object")) { frames := 3, cells := 0, slots := 0, locals := 45 } #[(.ref q)] (M ++ F) (fun r M' => ∃ i L2 M2, r = some (.ref (e i)) ∧ QS K e q 7 L2 M2 ∧ M' = M2 ++ F ∧ (i :: L2).Perm L ∧ own_kmin K L = K i) := by
  obtain ⟨-, L0, n, hp, h⟩ := hQ
  match n, h with
  | 0, h =>
    obtain ⟨pr, pk, pe, ph, pj, pf, z, x0, x1, x2, x3, x4, x5, y0, y1, y2, y3, y4, y5, ht, rfl, rfl⟩ := h
    exact absurd (List.Perm.nil_eq hp).symm hne
  | 1, h =>
    obtain ⟨pr, pk, pe, ph, pj, pf, z, x0, x1, x2, x3, x4, x5, y0, y1, y2, y3, y4, y5, ht, rfl, rfl⟩ := h
    exact absurd ht0 (by simp at ht ⊢; omega)
  | 2, h =>
    obtain ⟨pr, pk, pe, ph, pj, pf, j0, z, x0, x1, x2, x3, x4, x5, y1, y2, y3, y4, y5, ht, rfl, rfl⟩ := h
   
    refine Met.mono (u_SequenceQueue_poll_134 l Z a0 hw _ q pr pk pe ph pj pf (e j0) z x0 x1 x2 x3 x4 x5 (K j0) y1 y2 y3 y4 y5 (hE j0)) ?_
    rintro _ _ ⟨rfl, rfl⟩
    · exact ⟨j0, _, _, rfl, QS.c0010 (by decide) pr pk pe ph pj pf z x0 x1 x2 x3 x4 x5 (K j0) y1 y2 y3 y4 y5  (List.Perm.refl _), rfl, (((by rw [List.perm_iff_count]; intro a; simp only [List.count_cons, List.count_nil] <;> omega) : List.Perm ([j0] : List Nat) [j0]).trans hp), (Int64.toInt_inj.mp (by rw [← own_kperm K hp]; simp only [own_kmin, own_minI, own_maxI, Int64.lt_iff_toInt_lt] at ⊢; have := own_le (K j0); omega))⟩
  | 3, h =>
    obtain ⟨pr, pk, pe, ph, pj, pf, j0, j1, z, x0, x1, x2, x3, x4, x5, y2, y3, y4, y5, ht, hv0, rfl, rfl⟩ := h
   
    refine Met.mono (u_SequenceQueue_poll_136 l Z a0 hw _ q pr pk pe ph pj pf (e j0) (e j1) z x0 x1 x2 x3 x4 x5 (K j0) (K j1) y2 y3 y4 y5 (hE j0) (hE j1) hv0) ?_
    rintro _ _ ⟨rfl, rfl⟩
    · exact ⟨j0, _, _, rfl, QS.c0011 (by decide) pr pk pe ph pj pf j1 z x0 x1 x2 x3 x4 x5 (K j1) y2 y3 y4 y5  (List.Perm.refl _), rfl, (((by rw [List.perm_iff_count]; intro a; simp only [List.count_cons, List.count_nil] <;> omega) : List.Perm ([j0, j1] : List Nat) [j0, j1]).trans hp), (Int64.toInt_inj.mp (by rw [← own_kperm K hp]; simp only [own_kmin, own_minI, own_maxI, Int64.lt_iff_toInt_lt] at hv0 ⊢; have := own_le (K j0); have := own_le (K j1); omega))⟩
  | 4, h =>
    obtain ⟨pr, pk, pe, ph, pj, pf, j0, j1, j2, z, x0, x1, x2, x3, x4, x5, y3, y4, y5, ht, hv0, hv1, rfl, rfl⟩ := h
   
    refine Met.mono (u_SequenceQueue_poll_138 l Z a0 hw _ q pr pk pe ph pj pf (e j0) (e j1) (e j2) z x0 x1 x2 x3 x4 x5 (K j0) (K j1) (K j2) y3 y4 y5 (hE j0) (hE j1) (hE j2) hv0 hv1) ?_
    rintro _ _ (⟨hc106, rfl, rfl⟩ | ⟨hc107, rfl, rfl⟩)
    · exact ⟨j0, _, _, rfl, QS.c0012 (by decide) pr pk pe ph pj pf j1 j2 z x0 x1 x2 x3 x4 x5 (K j2) y3 y4 y5 (by simp only [Int64.lt_iff_toInt_lt] at hv0 hv1 hc106 ⊢; omega) (List.Perm.refl _), rfl, (((by rw [List.perm_iff_count]; intro a; simp only [List.count_cons, List.count_nil] <;> omega) : List.Perm ([j0, j1, j2] : List Nat) [j0, j1, j2]).trans hp), (Int64.toInt_inj.mp (by rw [← own_kperm K hp]; simp only [own_kmin, own_minI, own_maxI, Int64.lt_iff_toInt_lt] at hv0 hv1 hc106 ⊢; have := own_le (K j0); have := own_le (K j1); have := own_le (K j2); omega))⟩
    · exact ⟨j0, _, _, rfl, QS.c0012 (by decide) pr pk pe ph pj pf j2 j1 z x0 x1 x2 x3 x4 x5 (K j2) y3 y4 y5 (by simp only [Int64.lt_iff_toInt_lt] at hv0 hv1 hc107 ⊢; omega) (List.Perm.refl _), rfl, (((by rw [List.perm_iff_count]; intro a; simp only [List.count_cons, List.count_nil] <;> omega) : List.Perm ([j0, j2, j1] : List Nat) [j0, j1, j2]).trans hp), (Int64.toInt_inj.mp (by rw [← own_kperm K hp]; simp only [own_kmin, own_minI, own_maxI, Int64.lt_iff_toInt_lt] at hv0 hv1 hc107 ⊢; have := own_le (K j0); have := own_le (K j1); have := own_le (K j2); omega))⟩
  | 5, h =>
    obtain ⟨pr, pk, pe, ph, pj, pf, z, x0, x1, x2, x3, x4, x5, y0, y1, y2, y3, y4, y5, ht, rfl, rfl⟩ := h
    exact absurd ht0 (by simp at ht ⊢; omega)
  | 6, h =>
    obtain ⟨pr, pk, pe, ph, pj, pf, j0, z, x0, x1, x2, x3, x4, x5, y1, y2, y3, y4, y5, ht, rfl, rfl⟩ := h
    exact absurd ht0 (by simp at ht ⊢; omega)
  | 7, h =>
    obtain ⟨pr, pk, pe, ph, pj, pf, j0, j1, z, x0, x1, x2, x3, x4, x5, y2, y3, y4, y5, ht, hv0, rfl, rfl⟩ := h
    exact absurd ht0 (by simp at ht ⊢; omega)
  | 8, h =>
    obtain ⟨pr, pk, pe, ph, pj, pf, i0, z, x1, x2, x3, x4, x5, y0, y1, y2, y3, y4, y5, ht, rfl, rfl⟩ := h
   
    refine Met.mono (u_SequenceQueue_poll_140 l Z a0 hw _ q pr pk pe ph pj pf (e i0) z (K i0) x1 x2 x3 x4 x5 y0 y1 y2 y3 y4 y5 (hE i0)) ?_
    rintro _ _ ⟨rfl, rfl⟩
    · exact ⟨i0, _, _, rfl, QS.c0010 (by decide) pr pk pe ph pj pf z (K i0) x1 x2 x3 x4 x5 y0 y1 y2 y3 y4 y5  (List.Perm.refl _), rfl, (((by rw [List.perm_iff_count]; intro a; simp only [List.count_cons, List.count_nil] <;> omega) : List.Perm ([i0] : List Nat) [i0]).trans hp), (Int64.toInt_inj.mp (by rw [← own_kperm K hp]; simp only [own_kmin, own_minI, own_maxI, Int64.lt_iff_toInt_lt] at ⊢; have := own_le (K i0); omega))⟩
  | 9, h =>
    obtain ⟨pr, pk, pe, ph, pj, pf, i0, j0, z, x1, x2, x3, x4, x5, y1, y2, y3, y4, y5, ht, rfl, rfl⟩ := h
   
    refine Met.mono (u_SequenceQueue_poll_142 l Z a0 hw _ q pr pk pe ph pj pf (e i0) (e j0) z (K i0) x1 x2 x3 x4 x5 (K j0) y1 y2 y3 y4 y5 (hE i0) (hE j0)) ?_
    rintro _ _ (⟨hc108, rfl, rfl⟩ | ⟨hc109, rfl, rfl⟩)
    · exact ⟨j0, _, _, rfl, QS.c0100 (by decide) pr pk pe ph pj pf i0 z x1 x2 x3 x4 x5 (K j0) y1 y2 y3 y4 y5  (List.Perm.refl _), rfl, (((by rw [List.perm_iff_count]; intro a; simp only [List.count_cons, List.count_nil] <;> omega) : List.Perm ([j0, i0] : List Nat) [i0, j0]).trans hp), (Int64.toInt_inj.mp (by rw [← own_kperm K hp]; simp only [own_kmin, own_minI, own_maxI, Int64.lt_iff_toInt_lt] at hc108 ⊢; have := own_le (K i0); have := own_le (K j0); omega))⟩
    · exact ⟨i0, _, _, rfl, QS.c0011 (by decide) pr pk pe ph pj pf j0 z (K i0) x1 x2 x3 x4 x5 y1 y2 y3 y4 y5  (List.Perm.refl _), rfl, (((by rw [List.perm_iff_count]; intro a; simp only [List.count_cons, List.count_nil] <;> omega) : List.Perm ([i0, j0] : List Nat) [i0, j0]).trans hp), (Int64.toInt_inj.mp (by rw [← own_kperm K hp]; simp only [own_kmin, own_minI, own_maxI, Int64.lt_iff_toInt_lt] at hc109 ⊢; have := own_le (K i0); have := own_le (K j0); omega))⟩
  | 10, h =>
    obtain ⟨pr, pk, pe, ph, pj, pf, i0, j0, j1, z, x1, x2, x3, x4, x5, y2, y3, y4, y5, ht, hv0, rfl, rfl⟩ := h
   
    refine Met.mono (u_SequenceQueue_poll_144 l Z a0 hw _ q pr pk pe ph pj pf (e i0) (e j0) (e j1) z (K i0) x1 x2 x3 x4 x5 (K j0) (K j1) y2 y3 y4 y5 (hE i0) (hE j0) (hE j1) hv0) ?_
    rintro _ _ (⟨hc110, rfl, rfl⟩ | ⟨hc111, rfl, rfl⟩)
    · exact ⟨j0, _, _, rfl, QS.c0101 (by decide) pr pk pe ph pj pf i0 j1 z x1 x2 x3 x4 x5 (K j1) y2 y3 y4 y5  (List.Perm.refl _), rfl, (((by rw [List.perm_iff_count]; intro a; simp only [List.count_cons, List.count_nil] <;> omega) : List.Perm ([j0, i0, j1] : List Nat) [i0, j0, j1]).trans hp), (Int64.toInt_inj.mp (by rw [← own_kperm K hp]; simp only [own_kmin, own_minI, own_maxI, Int64.lt_iff_toInt_lt] at hv0 hc110 ⊢; have := own_le (K i0); have := own_le (K j0); have := own_le (K j1); omega))⟩
    · exact ⟨i0, _, _, rfl, QS.c0012 (by decide) pr pk pe ph pj pf j0 j1 z (K i0) x1 x2 x3 x4 x5 y2 y3 y4 y5 (by simp only [Int64.lt_iff_toInt_lt] at hv0 hc111 ⊢; omega) (List.Perm.refl _), rfl, (((by rw [List.perm_iff_count]; intro a; simp only [List.count_cons, List.count_nil] <;> omega) : List.Perm ([i0, j0, j1] : List Nat) [i0, j0, j1]).trans hp), (Int64.toInt_inj.mp (by rw [← own_kperm K hp]; simp only [own_kmin, own_minI, own_maxI, Int64.lt_iff_toInt_lt] at hv0 hc111 ⊢; have := own_le (K i0); have := own_le (K j0); have := own_le (K j1); omega))⟩
  | 11, h =>
    obtain ⟨pr, pk, pe, ph, pj, pf, i0, z, x0, x2, x3, x4, x5, y0, y1, y2, y3, y4, y5, ht, rfl, rfl⟩ := h
   
    refine Met.mono (u_SequenceQueue_poll_146 l Z a0 hw _ q pr pk pe ph pj pf (e i0) z x0 (K i0) x2 x3 x4 x5 y0 y1 y2 y3 y4 y5 (hE i0)) ?_
    rintro _ _ ⟨rfl, rfl⟩
    · exact ⟨i0, _, _, rfl, QS.c0020 (by decide) pr pk pe ph pj pf z x0 (K i0) x2 x3 x4 x5 y0 y1 y2 y3 y4 y5  (List.Perm.refl _), rfl, (((by rw [List.perm_iff_count]; intro a; simp only [List.count_cons, List.count_nil] <;> omega) : List.Perm ([i0] : List Nat) [i0]).trans hp), (Int64.toInt_inj.mp (by rw [← own_kperm K hp]; simp only [own_kmin, own_minI, own_maxI, Int64.lt_iff_toInt_lt] at ⊢; have := own_le (K i0); omega))⟩
  | 12, h =>
    obtain ⟨pr, pk, pe, ph, pj, pf, i0, j0, z, x0, x2, x3, x4, x5, y1, y2, y3, y4, y5, ht, rfl, rfl⟩ := h
   
    refine Met.mono (u_SequenceQueue_poll_148 l Z a0 hw _ q pr pk pe ph pj pf (e i0) (e j0) z x0 (K i0) x2 x3 x4 x5 (K j0) y1 y2 y3 y4 y5 (hE i0) (hE j0)) ?_
    rintro _ _ (⟨hc112, rfl, rfl⟩ | ⟨hc113, rfl, rfl⟩)
    · exact ⟨j0, _, _, rfl, QS.c0110 (by decide) pr pk pe ph pj pf i0 z x0 x2 x3 x4 x5 (K j0) y1 y2 y3 y4 y5  (List.Perm.refl _), rfl, (((by rw [List.perm_iff_count]; intro a; simp only [List.count_cons, List.count_nil] <;> omega) : List.Perm ([j0, i0] : List Nat) [i0, j0]).trans hp), (Int64.toInt_inj.mp (by rw [← own_kperm K hp]; simp only [own_kmin, own_minI, own_maxI, Int64.lt_iff_toInt_lt] at hc112 ⊢; have := own_le (K i0); have := own_le (K j0); omega))⟩
    · exact ⟨i0, _, _, rfl, QS.c0021 (by decide) pr pk pe ph pj pf j0 z x0 (K i0) x2 x3 x4 x5 y1 y2 y3 y4 y5  (List.Perm.refl _), rfl, (((by rw [List.perm_iff_count]; intro a; simp only [List.count_cons, List.count_nil] <;> omega) : List.Perm ([i0, j0] : List Nat) [i0, j0]).trans hp), (Int64.toInt_inj.mp (by rw [← own_kperm K hp]; simp only [own_kmin, own_minI, own_maxI, Int64.lt_iff_toInt_lt] at hc113 ⊢; have := own_le (K i0); have := own_le (K j0); omega))⟩
  | 13, h =>
    obtain ⟨pr, pk, pe, ph, pj, pf, i0, j0, j1, z, x0, x2, x3, x4, x5, y2, y3, y4, y5, ht, hv0, rfl, rfl⟩ := h
   
    refine Met.mono (u_SequenceQueue_poll_150 l Z a0 hw _ q pr pk pe ph pj pf (e i0) (e j0) (e j1) z x0 (K i0) x2 x3 x4 x5 (K j0) (K j1) y2 y3 y4 y5 (hE i0) (hE j0) (hE j1) hv0) ?_
    rintro _ _ (⟨hc114, rfl, rfl⟩ | ⟨hc115, rfl, rfl⟩)
    · exact ⟨j0, _, _, rfl, QS.c0111 (by decide) pr pk pe ph pj pf i0 j1 z x0 x2 x3 x4 x5 (K j1) y2 y3 y4 y5  (List.Perm.refl _), rfl, (((by rw [List.perm_iff_count]; intro a; simp only [List.count_cons, List.count_nil] <;> omega) : List.Perm ([j0, i0, j1] : List Nat) [i0, j0, j1]).trans hp), (Int64.toInt_inj.mp (by rw [← own_kperm K hp]; simp only [own_kmin, own_minI, own_maxI, Int64.lt_iff_toInt_lt] at hv0 hc114 ⊢; have := own_le (K i0); have := own_le (K j0); have := own_le (K j1); omega))⟩
    · exact ⟨i0, _, _, rfl, QS.c0022 (by decide) pr pk pe ph pj pf j0 j1 z x0 (K i0) x2 x3 x4 x5 y2 y3 y4 y5 (by simp only [Int64.lt_iff_toInt_lt] at hv0 hc115 ⊢; omega) (List.Perm.refl _), rfl, (((by rw [List.perm_iff_count]; intro a; simp only [List.count_cons, List.count_nil] <;> omega) : List.Perm ([i0, j0, j1] : List Nat) [i0, j0, j1]).trans hp), (Int64.toInt_inj.mp (by rw [← own_kperm K hp]; simp only [own_kmin, own_minI, own_maxI, Int64.lt_iff_toInt_lt] at hv0 hc115 ⊢; have := own_le (K i0); have := own_le (K j0); have := own_le (K j1); omega))⟩
  | 14, h =>
    obtain ⟨pr, pk, pe, ph, pj, pf, i0, z, x0, x1, x3, x4, x5, y0, y1, y2, y3, y4, y5, ht, rfl, rfl⟩ := h
    exact absurd ht0 (by simp at ht ⊢; omega)
  | 15, h =>
    obtain ⟨pr, pk, pe, ph, pj, pf, i0, j0, z, x0, x1, x3, x4, x5, y1, y2, y3, y4, y5, ht, rfl, rfl⟩ := h
    exact absurd ht0 (by simp at ht ⊢; omega)
  | 16, h =>
    obtain ⟨pr, pk, pe, ph, pj, pf, i0, i1, z, x2, x3, x4, x5, y0, y1, y2, y3, y4, y5, ht, hv0, rfl, rfl⟩ := h
   
    refine Met.mono (u_SequenceQueue_poll_152 l Z a0 hw _ q pr pk pe ph pj pf (e i0) (e i1) z (K i0) (K i1) x2 x3 x4 x5 y0 y1 y2 y3 y4 y5 (hE i0) (hE i1) hv0) ?_
    rintro _ _ ⟨rfl, rfl⟩
    · exact ⟨i0, _, _, rfl, QS.c0110 (by decide) pr pk pe ph pj pf i1 z (K i0) x2 x3 x4 x5 y0 y1 y2 y3 y4 y5  (List.Perm.refl _), rfl, (((by rw [List.perm_iff_count]; intro a; simp only [List.count_cons, List.count_nil] <;> omega) : List.Perm ([i0, i1] : List Nat) [i0, i1]).trans hp), (Int64.toInt_inj.mp (by rw [← own_kperm K hp]; simp only [own_kmin, own_minI, own_maxI, Int64.lt_iff_toInt_lt] at hv0 ⊢; have := own_le (K i0); have := own_le (K i1); omega))⟩
  | 17, h =>
    obtain ⟨pr, pk, pe, ph, pj, pf, i0, i1, j0, z, x2, x3, x4, x5, y1, y2, y3, y4, y5, ht, hv0, rfl, rfl⟩ := h
   
    refine Met.mono (u_SequenceQueue_poll_154 l Z a0 hw _ q pr pk pe ph pj pf (e i0) (e i1) (e j0) z (K i0) (K i1) x2 x3 x4 x5 (K j0) y1 y2 y3 y4 y5 (hE i0) (hE i1) (hE j0) hv0) ?_
    rintro _ _ (⟨hc116, rfl, rfl⟩ | ⟨hc117, rfl, rfl⟩)
    · exact ⟨j0, _, _, rfl, QS.c0200 (by decide) pr pk pe ph pj pf i0 i1 z x2 x3 x4 x5 (K j0) y1 y2 y3 y4 y5 (by simp only [Int64.lt_iff_toInt_lt] at hv0 hc116 ⊢; omega) (List.Perm.refl _), rfl, (((by rw [List.perm_iff_count]; intro a; simp only [List.count_cons, List.count_nil] <;> omega) : List.Perm ([j0, i0, i1] : List Nat) [i0, i1, j0]).trans hp), (Int64.toInt_inj.mp (by rw [← own_kperm K hp]; simp only [own_kmin, own_minI, own_maxI, Int64.lt_iff_toInt_lt] at hv0 hc116 ⊢; have := own_le (K i0); have := own_le (K i1); have := own_le (K j0); omega))⟩
    · exact ⟨i0, _, _, rfl, QS.c0111 (by decide) pr pk pe ph pj pf i1 j0 z (K i0) x2 x3 x4 x5 y1 y2 y3 y4 y5  (List.Perm.refl _), rfl, (((by rw [List.perm_iff_count]; intro a; simp only [List.count_cons, List.count_nil] <;> omega) : List.Perm ([i0, i1, j0] : List Nat) [i0, i1, j0]).trans hp), (Int64.toInt_inj.mp (by rw [← own_kperm K hp]; simp only [own_kmin, own_minI, own_maxI, Int64.lt_iff_toInt_lt] at hv0 hc117 ⊢; have := own_le (K i0); have := own_le (K i1); have := own_le (K j0); omega))⟩
  | 18, h =>
    obtain ⟨pr, pk, pe, ph, pj, pf, i0, i1, z, x0, x3, x4, x5, y0, y1, y2, y3, y4, y5, ht, hv0, rfl, rfl⟩ := h
   
    refine Met.mono (u_SequenceQueue_poll_156 l Z a0 hw _ q pr pk pe ph pj pf (e i0) (e i1) z x0 (K i0) (K i1) x3 x4 x5 y0 y1 y2 y3 y4 y5 (hE i0) (hE i1) hv0) ?_
    rintro _ _ ⟨rfl, rfl⟩
    · exact ⟨i0, _, _, rfl, QS.c0120 (by decide) pr pk pe ph pj pf i1 z x0 (K i0) x3 x4 x5 y0 y1 y2 y3 y4 y5  (List.Perm.refl _), rfl, (((by rw [List.perm_iff_count]; intro a; simp only [List.count_cons, List.count_nil] <;> omega) : List.Perm ([i0, i1] : List Nat) [i0, i1]).trans hp), (Int64.toInt_inj.mp (by rw [← own_kperm K hp]; simp only [own_kmin, own_minI, own_maxI, Int64.lt_iff_toInt_lt] at hv0 ⊢; have := own_le (K i0); have := own_le (K i1); omega))⟩
  | 19, h =>
    obtain ⟨pr, pk, pe, ph, pj, pf, i0, i1, j0, z, x0, x3, x4, x5, y1, y2, y3, y4, y5, ht, hv0, rfl, rfl⟩ := h
   
    refine Met.mono (u_SequenceQueue_poll_158 l Z a0 hw _ q pr pk pe ph pj pf (e i0) (e i1) (e j0) z x0 (K i0) (K i1) x3 x4 x5 (K j0) y1 y2 y3 y4 y5 (hE i0) (hE i1) (hE j0) hv0) ?_
    rintro _ _ (⟨hc118, rfl, rfl⟩ | ⟨hc119, rfl, rfl⟩)
    · exact ⟨j0, _, _, rfl, QS.c0210 (by decide) pr pk pe ph pj pf i0 i1 z x0 x3 x4 x5 (K j0) y1 y2 y3 y4 y5 (by simp only [Int64.lt_iff_toInt_lt] at hv0 hc118 ⊢; omega) (List.Perm.refl _), rfl, (((by rw [List.perm_iff_count]; intro a; simp only [List.count_cons, List.count_nil] <;> omega) : List.Perm ([j0, i0, i1] : List Nat) [i0, i1, j0]).trans hp), (Int64.toInt_inj.mp (by rw [← own_kperm K hp]; simp only [own_kmin, own_minI, own_maxI, Int64.lt_iff_toInt_lt] at hv0 hc118 ⊢; have := own_le (K i0); have := own_le (K i1); have := own_le (K j0); omega))⟩
    · exact ⟨i0, _, _, rfl, QS.c0121 (by decide) pr pk pe ph pj pf i1 j0 z x0 (K i0) x3 x4 x5 y1 y2 y3 y4 y5  (List.Perm.refl _), rfl, (((by rw [List.perm_iff_count]; intro a; simp only [List.count_cons, List.count_nil] <;> omega) : List.Perm ([i0, i1, j0] : List Nat) [i0, i1, j0]).trans hp), (Int64.toInt_inj.mp (by rw [← own_kperm K hp]; simp only [own_kmin, own_minI, own_maxI, Int64.lt_iff_toInt_lt] at hv0 hc119 ⊢; have := own_le (K i0); have := own_le (K i1); have := own_le (K j0); omega))⟩
  | 20, h =>
    obtain ⟨pr, pk, pe, ph, pj, pf, i0, i1, z, x0, x1, x4, x5, y0, y1, y2, y3, y4, y5, ht, hv0, rfl, rfl⟩ := h
    exact absurd ht0 (by simp at ht ⊢; omega)
  | 21, h =>
    obtain ⟨pr, pk, pe, ph, pj, pf, i0, i1, i2, z, x3, x4, x5, y0, y1, y2, y3, y4, y5, ht, hv0, hv1, rfl, rfl⟩ := h
   
    refine Met.mono (u_SequenceQueue_poll_160 l Z a0 hw _ q pr pk pe ph pj pf (e i0) (e i1) (e i2) z (K i0) (K i1) (K i2) x3 x4 x5 y0 y1 y2 y3 y4 y5 (hE i0) (hE i1) (hE i2) hv0 hv1) ?_
    rintro _ _ ⟨rfl, rfl⟩
    · exact ⟨i0, _, _, rfl, QS.c0210 (by decide) pr pk pe ph pj pf i1 i2 z (K i0) x3 x4 x5 y0 y1 y2 y3 y4 y5 (by simp only [Int64.lt_iff_toInt_lt] at hv0 hv1 ⊢; omega) (List.Perm.refl _), rfl, (((by rw [List.perm_iff_count]; intro a; simp only [List.count_cons, List.count_nil] <;> omega) : List.Perm ([i0, i1, i2] : List Nat) [i0, i1, i2]).trans hp), (Int64.toInt_inj.mp (by rw [← own_kperm K hp]; simp only [own_kmin, own_minI, own_maxI, Int64.lt_iff_toInt_lt] at hv0 hv1 ⊢; have := own_le (K i0); have := own_le (K i1); have := own_le (K i2); omega))⟩
  | 22, h =>
    obtain ⟨pr, pk, pe, ph, pj, pf, i0, i1, i2, z, x0, x4, x5, y0, y1, y2, y3, y4, y5, ht, hv0, hv1, rfl, rfl⟩ := h
   
    refine Met.mono (u_SequenceQueue_poll_162 l Z a0 hw _ q pr pk pe ph pj pf (e i0) (e i1) (e i2) z x0 (K i0) (K i1) (K i2) x4 x5 y0 y1 y2 y3 y4 y5 (hE i0) (hE i1) (hE i2) hv0 hv1) ?_
    rintro _ _ ⟨rfl, rfl⟩
    · exact ⟨i0, _, _, rfl, QS.c0220 (by decide) pr pk pe ph pj pf i1 i2 z x0 (K i0) x4 x5 y0 y1 y2 y3 y4 y5 (by simp only [Int64.lt_iff_toInt_lt] at hv0 hv1 ⊢; omega) (List.Perm.refl _), rfl, (((by rw [List.perm_iff_count]; intro a; simp only [List.count_cons, List.count_nil] <;> omega) : List.Perm ([i0, i1, i2] : List Nat) [i0, i1, i2]).trans hp), (Int64.toInt_inj.mp (by rw [← own_kperm K hp]; simp only [own_kmin, own_minI, own_maxI, Int64.lt_iff_toInt_lt] at hv0 hv1 ⊢; have := own_le (K i0); have := own_le (K i1); have := own_le (K i2); omega))⟩
  | 23, h =>
    obtain ⟨pr, pk, pe, ph, pj, pf, w, x0, x1, x2, x3, x4, x5, y0, y1, y2, y3, y4, y5, ht, rfl, rfl⟩ := h
    exact absurd ht0 (by simp at ht ⊢; omega)
  | 24, h =>
    obtain ⟨pr, pk, pe, ph, pj, pf, w, x0, x1, x2, x3, x4, x5, y0, y1, y2, y3, y4, y5, ht, rfl, rfl⟩ := h
    exact absurd ht0 (by simp at ht ⊢; omega)
  | 25, h =>
    obtain ⟨pr, pk, pe, ph, pj, pf, w, j0, x0, x1, x2, x3, x4, x5, y1, y2, y3, y4, y5, ht, rfl, rfl⟩ := h
    exact absurd ht0 (by simp at ht ⊢; omega)
  | 26, h =>
    obtain ⟨pr, pk, pe, ph, pj, pf, w, j0, j1, x0, x1, x2, x3, x4, x5, y2, y3, y4, y5, ht, hv0, rfl, rfl⟩ := h
    exact absurd ht0 (by simp at ht ⊢; omega)
  | 27, h =>
    obtain ⟨pr, pk, pe, ph, pj, pf, w, j0, j1, j2, x0, x1, x2, x3, x4, x5, y3, y4, y5, ht, hv0, hv1, rfl, rfl⟩ := h
    exact absurd ht0 (by simp at ht ⊢; omega)
  | 28, h =>
    obtain ⟨pr, pk, pe, ph, pj, pf, w, x0, x1, x2, x3, x4, x5, y0, y1, y2, y3, y4, y5, ht, rfl, rfl⟩ := h
    exact absurd ht0 (by simp at ht ⊢; omega)
  | 29, h =>
    obtain ⟨pr, pk, pe, ph, pj, pf, w, j0, x0, x1, x2, x3, x4, x5, y1, y2, y3, y4, y5, ht, rfl, rfl⟩ := h
    exact absurd ht0 (by simp at ht ⊢; omega)
  | 30, h =>
    obtain ⟨pr, pk, pe, ph, pj, pf, w, j0, j1, x0, x1, x2, x3, x4, x5, y2, y3, y4, y5, ht, hv0, rfl, rfl⟩ := h
    exact absurd ht0 (by simp at ht ⊢; omega)
  | 31, h =>
    obtain ⟨pr, pk, pe, ph, pj, pf, w, i0, x1, x2, x3, x4, x5, y0, y1, y2, y3, y4, y5, ht, rfl, rfl⟩ := h
    exact absurd ht0 (by simp at ht ⊢; omega)
  | 32, h =>
    obtain ⟨pr, pk, pe, ph, pj, pf, w, i0, j0, x1, x2, x3, x4, x5, y1, y2, y3, y4, y5, ht, rfl, rfl⟩ := h
    exact absurd ht0 (by simp at ht ⊢; omega)
  | 33, h =>
    obtain ⟨pr, pk, pe, ph, pj, pf, w, i0, j0, j1, x1, x2, x3, x4, x5, y2, y3, y4, y5, ht, hv0, rfl, rfl⟩ := h
    exact absurd ht0 (by simp at ht ⊢; omega)
  | 34, h =>
    obtain ⟨pr, pk, pe, ph, pj, pf, w, i0, j0, j1, j2, x1, x2, x3, x4, x5, y3, y4, y5, ht, hv0, hv1, rfl, rfl⟩ := h
    exact absurd ht0 (by simp at ht ⊢; omega)
  | 35, h =>
    obtain ⟨pr, pk, pe, ph, pj, pf, w, i0, x0, x2, x3, x4, x5, y0, y1, y2, y3, y4, y5, ht, rfl, rfl⟩ := h
    exact absurd ht0 (by simp at ht ⊢; omega)
  | 36, h =>
    obtain ⟨pr, pk, pe, ph, pj, pf, w, i0, j0, x0, x2, x3, x4, x5, y1, y2, y3, y4, y5, ht, rfl, rfl⟩ := h
    exact absurd ht0 (by simp at ht ⊢; omega)
  | 37, h =>
    obtain ⟨pr, pk, pe, ph, pj, pf, w, i0, j0, j1, x0, x2, x3, x4, x5, y2, y3, y4, y5, ht, hv0, rfl, rfl⟩ := h
    exact absurd ht0 (by simp at ht ⊢; omega)
  | 38, h =>
    obtain ⟨pr, pk, pe, ph, pj, pf, w, i0, x0, x1, x3, x4, x5, y0, y1, y2, y3, y4, y5, ht, rfl, rfl⟩ := h
    exact absurd ht0 (by simp at ht ⊢; omega)
  | 39, h =>
    obtain ⟨pr, pk, pe, ph, pj, pf, w, i0, j0, x0, x1, x3, x4, x5, y1, y2, y3, y4, y5, ht, rfl, rfl⟩ := h
    exact absurd ht0 (by simp at ht ⊢; omega)
  | 40, h =>
    obtain ⟨pr, pk, pe, ph, pj, pf, w, i0, i1, x2, x3, x4, x5, y0, y1, y2, y3, y4, y5, ht, hv0, rfl, rfl⟩ := h
    exact absurd ht0 (by simp at ht ⊢; omega)
  | 41, h =>
    obtain ⟨pr, pk, pe, ph, pj, pf, w, i0, i1, j0, x2, x3, x4, x5, y1, y2, y3, y4, y5, ht, hv0, rfl, rfl⟩ := h
    exact absurd ht0 (by simp at ht ⊢; omega)
  | 42, h =>
    obtain ⟨pr, pk, pe, ph, pj, pf, w, i0, i1, j0, j1, x2, x3, x4, x5, y2, y3, y4, y5, ht, hv0, hv1, rfl, rfl⟩ := h
    exact absurd ht0 (by simp at ht ⊢; omega)
  | 43, h =>
    obtain ⟨pr, pk, pe, ph, pj, pf, w, i0, i1, x0, x3, x4, x5, y0, y1, y2, y3, y4, y5, ht, hv0, rfl, rfl⟩ := h
    exact absurd ht0 (by simp at ht ⊢; omega)
  | 44, h =>
    obtain ⟨pr, pk, pe, ph, pj, pf, w, i0, i1, j0, x0, x3, x4, x5, y1, y2, y3, y4, y5, ht, hv0, rfl, rfl⟩ := h
    exact absurd ht0 (by simp at ht ⊢; omega)
  | 45, h =>
    obtain ⟨pr, pk, pe, ph, pj, pf, w, i0, i1, x0, x1, x4, x5, y0, y1, y2, y3, y4, y5, ht, hv0, rfl, rfl⟩ := h
    exact absurd ht0 (by simp at ht ⊢; omega)
  | 46, h =>
    obtain ⟨pr, pk, pe, ph, pj, pf, w, i0, i1, i2, x3, x4, x5, y0, y1, y2, y3, y4, y5, ht, hv0, hv1, rfl, rfl⟩ := h
    exact absurd ht0 (by simp at ht ⊢; omega)
  | 47, h =>
    obtain ⟨pr, pk, pe, ph, pj, pf, w, i0, i1, i2, j0, x3, x4, x5, y1, y2, y3, y4, y5, ht, hv0, hv1, rfl, rfl⟩ := h
    exact absurd ht0 (by simp at ht ⊢; omega)
  | 48, h =>
    obtain ⟨pr, pk, pe, ph, pj, pf, w, i0, i1, i2, x0, x4, x5, y0, y1, y2, y3, y4, y5, ht, hv0, hv1, rfl, rfl⟩ := h
    exact absurd ht0 (by simp at ht ⊢; omega)
  | 49, h =>
    obtain ⟨pr, pk, pe, ph, pj, pf, w, i0, i1, i2, i3, x4, x5, y0, y1, y2, y3, y4, y5, ht, hv0, hv1, hv2, rfl, rfl⟩ := h
    exact absurd ht0 (by simp at ht ⊢; omega)
  | (_ + 50), h => exact (h : False).elim
theorem pn_12 : plainFor yN16 = true := by first | (apply plainFor_of_name; simp [plainName, overriddenIn]; done) | decide +kernel
theorem m_fk_0 (l : Launch) (Z : State) (a0 : Array Value) (hw : HW Z a0) (F : List Ent) (q pr pk pe ph pj pf : Addr) (z x0 x1 x2 x3 x4 x5 y0 y1 y2 y3 y4 y5 : Int64) (v : Value) (ve vf : List Value) (dd : Int32)   :
    Met l Z yN16 prog_20_method_5_code 3 (some .long) { frames := 1, cells := 0, slots := 0, locals := 15 } #[(.ref q)] (nQ q pr ph 0 z v :: nR pr pk pe 0 dd :: nK pk x0 x1 x2 x3 x4 x5 :: (pe, .inr (.object "java/lang/Object", ve, true)) :: nH ph pj pf 0 :: nK pj y0 y1 y2 y3 y4 y5 :: (pf, .inr (.object "java/lang/Object", vf, true)) :: F) (fun r0 M' => r0 = some (.long (9223372036854775807 : Int64)) ∧ M' = (nQ q pr ph 0 z v :: nR pr pk pe 0 dd :: nK pk x0 x1 x2 x3 x4 x5 :: (pe, .inr (.object "java/lang/Object", ve, true)) :: nH ph pj pf 0 :: nK pj y0 y1 y2 y3 y4 y5 :: (pf, .inr (.object "java/lang/Object", vf, true)) :: F)) := by
  refine Met.of_go pn_12 (Ls := #[.val (.ref q), .unset, .unset]) (fun m => rfl) ?_
  intro E C
  refine Go.ldc2J C (v := (9223372036854775807 : Int64)) (wd hw 100 rfl) d12_0 rfl ?_
  refine Go.lstoreN C d12_3 rfl (Ls' := #[.val (.ref q), .val (.long (9223372036854775807 : Int64)), .second]) rfl ?_
  refine Go.aloadN C d12_4 rfl rfl rfl ?_
  refine Go.gf C (wd hw 59 rfl) 0 2 rfl rfl d12_5 rfl ?_
  refine Go.ifYes C d12_8 (by decide) (q := 16) rfl (XT.i0_eq_t (by decide)) ?_
  refine Go.aloadN C d12_16 rfl rfl rfl ?_
  refine Go.gf C (wd hw 34 rfl) 0 0 rfl rfl d12_17 rfl ?_
  refine Go.gv C (wd hw 69 rfl) (wd hw 70 rfl) 1 2 rfl rfl d12_20 rfl ?_
  refine Go.ifYes C d12_23 (by decide) (q := 46) rfl (XT.i0_le_t (by decide)) ?_
  refine Go.aloadN C d12_46 rfl rfl rfl ?_
  refine Go.gf C (wd hw 45 rfl) 0 1 rfl rfl d12_47 rfl ?_
  refine Go.gv C (wd hw 106 rfl) (wd hw 107 rfl) 4 2 rfl rfl d12_50 rfl ?_
  refine Go.ifYes C d12_53 (by decide) (q := 70) rfl (XT.i0_le_t (by decide)) ?_
  refine Go.lloadN C d12_70 rfl rfl ?_
  refine Go.retL C rfl d12_71 (by decide) (by decide) ?_
  exact ⟨rfl, rfl⟩
theorem m_fk_1 (l : Launch) (Z : State) (a0 : Array Value) (hw : HW Z a0) (F : List Ent) (q pr pk pe ph pj pf : Addr) (z x0 x1 x2 x3 x4 x5 y0 y1 y2 y3 y4 y5 : Int64) (v : Value) (ve vf : List Value) (dd : Int32) (p : Int32)  (hq : 0 < p) :
    Met l Z yN16 prog_20_method_5_code 3 (some .long) { frames := 1, cells := 0, slots := 0, locals := 15 } #[(.ref q)] (nQ q pr ph 0 z v :: nR pr pk pe 0 dd :: nK pk x0 x1 x2 x3 x4 x5 :: (pe, .inr (.object "java/lang/Object", ve, true)) :: nH ph pj pf p :: nK pj y0 y1 y2 y3 y4 y5 :: (pf, .inr (.object "java/lang/Object", vf, true)) :: F) (fun r0 M' => r0 = some (.long (own_min (9223372036854775807 : Int64) y0)) ∧ M' = (nQ q pr ph 0 z v :: nR pr pk pe 0 dd :: nK pk x0 x1 x2 x3 x4 x5 :: (pe, .inr (.object "java/lang/Object", ve, true)) :: nH ph pj pf p :: nK pj y0 y1 y2 y3 y4 y5 :: (pf, .inr (.object "java/lang/Object", vf, true)) :: F)) := by
  refine Met.of_go pn_12 (Ls := #[.val (.ref q), .unset, .unset]) (fun m => rfl) ?_
  intro E C
  refine Go.ldc2J C (v := (9223372036854775807 : Int64)) (wd hw 100 rfl) d12_0 rfl ?_
  refine Go.lstoreN C d12_3 rfl (Ls' := #[.val (.ref q), .val (.long (9223372036854775807 : Int64)), .second]) rfl ?_
  refine Go.aloadN C d12_4 rfl rfl rfl ?_
  refine Go.gf C (wd hw 59 rfl) 0 2 rfl rfl d12_5 rfl ?_
  refine Go.ifYes C d12_8 (by decide) (q := 16) rfl (XT.i0_eq_t (by decide)) ?_
  refine Go.aloadN C d12_16 rfl rfl rfl ?_
  refine Go.gf C (wd hw 34 rfl) 0 0 rfl rfl d12_17 rfl ?_
  refine Go.gv C (wd hw 69 rfl) (wd hw 70 rfl) 1 2 rfl rfl d12_20 rfl ?_
  refine Go.ifYes C d12_23 (by decide) (q := 46) rfl (XT.i0_le_t (by decide)) ?_
  refine Go.aloadN C d12_46 rfl rfl rfl ?_
  refine Go.gf C (wd hw 45 rfl) 0 1 rfl rfl d12_47 rfl ?_
  refine Go.gv C (wd hw 106 rfl) (wd hw 107 rfl) 4 2 rfl rfl d12_50 rfl ?_
  refine Go.ifNo C d12_53 (q := 56) rfl (XT.i0_le_f hq) ?_
  refine Go.lloadN C d12_56 rfl rfl ?_
  refine Go.aloadN C d12_57 rfl rfl rfl ?_
  refine Go.gf C (wd hw 45 rfl) 0 1 rfl rfl d12_58 rfl ?_
  refine Go.gv C (wd hw 134 rfl) (wd hw 128 rfl) 4 0 rfl rfl d12_61 rfl ?_
  refine Go.iconst C d12_64 rfl (v := (0 : Int32)) rfl ?_
  refine Go.laload C (fun _ r => r.arr 5 rfl) (by decide) (v := (.long y0)) rfl d12_65 (q := 66) rfl ?_
  refine Go.callS C (y := yN0) (as := [(.long (9223372036854775807 : Int64)), (.long y0)]) (rest := []) (wd hw 103 rfl) (wd hw 104 rfl) (wd hw 5 rfl) (wd hw 105 rfl) (m_minJ l Z a0 hw _ (9223372036854775807 : Int64) y0) rfl d12_66 (q := 69) rfl (by decide) rfl (na := 2) (by decide +kernel) rfl (by decide) (W := 0) rfl (by decide) (by decide) (by decide) (k' := 0) (n' := 0) rfl rfl ?_
  rintro _ _ ⟨rfl, rfl⟩
  show Go _ _ _ _ _ _ _ _ _ _ [(.long (own_min (9223372036854775807 : Int64) y0))]
  refine Go.lstoreN C d12_69 rfl (Ls' := #[.val (.ref q), .val (.long (own_min (9223372036854775807 : Int64) y0)), .second]) rfl ?_
  refine Go.lloadN C d12_70 rfl rfl ?_
  refine Go.retL C rfl d12_71 (by decide) (by decide) ?_
  exact ⟨rfl, rfl⟩
theorem m_fk_2 (l : Launch) (Z : State) (a0 : Array Value) (hw : HW Z a0) (F : List Ent) (q pr pk pe ph pj pf : Addr) (z x0 x1 x2 x3 x4 x5 y0 y1 y2 y3 y4 y5 : Int64) (v : Value) (ve vf : List Value) (r : Int32)  (hr : 0 < r) :
    Met l Z yN16 prog_20_method_5_code 3 (some .long) { frames := 1, cells := 0, slots := 0, locals := 15 } #[(.ref q)] (nQ q pr ph 0 z v :: nR pr pk pe r 0 :: nK pk x0 x1 x2 x3 x4 x5 :: (pe, .inr (.object "java/lang/Object", ve, true)) :: nH ph pj pf 0 :: nK pj y0 y1 y2 y3 y4 y5 :: (pf, .inr (.object "java/lang/Object", vf, true)) :: F) (fun r0 M' => r0 = some (.long (own_min (9223372036854775807 : Int64) x0)) ∧ M' = (nQ q pr ph 0 z v :: nR pr pk pe r 0 :: nK pk x0 x1 x2 x3 x4 x5 :: (pe, .inr (.object "java/lang/Object", ve, true)) :: nH ph pj pf 0 :: nK pj y0 y1 y2 y3 y4 y5 :: (pf, .inr (.object "java/lang/Object", vf, true)) :: F)) := by
  refine Met.of_go pn_12 (Ls := #[.val (.ref q), .unset, .unset]) (fun m => rfl) ?_
  intro E C
  refine Go.ldc2J C (v := (9223372036854775807 : Int64)) (wd hw 100 rfl) d12_0 rfl ?_
  refine Go.lstoreN C d12_3 rfl (Ls' := #[.val (.ref q), .val (.long (9223372036854775807 : Int64)), .second]) rfl ?_
  refine Go.aloadN C d12_4 rfl rfl rfl ?_
  refine Go.gf C (wd hw 59 rfl) 0 2 rfl rfl d12_5 rfl ?_
  refine Go.ifYes C d12_8 (by decide) (q := 16) rfl (XT.i0_eq_t (by decide)) ?_
  refine Go.aloadN C d12_16 rfl rfl rfl ?_
  refine Go.gf C (wd hw 34 rfl) 0 0 rfl rfl d12_17 rfl ?_
  refine Go.gv C (wd hw 69 rfl) (wd hw 70 rfl) 1 2 rfl rfl d12_20 rfl ?_
  refine Go.ifNo C d12_23 (q := 26) rfl (XT.i0_le_f hr) ?_
  refine Go.lloadN C d12_26 rfl rfl ?_
  refine Go.aloadN C d12_27 rfl rfl rfl ?_
  refine Go.gf C (wd hw 34 rfl) 0 0 rfl rfl d12_28 rfl ?_
  refine Go.gv C (wd hw 101 rfl) (wd hw 91 rfl) 1 0 rfl rfl d12_31 rfl ?_
  refine Go.aloadN C d12_34 rfl rfl rfl ?_
  refine Go.gf C (wd hw 34 rfl) 0 0 rfl rfl d12_35 rfl ?_
  refine Go.getR C (wd hw 102 rfl) (fun _ r => r.fld 1 3 rfl rfl) d12_38 (q := 41) rfl ?_
  refine Go.laload C (fun _ r => r.arr 2 rfl) (by decide) (v := (.long x0)) rfl d12_41 (q := 42) rfl ?_
  refine Go.callS C (y := yN0) (as := [(.long (9223372036854775807 : Int64)), (.long x0)]) (rest := []) (wd hw 103 rfl) (wd hw 104 rfl) (wd hw 5 rfl) (wd hw 105 rfl) (m_minJ l Z a0 hw _ (9223372036854775807 : Int64) x0) rfl d12_42 (q := 45) rfl (by decide) rfl (na := 2) (by decide +kernel) rfl (by decide) (W := 0) rfl (by decide) (by decide) (by decide) (k' := 0) (n' := 0) rfl rfl ?_
  rintro _ _ ⟨rfl, rfl⟩
  show Go _ _ _ _ _ _ _ _ _ _ [(.long (own_min (9223372036854775807 : Int64) x0))]
  refine Go.lstoreN C d12_45 rfl (Ls' := #[.val (.ref q), .val (.long (own_min (9223372036854775807 : Int64) x0)), .second]) rfl ?_
  refine Go.aloadN C d12_46 rfl rfl rfl ?_
  refine Go.gf C (wd hw 45 rfl) 0 1 rfl rfl d12_47 rfl ?_
  refine Go.gv C (wd hw 106 rfl) (wd hw 107 rfl) 4 2 rfl rfl d12_50 rfl ?_
  refine Go.ifYes C d12_53 (by decide) (q := 70) rfl (XT.i0_le_t (by decide)) ?_
  refine Go.lloadN C d12_70 rfl rfl ?_
  refine Go.retL C rfl d12_71 (by decide) (by decide) ?_
  exact ⟨rfl, rfl⟩
theorem m_fk_3 (l : Launch) (Z : State) (a0 : Array Value) (hw : HW Z a0) (F : List Ent) (q pr pk pe ph pj pf : Addr) (z x0 x1 x2 x3 x4 x5 y0 y1 y2 y3 y4 y5 : Int64) (v : Value) (ve vf : List Value) (r : Int32) (p : Int32)  (hr : 0 < r) (hq : 0 < p) :
    Met l Z yN16 prog_20_method_5_code 3 (some .long) { frames := 1, cells := 0, slots := 0, locals := 15 } #[(.ref q)] (nQ q pr ph 0 z v :: nR pr pk pe r 0 :: nK pk x0 x1 x2 x3 x4 x5 :: (pe, .inr (.object "java/lang/Object", ve, true)) :: nH ph pj pf p :: nK pj y0 y1 y2 y3 y4 y5 :: (pf, .inr (.object "java/lang/Object", vf, true)) :: F) (fun r0 M' => r0 = some (.long (own_min (own_min (9223372036854775807 : Int64) x0) y0)) ∧ M' = (nQ q pr ph 0 z v :: nR pr pk pe r 0 :: nK pk x0 x1 x2 x3 x4 x5 :: (pe, .inr (.object "java/lang/Object", ve, true)) :: nH ph pj pf p :: nK pj y0 y1 y2 y3 y4 y5 :: (pf, .inr (.object "java/lang/Object", vf, true)) :: F)) := by
  refine Met.of_go pn_12 (Ls := #[.val (.ref q), .unset, .unset]) (fun m => rfl) ?_
  intro E C
  refine Go.ldc2J C (v := (9223372036854775807 : Int64)) (wd hw 100 rfl) d12_0 rfl ?_
  refine Go.lstoreN C d12_3 rfl (Ls' := #[.val (.ref q), .val (.long (9223372036854775807 : Int64)), .second]) rfl ?_
  refine Go.aloadN C d12_4 rfl rfl rfl ?_
  refine Go.gf C (wd hw 59 rfl) 0 2 rfl rfl d12_5 rfl ?_
  refine Go.ifYes C d12_8 (by decide) (q := 16) rfl (XT.i0_eq_t (by decide)) ?_
  refine Go.aloadN C d12_16 rfl rfl rfl ?_
  refine Go.gf C (wd hw 34 rfl) 0 0 rfl rfl d12_17 rfl ?_
  refine Go.gv C (wd hw 69 rfl) (wd hw 70 rfl) 1 2 rfl rfl d12_20 rfl ?_
  refine Go.ifNo C d12_23 (q := 26) rfl (XT.i0_le_f hr) ?_
  refine Go.lloadN C d12_26 rfl rfl ?_
  refine Go.aloadN C d12_27 rfl rfl rfl ?_
  refine Go.gf C (wd hw 34 rfl) 0 0 rfl rfl d12_28 rfl ?_
  refine Go.gv C (wd hw 101 rfl) (wd hw 91 rfl) 1 0 rfl rfl d12_31 rfl ?_
  refine Go.aloadN C d12_34 rfl rfl rfl ?_
  refine Go.gf C (wd hw 34 rfl) 0 0 rfl rfl d12_35 rfl ?_
  refine Go.getR C (wd hw 102 rfl) (fun _ r => r.fld 1 3 rfl rfl) d12_38 (q := 41) rfl ?_
  refine Go.laload C (fun _ r => r.arr 2 rfl) (by decide) (v := (.long x0)) rfl d12_41 (q := 42) rfl ?_
  refine Go.callS C (y := yN0) (as := [(.long (9223372036854775807 : Int64)), (.long x0)]) (rest := []) (wd hw 103 rfl) (wd hw 104 rfl) (wd hw 5 rfl) (wd hw 105 rfl) (m_minJ l Z a0 hw _ (9223372036854775807 : Int64) x0) rfl d12_42 (q := 45) rfl (by decide) rfl (na := 2) (by decide +kernel) rfl (by decide) (W := 0) rfl (by decide) (by decide) (by decide) (k' := 0) (n' := 0) rfl rfl ?_
  rintro _ _ ⟨rfl, rfl⟩
  show Go _ _ _ _ _ _ _ _ _ _ [(.long (own_min (9223372036854775807 : Int64) x0))]
  refine Go.lstoreN C d12_45 rfl (Ls' := #[.val (.ref q), .val (.long (own_min (9223372036854775807 : Int64) x0)), .second]) rfl ?_
  refine Go.aloadN C d12_46 rfl rfl rfl ?_
  refine Go.gf C (wd hw 45 rfl) 0 1 rfl rfl d12_47 rfl ?_
  refine Go.gv C (wd hw 106 rfl) (wd hw 107 rfl) 4 2 rfl rfl d12_50 rfl ?_
  refine Go.ifNo C d12_53 (q := 56) rfl (XT.i0_le_f hq) ?_
  refine Go.lloadN C d12_56 rfl rfl ?_
  refine Go.aloadN C d12_57 rfl rfl rfl ?_
  refine Go.gf C (wd hw 45 rfl) 0 1 rfl rfl d12_58 rfl ?_
  refine Go.gv C (wd hw 134 rfl) (wd hw 128 rfl) 4 0 rfl rfl d12_61 rfl ?_
  refine Go.iconst C d12_64 rfl (v := (0 : Int32)) rfl ?_
  refine Go.laload C (fun _ r => r.arr 5 rfl) (by decide) (v := (.long y0)) rfl d12_65 (q := 66) rfl ?_
  refine Go.callS C (y := yN0) (as := [(.long (own_min (9223372036854775807 : Int64) x0)), (.long y0)]) (rest := []) (wd hw 103 rfl) (wd hw 104 rfl) (wd hw 5 rfl) (wd hw 105 rfl) (m_minJ l Z a0 hw _ (own_min (9223372036854775807 : Int64) x0) y0) rfl d12_66 (q := 69) rfl (by decide) rfl (na := 2) (by decide +kernel) rfl (by decide) (W := 0) rfl (by decide) (by decide) (by decide) (k' := 0) (n' := 0) rfl rfl ?_
  rintro _ _ ⟨rfl, rfl⟩
  show Go _ _ _ _ _ _ _ _ _ _ [(.long (own_min (own_min (9223372036854775807 : Int64) x0) y0))]
  refine Go.lstoreN C d12_69 rfl (Ls' := #[.val (.ref q), .val (.long (own_min (own_min (9223372036854775807 : Int64) x0) y0)), .second]) rfl ?_
  refine Go.lloadN C d12_70 rfl rfl ?_
  refine Go.retL C rfl d12_71 (by decide) (by decide) ?_
  exact ⟨rfl, rfl⟩
theorem m_fk_4 (l : Launch) (Z : State) (a0 : Array Value) (hw : HW Z a0) (F : List Ent) (q pr pk pe ph pj pf : Addr) (z x0 x1 x2 x3 x4 x5 y0 y1 y2 y3 y4 y5 : Int64) (v : Value) (ve vf : List Value) (r : Int32)  (hr : 0 < r) :
    Met l Z yN16 prog_20_method_5_code 3 (some .long) { frames := 1, cells := 0, slots := 0, locals := 15 } #[(.ref q)] (nQ q pr ph 0 z v :: nR pr pk pe r 1 :: nK pk x0 x1 x2 x3 x4 x5 :: (pe, .inr (.object "java/lang/Object", ve, true)) :: nH ph pj pf 0 :: nK pj y0 y1 y2 y3 y4 y5 :: (pf, .inr (.object "java/lang/Object", vf, true)) :: F) (fun r0 M' => r0 = some (.long (own_min (9223372036854775807 : Int64) x1)) ∧ M' = (nQ q pr ph 0 z v :: nR pr pk pe r 1 :: nK pk x0 x1 x2 x3 x4 x5 :: (pe, .inr (.object "java/lang/Object", ve, true)) :: nH ph pj pf 0 :: nK pj y0 y1 y2 y3 y4 y5 :: (pf, .inr (.object "java/lang/Object", vf, true)) :: F)) := by
  refine Met.of_go pn_12 (Ls := #[.val (.ref q), .unset, .unset]) (fun m => rfl) ?_
  intro E C
  refine Go.ldc2J C (v := (9223372036854775807 : Int64)) (wd hw 100 rfl) d12_0 rfl ?_
  refine Go.lstoreN C d12_3 rfl (Ls' := #[.val (.ref q), .val (.long (9223372036854775807 : Int64)), .second]) rfl ?_
  refine Go.aloadN C d12_4 rfl rfl rfl ?_
  refine Go.gf C (wd hw 59 rfl) 0 2 rfl rfl d12_5 rfl ?_
  refine Go.ifYes C d12_8 (by decide) (q := 16) rfl (XT.i0_eq_t (by decide)) ?_
  refine Go.aloadN C d12_16 rfl rfl rfl ?_
  refine Go.gf C (wd hw 34 rfl) 0 0 rfl rfl d12_17 rfl ?_
  refine Go.gv C (wd hw 69 rfl) (wd hw 70 rfl) 1 2 rfl rfl d12_20 rfl ?_
  refine Go.ifNo C d12_23 (q := 26) rfl (XT.i0_le_f hr) ?_
  refine Go.lloadN C d12_26 rfl rfl ?_
  refine Go.aloadN C d12_27 rfl rfl rfl ?_
  refine Go.gf C (wd hw 34 rfl) 0 0 rfl rfl d12_28 rfl ?_
  refine Go.gv C (wd hw 101 rfl) (wd hw 91 rfl) 1 0 rfl rfl d12_31 rfl ?_
  refine Go.aloadN C d12_34 rfl rfl rfl ?_
  refine Go.gf C (wd hw 34 rfl) 0 0 rfl rfl d12_35 rfl ?_
  refine Go.getR C (wd hw 102 rfl) (fun _ r => r.fld 1 3 rfl rfl) d12_38 (q := 41) rfl ?_
  refine Go.laload C (fun _ r => r.arr 2 rfl) (by decide) (v := (.long x1)) rfl d12_41 (q := 42) rfl ?_
  refine Go.callS C (y := yN0) (as := [(.long (9223372036854775807 : Int64)), (.long x1)]) (rest := []) (wd hw 103 rfl) (wd hw 104 rfl) (wd hw 5 rfl) (wd hw 105 rfl) (m_minJ l Z a0 hw _ (9223372036854775807 : Int64) x1) rfl d12_42 (q := 45) rfl (by decide) rfl (na := 2) (by decide +kernel) rfl (by decide) (W := 0) rfl (by decide) (by decide) (by decide) (k' := 0) (n' := 0) rfl rfl ?_
  rintro _ _ ⟨rfl, rfl⟩
  show Go _ _ _ _ _ _ _ _ _ _ [(.long (own_min (9223372036854775807 : Int64) x1))]
  refine Go.lstoreN C d12_45 rfl (Ls' := #[.val (.ref q), .val (.long (own_min (9223372036854775807 : Int64) x1)), .second]) rfl ?_
  refine Go.aloadN C d12_46 rfl rfl rfl ?_
  refine Go.gf C (wd hw 45 rfl) 0 1 rfl rfl d12_47 rfl ?_
  refine Go.gv C (wd hw 106 rfl) (wd hw 107 rfl) 4 2 rfl rfl d12_50 rfl ?_
  refine Go.ifYes C d12_53 (by decide) (q := 70) rfl (XT.i0_le_t (by decide)) ?_
  refine Go.lloadN C d12_70 rfl rfl ?_
  refine Go.retL C rfl d12_71 (by decide) (by decide) ?_
  exact ⟨rfl, rfl⟩
theorem m_fk_5 (l : Launch) (Z : State) (a0 : Array Value) (hw : HW Z a0) (F : List Ent) (q pr pk pe ph pj pf : Addr) (z x0 x1 x2 x3 x4 x5 y0 y1 y2 y3 y4 y5 : Int64) (v : Value) (ve vf : List Value) (r : Int32) (p : Int32)  (hr : 0 < r) (hq : 0 < p) :
    Met l Z yN16 prog_20_method_5_code 3 (some .long) { frames := 1, cells := 0, slots := 0, locals := 15 } #[(.ref q)] (nQ q pr ph 0 z v :: nR pr pk pe r 1 :: nK pk x0 x1 x2 x3 x4 x5 :: (pe, .inr (.object "java/lang/Object", ve, true)) :: nH ph pj pf p :: nK pj y0 y1 y2 y3 y4 y5 :: (pf, .inr (.object "java/lang/Object", vf, true)) :: F) (fun r0 M' => r0 = some (.long (own_min (own_min (9223372036854775807 : Int64) x1) y0)) ∧ M' = (nQ q pr ph 0 z v :: nR pr pk pe r 1 :: nK pk x0 x1 x2 x3 x4 x5 :: (pe, .inr (.object "java/lang/Object", ve, true)) :: nH ph pj pf p :: nK pj y0 y1 y2 y3 y4 y5 :: (pf, .inr (.object "java/lang/Object", vf, true)) :: F)) := by
  refine Met.of_go pn_12 (Ls := #[.val (.ref q), .unset, .unset]) (fun m => rfl) ?_
  intro E C
  refine Go.ldc2J C (v := (9223372036854775807 : Int64)) (wd hw 100 rfl) d12_0 rfl ?_
  refine Go.lstoreN C d12_3 rfl (Ls' := #[.val (.ref q), .val (.long (9223372036854775807 : Int64)), .second]) rfl ?_
  refine Go.aloadN C d12_4 rfl rfl rfl ?_
  refine Go.gf C (wd hw 59 rfl) 0 2 rfl rfl d12_5 rfl ?_
  refine Go.ifYes C d12_8 (by decide) (q := 16) rfl (XT.i0_eq_t (by decide)) ?_
  refine Go.aloadN C d12_16 rfl rfl rfl ?_
  refine Go.gf C (wd hw 34 rfl) 0 0 rfl rfl d12_17 rfl ?_
  refine Go.gv C (wd hw 69 rfl) (wd hw 70 rfl) 1 2 rfl rfl d12_20 rfl ?_
  refine Go.ifNo C d12_23 (q := 26) rfl (XT.i0_le_f hr) ?_
  refine Go.lloadN C d12_26 rfl rfl ?_
  refine Go.aloadN C d12_27 rfl rfl rfl ?_
  refine Go.gf C (wd hw 34 rfl) 0 0 rfl rfl d12_28 rfl ?_
  refine Go.gv C (wd hw 101 rfl) (wd hw 91 rfl) 1 0 rfl rfl d12_31 rfl ?_
  refine Go.aloadN C d12_34 rfl rfl rfl ?_
  refine Go.gf C (wd hw 34 rfl) 0 0 rfl rfl d12_35 rfl ?_
  refine Go.getR C (wd hw 102 rfl) (fun _ r => r.fld 1 3 rfl rfl) d12_38 (q := 41) rfl ?_
  refine Go.laload C (fun _ r => r.arr 2 rfl) (by decide) (v := (.long x1)) rfl d12_41 (q := 42) rfl ?_
  refine Go.callS C (y := yN0) (as := [(.long (9223372036854775807 : Int64)), (.long x1)]) (rest := []) (wd hw 103 rfl) (wd hw 104 rfl) (wd hw 5 rfl) (wd hw 105 rfl) (m_minJ l Z a0 hw _ (9223372036854775807 : Int64) x1) rfl d12_42 (q := 45) rfl (by decide) rfl (na := 2) (by decide +kernel) rfl (by decide) (W := 0) rfl (by decide) (by decide) (by decide) (k' := 0) (n' := 0) rfl rfl ?_
  rintro _ _ ⟨rfl, rfl⟩
  show Go _ _ _ _ _ _ _ _ _ _ [(.long (own_min (9223372036854775807 : Int64) x1))]
  refine Go.lstoreN C d12_45 rfl (Ls' := #[.val (.ref q), .val (.long (own_min (9223372036854775807 : Int64) x1)), .second]) rfl ?_
  refine Go.aloadN C d12_46 rfl rfl rfl ?_
  refine Go.gf C (wd hw 45 rfl) 0 1 rfl rfl d12_47 rfl ?_
  refine Go.gv C (wd hw 106 rfl) (wd hw 107 rfl) 4 2 rfl rfl d12_50 rfl ?_
  refine Go.ifNo C d12_53 (q := 56) rfl (XT.i0_le_f hq) ?_
  refine Go.lloadN C d12_56 rfl rfl ?_
  refine Go.aloadN C d12_57 rfl rfl rfl ?_
  refine Go.gf C (wd hw 45 rfl) 0 1 rfl rfl d12_58 rfl ?_
  refine Go.gv C (wd hw 134 rfl) (wd hw 128 rfl) 4 0 rfl rfl d12_61 rfl ?_
  refine Go.iconst C d12_64 rfl (v := (0 : Int32)) rfl ?_
  refine Go.laload C (fun _ r => r.arr 5 rfl) (by decide) (v := (.long y0)) rfl d12_65 (q := 66) rfl ?_
  refine Go.callS C (y := yN0) (as := [(.long (own_min (9223372036854775807 : Int64) x1)), (.long y0)]) (rest := []) (wd hw 103 rfl) (wd hw 104 rfl) (wd hw 5 rfl) (wd hw 105 rfl) (m_minJ l Z a0 hw _ (own_min (9223372036854775807 : Int64) x1) y0) rfl d12_66 (q := 69) rfl (by decide) rfl (na := 2) (by decide +kernel) rfl (by decide) (W := 0) rfl (by decide) (by decide) (by decide) (k' := 0) (n' := 0) rfl rfl ?_
  rintro _ _ ⟨rfl, rfl⟩
  show Go _ _ _ _ _ _ _ _ _ _ [(.long (own_min (own_min (9223372036854775807 : Int64) x1) y0))]
  refine Go.lstoreN C d12_69 rfl (Ls' := #[.val (.ref q), .val (.long (own_min (own_min (9223372036854775807 : Int64) x1) y0)), .second]) rfl ?_
  refine Go.lloadN C d12_70 rfl rfl ?_
  refine Go.retL C rfl d12_71 (by decide) (by decide) ?_
  exact ⟨rfl, rfl⟩
theorem m_fk_6 (l : Launch) (Z : State) (a0 : Array Value) (hw : HW Z a0) (F : List Ent) (q pr pk pe ph pj pf : Addr) (z x0 x1 x2 x3 x4 x5 y0 y1 y2 y3 y4 y5 : Int64) (v : Value) (ve vf : List Value) (r : Int32)  (hr : 0 < r) :
    Met l Z yN16 prog_20_method_5_code 3 (some .long) { frames := 1, cells := 0, slots := 0, locals := 15 } #[(.ref q)] (nQ q pr ph 0 z v :: nR pr pk pe r 2 :: nK pk x0 x1 x2 x3 x4 x5 :: (pe, .inr (.object "java/lang/Object", ve, true)) :: nH ph pj pf 0 :: nK pj y0 y1 y2 y3 y4 y5 :: (pf, .inr (.object "java/lang/Object", vf, true)) :: F) (fun r0 M' => r0 = some (.long (own_min (9223372036854775807 : Int64) x2)) ∧ M' = (nQ q pr ph 0 z v :: nR pr pk pe r 2 :: nK pk x0 x1 x2 x3 x4 x5 :: (pe, .inr (.object "java/lang/Object", ve, true)) :: nH ph pj pf 0 :: nK pj y0 y1 y2 y3 y4 y5 :: (pf, .inr (.object "java/lang/Object", vf, true)) :: F)) := by
  refine Met.of_go pn_12 (Ls := #[.val (.ref q), .unset, .unset]) (fun m => rfl) ?_
  intro E C
  refine Go.ldc2J C (v := (9223372036854775807 : Int64)) (wd hw 100 rfl) d12_0 rfl ?_
  refine Go.lstoreN C d12_3 rfl (Ls' := #[.val (.ref q), .val (.long (9223372036854775807 : Int64)), .second]) rfl ?_
  refine Go.aloadN C d12_4 rfl rfl rfl ?_
  refine Go.gf C (wd hw 59 rfl) 0 2 rfl rfl d12_5 rfl ?_
  refine Go.ifYes C d12_8 (by decide) (q := 16) rfl (XT.i0_eq_t (by decide)) ?_
  refine Go.aloadN C d12_16 rfl rfl rfl ?_
  refine Go.gf C (wd hw 34 rfl) 0 0 rfl rfl d12_17 rfl ?_
  refine Go.gv C (wd hw 69 rfl) (wd hw 70 rfl) 1 2 rfl rfl d12_20 rfl ?_
  refine Go.ifNo C d12_23 (q := 26) rfl (XT.i0_le_f hr) ?_
  refine Go.lloadN C d12_26 rfl rfl ?_
  refine Go.aloadN C d12_27 rfl rfl rfl ?_
  refine Go.gf C (wd hw 34 rfl) 0 0 rfl rfl d12_28 rfl ?_
  refine Go.gv C (wd hw 101 rfl) (wd hw 91 rfl) 1 0 rfl rfl d12_31 rfl ?_
  refine Go.aloadN C d12_34 rfl rfl rfl ?_
  refine Go.gf C (wd hw 34 rfl) 0 0 rfl rfl d12_35 rfl ?_
  refine Go.getR C (wd hw 102 rfl) (fun _ r => r.fld 1 3 rfl rfl) d12_38 (q := 41) rfl ?_
  refine Go.laload C (fun _ r => r.arr 2 rfl) (by decide) (v := (.long x2)) rfl d12_41 (q := 42) rfl ?_
  refine Go.callS C (y := yN0) (as := [(.long (9223372036854775807 : Int64)), (.long x2)]) (rest := []) (wd hw 103 rfl) (wd hw 104 rfl) (wd hw 5 rfl) (wd hw 105 rfl) (m_minJ l Z a0 hw _ (9223372036854775807 : Int64) x2) rfl d12_42 (q := 45) rfl (by decide) rfl (na := 2) (by decide +kernel) rfl (by decide) (W := 0) rfl (by decide) (by decide) (by decide) (k' := 0) (n' := 0) rfl rfl ?_
  rintro _ _ ⟨rfl, rfl⟩
  show Go _ _ _ _ _ _ _ _ _ _ [(.long (own_min (9223372036854775807 : Int64) x2))]
  refine Go.lstoreN C d12_45 rfl (Ls' := #[.val (.ref q), .val (.long (own_min (9223372036854775807 : Int64) x2)), .second]) rfl ?_
  refine Go.aloadN C d12_46 rfl rfl rfl ?_
  refine Go.gf C (wd hw 45 rfl) 0 1 rfl rfl d12_47 rfl ?_
  refine Go.gv C (wd hw 106 rfl) (wd hw 107 rfl) 4 2 rfl rfl d12_50 rfl ?_
  refine Go.ifYes C d12_53 (by decide) (q := 70) rfl (XT.i0_le_t (by decide)) ?_
  refine Go.lloadN C d12_70 rfl rfl ?_
  refine Go.retL C rfl d12_71 (by decide) (by decide) ?_
  exact ⟨rfl, rfl⟩
theorem m_fk_7 (l : Launch) (Z : State) (a0 : Array Value) (hw : HW Z a0) (F : List Ent) (q pr pk pe ph pj pf : Addr) (z x0 x1 x2 x3 x4 x5 y0 y1 y2 y3 y4 y5 : Int64) (v : Value) (ve vf : List Value) (r : Int32) (p : Int32)  (hr : 0 < r) (hq : 0 < p) :
    Met l Z yN16 prog_20_method_5_code 3 (some .long) { frames := 1, cells := 0, slots := 0, locals := 15 } #[(.ref q)] (nQ q pr ph 0 z v :: nR pr pk pe r 2 :: nK pk x0 x1 x2 x3 x4 x5 :: (pe, .inr (.object "java/lang/Object", ve, true)) :: nH ph pj pf p :: nK pj y0 y1 y2 y3 y4 y5 :: (pf, .inr (.object "java/lang/Object", vf, true)) :: F) (fun r0 M' => r0 = some (.long (own_min (own_min (9223372036854775807 : Int64) x2) y0)) ∧ M' = (nQ q pr ph 0 z v :: nR pr pk pe r 2 :: nK pk x0 x1 x2 x3 x4 x5 :: (pe, .inr (.object "java/lang/Object", ve, true)) :: nH ph pj pf p :: nK pj y0 y1 y2 y3 y4 y5 :: (pf, .inr (.object "java/lang/Object", vf, true)) :: F)) := by
  refine Met.of_go pn_12 (Ls := #[.val (.ref q), .unset, .unset]) (fun m => rfl) ?_
  intro E C
  refine Go.ldc2J C (v := (9223372036854775807 : Int64)) (wd hw 100 rfl) d12_0 rfl ?_
  refine Go.lstoreN C d12_3 rfl (Ls' := #[.val (.ref q), .val (.long (9223372036854775807 : Int64)), .second]) rfl ?_
  refine Go.aloadN C d12_4 rfl rfl rfl ?_
  refine Go.gf C (wd hw 59 rfl) 0 2 rfl rfl d12_5 rfl ?_
  refine Go.ifYes C d12_8 (by decide) (q := 16) rfl (XT.i0_eq_t (by decide)) ?_
  refine Go.aloadN C d12_16 rfl rfl rfl ?_
  refine Go.gf C (wd hw 34 rfl) 0 0 rfl rfl d12_17 rfl ?_
  refine Go.gv C (wd hw 69 rfl) (wd hw 70 rfl) 1 2 rfl rfl d12_20 rfl ?_
  refine Go.ifNo C d12_23 (q := 26) rfl (XT.i0_le_f hr) ?_
  refine Go.lloadN C d12_26 rfl rfl ?_
  refine Go.aloadN C d12_27 rfl rfl rfl ?_
  refine Go.gf C (wd hw 34 rfl) 0 0 rfl rfl d12_28 rfl ?_
  refine Go.gv C (wd hw 101 rfl) (wd hw 91 rfl) 1 0 rfl rfl d12_31 rfl ?_
  refine Go.aloadN C d12_34 rfl rfl rfl ?_
  refine Go.gf C (wd hw 34 rfl) 0 0 rfl rfl d12_35 rfl ?_
  refine Go.getR C (wd hw 102 rfl) (fun _ r => r.fld 1 3 rfl rfl) d12_38 (q := 41) rfl ?_
  refine Go.laload C (fun _ r => r.arr 2 rfl) (by decide) (v := (.long x2)) rfl d12_41 (q := 42) rfl ?_
  refine Go.callS C (y := yN0) (as := [(.long (9223372036854775807 : Int64)), (.long x2)]) (rest := []) (wd hw 103 rfl) (wd hw 104 rfl) (wd hw 5 rfl) (wd hw 105 rfl) (m_minJ l Z a0 hw _ (9223372036854775807 : Int64) x2) rfl d12_42 (q := 45) rfl (by decide) rfl (na := 2) (by decide +kernel) rfl (by decide) (W := 0) rfl (by decide) (by decide) (by decide) (k' := 0) (n' := 0) rfl rfl ?_
  rintro _ _ ⟨rfl, rfl⟩
  show Go _ _ _ _ _ _ _ _ _ _ [(.long (own_min (9223372036854775807 : Int64) x2))]
  refine Go.lstoreN C d12_45 rfl (Ls' := #[.val (.ref q), .val (.long (own_min (9223372036854775807 : Int64) x2)), .second]) rfl ?_
  refine Go.aloadN C d12_46 rfl rfl rfl ?_
  refine Go.gf C (wd hw 45 rfl) 0 1 rfl rfl d12_47 rfl ?_
  refine Go.gv C (wd hw 106 rfl) (wd hw 107 rfl) 4 2 rfl rfl d12_50 rfl ?_
  refine Go.ifNo C d12_53 (q := 56) rfl (XT.i0_le_f hq) ?_
  refine Go.lloadN C d12_56 rfl rfl ?_
  refine Go.aloadN C d12_57 rfl rfl rfl ?_
  refine Go.gf C (wd hw 45 rfl) 0 1 rfl rfl d12_58 rfl ?_
  refine Go.gv C (wd hw 134 rfl) (wd hw 128 rfl) 4 0 rfl rfl d12_61 rfl ?_
  refine Go.iconst C d12_64 rfl (v := (0 : Int32)) rfl ?_
  refine Go.laload C (fun _ r => r.arr 5 rfl) (by decide) (v := (.long y0)) rfl d12_65 (q := 66) rfl ?_
  refine Go.callS C (y := yN0) (as := [(.long (own_min (9223372036854775807 : Int64) x2)), (.long y0)]) (rest := []) (wd hw 103 rfl) (wd hw 104 rfl) (wd hw 5 rfl) (wd hw 105 rfl) (m_minJ l Z a0 hw _ (own_min (9223372036854775807 : Int64) x2) y0) rfl d12_66 (q := 69) rfl (by decide) rfl (na := 2) (by decide +kernel) rfl (by decide) (W := 0) rfl (by decide) (by decide) (by decide) (k' := 0) (n' := 0) rfl rfl ?_
  rintro _ _ ⟨rfl, rfl⟩
  show Go _ _ _ _ _ _ _ _ _ _ [(.long (own_min (own_min (9223372036854775807 : Int64) x2) y0))]
  refine Go.lstoreN C d12_69 rfl (Ls' := #[.val (.ref q), .val (.long (own_min (own_min (9223372036854775807 : Int64) x2) y0)), .second]) rfl ?_
  refine Go.lloadN C d12_70 rfl rfl ?_
  refine Go.retL C rfl d12_71 (by decide) (by decide) ?_
  exact ⟨rfl, rfl⟩
theorem m_fk_8 (l : Launch) (Z : State) (a0 : Array Value) (hw : HW Z a0) (F : List Ent) (q pr pk pe ph pj pf : Addr) (z x0 x1 x2 x3 x4 x5 y0 y1 y2 y3 y4 y5 : Int64) (v : Value) (ve vf : List Value) (dd : Int32)   :
    Met l Z yN16 prog_20_method_5_code 3 (some .long) { frames := 1, cells := 0, slots := 0, locals := 15 } #[(.ref q)] (nQ q pr ph 1 z v :: nR pr pk pe 0 dd :: nK pk x0 x1 x2 x3 x4 x5 :: (pe, .inr (.object "java/lang/Object", ve, true)) :: nH ph pj pf 0 :: nK pj y0 y1 y2 y3 y4 y5 :: (pf, .inr (.object "java/lang/Object", vf, true)) :: F) (fun r0 M' => r0 = some (.long z) ∧ M' = (nQ q pr ph 1 z v :: nR pr pk pe 0 dd :: nK pk x0 x1 x2 x3 x4 x5 :: (pe, .inr (.object "java/lang/Object", ve, true)) :: nH ph pj pf 0 :: nK pj y0 y1 y2 y3 y4 y5 :: (pf, .inr (.object "java/lang/Object", vf, true)) :: F)) := by
  refine Met.of_go pn_12 (Ls := #[.val (.ref q), .unset, .unset]) (fun m => rfl) ?_
  intro E C
  refine Go.ldc2J C (v := (9223372036854775807 : Int64)) (wd hw 100 rfl) d12_0 rfl ?_
  refine Go.lstoreN C d12_3 rfl (Ls' := #[.val (.ref q), .val (.long (9223372036854775807 : Int64)), .second]) rfl ?_
  refine Go.aloadN C d12_4 rfl rfl rfl ?_
  refine Go.gf C (wd hw 59 rfl) 0 2 rfl rfl d12_5 rfl ?_
  refine Go.ifNo C d12_8 (q := 11) rfl (XT.i0_eq_f (by decide)) ?_
  refine Go.aloadN C d12_11 rfl rfl rfl ?_
  refine Go.gf C (wd hw 61 rfl) 0 3 rfl rfl d12_12 rfl ?_
  refine Go.lstoreN C d12_15 rfl (Ls' := #[.val (.ref q), .val (.long z), .second]) rfl ?_
  refine Go.aloadN C d12_16 rfl rfl rfl ?_
  refine Go.gf C (wd hw 34 rfl) 0 0 rfl rfl d12_17 rfl ?_
  refine Go.gv C (wd hw 69 rfl) (wd hw 70 rfl) 1 2 rfl rfl d12_20 rfl ?_
  refine Go.ifYes C d12_23 (by decide) (q := 46) rfl (XT.i0_le_t (by decide)) ?_
  refine Go.aloadN C d12_46 rfl rfl rfl ?_
  refine Go.gf C (wd hw 45 rfl) 0 1 rfl rfl d12_47 rfl ?_
  refine Go.gv C (wd hw 106 rfl) (wd hw 107 rfl) 4 2 rfl rfl d12_50 rfl ?_
  refine Go.ifYes C d12_53 (by decide) (q := 70) rfl (XT.i0_le_t (by decide)) ?_
  refine Go.lloadN C d12_70 rfl rfl ?_
  refine Go.retL C rfl d12_71 (by decide) (by decide) ?_
  exact ⟨rfl, rfl⟩
theorem m_fk_9 (l : Launch) (Z : State) (a0 : Array Value) (hw : HW Z a0) (F : List Ent) (q pr pk pe ph pj pf : Addr) (z x0 x1 x2 x3 x4 x5 y0 y1 y2 y3 y4 y5 : Int64) (v : Value) (ve vf : List Value) (dd : Int32) (p : Int32)  (hq : 0 < p) :
    Met l Z yN16 prog_20_method_5_code 3 (some .long) { frames := 1, cells := 0, slots := 0, locals := 15 } #[(.ref q)] (nQ q pr ph 1 z v :: nR pr pk pe 0 dd :: nK pk x0 x1 x2 x3 x4 x5 :: (pe, .inr (.object "java/lang/Object", ve, true)) :: nH ph pj pf p :: nK pj y0 y1 y2 y3 y4 y5 :: (pf, .inr (.object "java/lang/Object", vf, true)) :: F) (fun r0 M' => r0 = some (.long (own_min z y0)) ∧ M' = (nQ q pr ph 1 z v :: nR pr pk pe 0 dd :: nK pk x0 x1 x2 x3 x4 x5 :: (pe, .inr (.object "java/lang/Object", ve, true)) :: nH ph pj pf p :: nK pj y0 y1 y2 y3 y4 y5 :: (pf, .inr (.object "java/lang/Object", vf, true)) :: F)) := by
  refine Met.of_go pn_12 (Ls := #[.val (.ref q), .unset, .unset]) (fun m => rfl) ?_
  intro E C
  refine Go.ldc2J C (v := (9223372036854775807 : Int64)) (wd hw 100 rfl) d12_0 rfl ?_
  refine Go.lstoreN C d12_3 rfl (Ls' := #[.val (.ref q), .val (.long (9223372036854775807 : Int64)), .second]) rfl ?_
  refine Go.aloadN C d12_4 rfl rfl rfl ?_
  refine Go.gf C (wd hw 59 rfl) 0 2 rfl rfl d12_5 rfl ?_
  refine Go.ifNo C d12_8 (q := 11) rfl (XT.i0_eq_f (by decide)) ?_
  refine Go.aloadN C d12_11 rfl rfl rfl ?_
  refine Go.gf C (wd hw 61 rfl) 0 3 rfl rfl d12_12 rfl ?_
  refine Go.lstoreN C d12_15 rfl (Ls' := #[.val (.ref q), .val (.long z), .second]) rfl ?_
  refine Go.aloadN C d12_16 rfl rfl rfl ?_
  refine Go.gf C (wd hw 34 rfl) 0 0 rfl rfl d12_17 rfl ?_
  refine Go.gv C (wd hw 69 rfl) (wd hw 70 rfl) 1 2 rfl rfl d12_20 rfl ?_
  refine Go.ifYes C d12_23 (by decide) (q := 46) rfl (XT.i0_le_t (by decide)) ?_
  refine Go.aloadN C d12_46 rfl rfl rfl ?_
  refine Go.gf C (wd hw 45 rfl) 0 1 rfl rfl d12_47 rfl ?_
  refine Go.gv C (wd hw 106 rfl) (wd hw 107 rfl) 4 2 rfl rfl d12_50 rfl ?_
  refine Go.ifNo C d12_53 (q := 56) rfl (XT.i0_le_f hq) ?_
  refine Go.lloadN C d12_56 rfl rfl ?_
  refine Go.aloadN C d12_57 rfl rfl rfl ?_
  refine Go.gf C (wd hw 45 rfl) 0 1 rfl rfl d12_58 rfl ?_
  refine Go.gv C (wd hw 134 rfl) (wd hw 128 rfl) 4 0 rfl rfl d12_61 rfl ?_
  refine Go.iconst C d12_64 rfl (v := (0 : Int32)) rfl ?_
  refine Go.laload C (fun _ r => r.arr 5 rfl) (by decide) (v := (.long y0)) rfl d12_65 (q := 66) rfl ?_
  refine Go.callS C (y := yN0) (as := [(.long z), (.long y0)]) (rest := []) (wd hw 103 rfl) (wd hw 104 rfl) (wd hw 5 rfl) (wd hw 105 rfl) (m_minJ l Z a0 hw _ z y0) rfl d12_66 (q := 69) rfl (by decide) rfl (na := 2) (by decide +kernel) rfl (by decide) (W := 0) rfl (by decide) (by decide) (by decide) (k' := 0) (n' := 0) rfl rfl ?_
  rintro _ _ ⟨rfl, rfl⟩
  show Go _ _ _ _ _ _ _ _ _ _ [(.long (own_min z y0))]
  refine Go.lstoreN C d12_69 rfl (Ls' := #[.val (.ref q), .val (.long (own_min z y0)), .second]) rfl ?_
  refine Go.lloadN C d12_70 rfl rfl ?_
  refine Go.retL C rfl d12_71 (by decide) (by decide) ?_
  exact ⟨rfl, rfl⟩
theorem m_fk_10 (l : Launch) (Z : State) (a0 : Array Value) (hw : HW Z a0) (F : List Ent) (q pr pk pe ph pj pf : Addr) (z x0 x1 x2 x3 x4 x5 y0 y1 y2 y3 y4 y5 : Int64) (v : Value) (ve vf : List Value) (r : Int32)  (hr : 0 < r) :
    Met l Z yN16 prog_20_method_5_code 3 (some .long) { frames := 1, cells := 0, slots := 0, locals := 15 } #[(.ref q)] (nQ q pr ph 1 z v :: nR pr pk pe r 0 :: nK pk x0 x1 x2 x3 x4 x5 :: (pe, .inr (.object "java/lang/Object", ve, true)) :: nH ph pj pf 0 :: nK pj y0 y1 y2 y3 y4 y5 :: (pf, .inr (.object "java/lang/Object", vf, true)) :: F) (fun r0 M' => r0 = some (.long (own_min z x0)) ∧ M' = (nQ q pr ph 1 z v :: nR pr pk pe r 0 :: nK pk x0 x1 x2 x3 x4 x5 :: (pe, .inr (.object "java/lang/Object", ve, true)) :: nH ph pj pf 0 :: nK pj y0 y1 y2 y3 y4 y5 :: (pf, .inr (.object "java/lang/Object", vf, true)) :: F)) := by
  refine Met.of_go pn_12 (Ls := #[.val (.ref q), .unset, .unset]) (fun m => rfl) ?_
  intro E C
  refine Go.ldc2J C (v := (9223372036854775807 : Int64)) (wd hw 100 rfl) d12_0 rfl ?_
  refine Go.lstoreN C d12_3 rfl (Ls' := #[.val (.ref q), .val (.long (9223372036854775807 : Int64)), .second]) rfl ?_
  refine Go.aloadN C d12_4 rfl rfl rfl ?_
  refine Go.gf C (wd hw 59 rfl) 0 2 rfl rfl d12_5 rfl ?_
  refine Go.ifNo C d12_8 (q := 11) rfl (XT.i0_eq_f (by decide)) ?_
  refine Go.aloadN C d12_11 rfl rfl rfl ?_
  refine Go.gf C (wd hw 61 rfl) 0 3 rfl rfl d12_12 rfl ?_
  refine Go.lstoreN C d12_15 rfl (Ls' := #[.val (.ref q), .val (.long z), .second]) rfl ?_
  refine Go.aloadN C d12_16 rfl rfl rfl ?_
  refine Go.gf C (wd hw 34 rfl) 0 0 rfl rfl d12_17 rfl ?_
  refine Go.gv C (wd hw 69 rfl) (wd hw 70 rfl) 1 2 rfl rfl d12_20 rfl ?_
  refine Go.ifNo C d12_23 (q := 26) rfl (XT.i0_le_f hr) ?_
  refine Go.lloadN C d12_26 rfl rfl ?_
  refine Go.aloadN C d12_27 rfl rfl rfl ?_
  refine Go.gf C (wd hw 34 rfl) 0 0 rfl rfl d12_28 rfl ?_
  refine Go.gv C (wd hw 101 rfl) (wd hw 91 rfl) 1 0 rfl rfl d12_31 rfl ?_
  refine Go.aloadN C d12_34 rfl rfl rfl ?_
  refine Go.gf C (wd hw 34 rfl) 0 0 rfl rfl d12_35 rfl ?_
  refine Go.getR C (wd hw 102 rfl) (fun _ r => r.fld 1 3 rfl rfl) d12_38 (q := 41) rfl ?_
  refine Go.laload C (fun _ r => r.arr 2 rfl) (by decide) (v := (.long x0)) rfl d12_41 (q := 42) rfl ?_
  refine Go.callS C (y := yN0) (as := [(.long z), (.long x0)]) (rest := []) (wd hw 103 rfl) (wd hw 104 rfl) (wd hw 5 rfl) (wd hw 105 rfl) (m_minJ l Z a0 hw _ z x0) rfl d12_42 (q := 45) rfl (by decide) rfl (na := 2) (by decide +kernel) rfl (by decide) (W := 0) rfl (by decide) (by decide) (by decide) (k' := 0) (n' := 0) rfl rfl ?_
  rintro _ _ ⟨rfl, rfl⟩
  show Go _ _ _ _ _ _ _ _ _ _ [(.long (own_min z x0))]
  refine Go.lstoreN C d12_45 rfl (Ls' := #[.val (.ref q), .val (.long (own_min z x0)), .second]) rfl ?_
  refine Go.aloadN C d12_46 rfl rfl rfl ?_
  refine Go.gf C (wd hw 45 rfl) 0 1 rfl rfl d12_47 rfl ?_
  refine Go.gv C (wd hw 106 rfl) (wd hw 107 rfl) 4 2 rfl rfl d12_50 rfl ?_
  refine Go.ifYes C d12_53 (by decide) (q := 70) rfl (XT.i0_le_t (by decide)) ?_
  refine Go.lloadN C d12_70 rfl rfl ?_
  refine Go.retL C rfl d12_71 (by decide) (by decide) ?_
  exact ⟨rfl, rfl⟩
theorem m_fk_11 (l : Launch) (Z : State) (a0 : Array Value) (hw : HW Z a0) (F : List Ent) (q pr pk pe ph pj pf : Addr) (z x0 x1 x2 x3 x4 x5 y0 y1 y2 y3 y4 y5 : Int64) (v : Value) (ve vf : List Value) (r : Int32) (p : Int32)  (hr : 0 < r) (hq : 0 < p) :
    Met l Z yN16 prog_20_method_5_code 3 (some .long) { frames := 1, cells := 0, slots := 0, locals := 15 } #[(.ref q)] (nQ q pr ph 1 z v :: nR pr pk pe r 0 :: nK pk x0 x1 x2 x3 x4 x5 :: (pe, .inr (.object "java/lang/Object", ve, true)) :: nH ph pj pf p :: nK pj y0 y1 y2 y3 y4 y5 :: (pf, .inr (.object "java/lang/Object", vf, true)) :: F) (fun r0 M' => r0 = some (.long (own_min (own_min z x0) y0)) ∧ M' = (nQ q pr ph 1 z v :: nR pr pk pe r 0 :: nK pk x0 x1 x2 x3 x4 x5 :: (pe, .inr (.object "java/lang/Object", ve, true)) :: nH ph pj pf p :: nK pj y0 y1 y2 y3 y4 y5 :: (pf, .inr (.object "java/lang/Object", vf, true)) :: F)) := by
  refine Met.of_go pn_12 (Ls := #[.val (.ref q), .unset, .unset]) (fun m => rfl) ?_
  intro E C
  refine Go.ldc2J C (v := (9223372036854775807 : Int64)) (wd hw 100 rfl) d12_0 rfl ?_
  refine Go.lstoreN C d12_3 rfl (Ls' := #[.val (.ref q), .val (.long (9223372036854775807 : Int64)), .second]) rfl ?_
  refine Go.aloadN C d12_4 rfl rfl rfl ?_
  refine Go.gf C (wd hw 59 rfl) 0 2 rfl rfl d12_5 rfl ?_
  refine Go.ifNo C d12_8 (q := 11) rfl (XT.i0_eq_f (by decide)) ?_
  refine Go.aloadN C d12_11 rfl rfl rfl ?_
  refine Go.gf C (wd hw 61 rfl) 0 3 rfl rfl d12_12 rfl ?_
  refine Go.lstoreN C d12_15 rfl (Ls' := #[.val (.ref q), .val (.long z), .second]) rfl ?_
  refine Go.aloadN C d12_16 rfl rfl rfl ?_
  refine Go.gf C (wd hw 34 rfl) 0 0 rfl rfl d12_17 rfl ?_
  refine Go.gv C (wd hw 69 rfl) (wd hw 70 rfl) 1 2 rfl rfl d12_20 rfl ?_
  refine Go.ifNo C d12_23 (q := 26) rfl (XT.i0_le_f hr) ?_
  refine Go.lloadN C d12_26 rfl rfl ?_
  refine Go.aloadN C d12_27 rfl rfl rfl ?_
  refine Go.gf C (wd hw 34 rfl) 0 0 rfl rfl d12_28 rfl ?_
  refine Go.gv C (wd hw 101 rfl) (wd hw 91 rfl) 1 0 rfl rfl d12_31 rfl ?_
  refine Go.aloadN C d12_34 rfl rfl rfl ?_
  refine Go.gf C (wd hw 34 rfl) 0 0 rfl rfl d12_35 rfl ?_
  refine Go.getR C (wd hw 102 rfl) (fun _ r => r.fld 1 3 rfl rfl) d12_38 (q := 41) rfl ?_
  refine Go.laload C (fun _ r => r.arr 2 rfl) (by decide) (v := (.long x0)) rfl d12_41 (q := 42) rfl ?_
  refine Go.callS C (y := yN0) (as := [(.long z), (.long x0)]) (rest := []) (wd hw 103 rfl) (wd hw 104 rfl) (wd hw 5 rfl) (wd hw 105 rfl) (m_minJ l Z a0 hw _ z x0) rfl d12_42 (q := 45) rfl (by decide) rfl (na := 2) (by decide +kernel) rfl (by decide) (W := 0) rfl (by decide) (by decide) (by decide) (k' := 0) (n' := 0) rfl rfl ?_
  rintro _ _ ⟨rfl, rfl⟩
  show Go _ _ _ _ _ _ _ _ _ _ [(.long (own_min z x0))]
  refine Go.lstoreN C d12_45 rfl (Ls' := #[.val (.ref q), .val (.long (own_min z x0)), .second]) rfl ?_
  refine Go.aloadN C d12_46 rfl rfl rfl ?_
  refine Go.gf C (wd hw 45 rfl) 0 1 rfl rfl d12_47 rfl ?_
  refine Go.gv C (wd hw 106 rfl) (wd hw 107 rfl) 4 2 rfl rfl d12_50 rfl ?_
  refine Go.ifNo C d12_53 (q := 56) rfl (XT.i0_le_f hq) ?_
  refine Go.lloadN C d12_56 rfl rfl ?_
  refine Go.aloadN C d12_57 rfl rfl rfl ?_
  refine Go.gf C (wd hw 45 rfl) 0 1 rfl rfl d12_58 rfl ?_
  refine Go.gv C (wd hw 134 rfl) (wd hw 128 rfl) 4 0 rfl rfl d12_61 rfl ?_
  refine Go.iconst C d12_64 rfl (v := (0 : Int32)) rfl ?_
  refine Go.laload C (fun _ r => r.arr 5 rfl) (by decide) (v := (.long y0)) rfl d12_65 (q := 66) rfl ?_
  refine Go.callS C (y := yN0) (as := [(.long (own_min z x0)), (.long y0)]) (rest := []) (wd hw 103 rfl) (wd hw 104 rfl) (wd hw 5 rfl) (wd hw 105 rfl) (m_minJ l Z a0 hw _ (own_min z x0) y0) rfl d12_66 (q := 69) rfl (by decide) rfl (na := 2) (by decide +kernel) rfl (by decide) (W := 0) rfl (by decide) (by decide) (by decide) (k' := 0) (n' := 0) rfl rfl ?_
  rintro _ _ ⟨rfl, rfl⟩
  show Go _ _ _ _ _ _ _ _ _ _ [(.long (own_min (own_min z x0) y0))]
  refine Go.lstoreN C d12_69 rfl (Ls' := #[.val (.ref q), .val (.long (own_min (own_min z x0) y0)), .second]) rfl ?_
  refine Go.lloadN C d12_70 rfl rfl ?_
  refine Go.retL C rfl d12_71 (by decide) (by decide) ?_
  exact ⟨rfl, rfl⟩
theorem m_fk_12 (l : Launch) (Z : State) (a0 : Array Value) (hw : HW Z a0) (F : List Ent) (q pr pk pe ph pj pf : Addr) (z x0 x1 x2 x3 x4 x5 y0 y1 y2 y3 y4 y5 : Int64) (v : Value) (ve vf : List Value) (r : Int32)  (hr : 0 < r) :
    Met l Z yN16 prog_20_method_5_code 3 (some .long) { frames := 1, cells := 0, slots := 0, locals := 15 } #[(.ref q)] (nQ q pr ph 1 z v :: nR pr pk pe r 1 :: nK pk x0 x1 x2 x3 x4 x5 :: (pe, .inr (.object "java/lang/Object", ve, true)) :: nH ph pj pf 0 :: nK pj y0 y1 y2 y3 y4 y5 :: (pf, .inr (.object "java/lang/Object", vf, true)) :: F) (fun r0 M' => r0 = some (.long (own_min z x1)) ∧ M' = (nQ q pr ph 1 z v :: nR pr pk pe r 1 :: nK pk x0 x1 x2 x3 x4 x5 :: (pe, .inr (.object "java/lang/Object", ve, true)) :: nH ph pj pf 0 :: nK pj y0 y1 y2 y3 y4 y5 :: (pf, .inr (.object "java/lang/Object", vf, true)) :: F)) := by
  refine Met.of_go pn_12 (Ls := #[.val (.ref q), .unset, .unset]) (fun m => rfl) ?_
  intro E C
  refine Go.ldc2J C (v := (9223372036854775807 : Int64)) (wd hw 100 rfl) d12_0 rfl ?_
  refine Go.lstoreN C d12_3 rfl (Ls' := #[.val (.ref q), .val (.long (9223372036854775807 : Int64)), .second]) rfl ?_
  refine Go.aloadN C d12_4 rfl rfl rfl ?_
  refine Go.gf C (wd hw 59 rfl) 0 2 rfl rfl d12_5 rfl ?_
  refine Go.ifNo C d12_8 (q := 11) rfl (XT.i0_eq_f (by decide)) ?_
  refine Go.aloadN C d12_11 rfl rfl rfl ?_
  refine Go.gf C (wd hw 61 rfl) 0 3 rfl rfl d12_12 rfl ?_
  refine Go.lstoreN C d12_15 rfl (Ls' := #[.val (.ref q), .val (.long z), .second]) rfl ?_
  refine Go.aloadN C d12_16 rfl rfl rfl ?_
  refine Go.gf C (wd hw 34 rfl) 0 0 rfl rfl d12_17 rfl ?_
  refine Go.gv C (wd hw 69 rfl) (wd hw 70 rfl) 1 2 rfl rfl d12_20 rfl ?_
  refine Go.ifNo C d12_23 (q := 26) rfl (XT.i0_le_f hr) ?_
  refine Go.lloadN C d12_26 rfl rfl ?_
  refine Go.aloadN C d12_27 rfl rfl rfl ?_
  refine Go.gf C (wd hw 34 rfl) 0 0 rfl rfl d12_28 rfl ?_
  refine Go.gv C (wd hw 101 rfl) (wd hw 91 rfl) 1 0 rfl rfl d12_31 rfl ?_
  refine Go.aloadN C d12_34 rfl rfl rfl ?_
  refine Go.gf C (wd hw 34 rfl) 0 0 rfl rfl d12_35 rfl ?_
  refine Go.getR C (wd hw 102 rfl) (fun _ r => r.fld 1 3 rfl rfl) d12_38 (q := 41) rfl ?_
  refine Go.laload C (fun _ r => r.arr 2 rfl) (by decide) (v := (.long x1)) rfl d12_41 (q := 42) rfl ?_
  refine Go.callS C (y := yN0) (as := [(.long z), (.long x1)]) (rest := []) (wd hw 103 rfl) (wd hw 104 rfl) (wd hw 5 rfl) (wd hw 105 rfl) (m_minJ l Z a0 hw _ z x1) rfl d12_42 (q := 45) rfl (by decide) rfl (na := 2) (by decide +kernel) rfl (by decide) (W := 0) rfl (by decide) (by decide) (by decide) (k' := 0) (n' := 0) rfl rfl ?_
  rintro _ _ ⟨rfl, rfl⟩
  show Go _ _ _ _ _ _ _ _ _ _ [(.long (own_min z x1))]
  refine Go.lstoreN C d12_45 rfl (Ls' := #[.val (.ref q), .val (.long (own_min z x1)), .second]) rfl ?_
  refine Go.aloadN C d12_46 rfl rfl rfl ?_
  refine Go.gf C (wd hw 45 rfl) 0 1 rfl rfl d12_47 rfl ?_
  refine Go.gv C (wd hw 106 rfl) (wd hw 107 rfl) 4 2 rfl rfl d12_50 rfl ?_
  refine Go.ifYes C d12_53 (by decide) (q := 70) rfl (XT.i0_le_t (by decide)) ?_
  refine Go.lloadN C d12_70 rfl rfl ?_
  refine Go.retL C rfl d12_71 (by decide) (by decide) ?_
  exact ⟨rfl, rfl⟩
theorem m_fk_13 (l : Launch) (Z : State) (a0 : Array Value) (hw : HW Z a0) (F : List Ent) (q pr pk pe ph pj pf : Addr) (z x0 x1 x2 x3 x4 x5 y0 y1 y2 y3 y4 y5 : Int64) (v : Value) (ve vf : List Value) (r : Int32) (p : Int32)  (hr : 0 < r) (hq : 0 < p) :
    Met l Z yN16 prog_20_method_5_code 3 (some .long) { frames := 1, cells := 0, slots := 0, locals := 15 } #[(.ref q)] (nQ q pr ph 1 z v :: nR pr pk pe r 1 :: nK pk x0 x1 x2 x3 x4 x5 :: (pe, .inr (.object "java/lang/Object", ve, true)) :: nH ph pj pf p :: nK pj y0 y1 y2 y3 y4 y5 :: (pf, .inr (.object "java/lang/Object", vf, true)) :: F) (fun r0 M' => r0 = some (.long (own_min (own_min z x1) y0)) ∧ M' = (nQ q pr ph 1 z v :: nR pr pk pe r 1 :: nK pk x0 x1 x2 x3 x4 x5 :: (pe, .inr (.object "java/lang/Object", ve, true)) :: nH ph pj pf p :: nK pj y0 y1 y2 y3 y4 y5 :: (pf, .inr (.object "java/lang/Object", vf, true)) :: F)) := by
  refine Met.of_go pn_12 (Ls := #[.val (.ref q), .unset, .unset]) (fun m => rfl) ?_
  intro E C
  refine Go.ldc2J C (v := (9223372036854775807 : Int64)) (wd hw 100 rfl) d12_0 rfl ?_
  refine Go.lstoreN C d12_3 rfl (Ls' := #[.val (.ref q), .val (.long (9223372036854775807 : Int64)), .second]) rfl ?_
  refine Go.aloadN C d12_4 rfl rfl rfl ?_
  refine Go.gf C (wd hw 59 rfl) 0 2 rfl rfl d12_5 rfl ?_
  refine Go.ifNo C d12_8 (q := 11) rfl (XT.i0_eq_f (by decide)) ?_
  refine Go.aloadN C d12_11 rfl rfl rfl ?_
  refine Go.gf C (wd hw 61 rfl) 0 3 rfl rfl d12_12 rfl ?_
  refine Go.lstoreN C d12_15 rfl (Ls' := #[.val (.ref q), .val (.long z), .second]) rfl ?_
  refine Go.aloadN C d12_16 rfl rfl rfl ?_
  refine Go.gf C (wd hw 34 rfl) 0 0 rfl rfl d12_17 rfl ?_
  refine Go.gv C (wd hw 69 rfl) (wd hw 70 rfl) 1 2 rfl rfl d12_20 rfl ?_
  refine Go.ifNo C d12_23 (q := 26) rfl (XT.i0_le_f hr) ?_
  refine Go.lloadN C d12_26 rfl rfl ?_
  refine Go.aloadN C d12_27 rfl rfl rfl ?_
  refine Go.gf C (wd hw 34 rfl) 0 0 rfl rfl d12_28 rfl ?_
  refine Go.gv C (wd hw 101 rfl) (wd hw 91 rfl) 1 0 rfl rfl d12_31 rfl ?_
  refine Go.aloadN C d12_34 rfl rfl rfl ?_
  refine Go.gf C (wd hw 34 rfl) 0 0 rfl rfl d12_35 rfl ?_
  refine Go.getR C (wd hw 102 rfl) (fun _ r => r.fld 1 3 rfl rfl) d12_38 (q := 41) rfl ?_
  refine Go.laload C (fun _ r => r.arr 2 rfl) (by decide) (v := (.long x1)) rfl d12_41 (q := 42) rfl ?_
  refine Go.callS C (y := yN0) (as := [(.long z), (.long x1)]) (rest := []) (wd hw 103 rfl) (wd hw 104 rfl) (wd hw 5 rfl) (wd hw 105 rfl) (m_minJ l Z a0 hw _ z x1) rfl d12_42 (q := 45) rfl (by decide) rfl (na := 2) (by decide +kernel) rfl (by decide) (W := 0) rfl (by decide) (by decide) (by decide) (k' := 0) (n' := 0) rfl rfl ?_
  rintro _ _ ⟨rfl, rfl⟩
  show Go _ _ _ _ _ _ _ _ _ _ [(.long (own_min z x1))]
  refine Go.lstoreN C d12_45 rfl (Ls' := #[.val (.ref q), .val (.long (own_min z x1)), .second]) rfl ?_
  refine Go.aloadN C d12_46 rfl rfl rfl ?_
  refine Go.gf C (wd hw 45 rfl) 0 1 rfl rfl d12_47 rfl ?_
  refine Go.gv C (wd hw 106 rfl) (wd hw 107 rfl) 4 2 rfl rfl d12_50 rfl ?_
  refine Go.ifNo C d12_53 (q := 56) rfl (XT.i0_le_f hq) ?_
  refine Go.lloadN C d12_56 rfl rfl ?_
  refine Go.aloadN C d12_57 rfl rfl rfl ?_
  refine Go.gf C (wd hw 45 rfl) 0 1 rfl rfl d12_58 rfl ?_
  refine Go.gv C (wd hw 134 rfl) (wd hw 128 rfl) 4 0 rfl rfl d12_61 rfl ?_
  refine Go.iconst C d12_64 rfl (v := (0 : Int32)) rfl ?_
  refine Go.laload C (fun _ r => r.arr 5 rfl) (by decide) (v := (.long y0)) rfl d12_65 (q := 66) rfl ?_
  refine Go.callS C (y := yN0) (as := [(.long (own_min z x1)), (.long y0)]) (rest := []) (wd hw 103 rfl) (wd hw 104 rfl) (wd hw 5 rfl) (wd hw 105 rfl) (m_minJ l Z a0 hw _ (own_min z x1) y0) rfl d12_66 (q := 69) rfl (by decide) rfl (na := 2) (by decide +kernel) rfl (by decide) (W := 0) rfl (by decide) (by decide) (by decide) (k' := 0) (n' := 0) rfl rfl ?_
  rintro _ _ ⟨rfl, rfl⟩
  show Go _ _ _ _ _ _ _ _ _ _ [(.long (own_min (own_min z x1) y0))]
  refine Go.lstoreN C d12_69 rfl (Ls' := #[.val (.ref q), .val (.long (own_min (own_min z x1) y0)), .second]) rfl ?_
  refine Go.lloadN C d12_70 rfl rfl ?_
  refine Go.retL C rfl d12_71 (by decide) (by decide) ?_
  exact ⟨rfl, rfl⟩
theorem m_fk_14 (l : Launch) (Z : State) (a0 : Array Value) (hw : HW Z a0) (F : List Ent) (q pr pk pe ph pj pf : Addr) (z x0 x1 x2 x3 x4 x5 y0 y1 y2 y3 y4 y5 : Int64) (v : Value) (ve vf : List Value) (r : Int32)  (hr : 0 < r) :
    Met l Z yN16 prog_20_method_5_code 3 (some .long) { frames := 1, cells := 0, slots := 0, locals := 15 } #[(.ref q)] (nQ q pr ph 1 z v :: nR pr pk pe r 2 :: nK pk x0 x1 x2 x3 x4 x5 :: (pe, .inr (.object "java/lang/Object", ve, true)) :: nH ph pj pf 0 :: nK pj y0 y1 y2 y3 y4 y5 :: (pf, .inr (.object "java/lang/Object", vf, true)) :: F) (fun r0 M' => r0 = some (.long (own_min z x2)) ∧ M' = (nQ q pr ph 1 z v :: nR pr pk pe r 2 :: nK pk x0 x1 x2 x3 x4 x5 :: (pe, .inr (.object "java/lang/Object", ve, true)) :: nH ph pj pf 0 :: nK pj y0 y1 y2 y3 y4 y5 :: (pf, .inr (.object "java/lang/Object", vf, true)) :: F)) := by
  refine Met.of_go pn_12 (Ls := #[.val (.ref q), .unset, .unset]) (fun m => rfl) ?_
  intro E C
  refine Go.ldc2J C (v := (9223372036854775807 : Int64)) (wd hw 100 rfl) d12_0 rfl ?_
  refine Go.lstoreN C d12_3 rfl (Ls' := #[.val (.ref q), .val (.long (9223372036854775807 : Int64)), .second]) rfl ?_
  refine Go.aloadN C d12_4 rfl rfl rfl ?_
  refine Go.gf C (wd hw 59 rfl) 0 2 rfl rfl d12_5 rfl ?_
  refine Go.ifNo C d12_8 (q := 11) rfl (XT.i0_eq_f (by decide)) ?_
  refine Go.aloadN C d12_11 rfl rfl rfl ?_
  refine Go.gf C (wd hw 61 rfl) 0 3 rfl rfl d12_12 rfl ?_
  refine Go.lstoreN C d12_15 rfl (Ls' := #[.val (.ref q), .val (.long z), .second]) rfl ?_
  refine Go.aloadN C d12_16 rfl rfl rfl ?_
  refine Go.gf C (wd hw 34 rfl) 0 0 rfl rfl d12_17 rfl ?_
  refine Go.gv C (wd hw 69 rfl) (wd hw 70 rfl) 1 2 rfl rfl d12_20 rfl ?_
  refine Go.ifNo C d12_23 (q := 26) rfl (XT.i0_le_f hr) ?_
  refine Go.lloadN C d12_26 rfl rfl ?_
  refine Go.aloadN C d12_27 rfl rfl rfl ?_
  refine Go.gf C (wd hw 34 rfl) 0 0 rfl rfl d12_28 rfl ?_
  refine Go.gv C (wd hw 101 rfl) (wd hw 91 rfl) 1 0 rfl rfl d12_31 rfl ?_
  refine Go.aloadN C d12_34 rfl rfl rfl ?_
  refine Go.gf C (wd hw 34 rfl) 0 0 rfl rfl d12_35 rfl ?_
  refine Go.getR C (wd hw 102 rfl) (fun _ r => r.fld 1 3 rfl rfl) d12_38 (q := 41) rfl ?_
  refine Go.laload C (fun _ r => r.arr 2 rfl) (by decide) (v := (.long x2)) rfl d12_41 (q := 42) rfl ?_
  refine Go.callS C (y := yN0) (as := [(.long z), (.long x2)]) (rest := []) (wd hw 103 rfl) (wd hw 104 rfl) (wd hw 5 rfl) (wd hw 105 rfl) (m_minJ l Z a0 hw _ z x2) rfl d12_42 (q := 45) rfl (by decide) rfl (na := 2) (by decide +kernel) rfl (by decide) (W := 0) rfl (by decide) (by decide) (by decide) (k' := 0) (n' := 0) rfl rfl ?_
  rintro _ _ ⟨rfl, rfl⟩
  show Go _ _ _ _ _ _ _ _ _ _ [(.long (own_min z x2))]
  refine Go.lstoreN C d12_45 rfl (Ls' := #[.val (.ref q), .val (.long (own_min z x2)), .second]) rfl ?_
  refine Go.aloadN C d12_46 rfl rfl rfl ?_
  refine Go.gf C (wd hw 45 rfl) 0 1 rfl rfl d12_47 rfl ?_
  refine Go.gv C (wd hw 106 rfl) (wd hw 107 rfl) 4 2 rfl rfl d12_50 rfl ?_
  refine Go.ifYes C d12_53 (by decide) (q := 70) rfl (XT.i0_le_t (by decide)) ?_
  refine Go.lloadN C d12_70 rfl rfl ?_
  refine Go.retL C rfl d12_71 (by decide) (by decide) ?_
  exact ⟨rfl, rfl⟩
theorem m_fk_15 (l : Launch) (Z : State) (a0 : Array Value) (hw : HW Z a0) (F : List Ent) (q pr pk pe ph pj pf : Addr) (z x0 x1 x2 x3 x4 x5 y0 y1 y2 y3 y4 y5 : Int64) (v : Value) (ve vf : List Value) (r : Int32) (p : Int32)  (hr : 0 < r) (hq : 0 < p) :
    Met l Z yN16 prog_20_method_5_code 3 (some .long) { frames := 1, cells := 0, slots := 0, locals := 15 } #[(.ref q)] (nQ q pr ph 1 z v :: nR pr pk pe r 2 :: nK pk x0 x1 x2 x3 x4 x5 :: (pe, .inr (.object "java/lang/Object", ve, true)) :: nH ph pj pf p :: nK pj y0 y1 y2 y3 y4 y5 :: (pf, .inr (.object "java/lang/Object", vf, true)) :: F) (fun r0 M' => r0 = some (.long (own_min (own_min z x2) y0)) ∧ M' = (nQ q pr ph 1 z v :: nR pr pk pe r 2 :: nK pk x0 x1 x2 x3 x4 x5 :: (pe, .inr (.object "java/lang/Object", ve, true)) :: nH ph pj pf p :: nK pj y0 y1 y2 y3 y4 y5 :: (pf, .inr (.object "java/lang/Object", vf, true)) :: F)) := by
  refine Met.of_go pn_12 (Ls := #[.val (.ref q), .unset, .unset]) (fun m => rfl) ?_
  intro E C
  refine Go.ldc2J C (v := (9223372036854775807 : Int64)) (wd hw 100 rfl) d12_0 rfl ?_
  refine Go.lstoreN C d12_3 rfl (Ls' := #[.val (.ref q), .val (.long (9223372036854775807 : Int64)), .second]) rfl ?_
  refine Go.aloadN C d12_4 rfl rfl rfl ?_
  refine Go.gf C (wd hw 59 rfl) 0 2 rfl rfl d12_5 rfl ?_
  refine Go.ifNo C d12_8 (q := 11) rfl (XT.i0_eq_f (by decide)) ?_
  refine Go.aloadN C d12_11 rfl rfl rfl ?_
  refine Go.gf C (wd hw 61 rfl) 0 3 rfl rfl d12_12 rfl ?_
  refine Go.lstoreN C d12_15 rfl (Ls' := #[.val (.ref q), .val (.long z), .second]) rfl ?_
  refine Go.aloadN C d12_16 rfl rfl rfl ?_
  refine Go.gf C (wd hw 34 rfl) 0 0 rfl rfl d12_17 rfl ?_
  refine Go.gv C (wd hw 69 rfl) (wd hw 70 rfl) 1 2 rfl rfl d12_20 rfl ?_
  refine Go.ifNo C d12_23 (q := 26) rfl (XT.i0_le_f hr) ?_
  refine Go.lloadN C d12_26 rfl rfl ?_
  refine Go.aloadN C d12_27 rfl rfl rfl ?_
  refine Go.gf C (wd hw 34 rfl) 0 0 rfl rfl d12_28 rfl ?_
  refine Go.gv C (wd hw 101 rfl) (wd hw 91 rfl) 1 0 rfl rfl d12_31 rfl ?_
  refine Go.aloadN C d12_34 rfl rfl rfl ?_
  refine Go.gf C (wd hw 34 rfl) 0 0 rfl rfl d12_35 rfl ?_
  refine Go.getR C (wd hw 102 rfl) (fun _ r => r.fld 1 3 rfl rfl) d12_38 (q := 41) rfl ?_
  refine Go.laload C (fun _ r => r.arr 2 rfl) (by decide) (v := (.long x2)) rfl d12_41 (q := 42) rfl ?_
  refine Go.callS C (y := yN0) (as := [(.long z), (.long x2)]) (rest := []) (wd hw 103 rfl) (wd hw 104 rfl) (wd hw 5 rfl) (wd hw 105 rfl) (m_minJ l Z a0 hw _ z x2) rfl d12_42 (q := 45) rfl (by decide) rfl (na := 2) (by decide +kernel) rfl (by decide) (W := 0) rfl (by decide) (by decide) (by decide) (k' := 0) (n' := 0) rfl rfl ?_
  rintro _ _ ⟨rfl, rfl⟩
  show Go _ _ _ _ _ _ _ _ _ _ [(.long (own_min z x2))]
  refine Go.lstoreN C d12_45 rfl (Ls' := #[.val (.ref q), .val (.long (own_min z x2)), .second]) rfl ?_
  refine Go.aloadN C d12_46 rfl rfl rfl ?_
  refine Go.gf C (wd hw 45 rfl) 0 1 rfl rfl d12_47 rfl ?_
  refine Go.gv C (wd hw 106 rfl) (wd hw 107 rfl) 4 2 rfl rfl d12_50 rfl ?_
  refine Go.ifNo C d12_53 (q := 56) rfl (XT.i0_le_f hq) ?_
  refine Go.lloadN C d12_56 rfl rfl ?_
  refine Go.aloadN C d12_57 rfl rfl rfl ?_
  refine Go.gf C (wd hw 45 rfl) 0 1 rfl rfl d12_58 rfl ?_
  refine Go.gv C (wd hw 134 rfl) (wd hw 128 rfl) 4 0 rfl rfl d12_61 rfl ?_
  refine Go.iconst C d12_64 rfl (v := (0 : Int32)) rfl ?_
  refine Go.laload C (fun _ r => r.arr 5 rfl) (by decide) (v := (.long y0)) rfl d12_65 (q := 66) rfl ?_
  refine Go.callS C (y := yN0) (as := [(.long (own_min z x2)), (.long y0)]) (rest := []) (wd hw 103 rfl) (wd hw 104 rfl) (wd hw 5 rfl) (wd hw 105 rfl) (m_minJ l Z a0 hw _ (own_min z x2) y0) rfl d12_66 (q := 69) rfl (by decide) rfl (na := 2) (by decide +kernel) rfl (by decide) (W := 0) rfl (by decide) (by decide) (by decide) (k' := 0) (n' := 0) rfl rfl ?_
  rintro _ _ ⟨rfl, rfl⟩
  show Go _ _ _ _ _ _ _ _ _ _ [(.long (own_min (own_min z x2) y0))]
  refine Go.lstoreN C d12_69 rfl (Ls' := #[.val (.ref q), .val (.long (own_min (own_min z x2) y0)), .second]) rfl ?_
  refine Go.lloadN C d12_70 rfl rfl ?_
  refine Go.retL C rfl d12_71 (by decide) (by decide) ?_
  exact ⟨rfl, rfl⟩
theorem own_fk (l : Launch) (Z : State) (a0 : Array Value) (hw : ∀ d ∈ tables_1, d.before a0 Z = true) (F : List Ent) (K : Nat → Int64) (e : Nat → Addr) (hE : ∀ i, Exa Z Z.heap (e i) "java/lang/Integer") (q : Addr) {t : Nat} {L : List Nat} {M : List Ent} (i : Nat) (ht0 : t ∈ [0, 1, 2, 3, 4, 5, 6, 7]) (hQ : QS K e q t L M) :
    Met l Z yN16 prog_20_method_5_code 3 (some .long) { frames := 1, cells := 0, slots := 0, locals := 15 } #[(.ref q)] (M ++ F) (fun r M' => r = some (.long (own_kmin K L)) ∧ M' = M ++ F) := by
  obtain ⟨-, L0, n, hp, h⟩ := hQ
  match n, h with
  | 0, h =>
    obtain ⟨pr, pk, pe, ph, pj, pf, z, x0, x1, x2, x3, x4, x5, y0, y1, y2, y3, y4, y5, ht, rfl, rfl⟩ := h
   
    refine Met.mono (m_fk_0 l Z a0 hw _ q pr pk pe ph pj pf z x0 x1 x2 x3 x4 x5 y0 y1 y2 y3 y4 y5 .null _ _ 0 ) ?_
    rintro _ _ ⟨rfl, rfl⟩
    · exact ⟨congrArg (fun z => some (Value.long z)) (Int64.toInt_inj.mp (by rw [← own_kperm K hp]; simp only [own_kmin, own_minI, own_maxI, Int64.lt_iff_toInt_lt] at ⊢)), rfl⟩
  | 1, h =>
    obtain ⟨pr, pk, pe, ph, pj, pf, z, x0, x1, x2, x3, x4, x5, y0, y1, y2, y3, y4, y5, ht, rfl, rfl⟩ := h
   
    refine Met.mono (m_fk_0 l Z a0 hw _ q pr pk pe ph pj pf z x0 x1 x2 x3 x4 x5 y0 y1 y2 y3 y4 y5 .null _ _ 1 ) ?_
    rintro _ _ ⟨rfl, rfl⟩
    · exact ⟨congrArg (fun z => some (Value.long z)) (Int64.toInt_inj.mp (by rw [← own_kperm K hp]; simp only [own_kmin, own_minI, own_maxI, Int64.lt_iff_toInt_lt] at ⊢)), rfl⟩
  | 2, h =>
    obtain ⟨pr, pk, pe, ph, pj, pf, j0, z, x0, x1, x2, x3, x4, x5, y1, y2, y3, y4, y5, ht, rfl, rfl⟩ := h
   
    refine Met.mono (m_fk_1 l Z a0 hw _ q pr pk pe ph pj pf z x0 x1 x2 x3 x4 x5 (K j0) y1 y2 y3 y4 y5 .null _ _ 1 1 (by decide)) ?_
    rintro _ _ ⟨rfl, rfl⟩
    · exact ⟨congrArg (fun z => some (Value.long z)) (Int64.toInt_inj.mp (by rw [← own_kperm K hp]; simp only [own_kmin, own_minI, own_maxI, Int64.lt_iff_toInt_lt] at ⊢; have := own_le (K j0); omega)), rfl⟩
  | 3, h =>
    obtain ⟨pr, pk, pe, ph, pj, pf, j0, j1, z, x0, x1, x2, x3, x4, x5, y2, y3, y4, y5, ht, hv0, rfl, rfl⟩ := h
   
    refine Met.mono (m_fk_1 l Z a0 hw _ q pr pk pe ph pj pf z x0 x1 x2 x3 x4 x5 (K j0) (K j1) y2 y3 y4 y5 .null _ _ 1 2 (by decide)) ?_
    rintro _ _ ⟨rfl, rfl⟩
    · exact ⟨congrArg (fun z => some (Value.long z)) (Int64.toInt_inj.mp (by rw [← own_kperm K hp]; simp only [own_kmin, own_minI, own_maxI, Int64.lt_iff_toInt_lt] at hv0 ⊢; have := own_le (K j0); have := own_le (K j1); omega)), rfl⟩
  | 4, h =>
    obtain ⟨pr, pk, pe, ph, pj, pf, j0, j1, j2, z, x0, x1, x2, x3, x4, x5, y3, y4, y5, ht, hv0, hv1, rfl, rfl⟩ := h
   
    refine Met.mono (m_fk_1 l Z a0 hw _ q pr pk pe ph pj pf z x0 x1 x2 x3 x4 x5 (K j0) (K j1) (K j2) y3 y4 y5 .null _ _ 1 3 (by decide)) ?_
    rintro _ _ ⟨rfl, rfl⟩
    · exact ⟨congrArg (fun z => some (Value.long z)) (Int64.toInt_inj.mp (by rw [← own_kperm K hp]; simp only [own_kmin, own_minI, own_maxI, Int64.lt_iff_toInt_lt] at hv0 hv1 ⊢; have := own_le (K j0); have := own_le (K j1); have := own_le (K j2); omega)), rfl⟩
  | 5, h =>
    obtain ⟨pr, pk, pe, ph, pj, pf, z, x0, x1, x2, x3, x4, x5, y0, y1, y2, y3, y4, y5, ht, rfl, rfl⟩ := h
   
    refine Met.mono (m_fk_0 l Z a0 hw _ q pr pk pe ph pj pf z x0 x1 x2 x3 x4 x5 y0 y1 y2 y3 y4 y5 .null _ _ 2 ) ?_
    rintro _ _ ⟨rfl, rfl⟩
    · exact ⟨congrArg (fun z => some (Value.long z)) (Int64.toInt_inj.mp (by rw [← own_kperm K hp]; simp only [own_kmin, own_minI, own_maxI, Int64.lt_iff_toInt_lt] at ⊢)), rfl⟩
  | 6, h =>
    obtain ⟨pr, pk, pe, ph, pj, pf, j0, z, x0, x1, x2, x3, x4, x5, y1, y2, y3, y4, y5, ht, rfl, rfl⟩ := h
   
    refine Met.mono (m_fk_1 l Z a0 hw _ q pr pk pe ph pj pf z x0 x1 x2 x3 x4 x5 (K j0) y1 y2 y3 y4 y5 .null _ _ 2 1 (by decide)) ?_
    rintro _ _ ⟨rfl, rfl⟩
    · exact ⟨congrArg (fun z => some (Value.long z)) (Int64.toInt_inj.mp (by rw [← own_kperm K hp]; simp only [own_kmin, own_minI, own_maxI, Int64.lt_iff_toInt_lt] at ⊢; have := own_le (K j0); omega)), rfl⟩
  | 7, h =>
    obtain ⟨pr, pk, pe, ph, pj, pf, j0, j1, z, x0, x1, x2, x3, x4, x5, y2, y3, y4, y5, ht, hv0, rfl, rfl⟩ := h
   
    refine Met.mono (m_fk_1 l Z a0 hw _ q pr pk pe ph pj pf z x0 x1 x2 x3 x4 x5 (K j0) (K j1) y2 y3 y4 y5 .null _ _ 2 2 (by decide)) ?_
    rintro _ _ ⟨rfl, rfl⟩
    · exact ⟨congrArg (fun z => some (Value.long z)) (Int64.toInt_inj.mp (by rw [← own_kperm K hp]; simp only [own_kmin, own_minI, own_maxI, Int64.lt_iff_toInt_lt] at hv0 ⊢; have := own_le (K j0); have := own_le (K j1); omega)), rfl⟩
  | 8, h =>
    obtain ⟨pr, pk, pe, ph, pj, pf, i0, z, x1, x2, x3, x4, x5, y0, y1, y2, y3, y4, y5, ht, rfl, rfl⟩ := h
   
    refine Met.mono (m_fk_2 l Z a0 hw _ q pr pk pe ph pj pf z (K i0) x1 x2 x3 x4 x5 y0 y1 y2 y3 y4 y5 .null _ _ 1 (by decide) ) ?_
    rintro _ _ ⟨rfl, rfl⟩
    · exact ⟨congrArg (fun z => some (Value.long z)) (Int64.toInt_inj.mp (by rw [← own_kperm K hp]; simp only [own_kmin, own_minI, own_maxI, Int64.lt_iff_toInt_lt] at ⊢; have := own_le (K i0); omega)), rfl⟩
  | 9, h =>
    obtain ⟨pr, pk, pe, ph, pj, pf, i0, j0, z, x1, x2, x3, x4, x5, y1, y2, y3, y4, y5, ht, rfl, rfl⟩ := h
   
    refine Met.mono (m_fk_3 l Z a0 hw _ q pr pk pe ph pj pf z (K i0) x1 x2 x3 x4 x5 (K j0) y1 y2 y3 y4 y5 .null _ _ 1 1 (by decide) (by decide)) ?_
    rintro _ _ ⟨rfl, rfl⟩
    · exact ⟨congrArg (fun z => some (Value.long z)) (Int64.toInt_inj.mp (by rw [← own_kperm K hp]; simp only [own_kmin, own_minI, own_maxI, Int64.lt_iff_toInt_lt] at ⊢; have := own_le (K i0); have := own_le (K j0); omega)), rfl⟩
  | 10, h =>
    obtain ⟨pr, pk, pe, ph, pj, pf, i0, j0, j1, z, x1, x2, x3, x4, x5, y2, y3, y4, y5, ht, hv0, rfl, rfl⟩ := h
   
    refine Met.mono (m_fk_3 l Z a0 hw _ q pr pk pe ph pj pf z (K i0) x1 x2 x3 x4 x5 (K j0) (K j1) y2 y3 y4 y5 .null _ _ 1 2 (by decide) (by decide)) ?_
    rintro _ _ ⟨rfl, rfl⟩
    · exact ⟨congrArg (fun z => some (Value.long z)) (Int64.toInt_inj.mp (by rw [← own_kperm K hp]; simp only [own_kmin, own_minI, own_maxI, Int64.lt_iff_toInt_lt] at hv0 ⊢; have := own_le (K i0); have := own_le (K j0); have := own_le (K j1); omega)), rfl⟩
  | 11, h =>
    obtain ⟨pr, pk, pe, ph, pj, pf, i0, z, x0, x2, x3, x4, x5, y0, y1, y2, y3, y4, y5, ht, rfl, rfl⟩ := h
   
    refine Met.mono (m_fk_4 l Z a0 hw _ q pr pk pe ph pj pf z x0 (K i0) x2 x3 x4 x5 y0 y1 y2 y3 y4 y5 .null _ _ 1 (by decide) ) ?_
    rintro _ _ ⟨rfl, rfl⟩
    · exact ⟨congrArg (fun z => some (Value.long z)) (Int64.toInt_inj.mp (by rw [← own_kperm K hp]; simp only [own_kmin, own_minI, own_maxI, Int64.lt_iff_toInt_lt] at ⊢; have := own_le (K i0); omega)), rfl⟩
  | 12, h =>
    obtain ⟨pr, pk, pe, ph, pj, pf, i0, j0, z, x0, x2, x3, x4, x5, y1, y2, y3, y4, y5, ht, rfl, rfl⟩ := h
   
    refine Met.mono (m_fk_5 l Z a0 hw _ q pr pk pe ph pj pf z x0 (K i0) x2 x3 x4 x5 (K j0) y1 y2 y3 y4 y5 .null _ _ 1 1 (by decide) (by decide)) ?_
    rintro _ _ ⟨rfl, rfl⟩
    · exact ⟨congrArg (fun z => some (Value.long z)) (Int64.toInt_inj.mp (by rw [← own_kperm K hp]; simp only [own_kmin, own_minI, own_maxI, Int64.lt_iff_toInt_lt] at ⊢; have := own_le (K i0); have := own_le (K j0); omega)), rfl⟩
  | 13, h =>
    obtain ⟨pr, pk, pe, ph, pj, pf, i0, j0, j1, z, x0, x2, x3, x4, x5, y2, y3, y4, y5, ht, hv0, rfl, rfl⟩ := h
   
    refine Met.mono (m_fk_5 l Z a0 hw _ q pr pk pe ph pj pf z x0 (K i0) x2 x3 x4 x5 (K j0) (K j1) y2 y3 y4 y5 .null _ _ 1 2 (by decide) (by decide)) ?_
    rintro _ _ ⟨rfl, rfl⟩
    · exact ⟨congrArg (fun z => some (Value.long z)) (Int64.toInt_inj.mp (by rw [← own_kperm K hp]; simp only [own_kmin, own_minI, own_maxI, Int64.lt_iff_toInt_lt] at hv0 ⊢; have := own_le (K i0); have := own_le (K j0); have := own_le (K j1); omega)), rfl⟩
  | 14, h =>
    obtain ⟨pr, pk, pe, ph, pj, pf, i0, z, x0, x1, x3, x4, x5, y0, y1, y2, y3, y4, y5, ht, rfl, rfl⟩ := h
   
    refine Met.mono (m_fk_6 l Z a0 hw _ q pr pk pe ph pj pf z x0 x1 (K i0) x3 x4 x5 y0 y1 y2 y3 y4 y5 .null _ _ 1 (by decide) ) ?_
    rintro _ _ ⟨rfl, rfl⟩
    · exact ⟨congrArg (fun z => some (Value.long z)) (Int64.toInt_inj.mp (by rw [← own_kperm K hp]; simp only [own_kmin, own_minI, own_maxI, Int64.lt_iff_toInt_lt] at ⊢; have := own_le (K i0); omega)), rfl⟩
  | 15, h =>
    obtain ⟨pr, pk, pe, ph, pj, pf, i0, j0, z, x0, x1, x3, x4, x5, y1, y2, y3, y4, y5, ht, rfl, rfl⟩ := h
   
    refine Met.mono (m_fk_7 l Z a0 hw _ q pr pk pe ph pj pf z x0 x1 (K i0) x3 x4 x5 (K j0) y1 y2 y3 y4 y5 .null _ _ 1 1 (by decide) (by decide)) ?_
    rintro _ _ ⟨rfl, rfl⟩
    · exact ⟨congrArg (fun z => some (Value.long z)) (Int64.toInt_inj.mp (by rw [← own_kperm K hp]; simp only [own_kmin, own_minI, own_maxI, Int64.lt_iff_toInt_lt] at ⊢; have := own_le (K i0); have := own_le (K j0); omega)), rfl⟩
  | 16, h =>
    obtain ⟨pr, pk, pe, ph, pj, pf, i0, i1, z, x2, x3, x4, x5, y0, y1, y2, y3, y4, y5, ht, hv0, rfl, rfl⟩ := h
   
    refine Met.mono (m_fk_2 l Z a0 hw _ q pr pk pe ph pj pf z (K i0) (K i1) x2 x3 x4 x5 y0 y1 y2 y3 y4 y5 .null _ _ 2 (by decide) ) ?_
    rintro _ _ ⟨rfl, rfl⟩
    · exact ⟨congrArg (fun z => some (Value.long z)) (Int64.toInt_inj.mp (by rw [← own_kperm K hp]; simp only [own_kmin, own_minI, own_maxI, Int64.lt_iff_toInt_lt] at hv0 ⊢; have := own_le (K i0); have := own_le (K i1); omega)), rfl⟩
  | 17, h =>
    obtain ⟨pr, pk, pe, ph, pj, pf, i0, i1, j0, z, x2, x3, x4, x5, y1, y2, y3, y4, y5, ht, hv0, rfl, rfl⟩ := h
   
    refine Met.mono (m_fk_3 l Z a0 hw _ q pr pk pe ph pj pf z (K i0) (K i1) x2 x3 x4 x5 (K j0) y1 y2 y3 y4 y5 .null _ _ 2 1 (by decide) (by decide)) ?_
    rintro _ _ ⟨rfl, rfl⟩
    · exact ⟨congrArg (fun z => some (Value.long z)) (Int64.toInt_inj.mp (by rw [← own_kperm K hp]; simp only [own_kmin, own_minI, own_maxI, Int64.lt_iff_toInt_lt] at hv0 ⊢; have := own_le (K i0); have := own_le (K i1); have := own_le (K j0); omega)), rfl⟩
  | 18, h =>
    obtain ⟨pr, pk, pe, ph, pj, pf, i0, i1, z, x0, x3, x4, x5, y0, y1, y2, y3, y4, y5, ht, hv0, rfl, rfl⟩ := h
   
    refine Met.mono (m_fk_4 l Z a0 hw _ q pr pk pe ph pj pf z x0 (K i0) (K i1) x3 x4 x5 y0 y1 y2 y3 y4 y5 .null _ _ 2 (by decide) ) ?_
    rintro _ _ ⟨rfl, rfl⟩
    · exact ⟨congrArg (fun z => some (Value.long z)) (Int64.toInt_inj.mp (by rw [← own_kperm K hp]; simp only [own_kmin, own_minI, own_maxI, Int64.lt_iff_toInt_lt] at hv0 ⊢; have := own_le (K i0); have := own_le (K i1); omega)), rfl⟩
  | 19, h =>
    obtain ⟨pr, pk, pe, ph, pj, pf, i0, i1, j0, z, x0, x3, x4, x5, y1, y2, y3, y4, y5, ht, hv0, rfl, rfl⟩ := h
   
    refine Met.mono (m_fk_5 l Z a0 hw _ q pr pk pe ph pj pf z x0 (K i0) (K i1) x3 x4 x5 (K j0) y1 y2 y3 y4 y5 .null _ _ 2 1 (by decide) (by decide)) ?_
    rintro _ _ ⟨rfl, rfl⟩
    · exact ⟨congrArg (fun z => some (Value.long z)) (Int64.toInt_inj.mp (by rw [← own_kperm K hp]; simp only [own_kmin, own_minI, own_maxI, Int64.lt_iff_toInt_lt] at hv0 ⊢; have := own_le (K i0); have := own_le (K i1); have := own_le (K j0); omega)), rfl⟩
  | 20, h =>
    obtain ⟨pr, pk, pe, ph, pj, pf, i0, i1, z, x0, x1, x4, x5, y0, y1, y2, y3, y4, y5, ht, hv0, rfl, rfl⟩ := h
   
    refine Met.mono (m_fk_6 l Z a0 hw _ q pr pk pe ph pj pf z x0 x1 (K i0) (K i1) x4 x5 y0 y1 y2 y3 y4 y5 .null _ _ 2 (by decide) ) ?_
    rintro _ _ ⟨rfl, rfl⟩
    · exact ⟨congrArg (fun z => some (Value.long z)) (Int64.toInt_inj.mp (by rw [← own_kperm K hp]; simp only [own_kmin, own_minI, own_maxI, Int64.lt_iff_toInt_lt] at hv0 ⊢; have := own_le (K i0); have := own_le (K i1); omega)), rfl⟩
  | 21, h =>
    obtain ⟨pr, pk, pe, ph, pj, pf, i0, i1, i2, z, x3, x4, x5, y0, y1, y2, y3, y4, y5, ht, hv0, hv1, rfl, rfl⟩ := h
   
    refine Met.mono (m_fk_2 l Z a0 hw _ q pr pk pe ph pj pf z (K i0) (K i1) (K i2) x3 x4 x5 y0 y1 y2 y3 y4 y5 .null _ _ 3 (by decide) ) ?_
    rintro _ _ ⟨rfl, rfl⟩
    · exact ⟨congrArg (fun z => some (Value.long z)) (Int64.toInt_inj.mp (by rw [← own_kperm K hp]; simp only [own_kmin, own_minI, own_maxI, Int64.lt_iff_toInt_lt] at hv0 hv1 ⊢; have := own_le (K i0); have := own_le (K i1); have := own_le (K i2); omega)), rfl⟩
  | 22, h =>
    obtain ⟨pr, pk, pe, ph, pj, pf, i0, i1, i2, z, x0, x4, x5, y0, y1, y2, y3, y4, y5, ht, hv0, hv1, rfl, rfl⟩ := h
   
    refine Met.mono (m_fk_4 l Z a0 hw _ q pr pk pe ph pj pf z x0 (K i0) (K i1) (K i2) x4 x5 y0 y1 y2 y3 y4 y5 .null _ _ 3 (by decide) ) ?_
    rintro _ _ ⟨rfl, rfl⟩
    · exact ⟨congrArg (fun z => some (Value.long z)) (Int64.toInt_inj.mp (by rw [← own_kperm K hp]; simp only [own_kmin, own_minI, own_maxI, Int64.lt_iff_toInt_lt] at hv0 hv1 ⊢; have := own_le (K i0); have := own_le (K i1); have := own_le (K i2); omega)), rfl⟩
  | 23, h =>
    obtain ⟨pr, pk, pe, ph, pj, pf, w, x0, x1, x2, x3, x4, x5, y0, y1, y2, y3, y4, y5, ht, rfl, rfl⟩ := h
   
    refine Met.mono (m_fk_8 l Z a0 hw _ q pr pk pe ph pj pf (K w) x0 x1 x2 x3 x4 x5 y0 y1 y2 y3 y4 y5 (.ref (e w)) _ _ 0 ) ?_
    rintro _ _ ⟨rfl, rfl⟩
    · exact ⟨congrArg (fun z => some (Value.long z)) (Int64.toInt_inj.mp (by rw [← own_kperm K hp]; simp only [own_kmin, own_minI, own_maxI, Int64.lt_iff_toInt_lt] at ⊢; have := own_le (K w); omega)), rfl⟩
  | 24, h =>
    obtain ⟨pr, pk, pe, ph, pj, pf, w, x0, x1, x2, x3, x4, x5, y0, y1, y2, y3, y4, y5, ht, rfl, rfl⟩ := h
   
    refine Met.mono (m_fk_8 l Z a0 hw _ q pr pk pe ph pj pf (K w) x0 x1 x2 x3 x4 x5 y0 y1 y2 y3 y4 y5 (.ref (e w)) _ _ 1 ) ?_
    rintro _ _ ⟨rfl, rfl⟩
    · exact ⟨congrArg (fun z => some (Value.long z)) (Int64.toInt_inj.mp (by rw [← own_kperm K hp]; simp only [own_kmin, own_minI, own_maxI, Int64.lt_iff_toInt_lt] at ⊢; have := own_le (K w); omega)), rfl⟩
  | 25, h =>
    obtain ⟨pr, pk, pe, ph, pj, pf, w, j0, x0, x1, x2, x3, x4, x5, y1, y2, y3, y4, y5, ht, rfl, rfl⟩ := h
   
    refine Met.mono (m_fk_9 l Z a0 hw _ q pr pk pe ph pj pf (K w) x0 x1 x2 x3 x4 x5 (K j0) y1 y2 y3 y4 y5 (.ref (e w)) _ _ 1 1 (by decide)) ?_
    rintro _ _ ⟨rfl, rfl⟩
    · exact ⟨congrArg (fun z => some (Value.long z)) (Int64.toInt_inj.mp (by rw [← own_kperm K hp]; simp only [own_kmin, own_minI, own_maxI, Int64.lt_iff_toInt_lt] at ⊢; have := own_le (K w); have := own_le (K j0); omega)), rfl⟩
  | 26, h =>
    obtain ⟨pr, pk, pe, ph, pj, pf, w, j0, j1, x0, x1, x2, x3, x4, x5, y2, y3, y4, y5, ht, hv0, rfl, rfl⟩ := h
   
    refine Met.mono (m_fk_9 l Z a0 hw _ q pr pk pe ph pj pf (K w) x0 x1 x2 x3 x4 x5 (K j0) (K j1) y2 y3 y4 y5 (.ref (e w)) _ _ 1 2 (by decide)) ?_
    rintro _ _ ⟨rfl, rfl⟩
    · exact ⟨congrArg (fun z => some (Value.long z)) (Int64.toInt_inj.mp (by rw [← own_kperm K hp]; simp only [own_kmin, own_minI, own_maxI, Int64.lt_iff_toInt_lt] at hv0 ⊢; have := own_le (K w); have := own_le (K j0); have := own_le (K j1); omega)), rfl⟩
  | 27, h =>
    obtain ⟨pr, pk, pe, ph, pj, pf, w, j0, j1, j2, x0, x1, x2, x3, x4, x5, y3, y4, y5, ht, hv0, hv1, rfl, rfl⟩ := h
   
    refine Met.mono (m_fk_9 l Z a0 hw _ q pr pk pe ph pj pf (K w) x0 x1 x2 x3 x4 x5 (K j0) (K j1) (K j2) y3 y4 y5 (.ref (e w)) _ _ 1 3 (by decide)) ?_
    rintro _ _ ⟨rfl, rfl⟩
    · exact ⟨congrArg (fun z => some (Value.long z)) (Int64.toInt_inj.mp (by rw [← own_kperm K hp]; simp only [own_kmin, own_minI, own_maxI, Int64.lt_iff_toInt_lt] at hv0 hv1 ⊢; have := own_le (K w); have := own_le (K j0); have := own_le (K j1); have := own_le (K j2); omega)), rfl⟩
  | 28, h =>
    obtain ⟨pr, pk, pe, ph, pj, pf, w, x0, x1, x2, x3, x4, x5, y0, y1, y2, y3, y4, y5, ht, rfl, rfl⟩ := h
   
    refine Met.mono (m_fk_8 l Z a0 hw _ q pr pk pe ph pj pf (K w) x0 x1 x2 x3 x4 x5 y0 y1 y2 y3 y4 y5 (.ref (e w)) _ _ 2 ) ?_
    rintro _ _ ⟨rfl, rfl⟩
    · exact ⟨congrArg (fun z => some (Value.long z)) (Int64.toInt_inj.mp (by rw [← own_kperm K hp]; simp only [own_kmin, own_minI, own_maxI, Int64.lt_iff_toInt_lt] at ⊢; have := own_le (K w); omega)), rfl⟩
  | 29, h =>
    obtain ⟨pr, pk, pe, ph, pj, pf, w, j0, x0, x1, x2, x3, x4, x5, y1, y2, y3, y4, y5, ht, rfl, rfl⟩ := h
   
    refine Met.mono (m_fk_9 l Z a0 hw _ q pr pk pe ph pj pf (K w) x0 x1 x2 x3 x4 x5 (K j0) y1 y2 y3 y4 y5 (.ref (e w)) _ _ 2 1 (by decide)) ?_
    rintro _ _ ⟨rfl, rfl⟩
    · exact ⟨congrArg (fun z => some (Value.long z)) (Int64.toInt_inj.mp (by rw [← own_kperm K hp]; simp only [own_kmin, own_minI, own_maxI, Int64.lt_iff_toInt_lt] at ⊢; have := own_le (K w); have := own_le (K j0); omega)), rfl⟩
  | 30, h =>
    obtain ⟨pr, pk, pe, ph, pj, pf, w, j0, j1, x0, x1, x2, x3, x4, x5, y2, y3, y4, y5, ht, hv0, rfl, rfl⟩ := h
   
    refine Met.mono (m_fk_9 l Z a0 hw _ q pr pk pe ph pj pf (K w) x0 x1 x2 x3 x4 x5 (K j0) (K j1) y2 y3 y4 y5 (.ref (e w)) _ _ 2 2 (by decide)) ?_
    rintro _ _ ⟨rfl, rfl⟩
    · exact ⟨congrArg (fun z => some (Value.long z)) (Int64.toInt_inj.mp (by rw [← own_kperm K hp]; simp only [own_kmin, own_minI, own_maxI, Int64.lt_iff_toInt_lt] at hv0 ⊢; have := own_le (K w); have := own_le (K j0); have := own_le (K j1); omega)), rfl⟩
  | 31, h =>
    obtain ⟨pr, pk, pe, ph, pj, pf, w, i0, x1, x2, x3, x4, x5, y0, y1, y2, y3, y4, y5, ht, rfl, rfl⟩ := h
   
    refine Met.mono (m_fk_10 l Z a0 hw _ q pr pk pe ph pj pf (K w) (K i0) x1 x2 x3 x4 x5 y0 y1 y2 y3 y4 y5 (.ref (e w)) _ _ 1 (by decide) ) ?_
    rintro _ _ ⟨rfl, rfl⟩
    · exact ⟨congrArg (fun z => some (Value.long z)) (Int64.toInt_inj.mp (by rw [← own_kperm K hp]; simp only [own_kmin, own_minI, own_maxI, Int64.lt_iff_toInt_lt] at ⊢; have := own_le (K w); have := own_le (K i0); omega)), rfl⟩
  | 32, h =>
    obtain ⟨pr, pk, pe, ph, pj, pf, w, i0, j0, x1, x2, x3, x4, x5, y1, y2, y3, y4, y5, ht, rfl, rfl⟩ := h
   
    refine Met.mono (m_fk_11 l Z a0 hw _ q pr pk pe ph pj pf (K w) (K i0) x1 x2 x3 x4 x5 (K j0) y1 y2 y3 y4 y5 (.ref (e w)) _ _ 1 1 (by decide) (by decide)) ?_
    rintro _ _ ⟨rfl, rfl⟩
    · exact ⟨congrArg (fun z => some (Value.long z)) (Int64.toInt_inj.mp (by rw [← own_kperm K hp]; simp only [own_kmin, own_minI, own_maxI, Int64.lt_iff_toInt_lt] at ⊢; have := own_le (K w); have := own_le (K i0); have := own_le (K j0); omega)), rfl⟩
  | 33, h =>
    obtain ⟨pr, pk, pe, ph, pj, pf, w, i0, j0, j1, x1, x2, x3, x4, x5, y2, y3, y4, y5, ht, hv0, rfl, rfl⟩ := h
   
    refine Met.mono (m_fk_11 l Z a0 hw _ q pr pk pe ph pj pf (K w) (K i0) x1 x2 x3 x4 x5 (K j0) (K j1) y2 y3 y4 y5 (.ref (e w)) _ _ 1 2 (by decide) (by decide)) ?_
    rintro _ _ ⟨rfl, rfl⟩
    · exact ⟨congrArg (fun z => some (Value.long z)) (Int64.toInt_inj.mp (by rw [← own_kperm K hp]; simp only [own_kmin, own_minI, own_maxI, Int64.lt_iff_toInt_lt] at hv0 ⊢; have := own_le (K w); have := own_le (K i0); have := own_le (K j0); have := own_le (K j1); omega)), rfl⟩
  | 34, h =>
    obtain ⟨pr, pk, pe, ph, pj, pf, w, i0, j0, j1, j2, x1, x2, x3, x4, x5, y3, y4, y5, ht, hv0, hv1, rfl, rfl⟩ := h
   
    refine Met.mono (m_fk_11 l Z a0 hw _ q pr pk pe ph pj pf (K w) (K i0) x1 x2 x3 x4 x5 (K j0) (K j1) (K j2) y3 y4 y5 (.ref (e w)) _ _ 1 3 (by decide) (by decide)) ?_
    rintro _ _ ⟨rfl, rfl⟩
    · exact ⟨congrArg (fun z => some (Value.long z)) (Int64.toInt_inj.mp (by rw [← own_kperm K hp]; simp only [own_kmin, own_minI, own_maxI, Int64.lt_iff_toInt_lt] at hv0 hv1 ⊢; have := own_le (K w); have := own_le (K i0); have := own_le (K j0); have := own_le (K j1); have := own_le (K j2); omega)), rfl⟩
  | 35, h =>
    obtain ⟨pr, pk, pe, ph, pj, pf, w, i0, x0, x2, x3, x4, x5, y0, y1, y2, y3, y4, y5, ht, rfl, rfl⟩ := h
   
    refine Met.mono (m_fk_12 l Z a0 hw _ q pr pk pe ph pj pf (K w) x0 (K i0) x2 x3 x4 x5 y0 y1 y2 y3 y4 y5 (.ref (e w)) _ _ 1 (by decide) ) ?_
    rintro _ _ ⟨rfl, rfl⟩
    · exact ⟨congrArg (fun z => some (Value.long z)) (Int64.toInt_inj.mp (by rw [← own_kperm K hp]; simp only [own_kmin, own_minI, own_maxI, Int64.lt_iff_toInt_lt] at ⊢; have := own_le (K w); have := own_le (K i0); omega)), rfl⟩
  | 36, h =>
    obtain ⟨pr, pk, pe, ph, pj, pf, w, i0, j0, x0, x2, x3, x4, x5, y1, y2, y3, y4, y5, ht, rfl, rfl⟩ := h
   
    refine Met.mono (m_fk_13 l Z a0 hw _ q pr pk pe ph pj pf (K w) x0 (K i0) x2 x3 x4 x5 (K j0) y1 y2 y3 y4 y5 (.ref (e w)) _ _ 1 1 (by decide) (by decide)) ?_
    rintro _ _ ⟨rfl, rfl⟩
    · exact ⟨congrArg (fun z => some (Value.long z)) (Int64.toInt_inj.mp (by rw [← own_kperm K hp]; simp only [own_kmin, own_minI, own_maxI, Int64.lt_iff_toInt_lt] at ⊢; have := own_le (K w); have := own_le (K i0); have := own_le (K j0); omega)), rfl⟩
  | 37, h =>
    obtain ⟨pr, pk, pe, ph, pj, pf, w, i0, j0, j1, x0, x2, x3, x4, x5, y2, y3, y4, y5, ht, hv0, rfl, rfl⟩ := h
   
    refine Met.mono (m_fk_13 l Z a0 hw _ q pr pk pe ph pj pf (K w) x0 (K i0) x2 x3 x4 x5 (K j0) (K j1) y2 y3 y4 y5 (.ref (e w)) _ _ 1 2 (by decide) (by decide)) ?_
    rintro _ _ ⟨rfl, rfl⟩
    · exact ⟨congrArg (fun z => some (Value.long z)) (Int64.toInt_inj.mp (by rw [← own_kperm K hp]; simp only [own_kmin, own_minI, own_maxI, Int64.lt_iff_toInt_lt] at hv0 ⊢; have := own_le (K w); have := own_le (K i0); have := own_le (K j0); have := own_le (K j1); omega)), rfl⟩
  | 38, h =>
    obtain ⟨pr, pk, pe, ph, pj, pf, w, i0, x0, x1, x3, x4, x5, y0, y1, y2, y3, y4, y5, ht, rfl, rfl⟩ := h
   
    refine Met.mono (m_fk_14 l Z a0 hw _ q pr pk pe ph pj pf (K w) x0 x1 (K i0) x3 x4 x5 y0 y1 y2 y3 y4 y5 (.ref (e w)) _ _ 1 (by decide) ) ?_
    rintro _ _ ⟨rfl, rfl⟩
    · exact ⟨congrArg (fun z => some (Value.long z)) (Int64.toInt_inj.mp (by rw [← own_kperm K hp]; simp only [own_kmin, own_minI, own_maxI, Int64.lt_iff_toInt_lt] at ⊢; have := own_le (K w); have := own_le (K i0); omega)), rfl⟩
  | 39, h =>
    obtain ⟨pr, pk, pe, ph, pj, pf, w, i0, j0, x0, x1, x3, x4, x5, y1, y2, y3, y4, y5, ht, rfl, rfl⟩ := h
   
    refine Met.mono (m_fk_15 l Z a0 hw _ q pr pk pe ph pj pf (K w) x0 x1 (K i0) x3 x4 x5 (K j0) y1 y2 y3 y4 y5 (.ref (e w)) _ _ 1 1 (by decide) (by decide)) ?_
    rintro _ _ ⟨rfl, rfl⟩
    · exact ⟨congrArg (fun z => some (Value.long z)) (Int64.toInt_inj.mp (by rw [← own_kperm K hp]; simp only [own_kmin, own_minI, own_maxI, Int64.lt_iff_toInt_lt] at ⊢; have := own_le (K w); have := own_le (K i0); have := own_le (K j0); omega)), rfl⟩
  | 40, h =>
    obtain ⟨pr, pk, pe, ph, pj, pf, w, i0, i1, x2, x3, x4, x5, y0, y1, y2, y3, y4, y5, ht, hv0, rfl, rfl⟩ := h
   
    refine Met.mono (m_fk_10 l Z a0 hw _ q pr pk pe ph pj pf (K w) (K i0) (K i1) x2 x3 x4 x5 y0 y1 y2 y3 y4 y5 (.ref (e w)) _ _ 2 (by decide) ) ?_
    rintro _ _ ⟨rfl, rfl⟩
    · exact ⟨congrArg (fun z => some (Value.long z)) (Int64.toInt_inj.mp (by rw [← own_kperm K hp]; simp only [own_kmin, own_minI, own_maxI, Int64.lt_iff_toInt_lt] at hv0 ⊢; have := own_le (K w); have := own_le (K i0); have := own_le (K i1); omega)), rfl⟩
  | 41, h =>
    obtain ⟨pr, pk, pe, ph, pj, pf, w, i0, i1, j0, x2, x3, x4, x5, y1, y2, y3, y4, y5, ht, hv0, rfl, rfl⟩ := h
   
    refine Met.mono (m_fk_11 l Z a0 hw _ q pr pk pe ph pj pf (K w) (K i0) (K i1) x2 x3 x4 x5 (K j0) y1 y2 y3 y4 y5 (.ref (e w)) _ _ 2 1 (by decide) (by decide)) ?_
    rintro _ _ ⟨rfl, rfl⟩
    · exact ⟨congrArg (fun z => some (Value.long z)) (Int64.toInt_inj.mp (by rw [← own_kperm K hp]; simp only [own_kmin, own_minI, own_maxI, Int64.lt_iff_toInt_lt] at hv0 ⊢; have := own_le (K w); have := own_le (K i0); have := own_le (K i1); have := own_le (K j0); omega)), rfl⟩
  | 42, h =>
    obtain ⟨pr, pk, pe, ph, pj, pf, w, i0, i1, j0, j1, x2, x3, x4, x5, y2, y3, y4, y5, ht, hv0, hv1, rfl, rfl⟩ := h
   
    refine Met.mono (m_fk_11 l Z a0 hw _ q pr pk pe ph pj pf (K w) (K i0) (K i1) x2 x3 x4 x5 (K j0) (K j1) y2 y3 y4 y5 (.ref (e w)) _ _ 2 2 (by decide) (by decide)) ?_
    rintro _ _ ⟨rfl, rfl⟩
    · exact ⟨congrArg (fun z => some (Value.long z)) (Int64.toInt_inj.mp (by rw [← own_kperm K hp]; simp only [own_kmin, own_minI, own_maxI, Int64.lt_iff_toInt_lt] at hv0 hv1 ⊢; have := own_le (K w); have := own_le (K i0); have := own_le (K i1); have := own_le (K j0); have := own_le (K j1); omega)), rfl⟩
  | 43, h =>
    obtain ⟨pr, pk, pe, ph, pj, pf, w, i0, i1, x0, x3, x4, x5, y0, y1, y2, y3, y4, y5, ht, hv0, rfl, rfl⟩ := h
   
    refine Met.mono (m_fk_12 l Z a0 hw _ q pr pk pe ph pj pf (K w) x0 (K i0) (K i1) x3 x4 x5 y0 y1 y2 y3 y4 y5 (.ref (e w)) _ _ 2 (by decide) ) ?_
    rintro _ _ ⟨rfl, rfl⟩
    · exact ⟨congrArg (fun z => some (Value.long z)) (Int64.toInt_inj.mp (by rw [← own_kperm K hp]; simp only [own_kmin, own_minI, own_maxI, Int64.lt_iff_toInt_lt] at hv0 ⊢; have := own_le (K w); have := own_le (K i0); have := own_le (K i1); omega)), rfl⟩
  | 44, h =>
    obtain ⟨pr, pk, pe, ph, pj, pf, w, i0, i1, j0, x0, x3, x4, x5, y1, y2, y3, y4, y5, ht, hv0, rfl, rfl⟩ := h
   
    refine Met.mono (m_fk_13 l Z a0 hw _ q pr pk pe ph pj pf (K w) x0 (K i0) (K i1) x3 x4 x5 (K j0) y1 y2 y3 y4 y5 (.ref (e w)) _ _ 2 1 (by decide) (by decide)) ?_
    rintro _ _ ⟨rfl, rfl⟩
    · exact ⟨congrArg (fun z => some (Value.long z)) (Int64.toInt_inj.mp (by rw [← own_kperm K hp]; simp only [own_kmin, own_minI, own_maxI, Int64.lt_iff_toInt_lt] at hv0 ⊢; have := own_le (K w); have := own_le (K i0); have := own_le (K i1); have := own_le (K j0); omega)), rfl⟩
  | 45, h =>
    obtain ⟨pr, pk, pe, ph, pj, pf, w, i0, i1, x0, x1, x4, x5, y0, y1, y2, y3, y4, y5, ht, hv0, rfl, rfl⟩ := h
   
    refine Met.mono (m_fk_14 l Z a0 hw _ q pr pk pe ph pj pf (K w) x0 x1 (K i0) (K i1) x4 x5 y0 y1 y2 y3 y4 y5 (.ref (e w)) _ _ 2 (by decide) ) ?_
    rintro _ _ ⟨rfl, rfl⟩
    · exact ⟨congrArg (fun z => some (Value.long z)) (Int64.toInt_inj.mp (by rw [← own_kperm K hp]; simp only [own_kmin, own_minI, own_maxI, Int64.lt_iff_toInt_lt] at hv0 ⊢; have := own_le (K w); have := own_le (K i0); have := own_le (K i1); omega)), rfl⟩
  | 46, h =>
    obtain ⟨pr, pk, pe, ph, pj, pf, w, i0, i1, i2, x3, x4, x5, y0, y1, y2, y3, y4, y5, ht, hv0, hv1, rfl, rfl⟩ := h
   
    refine Met.mono (m_fk_10 l Z a0 hw _ q pr pk pe ph pj pf (K w) (K i0) (K i1) (K i2) x3 x4 x5 y0 y1 y2 y3 y4 y5 (.ref (e w)) _ _ 3 (by decide) ) ?_
    rintro _ _ ⟨rfl, rfl⟩
    · exact ⟨congrArg (fun z => some (Value.long z)) (Int64.toInt_inj.mp (by rw [← own_kperm K hp]; simp only [own_kmin, own_minI, own_maxI, Int64.lt_iff_toInt_lt] at hv0 hv1 ⊢; have := own_le (K w); have := own_le (K i0); have := own_le (K i1); have := own_le (K i2); omega)), rfl⟩
  | 47, h =>
    obtain ⟨pr, pk, pe, ph, pj, pf, w, i0, i1, i2, j0, x3, x4, x5, y1, y2, y3, y4, y5, ht, hv0, hv1, rfl, rfl⟩ := h
   
    refine Met.mono (m_fk_11 l Z a0 hw _ q pr pk pe ph pj pf (K w) (K i0) (K i1) (K i2) x3 x4 x5 (K j0) y1 y2 y3 y4 y5 (.ref (e w)) _ _ 3 1 (by decide) (by decide)) ?_
    rintro _ _ ⟨rfl, rfl⟩
    · exact ⟨congrArg (fun z => some (Value.long z)) (Int64.toInt_inj.mp (by rw [← own_kperm K hp]; simp only [own_kmin, own_minI, own_maxI, Int64.lt_iff_toInt_lt] at hv0 hv1 ⊢; have := own_le (K w); have := own_le (K i0); have := own_le (K i1); have := own_le (K i2); have := own_le (K j0); omega)), rfl⟩
  | 48, h =>
    obtain ⟨pr, pk, pe, ph, pj, pf, w, i0, i1, i2, x0, x4, x5, y0, y1, y2, y3, y4, y5, ht, hv0, hv1, rfl, rfl⟩ := h
   
    refine Met.mono (m_fk_12 l Z a0 hw _ q pr pk pe ph pj pf (K w) x0 (K i0) (K i1) (K i2) x4 x5 y0 y1 y2 y3 y4 y5 (.ref (e w)) _ _ 3 (by decide) ) ?_
    rintro _ _ ⟨rfl, rfl⟩
    · exact ⟨congrArg (fun z => some (Value.long z)) (Int64.toInt_inj.mp (by rw [← own_kperm K hp]; simp only [own_kmin, own_minI, own_maxI, Int64.lt_iff_toInt_lt] at hv0 hv1 ⊢; have := own_le (K w); have := own_le (K i0); have := own_le (K i1); have := own_le (K i2); omega)), rfl⟩
  | 49, h =>
    obtain ⟨pr, pk, pe, ph, pj, pf, w, i0, i1, i2, i3, x4, x5, y0, y1, y2, y3, y4, y5, ht, hv0, hv1, hv2, rfl, rfl⟩ := h
   
    refine Met.mono (m_fk_10 l Z a0 hw _ q pr pk pe ph pj pf (K w) (K i0) (K i1) (K i2) (K i3) x4 x5 y0 y1 y2 y3 y4 y5 (.ref (e w)) _ _ 4 (by decide) ) ?_
    rintro _ _ ⟨rfl, rfl⟩
    · exact ⟨congrArg (fun z => some (Value.long z)) (Int64.toInt_inj.mp (by rw [← own_kperm K hp]; simp only [own_kmin, own_minI, own_maxI, Int64.lt_iff_toInt_lt] at hv0 hv1 hv2 ⊢; have := own_le (K w); have := own_le (K i0); have := own_le (K i1); have := own_le (K i2); have := own_le (K i3); omega)), rfl⟩
  | (_ + 50), h => exact (h : False).elim
theorem own_pc (a b : Ent) (M : List Ent) : (a :: b :: M).Perm (M ++ [a, b]) := List.perm_append_comm (l₁ := [a, b])
theorem own_pd (a b : Ent) (M : List Ent) : (M ++ [a, b]).Perm (a :: b :: M) := List.perm_append_comm (l₂ := [a, b])
def own_st (f : Int32) (m k : Int64) : Int64 := if f = 0 then m else own_min m k
theorem own_st0 {f : Int32} {m k : Int64} (h : f = 0) : own_st f m k = m := if_pos h
theorem own_st1 {f : Int32} {m k : Int64} (h : ¬ f = 0) : own_st f m k = own_min m k := if_neg h
def own_I (f : Nat → Int32) (L : List Nat) : Prop := L.Nodup ∧ (∀ i ∈ L, i < 5) ∧ ∀ i, i < 5 → (i ∈ L ↔ ¬ f i = 0)
def own_w (f : Nat → Int32) (i : Nat) (x : Int32) (j : Nat) : Int32 := if j = i then x else f j
theorem own_five {f : Nat → Int32} {L : List Nat} {i : Nat} (h : own_I f L) (hi : i ∈ L) : i = 0 ∨ i = 1 ∨ i = 2 ∨ i = 3 ∨ i = 4 := by
  have := h.2.1 i hi
  omega
theorem own_fl {f : Nat → Int32} {L : List Nat} {i : Nat} (h : own_I f L) (hi : i ∈ L) : ¬ f i = 0 := (h.2.2 i (h.2.1 i hi)).mp hi
theorem own_Idel {f : Nat → Int32} {L : List Nat} {i : Nat} (h : own_I f L) (hi : i ∈ L) : own_I (own_w f i 0) (L.erase i) := by
  refine ⟨h.1.erase i, fun j hj => h.2.1 j (List.mem_of_mem_erase hj), fun j hj => ?_⟩
  rw [h.1.mem_erase_iff]
  unfold own_w
  split
  · rename_i e; subst e; simp
  · rename_i e; simp [e, h.2.2 j hj]
theorem own_Iadd {f : Nat → Int32} {L : List Nat} (h : own_I f L) (h4 : ¬ 4 ∈ L) : own_I (own_w f 4 1) (4 :: L) := by
  refine ⟨List.nodup_cons.mpr ⟨h4, h.1⟩, fun j hj => ?_, fun j hj => ?_⟩
  · rcases List.mem_cons.mp hj with rfl | q
    · decide
    · exact h.2.1 j q
  · unfold own_w
    split
    · rename_i e; subst e; simp
    · rename_i e; simp [e, h.2.2 j hj]
theorem own_kle (K : Nat → Int64) : ∀ (L : List Nat) (i : Nat), i ∈ L → (own_kmin K L).toInt ≤ (K i).toInt
  | j :: l, i, h => by
    simp only [own_kmin, own_minI]
    rcases List.mem_cons.mp h with rfl | q
    · omega
    · have := own_kle K l i q
      omega
theorem own_kor (K : Nat → Int64) : ∀ L : List Nat, (own_kmin K L).toInt = 9223372036854775807 ∨ ∃ i, i ∈ L ∧ (own_kmin K L).toInt = (K i).toInt
  | [] => Or.inl own_maxI
  | j :: l => by
    simp only [own_kmin, own_minI]
    by_cases hc : (K j).toInt ≤ (own_kmin K l).toInt
    · exact Or.inr ⟨j, List.mem_cons_self, by omega⟩
    · rcases own_kor K l with q | ⟨i, hi, q⟩
      · exact Or.inl (by omega)
      · exact Or.inr ⟨i, List.mem_cons_of_mem _ hi, by omega⟩
theorem own_stI (f : Int32) (m k : Int64) : (f = 0 ∧ (own_st f m k).toInt = m.toInt) ∨ (¬ f = 0 ∧ (own_st f m k).toInt = min m.toInt k.toInt) := by
  by_cases h : f = 0
  · exact Or.inl ⟨h, by rw [own_st0 h]⟩
  · exact Or.inr ⟨h, by rw [own_st1 h, own_minI]⟩
theorem own_mpk {f : Nat → Int32} {L : List Nat} {ka kb kc kd ke : Int64} (h : own_I f L) : own_kmin (own_F ka kb kc kd ke) L = own_st (f 4) (own_st (f 3) (own_st (f 2) (own_st (f 1) (own_st (f 0) (9223372036854775807 : Int64) ka) kb) kc) kd) ke := by
  apply Int64.toInt_inj.mp
  have i0 := h.2.2 0 (by decide)
  have i1 := h.2.2 1 (by decide)
  have i2 := h.2.2 2 (by decide)
  have i3 := h.2.2 3 (by decide)
  have i4 := h.2.2 4 (by decide)
  have l0 := own_kle (own_F ka kb kc kd ke) L 0
  have l1 := own_kle (own_F ka kb kc kd ke) L 1
  have l2 := own_kle (own_F ka kb kc kd ke) L 2
  have l3 := own_kle (own_F ka kb kc kd ke) L 3
  have l4 := own_kle (own_F ka kb kc kd ke) L 4
  simp only [own_F] at l0 l1 l2 l3 l4
  have hb := own_le (own_kmin (own_F ka kb kc kd ke) L)
  have e0 := own_stI (f 0) (9223372036854775807 : Int64) ka
  rw [own_maxI] at e0
  have e1 := own_stI (f 1) (own_st (f 0) (9223372036854775807 : Int64) ka) kb
  have e2 := own_stI (f 2) (own_st (f 1) (own_st (f 0) (9223372036854775807 : Int64) ka) kb) kc
  have e3 := own_stI (f 3) (own_st (f 2) (own_st (f 1) (own_st (f 0) (9223372036854775807 : Int64) ka) kb) kc) kd
  have e4 := own_stI (f 4) (own_st (f 3) (own_st (f 2) (own_st (f 1) (own_st (f 0) (9223372036854775807 : Int64) ka) kb) kc) kd) ke
  have hor : (own_kmin (own_F ka kb kc kd ke) L).toInt = 9223372036854775807 ∨ (¬ f 0 = 0 ∧ (own_kmin (own_F ka kb kc kd ke) L).toInt = ka.toInt) ∨ (¬ f 1 = 0 ∧ (own_kmin (own_F ka kb kc kd ke) L).toInt = kb.toInt) ∨ (¬ f 2 = 0 ∧ (own_kmin (own_F ka kb kc kd ke) L).toInt = kc.toInt) ∨ (¬ f 3 = 0 ∧ (own_kmin (own_F ka kb kc kd ke) L).toInt = kd.toInt) ∨ (¬ f 4 = 0 ∧ (own_kmin (own_F ka kb kc kd ke) L).toInt = ke.toInt) := by
    rcases own_kor (own_F ka kb kc kd ke) L with q | ⟨i, hi, q⟩
    · exact Or.inl q
    · rcases own_five h hi with rfl | rfl | rfl | rfl | rfl
      · exact Or.inr (Or.inl ⟨i0.mp hi, q⟩)
      · exact Or.inr (Or.inr (Or.inl ⟨i1.mp hi, q⟩))
      · exact Or.inr (Or.inr (Or.inr (Or.inl ⟨i2.mp hi, q⟩)))
      · exact Or.inr (Or.inr (Or.inr (Or.inr (Or.inl ⟨i3.mp hi, q⟩))))
      · exact Or.inr (Or.inr (Or.inr (Or.inr (Or.inr ⟨i4.mp hi, q⟩))))
  have l0 : f 0 = 0 ∨ (own_kmin (own_F ka kb kc kd ke) L).toInt ≤ ka.toInt := (Classical.em (f 0 = 0)).imp id fun z => l0 (i0.mpr z)
  have l1 : f 1 = 0 ∨ (own_kmin (own_F ka kb kc kd ke) L).toInt ≤ kb.toInt := (Classical.em (f 1 = 0)).imp id fun z => l1 (i1.mpr z)
  have l2 : f 2 = 0 ∨ (own_kmin (own_F ka kb kc kd ke) L).toInt ≤ kc.toInt := (Classical.em (f 2 = 0)).imp id fun z => l2 (i2.mpr z)
  have l3 : f 3 = 0 ∨ (own_kmin (own_F ka kb kc kd ke) L).toInt ≤ kd.toInt := (Classical.em (f 3 = 0)).imp id fun z => l3 (i3.mpr z)
  have l4 : f 4 = 0 ∨ (own_kmin (own_F ka kb kc kd ke) L).toInt ≤ ke.toInt := (Classical.em (f 4 = 0)).imp id fun z => l4 (i4.mpr z)
  clear i0 i1 i2 i3 i4
  generalize (own_kmin (own_F ka kb kc kd ke) L).toInt = A at *
  generalize (f 0 = 0) = P0 at *
  generalize (f 1 = 0) = P1 at *
  generalize (f 2 = 0) = P2 at *
  generalize (f 3 = 0) = P3 at *
  generalize (f 4 = 0) = P4 at *
  by_cases z0 : P0 <;> by_cases z1 : P1 <;> by_cases z2 : P2 <;> by_cases z3 : P3 <;> by_cases z4 : P4 <;> simp only [z0, z1, z2, z3, z4, true_and, false_and, or_false, false_or, not_true_eq_false, not_false_eq_true, true_or] at * <;> omega
theorem d13_0 : decode method_4_code 0 = .ok (.ldc2_w 51, 3) := by decide +kernel
theorem d13_3 : decode method_4_code 3 = .ok (.lstore_n 2, 1) := by decide +kernel
theorem d13_74 : decode method_4_code 74 = .ok (.lload_n 2, 1) := by decide +kernel
theorem d13_75 : decode method_4_code 75 = .ok (.lreturn, 1) := by decide +kernel
theorem d13_60 : decode method_4_code 60 = .ok (.aload_n 1, 1) := by decide +kernel
theorem d13_61 : decode method_4_code 61 = .ok (.iconst 4, 1) := by decide +kernel
theorem d13_62 : decode method_4_code 62 = .ok (.baload, 1) := by decide +kernel
theorem d13_63 : decode method_4_code 63 = .ok (.ifCond .eq 11, 3) := by decide +kernel
theorem d13_66 : decode method_4_code 66 = .ok (.lload_n 2, 1) := by decide +kernel
theorem d13_67 : decode method_4_code 67 = .ok (.aload_n 0, 1) := by decide +kernel
theorem d13_68 : decode method_4_code 68 = .ok (.iconst 4, 1) := by decide +kernel
theorem d13_69 : decode method_4_code 69 = .ok (.laload, 1) := by decide +kernel
theorem d13_70 : decode method_4_code 70 = .ok (.invokestatic 53, 3) := by decide +kernel
theorem d13_73 : decode method_4_code 73 = .ok (.lstore_n 2, 1) := by decide +kernel
theorem d13_46 : decode method_4_code 46 = .ok (.aload_n 1, 1) := by decide +kernel
theorem d13_47 : decode method_4_code 47 = .ok (.iconst 3, 1) := by decide +kernel
theorem d13_48 : decode method_4_code 48 = .ok (.baload, 1) := by decide +kernel
theorem d13_49 : decode method_4_code 49 = .ok (.ifCond .eq 11, 3) := by decide +kernel
theorem d13_52 : decode method_4_code 52 = .ok (.lload_n 2, 1) := by decide +kernel
theorem d13_53 : decode method_4_code 53 = .ok (.aload_n 0, 1) := by decide +kernel
theorem d13_54 : decode method_4_code 54 = .ok (.iconst 3, 1) := by decide +kernel
theorem d13_55 : decode method_4_code 55 = .ok (.laload, 1) := by decide +kernel
theorem d13_56 : decode method_4_code 56 = .ok (.invokestatic 53, 3) := by decide +kernel
theorem d13_59 : decode method_4_code 59 = .ok (.lstore_n 2, 1) := by decide +kernel
theorem d13_32 : decode method_4_code 32 = .ok (.aload_n 1, 1) := by decide +kernel
theorem d13_33 : decode method_4_code 33 = .ok (.iconst 2, 1) := by decide +kernel
theorem d13_34 : decode method_4_code 34 = .ok (.baload, 1) := by decide +kernel
theorem d13_35 : decode method_4_code 35 = .ok (.ifCond .eq 11, 3) := by decide +kernel
theorem d13_38 : decode method_4_code 38 = .ok (.lload_n 2, 1) := by decide +kernel
theorem d13_39 : decode method_4_code 39 = .ok (.aload_n 0, 1) := by decide +kernel
theorem d13_40 : decode method_4_code 40 = .ok (.iconst 2, 1) := by decide +kernel
theorem d13_41 : decode method_4_code 41 = .ok (.laload, 1) := by decide +kernel
theorem d13_42 : decode method_4_code 42 = .ok (.invokestatic 53, 3) := by decide +kernel
theorem d13_45 : decode method_4_code 45 = .ok (.lstore_n 2, 1) := by decide +kernel
theorem d13_18 : decode method_4_code 18 = .ok (.aload_n 1, 1) := by decide +kernel
theorem d13_19 : decode method_4_code 19 = .ok (.iconst 1, 1) := by decide +kernel
theorem d13_20 : decode method_4_code 20 = .ok (.baload, 1) := by decide +kernel
theorem d13_21 : decode method_4_code 21 = .ok (.ifCond .eq 11, 3) := by decide +kernel
theorem d13_24 : decode method_4_code 24 = .ok (.lload_n 2, 1) := by decide +kernel
theorem d13_25 : decode method_4_code 25 = .ok (.aload_n 0, 1) := by decide +kernel
theorem d13_26 : decode method_4_code 26 = .ok (.iconst 1, 1) := by decide +kernel
theorem d13_27 : decode method_4_code 27 = .ok (.laload, 1) := by decide +kernel
theorem d13_28 : decode method_4_code 28 = .ok (.invokestatic 53, 3) := by decide +kernel
theorem d13_31 : decode method_4_code 31 = .ok (.lstore_n 2, 1) := by decide +kernel
theorem d13_4 : decode method_4_code 4 = .ok (.aload_n 1, 1) := by decide +kernel
theorem d13_5 : decode method_4_code 5 = .ok (.iconst 0, 1) := by decide +kernel
theorem d13_6 : decode method_4_code 6 = .ok (.baload, 1) := by decide +kernel
theorem d13_7 : decode method_4_code 7 = .ok (.ifCond .eq 11, 3) := by decide +kernel
theorem d13_10 : decode method_4_code 10 = .ok (.lload_n 2, 1) := by decide +kernel
theorem d13_11 : decode method_4_code 11 = .ok (.aload_n 0, 1) := by decide +kernel
theorem d13_12 : decode method_4_code 12 = .ok (.iconst 0, 1) := by decide +kernel
theorem d13_13 : decode method_4_code 13 = .ok (.laload, 1) := by decide +kernel
theorem d13_14 : decode method_4_code 14 = .ok (.invokestatic 53, 3) := by decide +kernel
theorem d13_17 : decode method_4_code 17 = .ok (.lstore_n 2, 1) := by decide +kernel
theorem pn_13 : plainFor yN17 = true := by first | (apply plainFor_of_name; simp [plainName, overriddenIn]; done) | decide +kernel
theorem m_minPresent (l : Launch) (Z : State) (a0 : Array Value) (hw : HW Z a0) (F : List Ent) (a b : Addr) (k0 k1 k2 k3 k4 : Int64) (f0 f1 f2 f3 f4 : Int32)  :
    Met l Z yN17 method_4_code 4 (some .long) { frames := 1, cells := 0, slots := 0, locals := 17 } #[(.ref a), (.ref b)] (nA a k0 k1 k2 k3 k4 :: nB b f0 f1 f2 f3 f4 :: F) (fun r M' => r = some (.long (own_st f4 (own_st f3 (own_st f2 (own_st f1 (own_st f0 (9223372036854775807 : Int64) k0) k1) k2) k3) k4)) ∧ M' = (nA a k0 k1 k2 k3 k4 :: nB b f0 f1 f2 f3 f4 :: F)) := by
  refine Met.of_go pn_13 (Ls := #[.val (.ref a), .val (.ref b), .unset, .unset]) (fun m => rfl) ?_
  intro E C
  refine Go.ldc2J C (v := (9223372036854775807 : Int64)) (wd hw 113 rfl) d13_0 rfl ?_
  refine Go.lstoreN C d13_3 rfl (Ls' := #[.val (.ref a), .val (.ref b), .val (.long (9223372036854775807 : Int64)), .second]) rfl ?_
  have J18 : ∀ v : Int64, v = (own_st f0 (9223372036854775807 : Int64) k0) → Go l Z { frames := 1, cells := 0, slots := 0, locals := 17 } E (fun r M' => r = some (.long (own_st f4 (own_st f3 (own_st f2 (own_st f1 (own_st f0 (9223372036854775807 : Int64) k0) k1) k2) k3) k4)) ∧ M' = (nA a k0 k1 k2 k3 k4 :: nB b f0 f1 f2 f3 f4 :: F)) (nA a k0 k1 k2 k3 k4 :: nB b f0 f1 f2 f3 f4 :: F) 0 0 18 #[.val (.ref a), .val (.ref b), .val (.long v), .second] [] := by
    rintro _ rfl
    have J32 : ∀ v : Int64, v = (own_st f1 (own_st f0 (9223372036854775807 : Int64) k0) k1) → Go l Z { frames := 1, cells := 0, slots := 0, locals := 17 } E (fun r M' => r = some (.long (own_st f4 (own_st f3 (own_st f2 (own_st f1 (own_st f0 (9223372036854775807 : Int64) k0) k1) k2) k3) k4)) ∧ M' = (nA a k0 k1 k2 k3 k4 :: nB b f0 f1 f2 f3 f4 :: F)) (nA a k0 k1 k2 k3 k4 :: nB b f0 f1 f2 f3 f4 :: F) 0 0 32 #[.val (.ref a), .val (.ref b), .val (.long v), .second] [] := by
      rintro _ rfl
      have J46 : ∀ v : Int64, v = (own_st f2 (own_st f1 (own_st f0 (9223372036854775807 : Int64) k0) k1) k2) → Go l Z { frames := 1, cells := 0, slots := 0, locals := 17 } E (fun r M' => r = some (.long (own_st f4 (own_st f3 (own_st f2 (own_st f1 (own_st f0 (9223372036854775807 : Int64) k0) k1) k2) k3) k4)) ∧ M' = (nA a k0 k1 k2 k3 k4 :: nB b f0 f1 f2 f3 f4 :: F)) (nA a k0 k1 k2 k3 k4 :: nB b f0 f1 f2 f3 f4 :: F) 0 0 46 #[.val (.ref a), .val (.ref b), .val (.long v), .second] [] := by
        rintro _ rfl
        have J60 : ∀ v : Int64, v = (own_st f3 (own_st f2 (own_st f1 (own_st f0 (9223372036854775807 : Int64) k0) k1) k2) k3) → Go l Z { frames := 1, cells := 0, slots := 0, locals := 17 } E (fun r M' => r = some (.long (own_st f4 (own_st f3 (own_st f2 (own_st f1 (own_st f0 (9223372036854775807 : Int64) k0) k1) k2) k3) k4)) ∧ M' = (nA a k0 k1 k2 k3 k4 :: nB b f0 f1 f2 f3 f4 :: F)) (nA a k0 k1 k2 k3 k4 :: nB b f0 f1 f2 f3 f4 :: F) 0 0 60 #[.val (.ref a), .val (.ref b), .val (.long v), .second] [] := by
          rintro _ rfl
          have J74 : ∀ v : Int64, v = (own_st f4 (own_st f3 (own_st f2 (own_st f1 (own_st f0 (9223372036854775807 : Int64) k0) k1) k2) k3) k4) → Go l Z { frames := 1, cells := 0, slots := 0, locals := 17 } E (fun r M' => r = some (.long (own_st f4 (own_st f3 (own_st f2 (own_st f1 (own_st f0 (9223372036854775807 : Int64) k0) k1) k2) k3) k4)) ∧ M' = (nA a k0 k1 k2 k3 k4 :: nB b f0 f1 f2 f3 f4 :: F)) (nA a k0 k1 k2 k3 k4 :: nB b f0 f1 f2 f3 f4 :: F) 0 0 74 #[.val (.ref a), .val (.ref b), .val (.long v), .second] [] := by
            rintro _ rfl
            refine Go.lloadN C d13_74 rfl rfl ?_
            refine Go.retL C rfl d13_75 (by decide) (by decide) ?_
            exact ⟨rfl, rfl⟩
          refine Go.aloadN C d13_60 rfl rfl rfl ?_
          refine Go.iconst C d13_61 rfl (v := (4 : Int32)) rfl ?_
          refine Go.zaload C (fun _ r => r.arr 1 rfl) (by decide) (v := (.int f4)) rfl d13_62 (q := 63) rfl ?_
          refine Go.ifc C d13_63 (by decide) (q := 74) rfl (q' := 66) rfl (fun (h63_1 : f4 = 0) => ?_) (fun (h63_1 : ¬ f4 = 0) => ?_)
          · exact J74 _ (own_st0 h63_1).symm
          · refine Go.lloadN C d13_66 rfl rfl ?_
            refine Go.aloadN C d13_67 rfl rfl rfl ?_
            refine Go.iconst C d13_68 rfl (v := (4 : Int32)) rfl ?_
            refine Go.laload C (fun _ r => r.arr 0 rfl) (by decide) (v := (.long k4)) rfl d13_69 (q := 70) rfl ?_
            refine Go.callS C (y := yN0) (as := [(.long (own_st f3 (own_st f2 (own_st f1 (own_st f0 (9223372036854775807 : Int64) k0) k1) k2) k3)), (.long k4)]) (rest := []) (wd hw 114 rfl) (wd hw 104 rfl) (wd hw 5 rfl) (wd hw 105 rfl) (m_minJ l Z a0 hw _ (own_st f3 (own_st f2 (own_st f1 (own_st f0 (9223372036854775807 : Int64) k0) k1) k2) k3) k4) rfl d13_70 (q := 73) rfl (by decide) rfl (na := 2) (by decide +kernel) rfl (by decide) (W := 0) rfl (by decide) (by decide) (by decide) (k' := 0) (n' := 0) rfl rfl ?_
            rintro _ _ ⟨rfl, rfl⟩
            show Go _ _ _ _ _ _ _ _ _ _ [(.long (own_min (own_st f3 (own_st f2 (own_st f1 (own_st f0 (9223372036854775807 : Int64) k0) k1) k2) k3) k4))]
            refine Go.lstoreN C d13_73 rfl (Ls' := #[.val (.ref a), .val (.ref b), .val (.long (own_min (own_st f3 (own_st f2 (own_st f1 (own_st f0 (9223372036854775807 : Int64) k0) k1) k2) k3) k4)), .second]) rfl ?_
            exact J74 _ (own_st1 h63_1).symm
        refine Go.aloadN C d13_46 rfl rfl rfl ?_
        refine Go.iconst C d13_47 rfl (v := (3 : Int32)) rfl ?_
        refine Go.zaload C (fun _ r => r.arr 1 rfl) (by decide) (v := (.int f3)) rfl d13_48 (q := 49) rfl ?_
        refine Go.ifc C d13_49 (by decide) (q := 60) rfl (q' := 52) rfl (fun (h49_2 : f3 = 0) => ?_) (fun (h49_2 : ¬ f3 = 0) => ?_)
        · exact J60 _ (own_st0 h49_2).symm
        · refine Go.lloadN C d13_52 rfl rfl ?_
          refine Go.aloadN C d13_53 rfl rfl rfl ?_
          refine Go.iconst C d13_54 rfl (v := (3 : Int32)) rfl ?_
          refine Go.laload C (fun _ r => r.arr 0 rfl) (by decide) (v := (.long k3)) rfl d13_55 (q := 56) rfl ?_
          refine Go.callS C (y := yN0) (as := [(.long (own_st f2 (own_st f1 (own_st f0 (9223372036854775807 : Int64) k0) k1) k2)), (.long k3)]) (rest := []) (wd hw 114 rfl) (wd hw 104 rfl) (wd hw 5 rfl) (wd hw 105 rfl) (m_minJ l Z a0 hw _ (own_st f2 (own_st f1 (own_st f0 (9223372036854775807 : Int64) k0) k1) k2) k3) rfl d13_56 (q := 59) rfl (by decide) rfl (na := 2) (by decide +kernel) rfl (by decide) (W := 0) rfl (by decide) (by decide) (by decide) (k' := 0) (n' := 0) rfl rfl ?_
          rintro _ _ ⟨rfl, rfl⟩
          show Go _ _ _ _ _ _ _ _ _ _ [(.long (own_min (own_st f2 (own_st f1 (own_st f0 (9223372036854775807 : Int64) k0) k1) k2) k3))]
          refine Go.lstoreN C d13_59 rfl (Ls' := #[.val (.ref a), .val (.ref b), .val (.long (own_min (own_st f2 (own_st f1 (own_st f0 (9223372036854775807 : Int64) k0) k1) k2) k3)), .second]) rfl ?_
          exact J60 _ (own_st1 h49_2).symm
      refine Go.aloadN C d13_32 rfl rfl rfl ?_
      refine Go.iconst C d13_33 rfl (v := (2 : Int32)) rfl ?_
      refine Go.zaload C (fun _ r => r.arr 1 rfl) (by decide) (v := (.int f2)) rfl d13_34 (q := 35) rfl ?_
      refine Go.ifc C d13_35 (by decide) (q := 46) rfl (q' := 38) rfl (fun (h35_3 : f2 = 0) => ?_) (fun (h35_3 : ¬ f2 = 0) => ?_)
      · exact J46 _ (own_st0 h35_3).symm
      · refine Go.lloadN C d13_38 rfl rfl ?_
        refine Go.aloadN C d13_39 rfl rfl rfl ?_
        refine Go.iconst C d13_40 rfl (v := (2 : Int32)) rfl ?_
        refine Go.laload C (fun _ r => r.arr 0 rfl) (by decide) (v := (.long k2)) rfl d13_41 (q := 42) rfl ?_
        refine Go.callS C (y := yN0) (as := [(.long (own_st f1 (own_st f0 (9223372036854775807 : Int64) k0) k1)), (.long k2)]) (rest := []) (wd hw 114 rfl) (wd hw 104 rfl) (wd hw 5 rfl) (wd hw 105 rfl) (m_minJ l Z a0 hw _ (own_st f1 (own_st f0 (9223372036854775807 : Int64) k0) k1) k2) rfl d13_42 (q := 45) rfl (by decide) rfl (na := 2) (by decide +kernel) rfl (by decide) (W := 0) rfl (by decide) (by decide) (by decide) (k' := 0) (n' := 0) rfl rfl ?_
        rintro _ _ ⟨rfl, rfl⟩
        show Go _ _ _ _ _ _ _ _ _ _ [(.long (own_min (own_st f1 (own_st f0 (9223372036854775807 : Int64) k0) k1) k2))]
        refine Go.lstoreN C d13_45 rfl (Ls' := #[.val (.ref a), .val (.ref b), .val (.long (own_min (own_st f1 (own_st f0 (9223372036854775807 : Int64) k0) k1) k2)), .second]) rfl ?_
        exact J46 _ (own_st1 h35_3).symm
    refine Go.aloadN C d13_18 rfl rfl rfl ?_
    refine Go.iconst C d13_19 rfl (v := (1 : Int32)) rfl ?_
    refine Go.zaload C (fun _ r => r.arr 1 rfl) (by decide) (v := (.int f1)) rfl d13_20 (q := 21) rfl ?_
    refine Go.ifc C d13_21 (by decide) (q := 32) rfl (q' := 24) rfl (fun (h21_4 : f1 = 0) => ?_) (fun (h21_4 : ¬ f1 = 0) => ?_)
    · exact J32 _ (own_st0 h21_4).symm
    · refine Go.lloadN C d13_24 rfl rfl ?_
      refine Go.aloadN C d13_25 rfl rfl rfl ?_
      refine Go.iconst C d13_26 rfl (v := (1 : Int32)) rfl ?_
      refine Go.laload C (fun _ r => r.arr 0 rfl) (by decide) (v := (.long k1)) rfl d13_27 (q := 28) rfl ?_
      refine Go.callS C (y := yN0) (as := [(.long (own_st f0 (9223372036854775807 : Int64) k0)), (.long k1)]) (rest := []) (wd hw 114 rfl) (wd hw 104 rfl) (wd hw 5 rfl) (wd hw 105 rfl) (m_minJ l Z a0 hw _ (own_st f0 (9223372036854775807 : Int64) k0) k1) rfl d13_28 (q := 31) rfl (by decide) rfl (na := 2) (by decide +kernel) rfl (by decide) (W := 0) rfl (by decide) (by decide) (by decide) (k' := 0) (n' := 0) rfl rfl ?_
      rintro _ _ ⟨rfl, rfl⟩
      show Go _ _ _ _ _ _ _ _ _ _ [(.long (own_min (own_st f0 (9223372036854775807 : Int64) k0) k1))]
      refine Go.lstoreN C d13_31 rfl (Ls' := #[.val (.ref a), .val (.ref b), .val (.long (own_min (own_st f0 (9223372036854775807 : Int64) k0) k1)), .second]) rfl ?_
      exact J32 _ (own_st1 h21_4).symm
  refine Go.aloadN C d13_4 rfl rfl rfl ?_
  refine Go.iconst C d13_5 rfl (v := (0 : Int32)) rfl ?_
  refine Go.zaload C (fun _ r => r.arr 1 rfl) (by decide) (v := (.int f0)) rfl d13_6 (q := 7) rfl ?_
  refine Go.ifc C d13_7 (by decide) (q := 18) rfl (q' := 10) rfl (fun (h7_5 : f0 = 0) => ?_) (fun (h7_5 : ¬ f0 = 0) => ?_)
  · exact J18 _ (own_st0 h7_5).symm
  · refine Go.lloadN C d13_10 rfl rfl ?_
    refine Go.aloadN C d13_11 rfl rfl rfl ?_
    refine Go.iconst C d13_12 rfl (v := (0 : Int32)) rfl ?_
    refine Go.laload C (fun _ r => r.arr 0 rfl) (by decide) (v := (.long k0)) rfl d13_13 (q := 14) rfl ?_
    refine Go.callS C (y := yN0) (as := [(.long (9223372036854775807 : Int64)), (.long k0)]) (rest := []) (wd hw 114 rfl) (wd hw 104 rfl) (wd hw 5 rfl) (wd hw 105 rfl) (m_minJ l Z a0 hw _ (9223372036854775807 : Int64) k0) rfl d13_14 (q := 17) rfl (by decide) rfl (na := 2) (by decide +kernel) rfl (by decide) (W := 0) rfl (by decide) (by decide) (by decide) (k' := 0) (n' := 0) rfl rfl ?_
    rintro _ _ ⟨rfl, rfl⟩
    show Go _ _ _ _ _ _ _ _ _ _ [(.long (own_min (9223372036854775807 : Int64) k0))]
    refine Go.lstoreN C d13_17 rfl (Ls' := #[.val (.ref a), .val (.ref b), .val (.long (own_min (9223372036854775807 : Int64) k0)), .second]) rfl ?_
    exact J18 _ (own_st1 h7_5).symm
theorem own_t8 {t : Nat} {l : List Nat} (h : ∀ x ∈ l, x ∈ [0, 1, 2, 3, 4, 5, 6, 7]) (ht : t ∈ l) : t ∈ [0, 1, 2, 3, 4, 5, 6, 7] := h t ht
theorem d14_0 : decode method_3_code 0 = .ok (.aload_n 0, 1) := by decide +kernel
theorem d14_1 : decode method_3_code 1 = .ok (.invokevirtual 33, 3) := by decide +kernel
theorem d14_4 : decode method_3_code 4 = .ok (.lstore_n 3, 1) := by decide +kernel
theorem d14_5 : decode method_3_code 5 = .ok (.lload_n 3, 1) := by decide +kernel
theorem d14_6 : decode method_3_code 6 = .ok (.aload_n 1, 1) := by decide +kernel
theorem d14_7 : decode method_3_code 7 = .ok (.aload_n 2, 1) := by decide +kernel
theorem d14_8 : decode method_3_code 8 = .ok (.invokestatic 37, 3) := by decide +kernel
theorem d14_11 : decode method_3_code 11 = .ok (.lcmp, 1) := by decide +kernel
theorem d14_12 : decode method_3_code 12 = .ok (.ifCond .eq 5, 3) := by decide +kernel
theorem d14_17 : decode method_3_code 17 = .ok (.aload_n 0, 1) := by decide +kernel
theorem d14_18 : decode method_3_code 18 = .ok (.invokevirtual 41, 3) := by decide +kernel
theorem d14_21 : decode method_3_code 21 = .ok (.checkcast 18, 3) := by decide +kernel
theorem d14_24 : decode method_3_code 24 = .ok (.astore 5, 2) := by decide +kernel
theorem d14_26 : decode method_3_code 26 = .ok (.aload 5, 2) := by decide +kernel
theorem d14_28 : decode method_3_code 28 = .ok (.ifnonnull 5, 3) := by decide +kernel
theorem d14_33 : decode method_3_code 33 = .ok (.aload 5, 2) := by decide +kernel
theorem d14_35 : decode method_3_code 35 = .ok (.invokevirtual 45, 3) := by decide +kernel
theorem d15_0 : decode jdk_33_method_27_code 0 = .ok (.aload_n 0, 1) := by decide +kernel
theorem d15_1 : decode jdk_33_method_27_code 1 = .ok (.getfield 205, 3) := by decide +kernel
theorem d15_4 : decode jdk_33_method_27_code 4 = .ok (.ireturn, 1) := by decide +kernel
theorem pn_14 : plainFor yN18 = true := by first | (apply plainFor_of_name; simp [plainName, overriddenIn]; done) | decide +kernel
theorem u_Integer_intValue_164 (l : Launch) (Z : State) (a0 : Array Value) (hw : HW Z a0) (F : List Ent) (eA0 : Addr) (hE_eA0 : XI Z eA0) (hF_eA0 : Fld Z Z.heap eA0 "java/lang/Integer" "value" "I" (.int (0 : Int32))) :
    Met l Z yN18 jdk_33_method_27_code 1 (some .int) { frames := 0, cells := 0, slots := 0, locals := 0 } #[(.ref eA0)] (F) (fun r M' => (r = (some (.int (0 : Int32))) ∧ M' = (F))) := by
  refine Met.of_go pn_14 (Ls := #[.val (.ref eA0)]) (fun m => rfl) ?_
  intro E C
  refine Go.aloadN C d15_0 rfl rfl rfl ?_
  refine Go.getF C (host := "") (Or.inl (wd hw 157 rfl)) Via.refl (fun _ r => (hF_eA0).ext r.1) d15_1 (q := 4) rfl ?_
  refine Go.retI C rfl d15_4 (by decide) (by decide) ?_
  exact ⟨rfl, rfl⟩
theorem d14_38 : decode method_3_code 38 = .ok (.istore 6, 2) := by decide +kernel
theorem d14_40 : decode method_3_code 40 = .ok (.iload 6, 2) := by decide +kernel
theorem d14_42 : decode method_3_code 42 = .ok (.ifCond .lt 16, 3) := by decide +kernel
theorem d14_45 : decode method_3_code 45 = .ok (.iload 6, 2) := by decide +kernel
theorem d14_47 : decode method_3_code 47 = .ok (.iconst 4, 1) := by decide +kernel
theorem d14_48 : decode method_3_code 48 = .ok (.if_icmp .gt 10, 3) := by decide +kernel
theorem d14_51 : decode method_3_code 51 = .ok (.aload_n 2, 1) := by decide +kernel
theorem d14_52 : decode method_3_code 52 = .ok (.iload 6, 2) := by decide +kernel
theorem d14_54 : decode method_3_code 54 = .ok (.baload, 1) := by decide +kernel
theorem d14_55 : decode method_3_code 55 = .ok (.ifCond .ne 5, 3) := by decide +kernel
theorem d14_60 : decode method_3_code 60 = .ok (.aload_n 2, 1) := by decide +kernel
theorem d14_61 : decode method_3_code 61 = .ok (.iload 6, 2) := by decide +kernel
theorem d14_63 : decode method_3_code 63 = .ok (.iconst 0, 1) := by decide +kernel
theorem d14_64 : decode method_3_code 64 = .ok (.bastore, 1) := by decide +kernel
theorem d14_65 : decode method_3_code 65 = .ok (.aload_n 1, 1) := by decide +kernel
theorem d14_66 : decode method_3_code 66 = .ok (.iload 6, 2) := by decide +kernel
theorem d14_68 : decode method_3_code 68 = .ok (.laload, 1) := by decide +kernel
theorem d14_69 : decode method_3_code 69 = .ok (.lload_n 3, 1) := by decide +kernel
theorem d14_70 : decode method_3_code 70 = .ok (.lcmp, 1) := by decide +kernel
theorem d14_71 : decode method_3_code 71 = .ok (.ifCond .ne 7, 3) := by decide +kernel
theorem d14_74 : decode method_3_code 74 = .ok (.iconst 1, 1) := by decide +kernel
theorem d14_75 : decode method_3_code 75 = .ok (.goto 4, 3) := by decide +kernel
theorem d14_79 : decode method_3_code 79 = .ok (.ireturn, 1) := by decide +kernel
theorem u_Integer_intValue_166 (l : Launch) (Z : State) (a0 : Array Value) (hw : HW Z a0) (F : List Ent) (eA0 : Addr) (hE_eA0 : XI Z eA0) (hF_eA0 : Fld Z Z.heap eA0 "java/lang/Integer" "value" "I" (.int (1 : Int32))) :
    Met l Z yN18 jdk_33_method_27_code 1 (some .int) { frames := 0, cells := 0, slots := 0, locals := 0 } #[(.ref eA0)] (F) (fun r M' => (r = (some (.int (1 : Int32))) ∧ M' = (F))) := by
  refine Met.of_go pn_14 (Ls := #[.val (.ref eA0)]) (fun m => rfl) ?_
  intro E C
  refine Go.aloadN C d15_0 rfl rfl rfl ?_
  refine Go.getF C (host := "") (Or.inl (wd hw 157 rfl)) Via.refl (fun _ r => (hF_eA0).ext r.1) d15_1 (q := 4) rfl ?_
  refine Go.retI C rfl d15_4 (by decide) (by decide) ?_
  exact ⟨rfl, rfl⟩
theorem u_Integer_intValue_168 (l : Launch) (Z : State) (a0 : Array Value) (hw : HW Z a0) (F : List Ent) (eA0 : Addr) (hE_eA0 : XI Z eA0) (hF_eA0 : Fld Z Z.heap eA0 "java/lang/Integer" "value" "I" (.int (2 : Int32))) :
    Met l Z yN18 jdk_33_method_27_code 1 (some .int) { frames := 0, cells := 0, slots := 0, locals := 0 } #[(.ref eA0)] (F) (fun r M' => (r = (some (.int (2 : Int32))) ∧ M' = (F))) := by
  refine Met.of_go pn_14 (Ls := #[.val (.ref eA0)]) (fun m => rfl) ?_
  intro E C
  refine Go.aloadN C d15_0 rfl rfl rfl ?_
  refine Go.getF C (host := "") (Or.inl (wd hw 157 rfl)) Via.refl (fun _ r => (hF_eA0).ext r.1) d15_1 (q := 4) rfl ?_
  refine Go.retI C rfl d15_4 (by decide) (by decide) ?_
  exact ⟨rfl, rfl⟩
theorem u_Integer_intValue_170 (l : Launch) (Z : State) (a0 : Array Value) (hw : HW Z a0) (F : List Ent) (eA0 : Addr) (hE_eA0 : XI Z eA0) (hF_eA0 : Fld Z Z.heap eA0 "java/lang/Integer" "value" "I" (.int (3 : Int32))) :
    Met l Z yN18 jdk_33_method_27_code 1 (some .int) { frames := 0, cells := 0, slots := 0, locals := 0 } #[(.ref eA0)] (F) (fun r M' => (r = (some (.int (3 : Int32))) ∧ M' = (F))) := by
  refine Met.of_go pn_14 (Ls := #[.val (.ref eA0)]) (fun m => rfl) ?_
  intro E C
  refine Go.aloadN C d15_0 rfl rfl rfl ?_
  refine Go.getF C (host := "") (Or.inl (wd hw 157 rfl)) Via.refl (fun _ r => (hF_eA0).ext r.1) d15_1 (q := 4) rfl ?_
  refine Go.retI C rfl d15_4 (by decide) (by decide) ?_
  exact ⟨rfl, rfl⟩
theorem u_Integer_intValue_172 (l : Launch) (Z : State) (a0 : Array Value) (hw : HW Z a0) (F : List Ent) (eA0 : Addr) (hE_eA0 : XI Z eA0) (hF_eA0 : Fld Z Z.heap eA0 "java/lang/Integer" "value" "I" (.int (4 : Int32))) :
    Met l Z yN18 jdk_33_method_27_code 1 (some .int) { frames := 0, cells := 0, slots := 0, locals := 0 } #[(.ref eA0)] (F) (fun r M' => (r = (some (.int (4 : Int32))) ∧ M' = (F))) := by
  refine Met.of_go pn_14 (Ls := #[.val (.ref eA0)]) (fun m => rfl) ?_
  intro E C
  refine Go.aloadN C d15_0 rfl rfl rfl ?_
  refine Go.getF C (host := "") (Or.inl (wd hw 157 rfl)) Via.refl (fun _ r => (hF_eA0).ext r.1) d15_1 (q := 4) rfl ?_
  refine Go.retI C rfl d15_4 (by decide) (by decide) ?_
  exact ⟨rfl, rfl⟩
theorem pn_15 : plainFor yN19 = true := by first | (apply plainFor_of_name; simp [plainName, overriddenIn]; done) | decide +kernel
theorem m_stepA (l : Launch) (Z : State) (a0 : Array Value) (hw : HW Z a0) (q pk0 pp0 : Addr) (ka kb kc kd ke : Int64) (b0 b1 b2 b3 b4 : Addr) (f : Nat → Int32) {t : Nat} {L : List Nat} {Mq0 : List Ent} (hE0 : Exa Z Z.heap b0 "java/lang/Integer") (hE1 : Exa Z Z.heap b1 "java/lang/Integer") (hE2 : Exa Z Z.heap b2 "java/lang/Integer") (hE3 : Exa Z Z.heap b3 "java/lang/Integer") (hE4 : Exa Z Z.heap b4 "java/lang/Integer") (hF0 : Fld Z Z.heap b0 "java/lang/Integer" "value" "I" (.int (0 : Int32))) (hF1 : Fld Z Z.heap b1 "java/lang/Integer" "value" "I" (.int (1 : Int32))) (hF2 : Fld Z Z.heap b2 "java/lang/Integer" "value" "I" (.int (2 : Int32))) (hF3 : Fld Z Z.heap b3 "java/lang/Integer" "value" "I" (.int (3 : Int32))) (hF4 : Fld Z Z.heap b4 "java/lang/Integer" "value" "I" (.int (4 : Int32))) (ht : t ∈ [1, 2, 3, 4]) (hne : L ≠ []) (hI : own_I f L) (hQ0 : QS (own_F ka kb kc kd ke) (own_F b0 b1 b2 b3 b4) q t L Mq0) :
    Met l Z yN19 method_3_code 7 (some .boolean) { frames := 4, cells := 0, slots := 0, locals := 59 } #[(.ref q), (.ref pk0), (.ref pp0)] (nA pk0 ka kb kc kd ke :: nB pp0 (f 0) (f 1) (f 2) (f 3) (f 4) :: Mq0) (fun r M' => ∃ i M2, i ∈ L ∧ QS (own_F ka kb kc kd ke) (own_F b0 b1 b2 b3 b4) q 5 (L.erase i) M2 ∧ r = some (.int 1) ∧ M' = (nA pk0 ka kb kc kd ke :: nB pp0 (own_w f i 0 0) (own_w f i 0 1) (own_w f i 0 2) (own_w f i 0 3) (own_w f i 0 4) :: M2)) := by
  refine Met.of_go pn_15 (Ls := #[.val (.ref q), .val (.ref pk0), .val (.ref pp0), .unset, .unset, .unset, .unset]) (fun m => rfl) ?_
  intro E C
  refine Go.aloadN C d14_0 rfl rfl rfl ?_
  refine Go.perm (own_pc _ _ _) ?_
  refine Go.callV C (y := yN16) (z := yN16) (a := q) (as := []) (rest := []) (wd hw 95 rfl) (wd hw 96 rfl) (nf_sel (z := yN16) (wd hw 98 rfl)) (wd hw 98 rfl) (wd hw 97 rfl) (wd hw 99 rfl) (wd hw 9 rfl) (fun _ r => QS.exa hQ0 r) (own_fk l Z a0 hw _ (own_F ka kb kc kd ke) (own_F b0 b1 b2 b3 b4) (own_hE hE0 hE1 hE2 hE3 hE4) q 0 (own_t8 (by decide) ht) hQ0) rfl d14_1 (q := 4) rfl (by decide) rfl (na := 0) (by decide +kernel) rfl (by decide) (W := 0) rfl (by decide) (by decide) (by decide) (k' := 0) (n' := 0) rfl rfl ?_
  rintro _ _ ⟨rfl, rfl⟩
  refine Go.perm (own_pd _ _ _) ?_
  show Go _ _ _ _ _ _ _ _ _ _ [(.long (own_kmin (own_F ka kb kc kd ke) L))]
  refine Go.lstoreN C d14_4 rfl (Ls' := #[.val (.ref q), .val (.ref pk0), .val (.ref pp0), .val (.long (own_kmin (own_F ka kb kc kd ke) L)), .second, .unset, .unset]) rfl ?_
  refine Go.lloadN C d14_5 rfl rfl ?_
  refine Go.aloadN C d14_6 rfl rfl rfl ?_
  refine Go.aloadN C d14_7 rfl rfl rfl ?_
  refine Go.callS C (y := yN17) (as := [(.ref pk0), (.ref pp0)]) (rest := [(.long (own_kmin (own_F ka kb kc kd ke) L))]) (wd hw 109 rfl) (wd hw 110 rfl) (wd hw 111 rfl) (wd hw 112 rfl) (m_minPresent l Z a0 hw _ pk0 pp0 ka kb kc kd ke (f 0) (f 1) (f 2) (f 3) (f 4)) rfl d14_8 (q := 11) rfl (by decide) rfl (na := 2) (by decide +kernel) rfl (by decide) (W := 2) rfl (by decide) (by decide) (by decide) (k' := 0) (n' := 0) rfl rfl ?_
  rintro _ _ ⟨rfl, rfl⟩
  show Go _ _ _ _ _ _ _ _ _ _ [(.long (own_st (f 4) (own_st (f 3) (own_st (f 2) (own_st (f 1) (own_st (f 0) (9223372036854775807 : Int64) ka) kb) kc) kd) ke)), (.long (own_kmin (own_F ka kb kc kd ke) L))]
  refine Go.lcmp C d14_11 rfl ?_
  refine Go.ifYes C d14_12 (by decide) (q := 17) rfl (XT.ll_eq_t (own_mpk hI)) ?_
  refine Go.aloadN C d14_17 rfl rfl rfl ?_
  refine Go.perm (own_pc _ _ _) ?_
  refine Go.callV C (y := yN15) (z := yN15) (a := q) (as := []) (rest := []) (wd hw 135 rfl) (wd hw 136 rfl) (nf_sel (z := yN15) (wd hw 138 rfl)) (wd hw 138 rfl) (wd hw 137 rfl) (wd hw 139 rfl) (wd hw 9 rfl) (fun _ r => QS.exa hQ0 r) (own_pollA l Z a0 hw _ (own_F ka kb kc kd ke) (own_F b0 b1 b2 b3 b4) (own_hE hE0 hE1 hE2 hE3 hE4) q 0 ht hne hQ0) rfl d14_18 (q := 21) rfl (by decide) rfl (na := 0) (by decide +kernel) rfl (by decide) (W := 0) rfl (by decide) (by decide) (by decide) (k' := 0) (n' := 0) rfl rfl ?_
  rintro _ _ ⟨ii, L2, M2, rfl, hQ2, rfl, hpp, hkm⟩
  obtain ⟨hii, hpp⟩ := List.cons_perm_iff_perm_erase.mp hpp
  have hQ2p := hQ2.perm hpp
  rcases own_five hI hii with rfl | rfl | rfl | rfl | rfl
  · refine Go.perm (own_pd _ _ _) ?_
    show Go _ _ _ _ _ _ _ _ _ _ [(.ref b0)]
    refine Go.castY C (wd hw 150 rfl) (fun _ r => Ins.self ((hE0).ext r.1)) d14_21 (q := 24) rfl ?_
    refine Go.astore C d14_24 rfl rfl (Ls' := #[.val (.ref q), .val (.ref pk0), .val (.ref pp0), .val (.long (own_kmin (own_F ka kb kc kd ke) L)), .second, .val (.ref b0), .unset]) rfl ?_
    refine Go.aload C d14_26 rfl rfl rfl ?_
    refine Go.nonnullYes C d14_28 (by decide) (q := 33) rfl rfl (by simp) ?_
    refine Go.aload C d14_33 rfl rfl rfl ?_
    refine Go.callV C (y := yN18) (z := yN18) (a := b0) (as := []) (rest := []) (wd hw 152 rfl) (wd hw 153 rfl) (nf_sel (z := yN18) (wd hw 155 rfl)) (wd hw 155 rfl) (wd hw 154 rfl) (wd hw 156 rfl) (wd hw 49 rfl) (fun _ r => (hE0).ext r.1) (u_Integer_intValue_164 l Z a0 hw _ b0 hE0 hF0) rfl d14_35 (q := 38) rfl (by decide) rfl (na := 0) (by decide +kernel) rfl (by decide) (W := 0) rfl (by decide) (by decide) (by decide) (k' := 0) (n' := 0) rfl rfl ?_
    rintro _ _ ⟨rfl, rfl⟩
    show Go _ _ _ _ _ _ _ _ _ _ [(.int (0 : Int32))]
    refine Go.istore C d14_38 rfl (Ls' := #[.val (.ref q), .val (.ref pk0), .val (.ref pp0), .val (.long (own_kmin (own_F ka kb kc kd ke) L)), .second, .val (.ref b0), .val (.int (0 : Int32))]) rfl ?_
    refine Go.iload C d14_40 rfl rfl ?_
    refine Go.ifNo C d14_42 (q := 45) rfl (XT.i0_lt_f (by decide)) ?_
    refine Go.iload C d14_45 rfl rfl ?_
    refine Go.iconst C d14_47 rfl (v := (4 : Int32)) rfl ?_
    refine Go.icmpNo C d14_48 (q := 51) rfl (XT.ii_gt_f (by decide)) ?_
    refine Go.aloadN C d14_51 rfl rfl rfl ?_
    refine Go.iload C d14_52 rfl rfl ?_
    refine Go.zaload C (fun _ r => r.arr 1 rfl) (by decide) (v := (.int (f 0))) rfl d14_54 (q := 55) rfl ?_
    refine Go.ifYes C d14_55 (by decide) (q := 60) rfl (XT.i0_ne_t (own_fl hI hii)) ?_
    refine Go.aloadN C d14_60 rfl rfl rfl ?_
    refine Go.iload C d14_61 rfl rfl ?_
    refine Go.iconst C d14_63 rfl (v := (0 : Int32)) rfl ?_
    refine Go.zastore C (i := 1) rfl (by decide) (show (0 : Int32).toNatClampNeg < 5 from by decide) (w' := (.int (0 : Int32))) rfl d14_64 (q := 65) rfl (M' := (nA pk0 ka kb kc kd ke :: nB pp0 0 (f 1) (f 2) (f 3) (f 4) :: M2)) rfl ?_
    refine Go.aloadN C d14_65 rfl rfl rfl ?_
    refine Go.iload C d14_66 rfl rfl ?_
    refine Go.laload C (fun _ r => r.arr 0 rfl) (by decide) (v := (.long ka)) rfl d14_68 (q := 69) rfl ?_
    refine Go.lloadN C d14_69 rfl rfl ?_
    refine Go.lcmp C d14_70 rfl ?_
    refine Go.ifNo C d14_71 (q := 74) rfl (XT.ll_ne_f (show _ = _ from Eq.symm hkm)) ?_
    refine Go.iconst C d14_74 rfl (v := (1 : Int32)) rfl ?_
    refine Go.goto C d14_75 (by decide) (q := 79) rfl ?_
    refine Go.retZ C rfl (by decide) d14_79 (by decide) (by decide) ?_
    exact ⟨0, _, hii, hQ2p, rfl, rfl⟩
  · refine Go.perm (own_pd _ _ _) ?_
    show Go _ _ _ _ _ _ _ _ _ _ [(.ref b1)]
    refine Go.castY C (wd hw 150 rfl) (fun _ r => Ins.self ((hE1).ext r.1)) d14_21 (q := 24) rfl ?_
    refine Go.astore C d14_24 rfl rfl (Ls' := #[.val (.ref q), .val (.ref pk0), .val (.ref pp0), .val (.long (own_kmin (own_F ka kb kc kd ke) L)), .second, .val (.ref b1), .unset]) rfl ?_
    refine Go.aload C d14_26 rfl rfl rfl ?_
    refine Go.nonnullYes C d14_28 (by decide) (q := 33) rfl rfl (by simp) ?_
    refine Go.aload C d14_33 rfl rfl rfl ?_
    refine Go.callV C (y := yN18) (z := yN18) (a := b1) (as := []) (rest := []) (wd hw 152 rfl) (wd hw 153 rfl) (nf_sel (z := yN18) (wd hw 155 rfl)) (wd hw 155 rfl) (wd hw 154 rfl) (wd hw 156 rfl) (wd hw 49 rfl) (fun _ r => (hE1).ext r.1) (u_Integer_intValue_166 l Z a0 hw _ b1 hE1 hF1) rfl d14_35 (q := 38) rfl (by decide) rfl (na := 0) (by decide +kernel) rfl (by decide) (W := 0) rfl (by decide) (by decide) (by decide) (k' := 0) (n' := 0) rfl rfl ?_
    rintro _ _ ⟨rfl, rfl⟩
    show Go _ _ _ _ _ _ _ _ _ _ [(.int (1 : Int32))]
    refine Go.istore C d14_38 rfl (Ls' := #[.val (.ref q), .val (.ref pk0), .val (.ref pp0), .val (.long (own_kmin (own_F ka kb kc kd ke) L)), .second, .val (.ref b1), .val (.int (1 : Int32))]) rfl ?_
    refine Go.iload C d14_40 rfl rfl ?_
    refine Go.ifNo C d14_42 (q := 45) rfl (XT.i0_lt_f (by decide)) ?_
    refine Go.iload C d14_45 rfl rfl ?_
    refine Go.iconst C d14_47 rfl (v := (4 : Int32)) rfl ?_
    refine Go.icmpNo C d14_48 (q := 51) rfl (XT.ii_gt_f (by decide)) ?_
    refine Go.aloadN C d14_51 rfl rfl rfl ?_
    refine Go.iload C d14_52 rfl rfl ?_
    refine Go.zaload C (fun _ r => r.arr 1 rfl) (by decide) (v := (.int (f 1))) rfl d14_54 (q := 55) rfl ?_
    refine Go.ifYes C d14_55 (by decide) (q := 60) rfl (XT.i0_ne_t (own_fl hI hii)) ?_
    refine Go.aloadN C d14_60 rfl rfl rfl ?_
    refine Go.iload C d14_61 rfl rfl ?_
    refine Go.iconst C d14_63 rfl (v := (0 : Int32)) rfl ?_
    refine Go.zastore C (i := 1) rfl (by decide) (show (1 : Int32).toNatClampNeg < 5 from by decide) (w' := (.int (0 : Int32))) rfl d14_64 (q := 65) rfl (M' := (nA pk0 ka kb kc kd ke :: nB pp0 (f 0) 0 (f 2) (f 3) (f 4) :: M2)) rfl ?_
    refine Go.aloadN C d14_65 rfl rfl rfl ?_
    refine Go.iload C d14_66 rfl rfl ?_
    refine Go.laload C (fun _ r => r.arr 0 rfl) (by decide) (v := (.long kb)) rfl d14_68 (q := 69) rfl ?_
    refine Go.lloadN C d14_69 rfl rfl ?_
    refine Go.lcmp C d14_70 rfl ?_
    refine Go.ifNo C d14_71 (q := 74) rfl (XT.ll_ne_f (show _ = _ from Eq.symm hkm)) ?_
    refine Go.iconst C d14_74 rfl (v := (1 : Int32)) rfl ?_
    refine Go.goto C d14_75 (by decide) (q := 79) rfl ?_
    refine Go.retZ C rfl (by decide) d14_79 (by decide) (by decide) ?_
    exact ⟨1, _, hii, hQ2p, rfl, rfl⟩
  · refine Go.perm (own_pd _ _ _) ?_
    show Go _ _ _ _ _ _ _ _ _ _ [(.ref b2)]
    refine Go.castY C (wd hw 150 rfl) (fun _ r => Ins.self ((hE2).ext r.1)) d14_21 (q := 24) rfl ?_
    refine Go.astore C d14_24 rfl rfl (Ls' := #[.val (.ref q), .val (.ref pk0), .val (.ref pp0), .val (.long (own_kmin (own_F ka kb kc kd ke) L)), .second, .val (.ref b2), .unset]) rfl ?_
    refine Go.aload C d14_26 rfl rfl rfl ?_
    refine Go.nonnullYes C d14_28 (by decide) (q := 33) rfl rfl (by simp) ?_
    refine Go.aload C d14_33 rfl rfl rfl ?_
    refine Go.callV C (y := yN18) (z := yN18) (a := b2) (as := []) (rest := []) (wd hw 152 rfl) (wd hw 153 rfl) (nf_sel (z := yN18) (wd hw 155 rfl)) (wd hw 155 rfl) (wd hw 154 rfl) (wd hw 156 rfl) (wd hw 49 rfl) (fun _ r => (hE2).ext r.1) (u_Integer_intValue_168 l Z a0 hw _ b2 hE2 hF2) rfl d14_35 (q := 38) rfl (by decide) rfl (na := 0) (by decide +kernel) rfl (by decide) (W := 0) rfl (by decide) (by decide) (by decide) (k' := 0) (n' := 0) rfl rfl ?_
    rintro _ _ ⟨rfl, rfl⟩
    show Go _ _ _ _ _ _ _ _ _ _ [(.int (2 : Int32))]
    refine Go.istore C d14_38 rfl (Ls' := #[.val (.ref q), .val (.ref pk0), .val (.ref pp0), .val (.long (own_kmin (own_F ka kb kc kd ke) L)), .second, .val (.ref b2), .val (.int (2 : Int32))]) rfl ?_
    refine Go.iload C d14_40 rfl rfl ?_
    refine Go.ifNo C d14_42 (q := 45) rfl (XT.i0_lt_f (by decide)) ?_
    refine Go.iload C d14_45 rfl rfl ?_
    refine Go.iconst C d14_47 rfl (v := (4 : Int32)) rfl ?_
    refine Go.icmpNo C d14_48 (q := 51) rfl (XT.ii_gt_f (by decide)) ?_
    refine Go.aloadN C d14_51 rfl rfl rfl ?_
    refine Go.iload C d14_52 rfl rfl ?_
    refine Go.zaload C (fun _ r => r.arr 1 rfl) (by decide) (v := (.int (f 2))) rfl d14_54 (q := 55) rfl ?_
    refine Go.ifYes C d14_55 (by decide) (q := 60) rfl (XT.i0_ne_t (own_fl hI hii)) ?_
    refine Go.aloadN C d14_60 rfl rfl rfl ?_
    refine Go.iload C d14_61 rfl rfl ?_
    refine Go.iconst C d14_63 rfl (v := (0 : Int32)) rfl ?_
    refine Go.zastore C (i := 1) rfl (by decide) (show (2 : Int32).toNatClampNeg < 5 from by decide) (w' := (.int (0 : Int32))) rfl d14_64 (q := 65) rfl (M' := (nA pk0 ka kb kc kd ke :: nB pp0 (f 0) (f 1) 0 (f 3) (f 4) :: M2)) rfl ?_
    refine Go.aloadN C d14_65 rfl rfl rfl ?_
    refine Go.iload C d14_66 rfl rfl ?_
    refine Go.laload C (fun _ r => r.arr 0 rfl) (by decide) (v := (.long kc)) rfl d14_68 (q := 69) rfl ?_
    refine Go.lloadN C d14_69 rfl rfl ?_
    refine Go.lcmp C d14_70 rfl ?_
    refine Go.ifNo C d14_71 (q := 74) rfl (XT.ll_ne_f (show _ = _ from Eq.symm hkm)) ?_
    refine Go.iconst C d14_74 rfl (v := (1 : Int32)) rfl ?_
    refine Go.goto C d14_75 (by decide) (q := 79) rfl ?_
    refine Go.retZ C rfl (by decide) d14_79 (by decide) (by decide) ?_
    exact ⟨2, _, hii, hQ2p, rfl, rfl⟩
  · refine Go.perm (own_pd _ _ _) ?_
    show Go _ _ _ _ _ _ _ _ _ _ [(.ref b3)]
    refine Go.castY C (wd hw 150 rfl) (fun _ r => Ins.self ((hE3).ext r.1)) d14_21 (q := 24) rfl ?_
    refine Go.astore C d14_24 rfl rfl (Ls' := #[.val (.ref q), .val (.ref pk0), .val (.ref pp0), .val (.long (own_kmin (own_F ka kb kc kd ke) L)), .second, .val (.ref b3), .unset]) rfl ?_
    refine Go.aload C d14_26 rfl rfl rfl ?_
    refine Go.nonnullYes C d14_28 (by decide) (q := 33) rfl rfl (by simp) ?_
    refine Go.aload C d14_33 rfl rfl rfl ?_
    refine Go.callV C (y := yN18) (z := yN18) (a := b3) (as := []) (rest := []) (wd hw 152 rfl) (wd hw 153 rfl) (nf_sel (z := yN18) (wd hw 155 rfl)) (wd hw 155 rfl) (wd hw 154 rfl) (wd hw 156 rfl) (wd hw 49 rfl) (fun _ r => (hE3).ext r.1) (u_Integer_intValue_170 l Z a0 hw _ b3 hE3 hF3) rfl d14_35 (q := 38) rfl (by decide) rfl (na := 0) (by decide +kernel) rfl (by decide) (W := 0) rfl (by decide) (by decide) (by decide) (k' := 0) (n' := 0) rfl rfl ?_
    rintro _ _ ⟨rfl, rfl⟩
    show Go _ _ _ _ _ _ _ _ _ _ [(.int (3 : Int32))]
    refine Go.istore C d14_38 rfl (Ls' := #[.val (.ref q), .val (.ref pk0), .val (.ref pp0), .val (.long (own_kmin (own_F ka kb kc kd ke) L)), .second, .val (.ref b3), .val (.int (3 : Int32))]) rfl ?_
    refine Go.iload C d14_40 rfl rfl ?_
    refine Go.ifNo C d14_42 (q := 45) rfl (XT.i0_lt_f (by decide)) ?_
    refine Go.iload C d14_45 rfl rfl ?_
    refine Go.iconst C d14_47 rfl (v := (4 : Int32)) rfl ?_
    refine Go.icmpNo C d14_48 (q := 51) rfl (XT.ii_gt_f (by decide)) ?_
    refine Go.aloadN C d14_51 rfl rfl rfl ?_
    refine Go.iload C d14_52 rfl rfl ?_
    refine Go.zaload C (fun _ r => r.arr 1 rfl) (by decide) (v := (.int (f 3))) rfl d14_54 (q := 55) rfl ?_
    refine Go.ifYes C d14_55 (by decide) (q := 60) rfl (XT.i0_ne_t (own_fl hI hii)) ?_
    refine Go.aloadN C d14_60 rfl rfl rfl ?_
    refine Go.iload C d14_61 rfl rfl ?_
    refine Go.iconst C d14_63 rfl (v := (0 : Int32)) rfl ?_
    refine Go.zastore C (i := 1) rfl (by decide) (show (3 : Int32).toNatClampNeg < 5 from by decide) (w' := (.int (0 : Int32))) rfl d14_64 (q := 65) rfl (M' := (nA pk0 ka kb kc kd ke :: nB pp0 (f 0) (f 1) (f 2) 0 (f 4) :: M2)) rfl ?_
    refine Go.aloadN C d14_65 rfl rfl rfl ?_
    refine Go.iload C d14_66 rfl rfl ?_
    refine Go.laload C (fun _ r => r.arr 0 rfl) (by decide) (v := (.long kd)) rfl d14_68 (q := 69) rfl ?_
    refine Go.lloadN C d14_69 rfl rfl ?_
    refine Go.lcmp C d14_70 rfl ?_
    refine Go.ifNo C d14_71 (q := 74) rfl (XT.ll_ne_f (show _ = _ from Eq.symm hkm)) ?_
    refine Go.iconst C d14_74 rfl (v := (1 : Int32)) rfl ?_
    refine Go.goto C d14_75 (by decide) (q := 79) rfl ?_
    refine Go.retZ C rfl (by decide) d14_79 (by decide) (by decide) ?_
    exact ⟨3, _, hii, hQ2p, rfl, rfl⟩
  · refine Go.perm (own_pd _ _ _) ?_
    show Go _ _ _ _ _ _ _ _ _ _ [(.ref b4)]
    refine Go.castY C (wd hw 150 rfl) (fun _ r => Ins.self ((hE4).ext r.1)) d14_21 (q := 24) rfl ?_
    refine Go.astore C d14_24 rfl rfl (Ls' := #[.val (.ref q), .val (.ref pk0), .val (.ref pp0), .val (.long (own_kmin (own_F ka kb kc kd ke) L)), .second, .val (.ref b4), .unset]) rfl ?_
    refine Go.aload C d14_26 rfl rfl rfl ?_
    refine Go.nonnullYes C d14_28 (by decide) (q := 33) rfl rfl (by simp) ?_
    refine Go.aload C d14_33 rfl rfl rfl ?_
    refine Go.callV C (y := yN18) (z := yN18) (a := b4) (as := []) (rest := []) (wd hw 152 rfl) (wd hw 153 rfl) (nf_sel (z := yN18) (wd hw 155 rfl)) (wd hw 155 rfl) (wd hw 154 rfl) (wd hw 156 rfl) (wd hw 49 rfl) (fun _ r => (hE4).ext r.1) (u_Integer_intValue_172 l Z a0 hw _ b4 hE4 hF4) rfl d14_35 (q := 38) rfl (by decide) rfl (na := 0) (by decide +kernel) rfl (by decide) (W := 0) rfl (by decide) (by decide) (by decide) (k' := 0) (n' := 0) rfl rfl ?_
    rintro _ _ ⟨rfl, rfl⟩
    show Go _ _ _ _ _ _ _ _ _ _ [(.int (4 : Int32))]
    refine Go.istore C d14_38 rfl (Ls' := #[.val (.ref q), .val (.ref pk0), .val (.ref pp0), .val (.long (own_kmin (own_F ka kb kc kd ke) L)), .second, .val (.ref b4), .val (.int (4 : Int32))]) rfl ?_
    refine Go.iload C d14_40 rfl rfl ?_
    refine Go.ifNo C d14_42 (q := 45) rfl (XT.i0_lt_f (by decide)) ?_
    refine Go.iload C d14_45 rfl rfl ?_
    refine Go.iconst C d14_47 rfl (v := (4 : Int32)) rfl ?_
    refine Go.icmpNo C d14_48 (q := 51) rfl (XT.ii_gt_f (by decide)) ?_
    refine Go.aloadN C d14_51 rfl rfl rfl ?_
    refine Go.iload C d14_52 rfl rfl ?_
    refine Go.zaload C (fun _ r => r.arr 1 rfl) (by decide) (v := (.int (f 4))) rfl d14_54 (q := 55) rfl ?_
    refine Go.ifYes C d14_55 (by decide) (q := 60) rfl (XT.i0_ne_t (own_fl hI hii)) ?_
    refine Go.aloadN C d14_60 rfl rfl rfl ?_
    refine Go.iload C d14_61 rfl rfl ?_
    refine Go.iconst C d14_63 rfl (v := (0 : Int32)) rfl ?_
    refine Go.zastore C (i := 1) rfl (by decide) (show (4 : Int32).toNatClampNeg < 5 from by decide) (w' := (.int (0 : Int32))) rfl d14_64 (q := 65) rfl (M' := (nA pk0 ka kb kc kd ke :: nB pp0 (f 0) (f 1) (f 2) (f 3) 0 :: M2)) rfl ?_
    refine Go.aloadN C d14_65 rfl rfl rfl ?_
    refine Go.iload C d14_66 rfl rfl ?_
    refine Go.laload C (fun _ r => r.arr 0 rfl) (by decide) (v := (.long ke)) rfl d14_68 (q := 69) rfl ?_
    refine Go.lloadN C d14_69 rfl rfl ?_
    refine Go.lcmp C d14_70 rfl ?_
    refine Go.ifNo C d14_71 (q := 74) rfl (XT.ll_ne_f (show _ = _ from Eq.symm hkm)) ?_
    refine Go.iconst C d14_74 rfl (v := (1 : Int32)) rfl ?_
    refine Go.goto C d14_75 (by decide) (q := 79) rfl ?_
    refine Go.retZ C rfl (by decide) d14_79 (by decide) (by decide) ?_
    exact ⟨4, _, hii, hQ2p, rfl, rfl⟩
theorem m_stepB (l : Launch) (Z : State) (a0 : Array Value) (hw : HW Z a0) (q pk0 pp0 : Addr) (ka kb kc kd ke : Int64) (b0 b1 b2 b3 b4 : Addr) (f : Nat → Int32) {t : Nat} {L : List Nat} {Mq0 : List Ent} (hE0 : Exa Z Z.heap b0 "java/lang/Integer") (hE1 : Exa Z Z.heap b1 "java/lang/Integer") (hE2 : Exa Z Z.heap b2 "java/lang/Integer") (hE3 : Exa Z Z.heap b3 "java/lang/Integer") (hE4 : Exa Z Z.heap b4 "java/lang/Integer") (hF0 : Fld Z Z.heap b0 "java/lang/Integer" "value" "I" (.int (0 : Int32))) (hF1 : Fld Z Z.heap b1 "java/lang/Integer" "value" "I" (.int (1 : Int32))) (hF2 : Fld Z Z.heap b2 "java/lang/Integer" "value" "I" (.int (2 : Int32))) (hF3 : Fld Z Z.heap b3 "java/lang/Integer" "value" "I" (.int (3 : Int32))) (hF4 : Fld Z Z.heap b4 "java/lang/Integer" "value" "I" (.int (4 : Int32))) (ht : t ∈ [5]) (hne : L ≠ []) (hI : own_I f L) (hQ0 : QS (own_F ka kb kc kd ke) (own_F b0 b1 b2 b3 b4) q t L Mq0) :
    Met l Z yN19 method_3_code 7 (some .boolean) { frames := 4, cells := 0, slots := 0, locals := 59 } #[(.ref q), (.ref pk0), (.ref pp0)] (nA pk0 ka kb kc kd ke :: nB pp0 (f 0) (f 1) (f 2) (f 3) (f 4) :: Mq0) (fun r M' => ∃ i M2, i ∈ L ∧ QS (own_F ka kb kc kd ke) (own_F b0 b1 b2 b3 b4) q 7 (L.erase i) M2 ∧ r = some (.int 1) ∧ M' = (nA pk0 ka kb kc kd ke :: nB pp0 (own_w f i 0 0) (own_w f i 0 1) (own_w f i 0 2) (own_w f i 0 3) (own_w f i 0 4) :: M2)) := by
  refine Met.of_go pn_15 (Ls := #[.val (.ref q), .val (.ref pk0), .val (.ref pp0), .unset, .unset, .unset, .unset]) (fun m => rfl) ?_
  intro E C
  refine Go.aloadN C d14_0 rfl rfl rfl ?_
  refine Go.perm (own_pc _ _ _) ?_
  refine Go.callV C (y := yN16) (z := yN16) (a := q) (as := []) (rest := []) (wd hw 95 rfl) (wd hw 96 rfl) (nf_sel (z := yN16) (wd hw 98 rfl)) (wd hw 98 rfl) (wd hw 97 rfl) (wd hw 99 rfl) (wd hw 9 rfl) (fun _ r => QS.exa hQ0 r) (own_fk l Z a0 hw _ (own_F ka kb kc kd ke) (own_F b0 b1 b2 b3 b4) (own_hE hE0 hE1 hE2 hE3 hE4) q 0 (own_t8 (by decide) ht) hQ0) rfl d14_1 (q := 4) rfl (by decide) rfl (na := 0) (by decide +kernel) rfl (by decide) (W := 0) rfl (by decide) (by decide) (by decide) (k' := 0) (n' := 0) rfl rfl ?_
  rintro _ _ ⟨rfl, rfl⟩
  refine Go.perm (own_pd _ _ _) ?_
  show Go _ _ _ _ _ _ _ _ _ _ [(.long (own_kmin (own_F ka kb kc kd ke) L))]
  refine Go.lstoreN C d14_4 rfl (Ls' := #[.val (.ref q), .val (.ref pk0), .val (.ref pp0), .val (.long (own_kmin (own_F ka kb kc kd ke) L)), .second, .unset, .unset]) rfl ?_
  refine Go.lloadN C d14_5 rfl rfl ?_
  refine Go.aloadN C d14_6 rfl rfl rfl ?_
  refine Go.aloadN C d14_7 rfl rfl rfl ?_
  refine Go.callS C (y := yN17) (as := [(.ref pk0), (.ref pp0)]) (rest := [(.long (own_kmin (own_F ka kb kc kd ke) L))]) (wd hw 109 rfl) (wd hw 110 rfl) (wd hw 111 rfl) (wd hw 112 rfl) (m_minPresent l Z a0 hw _ pk0 pp0 ka kb kc kd ke (f 0) (f 1) (f 2) (f 3) (f 4)) rfl d14_8 (q := 11) rfl (by decide) rfl (na := 2) (by decide +kernel) rfl (by decide) (W := 2) rfl (by decide) (by decide) (by decide) (k' := 0) (n' := 0) rfl rfl ?_
  rintro _ _ ⟨rfl, rfl⟩
  show Go _ _ _ _ _ _ _ _ _ _ [(.long (own_st (f 4) (own_st (f 3) (own_st (f 2) (own_st (f 1) (own_st (f 0) (9223372036854775807 : Int64) ka) kb) kc) kd) ke)), (.long (own_kmin (own_F ka kb kc kd ke) L))]
  refine Go.lcmp C d14_11 rfl ?_
  refine Go.ifYes C d14_12 (by decide) (q := 17) rfl (XT.ll_eq_t (own_mpk hI)) ?_
  refine Go.aloadN C d14_17 rfl rfl rfl ?_
  refine Go.perm (own_pc _ _ _) ?_
  refine Go.callV C (y := yN15) (z := yN15) (a := q) (as := []) (rest := []) (wd hw 135 rfl) (wd hw 136 rfl) (nf_sel (z := yN15) (wd hw 138 rfl)) (wd hw 138 rfl) (wd hw 137 rfl) (wd hw 139 rfl) (wd hw 9 rfl) (fun _ r => QS.exa hQ0 r) (own_pollB l Z a0 hw _ (own_F ka kb kc kd ke) (own_F b0 b1 b2 b3 b4) (own_hE hE0 hE1 hE2 hE3 hE4) q 0 ht hne hQ0) rfl d14_18 (q := 21) rfl (by decide) rfl (na := 0) (by decide +kernel) rfl (by decide) (W := 0) rfl (by decide) (by decide) (by decide) (k' := 0) (n' := 0) rfl rfl ?_
  rintro _ _ ⟨ii, L2, M2, rfl, hQ2, rfl, hpp, hkm⟩
  obtain ⟨hii, hpp⟩ := List.cons_perm_iff_perm_erase.mp hpp
  have hQ2p := hQ2.perm hpp
  rcases own_five hI hii with rfl | rfl | rfl | rfl | rfl
  · refine Go.perm (own_pd _ _ _) ?_
    show Go _ _ _ _ _ _ _ _ _ _ [(.ref b0)]
    refine Go.castY C (wd hw 150 rfl) (fun _ r => Ins.self ((hE0).ext r.1)) d14_21 (q := 24) rfl ?_
    refine Go.astore C d14_24 rfl rfl (Ls' := #[.val (.ref q), .val (.ref pk0), .val (.ref pp0), .val (.long (own_kmin (own_F ka kb kc kd ke) L)), .second, .val (.ref b0), .unset]) rfl ?_
    refine Go.aload C d14_26 rfl rfl rfl ?_
    refine Go.nonnullYes C d14_28 (by decide) (q := 33) rfl rfl (by simp) ?_
    refine Go.aload C d14_33 rfl rfl rfl ?_
    refine Go.callV C (y := yN18) (z := yN18) (a := b0) (as := []) (rest := []) (wd hw 152 rfl) (wd hw 153 rfl) (nf_sel (z := yN18) (wd hw 155 rfl)) (wd hw 155 rfl) (wd hw 154 rfl) (wd hw 156 rfl) (wd hw 49 rfl) (fun _ r => (hE0).ext r.1) (u_Integer_intValue_164 l Z a0 hw _ b0 hE0 hF0) rfl d14_35 (q := 38) rfl (by decide) rfl (na := 0) (by decide +kernel) rfl (by decide) (W := 0) rfl (by decide) (by decide) (by decide) (k' := 0) (n' := 0) rfl rfl ?_
    rintro _ _ ⟨rfl, rfl⟩
    show Go _ _ _ _ _ _ _ _ _ _ [(.int (0 : Int32))]
    refine Go.istore C d14_38 rfl (Ls' := #[.val (.ref q), .val (.ref pk0), .val (.ref pp0), .val (.long (own_kmin (own_F ka kb kc kd ke) L)), .second, .val (.ref b0), .val (.int (0 : Int32))]) rfl ?_
    refine Go.iload C d14_40 rfl rfl ?_
    refine Go.ifNo C d14_42 (q := 45) rfl (XT.i0_lt_f (by decide)) ?_
    refine Go.iload C d14_45 rfl rfl ?_
    refine Go.iconst C d14_47 rfl (v := (4 : Int32)) rfl ?_
    refine Go.icmpNo C d14_48 (q := 51) rfl (XT.ii_gt_f (by decide)) ?_
    refine Go.aloadN C d14_51 rfl rfl rfl ?_
    refine Go.iload C d14_52 rfl rfl ?_
    refine Go.zaload C (fun _ r => r.arr 1 rfl) (by decide) (v := (.int (f 0))) rfl d14_54 (q := 55) rfl ?_
    refine Go.ifYes C d14_55 (by decide) (q := 60) rfl (XT.i0_ne_t (own_fl hI hii)) ?_
    refine Go.aloadN C d14_60 rfl rfl rfl ?_
    refine Go.iload C d14_61 rfl rfl ?_
    refine Go.iconst C d14_63 rfl (v := (0 : Int32)) rfl ?_
    refine Go.zastore C (i := 1) rfl (by decide) (show (0 : Int32).toNatClampNeg < 5 from by decide) (w' := (.int (0 : Int32))) rfl d14_64 (q := 65) rfl (M' := (nA pk0 ka kb kc kd ke :: nB pp0 0 (f 1) (f 2) (f 3) (f 4) :: M2)) rfl ?_
    refine Go.aloadN C d14_65 rfl rfl rfl ?_
    refine Go.iload C d14_66 rfl rfl ?_
    refine Go.laload C (fun _ r => r.arr 0 rfl) (by decide) (v := (.long ka)) rfl d14_68 (q := 69) rfl ?_
    refine Go.lloadN C d14_69 rfl rfl ?_
    refine Go.lcmp C d14_70 rfl ?_
    refine Go.ifNo C d14_71 (q := 74) rfl (XT.ll_ne_f (show _ = _ from Eq.symm hkm)) ?_
    refine Go.iconst C d14_74 rfl (v := (1 : Int32)) rfl ?_
    refine Go.goto C d14_75 (by decide) (q := 79) rfl ?_
    refine Go.retZ C rfl (by decide) d14_79 (by decide) (by decide) ?_
    exact ⟨0, _, hii, hQ2p, rfl, rfl⟩
  · refine Go.perm (own_pd _ _ _) ?_
    show Go _ _ _ _ _ _ _ _ _ _ [(.ref b1)]
    refine Go.castY C (wd hw 150 rfl) (fun _ r => Ins.self ((hE1).ext r.1)) d14_21 (q := 24) rfl ?_
    refine Go.astore C d14_24 rfl rfl (Ls' := #[.val (.ref q), .val (.ref pk0), .val (.ref pp0), .val (.long (own_kmin (own_F ka kb kc kd ke) L)), .second, .val (.ref b1), .unset]) rfl ?_
    refine Go.aload C d14_26 rfl rfl rfl ?_
    refine Go.nonnullYes C d14_28 (by decide) (q := 33) rfl rfl (by simp) ?_
    refine Go.aload C d14_33 rfl rfl rfl ?_
    refine Go.callV C (y := yN18) (z := yN18) (a := b1) (as := []) (rest := []) (wd hw 152 rfl) (wd hw 153 rfl) (nf_sel (z := yN18) (wd hw 155 rfl)) (wd hw 155 rfl) (wd hw 154 rfl) (wd hw 156 rfl) (wd hw 49 rfl) (fun _ r => (hE1).ext r.1) (u_Integer_intValue_166 l Z a0 hw _ b1 hE1 hF1) rfl d14_35 (q := 38) rfl (by decide) rfl (na := 0) (by decide +kernel) rfl (by decide) (W := 0) rfl (by decide) (by decide) (by decide) (k' := 0) (n' := 0) rfl rfl ?_
    rintro _ _ ⟨rfl, rfl⟩
    show Go _ _ _ _ _ _ _ _ _ _ [(.int (1 : Int32))]
    refine Go.istore C d14_38 rfl (Ls' := #[.val (.ref q), .val (.ref pk0), .val (.ref pp0), .val (.long (own_kmin (own_F ka kb kc kd ke) L)), .second, .val (.ref b1), .val (.int (1 : Int32))]) rfl ?_
    refine Go.iload C d14_40 rfl rfl ?_
    refine Go.ifNo C d14_42 (q := 45) rfl (XT.i0_lt_f (by decide)) ?_
    refine Go.iload C d14_45 rfl rfl ?_
    refine Go.iconst C d14_47 rfl (v := (4 : Int32)) rfl ?_
    refine Go.icmpNo C d14_48 (q := 51) rfl (XT.ii_gt_f (by decide)) ?_
    refine Go.aloadN C d14_51 rfl rfl rfl ?_
    refine Go.iload C d14_52 rfl rfl ?_
    refine Go.zaload C (fun _ r => r.arr 1 rfl) (by decide) (v := (.int (f 1))) rfl d14_54 (q := 55) rfl ?_
    refine Go.ifYes C d14_55 (by decide) (q := 60) rfl (XT.i0_ne_t (own_fl hI hii)) ?_
    refine Go.aloadN C d14_60 rfl rfl rfl ?_
    refine Go.iload C d14_61 rfl rfl ?_
    refine Go.iconst C d14_63 rfl (v := (0 : Int32)) rfl ?_
    refine Go.zastore C (i := 1) rfl (by decide) (show (1 : Int32).toNatClampNeg < 5 from by decide) (w' := (.int (0 : Int32))) rfl d14_64 (q := 65) rfl (M' := (nA pk0 ka kb kc kd ke :: nB pp0 (f 0) 0 (f 2) (f 3) (f 4) :: M2)) rfl ?_
    refine Go.aloadN C d14_65 rfl rfl rfl ?_
    refine Go.iload C d14_66 rfl rfl ?_
    refine Go.laload C (fun _ r => r.arr 0 rfl) (by decide) (v := (.long kb)) rfl d14_68 (q := 69) rfl ?_
    refine Go.lloadN C d14_69 rfl rfl ?_
    refine Go.lcmp C d14_70 rfl ?_
    refine Go.ifNo C d14_71 (q := 74) rfl (XT.ll_ne_f (show _ = _ from Eq.symm hkm)) ?_
    refine Go.iconst C d14_74 rfl (v := (1 : Int32)) rfl ?_
    refine Go.goto C d14_75 (by decide) (q := 79) rfl ?_
    refine Go.retZ C rfl (by decide) d14_79 (by decide) (by decide) ?_
    exact ⟨1, _, hii, hQ2p, rfl, rfl⟩
  · refine Go.perm (own_pd _ _ _) ?_
    show Go _ _ _ _ _ _ _ _ _ _ [(.ref b2)]
    refine Go.castY C (wd hw 150 rfl) (fun _ r => Ins.self ((hE2).ext r.1)) d14_21 (q := 24) rfl ?_
    refine Go.astore C d14_24 rfl rfl (Ls' := #[.val (.ref q), .val (.ref pk0), .val (.ref pp0), .val (.long (own_kmin (own_F ka kb kc kd ke) L)), .second, .val (.ref b2), .unset]) rfl ?_
    refine Go.aload C d14_26 rfl rfl rfl ?_
    refine Go.nonnullYes C d14_28 (by decide) (q := 33) rfl rfl (by simp) ?_
    refine Go.aload C d14_33 rfl rfl rfl ?_
    refine Go.callV C (y := yN18) (z := yN18) (a := b2) (as := []) (rest := []) (wd hw 152 rfl) (wd hw 153 rfl) (nf_sel (z := yN18) (wd hw 155 rfl)) (wd hw 155 rfl) (wd hw 154 rfl) (wd hw 156 rfl) (wd hw 49 rfl) (fun _ r => (hE2).ext r.1) (u_Integer_intValue_168 l Z a0 hw _ b2 hE2 hF2) rfl d14_35 (q := 38) rfl (by decide) rfl (na := 0) (by decide +kernel) rfl (by decide) (W := 0) rfl (by decide) (by decide) (by decide) (k' := 0) (n' := 0) rfl rfl ?_
    rintro _ _ ⟨rfl, rfl⟩
    show Go _ _ _ _ _ _ _ _ _ _ [(.int (2 : Int32))]
    refine Go.istore C d14_38 rfl (Ls' := #[.val (.ref q), .val (.ref pk0), .val (.ref pp0), .val (.long (own_kmin (own_F ka kb kc kd ke) L)), .second, .val (.ref b2), .val (.int (2 : Int32))]) rfl ?_
    refine Go.iload C d14_40 rfl rfl ?_
    refine Go.ifNo C d14_42 (q := 45) rfl (XT.i0_lt_f (by decide)) ?_
    refine Go.iload C d14_45 rfl rfl ?_
    refine Go.iconst C d14_47 rfl (v := (4 : Int32)) rfl ?_
    refine Go.icmpNo C d14_48 (q := 51) rfl (XT.ii_gt_f (by decide)) ?_
    refine Go.aloadN C d14_51 rfl rfl rfl ?_
    refine Go.iload C d14_52 rfl rfl ?_
    refine Go.zaload C (fun _ r => r.arr 1 rfl) (by decide) (v := (.int (f 2))) rfl d14_54 (q := 55) rfl ?_
    refine Go.ifYes C d14_55 (by decide) (q := 60) rfl (XT.i0_ne_t (own_fl hI hii)) ?_
    refine Go.aloadN C d14_60 rfl rfl rfl ?_
    refine Go.iload C d14_61 rfl rfl ?_
    refine Go.iconst C d14_63 rfl (v := (0 : Int32)) rfl ?_
    refine Go.zastore C (i := 1) rfl (by decide) (show (2 : Int32).toNatClampNeg < 5 from by decide) (w' := (.int (0 : Int32))) rfl d14_64 (q := 65) rfl (M' := (nA pk0 ka kb kc kd ke :: nB pp0 (f 0) (f 1) 0 (f 3) (f 4) :: M2)) rfl ?_
    refine Go.aloadN C d14_65 rfl rfl rfl ?_
    refine Go.iload C d14_66 rfl rfl ?_
    refine Go.laload C (fun _ r => r.arr 0 rfl) (by decide) (v := (.long kc)) rfl d14_68 (q := 69) rfl ?_
    refine Go.lloadN C d14_69 rfl rfl ?_
    refine Go.lcmp C d14_70 rfl ?_
    refine Go.ifNo C d14_71 (q := 74) rfl (XT.ll_ne_f (show _ = _ from Eq.symm hkm)) ?_
    refine Go.iconst C d14_74 rfl (v := (1 : Int32)) rfl ?_
    refine Go.goto C d14_75 (by decide) (q := 79) rfl ?_
    refine Go.retZ C rfl (by decide) d14_79 (by decide) (by decide) ?_
    exact ⟨2, _, hii, hQ2p, rfl, rfl⟩
  · refine Go.perm (own_pd _ _ _) ?_
    show Go _ _ _ _ _ _ _ _ _ _ [(.ref b3)]
    refine Go.castY C (wd hw 150 rfl) (fun _ r => Ins.self ((hE3).ext r.1)) d14_21 (q := 24) rfl ?_
    refine Go.astore C d14_24 rfl rfl (Ls' := #[.val (.ref q), .val (.ref pk0), .val (.ref pp0), .val (.long (own_kmin (own_F ka kb kc kd ke) L)), .second, .val (.ref b3), .unset]) rfl ?_
    refine Go.aload C d14_26 rfl rfl rfl ?_
    refine Go.nonnullYes C d14_28 (by decide) (q := 33) rfl rfl (by simp) ?_
    refine Go.aload C d14_33 rfl rfl rfl ?_
    refine Go.callV C (y := yN18) (z := yN18) (a := b3) (as := []) (rest := []) (wd hw 152 rfl) (wd hw 153 rfl) (nf_sel (z := yN18) (wd hw 155 rfl)) (wd hw 155 rfl) (wd hw 154 rfl) (wd hw 156 rfl) (wd hw 49 rfl) (fun _ r => (hE3).ext r.1) (u_Integer_intValue_170 l Z a0 hw _ b3 hE3 hF3) rfl d14_35 (q := 38) rfl (by decide) rfl (na := 0) (by decide +kernel) rfl (by decide) (W := 0) rfl (by decide) (by decide) (by decide) (k' := 0) (n' := 0) rfl rfl ?_
    rintro _ _ ⟨rfl, rfl⟩
    show Go _ _ _ _ _ _ _ _ _ _ [(.int (3 : Int32))]
    refine Go.istore C d14_38 rfl (Ls' := #[.val (.ref q), .val (.ref pk0), .val (.ref pp0), .val (.long (own_kmin (own_F ka kb kc kd ke) L)), .second, .val (.ref b3), .val (.int (3 : Int32))]) rfl ?_
    refine Go.iload C d14_40 rfl rfl ?_
    refine Go.ifNo C d14_42 (q := 45) rfl (XT.i0_lt_f (by decide)) ?_
    refine Go.iload C d14_45 rfl rfl ?_
    refine Go.iconst C d14_47 rfl (v := (4 : Int32)) rfl ?_
    refine Go.icmpNo C d14_48 (q := 51) rfl (XT.ii_gt_f (by decide)) ?_
    refine Go.aloadN C d14_51 rfl rfl rfl ?_
    refine Go.iload C d14_52 rfl rfl ?_
    refine Go.zaload C (fun _ r => r.arr 1 rfl) (by decide) (v := (.int (f 3))) rfl d14_54 (q := 55) rfl ?_
    refine Go.ifYes C d14_55 (by decide) (q := 60) rfl (XT.i0_ne_t (own_fl hI hii)) ?_
    refine Go.aloadN C d14_60 rfl rfl rfl ?_
    refine Go.iload C d14_61 rfl rfl ?_
    refine Go.iconst C d14_63 rfl (v := (0 : Int32)) rfl ?_
    refine Go.zastore C (i := 1) rfl (by decide) (show (3 : Int32).toNatClampNeg < 5 from by decide) (w' := (.int (0 : Int32))) rfl d14_64 (q := 65) rfl (M' := (nA pk0 ka kb kc kd ke :: nB pp0 (f 0) (f 1) (f 2) 0 (f 4) :: M2)) rfl ?_
    refine Go.aloadN C d14_65 rfl rfl rfl ?_
    refine Go.iload C d14_66 rfl rfl ?_
    refine Go.laload C (fun _ r => r.arr 0 rfl) (by decide) (v := (.long kd)) rfl d14_68 (q := 69) rfl ?_
    refine Go.lloadN C d14_69 rfl rfl ?_
    refine Go.lcmp C d14_70 rfl ?_
    refine Go.ifNo C d14_71 (q := 74) rfl (XT.ll_ne_f (show _ = _ from Eq.symm hkm)) ?_
    refine Go.iconst C d14_74 rfl (v := (1 : Int32)) rfl ?_
    refine Go.goto C d14_75 (by decide) (q := 79) rfl ?_
    refine Go.retZ C rfl (by decide) d14_79 (by decide) (by decide) ?_
    exact ⟨3, _, hii, hQ2p, rfl, rfl⟩
  · refine Go.perm (own_pd _ _ _) ?_
    show Go _ _ _ _ _ _ _ _ _ _ [(.ref b4)]
    refine Go.castY C (wd hw 150 rfl) (fun _ r => Ins.self ((hE4).ext r.1)) d14_21 (q := 24) rfl ?_
    refine Go.astore C d14_24 rfl rfl (Ls' := #[.val (.ref q), .val (.ref pk0), .val (.ref pp0), .val (.long (own_kmin (own_F ka kb kc kd ke) L)), .second, .val (.ref b4), .unset]) rfl ?_
    refine Go.aload C d14_26 rfl rfl rfl ?_
    refine Go.nonnullYes C d14_28 (by decide) (q := 33) rfl rfl (by simp) ?_
    refine Go.aload C d14_33 rfl rfl rfl ?_
    refine Go.callV C (y := yN18) (z := yN18) (a := b4) (as := []) (rest := []) (wd hw 152 rfl) (wd hw 153 rfl) (nf_sel (z := yN18) (wd hw 155 rfl)) (wd hw 155 rfl) (wd hw 154 rfl) (wd hw 156 rfl) (wd hw 49 rfl) (fun _ r => (hE4).ext r.1) (u_Integer_intValue_172 l Z a0 hw _ b4 hE4 hF4) rfl d14_35 (q := 38) rfl (by decide) rfl (na := 0) (by decide +kernel) rfl (by decide) (W := 0) rfl (by decide) (by decide) (by decide) (k' := 0) (n' := 0) rfl rfl ?_
    rintro _ _ ⟨rfl, rfl⟩
    show Go _ _ _ _ _ _ _ _ _ _ [(.int (4 : Int32))]
    refine Go.istore C d14_38 rfl (Ls' := #[.val (.ref q), .val (.ref pk0), .val (.ref pp0), .val (.long (own_kmin (own_F ka kb kc kd ke) L)), .second, .val (.ref b4), .val (.int (4 : Int32))]) rfl ?_
    refine Go.iload C d14_40 rfl rfl ?_
    refine Go.ifNo C d14_42 (q := 45) rfl (XT.i0_lt_f (by decide)) ?_
    refine Go.iload C d14_45 rfl rfl ?_
    refine Go.iconst C d14_47 rfl (v := (4 : Int32)) rfl ?_
    refine Go.icmpNo C d14_48 (q := 51) rfl (XT.ii_gt_f (by decide)) ?_
    refine Go.aloadN C d14_51 rfl rfl rfl ?_
    refine Go.iload C d14_52 rfl rfl ?_
    refine Go.zaload C (fun _ r => r.arr 1 rfl) (by decide) (v := (.int (f 4))) rfl d14_54 (q := 55) rfl ?_
    refine Go.ifYes C d14_55 (by decide) (q := 60) rfl (XT.i0_ne_t (own_fl hI hii)) ?_
    refine Go.aloadN C d14_60 rfl rfl rfl ?_
    refine Go.iload C d14_61 rfl rfl ?_
    refine Go.iconst C d14_63 rfl (v := (0 : Int32)) rfl ?_
    refine Go.zastore C (i := 1) rfl (by decide) (show (4 : Int32).toNatClampNeg < 5 from by decide) (w' := (.int (0 : Int32))) rfl d14_64 (q := 65) rfl (M' := (nA pk0 ka kb kc kd ke :: nB pp0 (f 0) (f 1) (f 2) (f 3) 0 :: M2)) rfl ?_
    refine Go.aloadN C d14_65 rfl rfl rfl ?_
    refine Go.iload C d14_66 rfl rfl ?_
    refine Go.laload C (fun _ r => r.arr 0 rfl) (by decide) (v := (.long ke)) rfl d14_68 (q := 69) rfl ?_
    refine Go.lloadN C d14_69 rfl rfl ?_
    refine Go.lcmp C d14_70 rfl ?_
    refine Go.ifNo C d14_71 (q := 74) rfl (XT.ll_ne_f (show _ = _ from Eq.symm hkm)) ?_
    refine Go.iconst C d14_74 rfl (v := (1 : Int32)) rfl ?_
    refine Go.goto C d14_75 (by decide) (q := 79) rfl ?_
    refine Go.retZ C rfl (by decide) d14_79 (by decide) (by decide) ?_
    exact ⟨4, _, hii, hQ2p, rfl, rfl⟩
def own_mi (v n : Int32) : Int32 := if n < v then n else v
theorem own_ne1 {L : List Nat} (h : 1 ≤ L.length) : L ≠ [] := fun e => by rw [e] at h; exact absurd h (by decide)
theorem own_ne2 {L : List Nat} {i : Nat} (h : 2 ≤ L.length) (hi : i ∈ L) : L.erase i ≠ [] := own_ne1 (by rw [List.length_erase_of_mem hi]; omega)
theorem own_t14 {t : Nat} {L : List Nat} (h : t = L.length) (h4 : t ≤ 4) (h1 : 1 ≤ L.length) : t ∈ [1, 2, 3, 4] := by simp; omega
theorem own_t7 {t : Nat} (h4 : t ≤ 4) : t ∈ [0, 1, 2, 3, 4, 5, 7] := by simp; omega
theorem own_t9 {t : Nat} (h4 : t ≤ 4) : t ∈ [0, 1, 2, 3, 4, 5, 6, 7] := by simp; omega
theorem own_five4 {x : Int32} (h : (x &&& (2147483647 : Int32)) % (5 : Int32) = (x &&& (2147483647 : Int32)) % (5 : Int32)) : ∃ n : Int32, (x &&& (2147483647 : Int32)) % (5 : Int32) = n ∧ (n = 0 ∨ n = 1 ∨ n = 2 ∨ n = 3 ∨ n = 4) := ⟨_, rfl, own_rem5 x⟩
theorem own_three {x : Int32} : ∃ n : Int32, x &&& (3 : Int32) = n ∧ (n = 0 ∨ n = 1 ∨ n = 2 ∨ n = 3) := ⟨_, rfl, own_and3 x⟩
theorem d16_0 : decode jdk_29_method_69_code 0 = .ok (.iload_n 0, 1) := by decide +kernel
theorem d16_1 : decode jdk_29_method_69_code 1 = .ok (.iload_n 1, 1) := by decide +kernel
theorem d16_2 : decode jdk_29_method_69_code 2 = .ok (.if_icmp .gt 7, 3) := by decide +kernel
theorem d16_9 : decode jdk_29_method_69_code 9 = .ok (.iload_n 1, 1) := by decide +kernel
theorem d16_10 : decode jdk_29_method_69_code 10 = .ok (.ireturn, 1) := by decide +kernel
theorem d16_5 : decode jdk_29_method_69_code 5 = .ok (.iload_n 0, 1) := by decide +kernel
theorem d16_6 : decode jdk_29_method_69_code 6 = .ok (.goto 4, 3) := by decide +kernel
theorem pn_16 : plainFor yN20 = true := by first | (apply plainFor_of_name; simp [plainName, overriddenIn]; done) | decide +kernel
theorem m_minI (l : Launch) (Z : State) (a0 : Array Value) (hw : HW Z a0) (F : List Ent) (u v : Int32)  :
    Met l Z yN20 jdk_29_method_69_code 2 (some .int) { frames := 0, cells := 0, slots := 0, locals := 0 } #[(.int u), (.int v)] (F) (fun r M' => r = some (.int (own_mi u v)) ∧ M' = F) := by
  refine Met.of_go pn_16 (Ls := #[.val (.int u), .val (.int v)]) (fun m => rfl) ?_
  intro E C
  refine Go.iloadN C d16_0 rfl rfl ?_
  refine Go.iloadN C d16_1 rfl rfl ?_
  refine Go.icmp C d16_2 (by decide) (q := 9) rfl (q' := 5) rfl (fun (h2_1 : v < u) => ?_) (fun (h2_1 : ¬ v < u) => ?_)
  · refine Go.iloadN C d16_9 rfl rfl ?_
    refine Go.retI C rfl d16_10 (by decide) (by decide) ?_
    exact ⟨by simp [own_mi, h2_1], rfl⟩
  · refine Go.iloadN C d16_5 rfl rfl ?_
    refine Go.goto C d16_6 (by decide) (q := 10) rfl ?_
    refine Go.retI C rfl d16_10 (by decide) (by decide) ?_
    exact ⟨by simp [own_mi, h2_1], rfl⟩
theorem own_dI {f : Nat → Int32} {L : List Nat} (h1 : L.Nodup) (h2 : ∀ i ∈ L, i < 5) (h3 : ∀ i, i < 5 → (i ∈ L ↔ ¬ f i = 0)) : own_I f L := ⟨h1, h2, h3⟩
theorem d17_0 : decode prog_20_method_1_code 0 = .ok (.aload_n 0, 1) := by decide +kernel
theorem d17_1 : decode prog_20_method_1_code 1 = .ok (.invokespecial 3, 3) := by decide +kernel
theorem d17_4 : decode prog_20_method_1_code 4 = .ok (.aload_n 0, 1) := by decide +kernel
theorem d17_5 : decode prog_20_method_1_code 5 = .ok (.new 9, 3) := by decide +kernel
theorem d17_8 : decode prog_20_method_1_code 8 = .ok (.dup, 1) := by decide +kernel
theorem d17_9 : decode prog_20_method_1_code 9 = .ok (.invokespecial 11, 3) := by decide +kernel
theorem d18_0 : decode prog_23_method_1_code 0 = .ok (.aload_n 0, 1) := by decide +kernel
theorem d18_1 : decode prog_23_method_1_code 1 = .ok (.invokespecial 1, 3) := by decide +kernel
theorem d19_0 : decode prog_22_method_1_code 0 = .ok (.aload_n 0, 1) := by decide +kernel
theorem d19_1 : decode prog_22_method_1_code 1 = .ok (.invokespecial 3, 3) := by decide +kernel
theorem d19_4 : decode prog_22_method_1_code 4 = .ok (.aload_n 0, 1) := by decide +kernel
theorem d19_5 : decode prog_22_method_1_code 5 = .ok (.bipush 64, 2) := by decide +kernel
theorem d19_7 : decode prog_22_method_1_code 7 = .ok (.newarray .long, 2) := by decide +kernel
theorem d19_9 : decode prog_22_method_1_code 9 = .ok (.putfield 9, 3) := by decide +kernel
theorem d19_12 : decode prog_22_method_1_code 12 = .ok (.aload_n 0, 1) := by decide +kernel
theorem d19_13 : decode prog_22_method_1_code 13 = .ok (.bipush 64, 2) := by decide +kernel
theorem d19_15 : decode prog_22_method_1_code 15 = .ok (.anewarray 4, 3) := by decide +kernel
theorem d19_18 : decode prog_22_method_1_code 18 = .ok (.putfield 15, 3) := by decide +kernel
theorem d19_21 : decode prog_22_method_1_code 21 = .ok (.return_, 1) := by decide +kernel
theorem pn_17 : plainFor yN21 = true := by first | (apply plainFor_of_name; simp [plainName, overriddenIn]; done) | decide +kernel
theorem u_SequenceQueue_Part_init_176 (l : Launch) (Z : State) (a0 : Array Value) (hw : HW Z a0) (F : List Ent) (pA0 : Addr)  :
    Met l Z yN21 prog_22_method_1_code 1 none { frames := 1, cells := 2, slots := 128, locals := 12 } #[(.ref pA0)] ((pA0, oRun .null .null (.int (0 : Int32)) (.int (0 : Int32))) :: F) (fun r M' => (∃ sA0 sA1 : Addr, r = none ∧ M' = (nE sA0 .null .null .null .null .null .null :: nK sA1 0 0 0 0 0 0 :: nR pA0 sA1 sA0 0 0 :: F))) := by
  refine Met.of_go pn_17 (Ls := #[.val (.ref pA0)]) (fun m => rfl) ?_
  intro E C
  refine Go.aloadN C d19_0 rfl rfl rfl ?_
  refine Go.initO C (wd hw 27 rfl) (wd hw 14 rfl) (wd hw 15 rfl) d19_1 (q := 4) rfl rfl (by decide) (W := 0) rfl (by decide) ?_
  refine Go.aloadN C d19_4 rfl rfl rfl ?_
  refine Go.bipush C d19_5 rfl (v := (64 : Int32)) (by decide) ?_
  refine Go.newarray C (ty := .long) (wd hw 0 rfl) rfl (by simp) (by decide) (cap := 64) (by decide) (by decide) (vs := (oK64 (.long (0 : Int64)) (.long (0 : Int64)) (.long (0 : Int64)) (.long (0 : Int64)) (.long (0 : Int64)) (.long (0 : Int64)))) rfl d19_7 (q := 9) rfl (by decide) (by decide) (k' := 1) (n' := 64) rfl rfl (fun o124 => ?_)
  refine Go.pf C (wd hw 28 rfl) Via.refl 1 0 rfl rfl (wd hw 29 rfl) (wd hw 17 rfl) (ty := (.array .long)) (by decide) rfl rfl d19_9 rfl (M' := (nK o124 0 0 0 0 0 0 :: (pA0, oRun (.ref o124) .null (.int (0 : Int32)) (.int (0 : Int32))) :: F)) rfl ?_
  refine Go.aloadN C d19_12 rfl rfl rfl ?_
  refine Go.bipush C d19_13 rfl (v := (64 : Int32)) (by decide) ?_
  refine Go.anewarray C (wd hw 30 rfl) (wd hw 31 rfl) (by decide) (cap := 64) (by decide) (by decide) (vs := (oE64 .null .null .null .null .null .null)) rfl d19_15 (q := 18) rfl (by decide) (by decide) (k' := 2) (n' := 128) rfl rfl (fun o125 => ?_)
  refine Go.pf C (wd hw 32 rfl) Via.refl 2 1 rfl rfl (wd hw 33 rfl) (wd hw 17 rfl) (ty := (.array (.object "java/lang/Object"))) (by decide) rfl rfl d19_18 rfl (M' := (nE o125 .null .null .null .null .null .null :: nK o124 0 0 0 0 0 0 :: nR pA0 o124 o125 0 0 :: F)) rfl ?_
  refine Go.ret0 C rfl d19_21 (by decide) (by decide) ?_
  exact ⟨_, _, rfl, rfl⟩
theorem d18_4 : decode prog_23_method_1_code 4 = .ok (.return_, 1) := by decide +kernel
theorem pn_18 : plainFor yN22 = true := by first | (apply plainFor_of_name; simp [plainName, overriddenIn]; done) | decide +kernel
theorem u_SequenceQueue_Run_init_175 (l : Launch) (Z : State) (a0 : Array Value) (hw : HW Z a0) (F : List Ent) (pA0 : Addr)  :
    Met l Z yN22 prog_23_method_1_code 1 none { frames := 2, cells := 2, slots := 128, locals := 24 } #[(.ref pA0)] ((pA0, oRun .null .null (.int (0 : Int32)) (.int (0 : Int32))) :: F) (fun r M' => (∃ sA0 sA1 : Addr, r = none ∧ M' = (nE sA0 .null .null .null .null .null .null :: nK sA1 0 0 0 0 0 0 :: nR pA0 sA1 sA0 0 0 :: F))) := by
  refine Met.of_go pn_18 (Ls := #[.val (.ref pA0)]) (fun m => rfl) ?_
  intro E C
  refine Go.aloadN C d18_0 rfl rfl rfl ?_
  refine Go.callIN C (y := yN21) (a := pA0) (as := []) (rest := []) (wd hw 22 rfl) (wd hw 23 rfl) (wd hw 25 rfl) (wd hw 26 rfl) (u_SequenceQueue_Part_init_176 l Z a0 hw _ pA0) rfl rfl d18_1 (q := 4) rfl (by decide) rfl (na := 0) (by decide +kernel) rfl (by decide) (W := 0) rfl (by decide) (by decide) (by decide) (k' := 2) (n' := 128) rfl rfl ?_
  rintro _ _ ⟨o124, o125, rfl, rfl⟩
  show Go _ _ _ _ _ _ _ _ _ _ []
  refine Go.ret0 C rfl d18_4 (by decide) (by decide) ?_
  exact ⟨_, _, rfl, rfl⟩
theorem d17_12 : decode prog_20_method_1_code 12 = .ok (.putfield 12, 3) := by decide +kernel
theorem d17_15 : decode prog_20_method_1_code 15 = .ok (.aload_n 0, 1) := by decide +kernel
theorem d17_16 : decode prog_20_method_1_code 16 = .ok (.new 18, 3) := by decide +kernel
theorem d17_19 : decode prog_20_method_1_code 19 = .ok (.dup, 1) := by decide +kernel
theorem d17_20 : decode prog_20_method_1_code 20 = .ok (.invokespecial 20, 3) := by decide +kernel
theorem d20_0 : decode prog_21_method_1_code 0 = .ok (.aload_n 0, 1) := by decide +kernel
theorem d20_1 : decode prog_21_method_1_code 1 = .ok (.invokespecial 1, 3) := by decide +kernel
theorem u_SequenceQueue_Part_init_180 (l : Launch) (Z : State) (a0 : Array Value) (hw : HW Z a0) (F : List Ent) (pA0 : Addr)  :
    Met l Z yN21 prog_22_method_1_code 1 none { frames := 1, cells := 2, slots := 128, locals := 12 } #[(.ref pA0)] ((pA0, oHeap .null .null (.int (0 : Int32))) :: F) (fun r M' => (∃ sA0 sA1 : Addr, r = none ∧ M' = (nE sA0 .null .null .null .null .null .null :: nK sA1 0 0 0 0 0 0 :: nH pA0 sA1 sA0 0 :: F))) := by
  refine Met.of_go pn_17 (Ls := #[.val (.ref pA0)]) (fun m => rfl) ?_
  intro E C
  refine Go.aloadN C d19_0 rfl rfl rfl ?_
  refine Go.initO C (wd hw 27 rfl) (wd hw 14 rfl) (wd hw 15 rfl) d19_1 (q := 4) rfl rfl (by decide) (W := 0) rfl (by decide) ?_
  refine Go.aloadN C d19_4 rfl rfl rfl ?_
  refine Go.bipush C d19_5 rfl (v := (64 : Int32)) (by decide) ?_
  refine Go.newarray C (ty := .long) (wd hw 0 rfl) rfl (by simp) (by decide) (cap := 64) (by decide) (by decide) (vs := (oK64 (.long (0 : Int64)) (.long (0 : Int64)) (.long (0 : Int64)) (.long (0 : Int64)) (.long (0 : Int64)) (.long (0 : Int64)))) rfl d19_7 (q := 9) rfl (by decide) (by decide) (k' := 1) (n' := 64) rfl rfl (fun o127 => ?_)
  refine Go.pf C (wd hw 28 rfl) Via.refl 1 0 rfl rfl (wd hw 43 rfl) (wd hw 37 rfl) (ty := (.array .long)) (by decide) rfl rfl d19_9 rfl (M' := (nK o127 0 0 0 0 0 0 :: (pA0, oHeap (.ref o127) .null (.int (0 : Int32))) :: F)) rfl ?_
  refine Go.aloadN C d19_12 rfl rfl rfl ?_
  refine Go.bipush C d19_13 rfl (v := (64 : Int32)) (by decide) ?_
  refine Go.anewarray C (wd hw 30 rfl) (wd hw 31 rfl) (by decide) (cap := 64) (by decide) (by decide) (vs := (oE64 .null .null .null .null .null .null)) rfl d19_15 (q := 18) rfl (by decide) (by decide) (k' := 2) (n' := 128) rfl rfl (fun o128 => ?_)
  refine Go.pf C (wd hw 32 rfl) Via.refl 2 1 rfl rfl (wd hw 44 rfl) (wd hw 37 rfl) (ty := (.array (.object "java/lang/Object"))) (by decide) rfl rfl d19_18 rfl (M' := (nE o128 .null .null .null .null .null .null :: nK o127 0 0 0 0 0 0 :: nH pA0 o127 o128 0 :: F)) rfl ?_
  refine Go.ret0 C rfl d19_21 (by decide) (by decide) ?_
  exact ⟨_, _, rfl, rfl⟩
theorem d20_4 : decode prog_21_method_1_code 4 = .ok (.return_, 1) := by decide +kernel
theorem pn_19 : plainFor yN23 = true := by first | (apply plainFor_of_name; simp [plainName, overriddenIn]; done) | decide +kernel
theorem u_SequenceQueue_Heap_init_179 (l : Launch) (Z : State) (a0 : Array Value) (hw : HW Z a0) (F : List Ent) (pA0 : Addr)  :
    Met l Z yN23 prog_21_method_1_code 1 none { frames := 2, cells := 2, slots := 128, locals := 24 } #[(.ref pA0)] ((pA0, oHeap .null .null (.int (0 : Int32))) :: F) (fun r M' => (∃ sA0 sA1 : Addr, r = none ∧ M' = (nE sA0 .null .null .null .null .null .null :: nK sA1 0 0 0 0 0 0 :: nH pA0 sA1 sA0 0 :: F))) := by
  refine Met.of_go pn_19 (Ls := #[.val (.ref pA0)]) (fun m => rfl) ?_
  intro E C
  refine Go.aloadN C d20_0 rfl rfl rfl ?_
  refine Go.callIN C (y := yN21) (a := pA0) (as := []) (rest := []) (wd hw 42 rfl) (wd hw 23 rfl) (wd hw 25 rfl) (wd hw 26 rfl) (u_SequenceQueue_Part_init_180 l Z a0 hw _ pA0) rfl rfl d20_1 (q := 4) rfl (by decide) rfl (na := 0) (by decide +kernel) rfl (by decide) (W := 0) rfl (by decide) (by decide) (by decide) (k' := 2) (n' := 128) rfl rfl ?_
  rintro _ _ ⟨o127, o128, rfl, rfl⟩
  show Go _ _ _ _ _ _ _ _ _ _ []
  refine Go.ret0 C rfl d20_4 (by decide) (by decide) ?_
  exact ⟨_, _, rfl, rfl⟩
theorem d17_23 : decode prog_20_method_1_code 23 = .ok (.putfield 21, 3) := by decide +kernel
theorem d17_26 : decode prog_20_method_1_code 26 = .ok (.return_, 1) := by decide +kernel
theorem pn_20 : plainFor yN24 = true := by first | (apply plainFor_of_name; simp [plainName, overriddenIn]; done) | decide +kernel
theorem u_SequenceQueue_init_174 (l : Launch) (Z : State) (a0 : Array Value) (hw : HW Z a0) (F : List Ent) (pA0 : Addr) (kA0 : Int64)  :
    Met l Z yN24 prog_20_method_1_code 1 none { frames := 3, cells := 6, slots := 263, locals := 38 } #[(.ref pA0)] ((pA0, oQ .null .null (.int (0 : Int32)) (.long kA0) .null) :: F) (fun r M' => (∃ sA0 sA1 sA2 sA3 sA4 sA5 : Addr, r = none ∧ M' = (nE sA0 .null .null .null .null .null .null :: nK sA1 0 0 0 0 0 0 :: nH sA2 sA1 sA0 0 :: nE sA3 .null .null .null .null .null .null :: nK sA4 0 0 0 0 0 0 :: nR sA5 sA4 sA3 0 0 :: nQ pA0 sA5 sA2 0 kA0 .null :: F))) := by
  refine Met.of_go pn_20 (Ls := #[.val (.ref pA0)]) (fun m => rfl) ?_
  intro E C
  refine Go.aloadN C d17_0 rfl rfl rfl ?_
  refine Go.initO C (wd hw 13 rfl) (wd hw 14 rfl) (wd hw 15 rfl) d17_1 (q := 4) rfl rfl (by decide) (W := 0) rfl (by decide) ?_
  refine Go.aloadN C d17_4 rfl rfl rfl ?_
  refine Go.new C (wd hw 16 rfl) (wd hw 17 rfl) (wd hw 18 rfl) [(("com/example/ordered_dispatch/ordereddispatch/SequenceQueue$Part", "keys", "[J"), .null), (("com/example/ordered_dispatch/ordereddispatch/SequenceQueue$Part", "elements", "[Ljava/lang/Object;"), .null), (("com/example/ordered_dispatch/ordereddispatch/SequenceQueue$Part", "size", "I"), (.int (0 : Int32))), (("com/example/ordered_dispatch/ordereddispatch/SequenceQueue$Run", "head", "I"), (.int (0 : Int32)))] ⟨⟨Or.inl (wd hw 29 rfl), (.array .long), by decide, rfl⟩, ⟨Or.inl (wd hw 33 rfl), (.array (.object "java/lang/Object")), by decide, rfl⟩, ⟨Or.inl (wd hw 71 rfl), .int, by decide, rfl⟩, ⟨Or.inl (wd hw 89 rfl), .int, by decide, rfl⟩, trivial⟩ (by decide) d17_5 (q := 8) rfl (by decide) (by decide) (k' := 1) (n' := 4) rfl rfl (fun o123 => ?_)
  refine Go.dup C d17_8 rfl rfl ?_
  refine Go.callIR C (y := yN22) (a := o123) (as := []) (rest := [(.ref o123), (.ref pA0)]) (wd hw 19 rfl) (wd hw 20 rfl) (wd hw 18 rfl) (wd hw 21 rfl) (u_SequenceQueue_Run_init_175 l Z a0 hw _ o123) rfl rfl d17_9 (q := 12) rfl (by decide) rfl (na := 0) (by decide +kernel) rfl (by decide) (W := 2) rfl (by decide) (by decide) (by decide) (k' := 3) (n' := 132) rfl rfl ?_
  rintro _ _ ⟨o124, o125, rfl, rfl⟩
  show Go _ _ _ _ _ _ _ _ _ _ [(.ref o123), (.ref pA0)]
  refine Go.putF C (host := "") (i := 3) (j := 0) (Or.inl (wd hw 34 rfl)) Via.refl rfl rfl (Or.inr ⟨(wd hw 35 rfl), rfl, rfl⟩) (wd hw 8 rfl) (ty := (.object "com/example/ordered_dispatch/ordereddispatch/SequenceQueue$Run")) (by decide) rfl rfl d17_12 (q := 15) rfl (M' := (nE o124 .null .null .null .null .null .null :: nK o125 0 0 0 0 0 0 :: nR o123 o125 o124 0 0 :: (pA0, oQ (.ref o123) .null (.int (0 : Int32)) (.long kA0) .null) :: F)) rfl ?_
  refine Go.aloadN C d17_15 rfl rfl rfl ?_
  refine Go.new C (wd hw 36 rfl) (wd hw 37 rfl) (wd hw 38 rfl) [(("com/example/ordered_dispatch/ordereddispatch/SequenceQueue$Part", "keys", "[J"), .null), (("com/example/ordered_dispatch/ordereddispatch/SequenceQueue$Part", "elements", "[Ljava/lang/Object;"), .null), (("com/example/ordered_dispatch/ordereddispatch/SequenceQueue$Part", "size", "I"), (.int (0 : Int32)))] ⟨⟨Or.inl (wd hw 43 rfl), (.array .long), by decide, rfl⟩, ⟨Or.inl (wd hw 44 rfl), (.array (.object "java/lang/Object")), by decide, rfl⟩, ⟨Or.inl (wd hw 108 rfl), .int, by decide, rfl⟩, trivial⟩ (by decide) d17_16 (q := 19) rfl (by decide) (by decide) (k' := 4) (n' := 135) rfl rfl (fun o126 => ?_)
  refine Go.dup C d17_19 rfl rfl ?_
  refine Go.callIR C (y := yN23) (a := o126) (as := []) (rest := [(.ref o126), (.ref pA0)]) (wd hw 39 rfl) (wd hw 40 rfl) (wd hw 38 rfl) (wd hw 41 rfl) (u_SequenceQueue_Heap_init_179 l Z a0 hw _ o126) rfl rfl d17_20 (q := 23) rfl (by decide) rfl (na := 0) (by decide +kernel) rfl (by decide) (W := 2) rfl (by decide) (by decide) (by decide) (k' := 6) (n' := 263) rfl rfl ?_
  rintro _ _ ⟨o127, o128, rfl, rfl⟩
  show Go _ _ _ _ _ _ _ _ _ _ [(.ref o126), (.ref pA0)]
  refine Go.putF C (host := "") (i := 6) (j := 1) (Or.inl (wd hw 45 rfl)) Via.refl rfl rfl (Or.inr ⟨(wd hw 46 rfl), rfl, rfl⟩) (wd hw 8 rfl) (ty := (.object "com/example/ordered_dispatch/ordereddispatch/SequenceQueue$Heap")) (by decide) rfl rfl d17_23 (q := 26) rfl (M' := (nE o127 .null .null .null .null .null .null :: nK o128 0 0 0 0 0 0 :: nH o126 o128 o127 0 :: nE o124 .null .null .null .null .null .null :: nK o125 0 0 0 0 0 0 :: nR o123 o125 o124 0 0 :: nQ pA0 o123 o126 0 kA0 .null :: F)) rfl ?_
  refine Go.ret0 C rfl d17_26 (by decide) (by decide) ?_
  exact ⟨_, _, _, _, _, _, rfl, rfl⟩
theorem d21_0 : decode jdk_33_method_22_code 0 = .ok (.iload_n 0, 1) := by decide +kernel
theorem d21_1 : decode jdk_33_method_22_code 1 = .ok (.bipush (-128), 2) := by decide +kernel
theorem d21_3 : decode jdk_33_method_22_code 3 = .ok (.if_icmp .lt 20, 3) := by decide +kernel
theorem d21_6 : decode jdk_33_method_22_code 6 = .ok (.iload_n 0, 1) := by decide +kernel
theorem d21_7 : decode jdk_33_method_22_code 7 = .ok (.getstatic 191, 3) := by decide +kernel
theorem d21_10 : decode jdk_33_method_22_code 10 = .ok (.if_icmp .gt 13, 3) := by decide +kernel
theorem d21_13 : decode jdk_33_method_22_code 13 = .ok (.getstatic 195, 3) := by decide +kernel
theorem d21_16 : decode jdk_33_method_22_code 16 = .ok (.iload_n 0, 1) := by decide +kernel
theorem d21_17 : decode jdk_33_method_22_code 17 = .ok (.sipush 128, 3) := by decide +kernel
theorem d21_20 : decode jdk_33_method_22_code 20 = .ok (.iadd, 1) := by decide +kernel
theorem d21_21 : decode jdk_33_method_22_code 21 = .ok (.aaload, 1) := by decide +kernel
theorem d21_22 : decode jdk_33_method_22_code 22 = .ok (.areturn, 1) := by decide +kernel
theorem pn_21 : plainFor yN25 = true := by first | (apply plainFor_of_name; simp [plainName, overriddenIn]; done) | decide +kernel
theorem m_valueOf4 (l : Launch) (Z : State) (a0 : Array Value) (hw : HW Z a0) (F : List Ent) (cb : Addr) (cs : List Value) (b : Addr) (S_high : Sta Z Z.heap "java/lang/Integer$IntegerCache" "high" "I" (.int (127 : Int32))) (S_cache : Sta Z Z.heap "java/lang/Integer$IntegerCache" "cache" "[Ljava/lang/Integer;" (.ref cb)) (A_cache : ArrIs Z Z.heap cb (.object "java/lang/Integer") cs) (hb : cs[132]? = some (.ref b)) :
    Met l Z yN25 jdk_33_method_22_code 1 (some (.object "java/lang/Integer")) { frames := 0, cells := 0, slots := 0, locals := 0 } #[(.int (4 : Int32))] (F) (fun r M' => r = some (.ref b) ∧ M' = F) := by
  refine Met.of_go pn_21 (Ls := #[.val (.int (4 : Int32))]) (fun m => rfl) ?_
  intro E C
  refine Go.iloadN C d21_0 rfl rfl ?_
  refine Go.bipush C d21_1 rfl (v := (-128 : Int32)) (by decide) ?_
  refine Go.icmpNo C d21_3 (q := 6) rfl (XT.ii_lt_f (by decide)) ?_
  refine Go.iloadN C d21_6 rfl rfl ?_
  refine Go.getS C (host := "") (Or.inl (wd hw 51 rfl)) Via.refl S_high d21_7 rfl ?_
  refine Go.icmpNo C d21_10 (q := 13) rfl (XT.ii_gt_f (by decide)) ?_
  refine Go.getS C (host := "") (Or.inl (wd hw 53 rfl)) Via.refl S_cache d21_13 rfl ?_
  refine Go.iloadN C d21_16 rfl rfl ?_
  refine Go.sipush C d21_17 rfl (v := (128 : Int32)) (by decide) ?_
  refine Go.iadd C d21_20 rfl ?_
  refine Go.castI (w := (132 : Int32)) (by decide) ?_
  refine Go.aaload C (fun _ r => (A_cache).ext r.1) rfl (by decide) (v := (.ref b)) hb d21_21 (q := 22) rfl ?_
  refine Go.retA C rfl rfl rfl d21_22 (by decide) (by decide) ?_
  exact ⟨rfl, rfl⟩
theorem own_seg (l : Launch) (Z : State) (a0 : Array Value) (hw : ∀ d ∈ tables_1, d.before a0 Z = true) (ka kb kc kd ke : Int64) (m0 nn pv la : Int32) (cb : Addr) (cs : List Value) (b0 b1 b2 b3 b4 : Addr) (q pk0 pp0 : Addr) (f : Nat → Int32) {t : Nat} {L : List Nat} {Mq0 : List Ent} (S_high : Sta Z Z.heap "java/lang/Integer$IntegerCache" "high" "I" (.int (127 : Int32))) (S_cache : Sta Z Z.heap "java/lang/Integer$IntegerCache" "cache" "[Ljava/lang/Integer;" (.ref cb)) (A_cache : ArrIs Z Z.heap cb (.object "java/lang/Integer") cs) (hE0 : Exa Z Z.heap b0 "java/lang/Integer") (hE1 : Exa Z Z.heap b1 "java/lang/Integer") (hE2 : Exa Z Z.heap b2 "java/lang/Integer") (hE3 : Exa Z Z.heap b3 "java/lang/Integer") (hE4 : Exa Z Z.heap b4 "java/lang/Integer") (hF0 : Fld Z Z.heap b0 "java/lang/Integer" "value" "I" (.int (0 : Int32))) (hF1 : Fld Z Z.heap b1 "java/lang/Integer" "value" "I" (.int (1 : Int32))) (hF2 : Fld Z Z.heap b2 "java/lang/Integer" "value" "I" (.int (2 : Int32))) (hF3 : Fld Z Z.heap b3 "java/lang/Integer" "value" "I" (.int (3 : Int32))) (hF4 : Fld Z Z.heap b4 "java/lang/Integer" "value" "I" (.int (4 : Int32))) (hb0 : cs[128]? = some (.ref b0)) (hb1 : cs[129]? = some (.ref b1)) (hb2 : cs[130]? = some (.ref b2)) (hb3 : cs[131]? = some (.ref b3)) (hb4 : cs[132]? = some (.ref b4)) (ht4 : t ≤ 4) (htl : t = L.length) (hP : pv = 0 ∨ (pv = 1 ∧ 1 ≤ L.length) ∨ (pv = 2 ∧ 2 ≤ L.length)) (hI : own_I f L) (h4 : ¬ 4 ∈ L) (hQ0 : QS (own_F ka kb kc kd ke) (own_F b0 b1 b2 b3 b4) q t L Mq0) {E : E0} (C : Cx Z x code maxLocals ret E) :
    Go l Z room_1 E (fun v _ => v = some (.int 1)) (nA pk0 ka kb kc kd ke :: nB pp0 (f 0) (f 1) (f 2) (f 3) (f 4) :: Mq0) 9 278 187 #[.val (.long ka), .second, .val (.long kb), .second, .val (.long kc), .second, .val (.long kd), .second, .val (.long ke), .second, .val (.int m0), .val (.ref pk0), .val (.ref pp0), .val (.int nn), .val (.int pv), .val (.int la), .val (.ref q), .val (.int (1 : Int32))] [] := by
  rcases hP with rfl | ⟨rfl, hl⟩ | ⟨rfl, hl⟩
  · refine Go.iload C at_187 rfl rfl ?_
    refine Go.iconst C at_189 rfl (v := (1 : Int32)) rfl ?_
    refine Go.icmpYes C at_190 (by decide) (q := 217) rfl (XT.ii_lt_t (by decide)) ?_
    refine Go.iload C at_217 rfl rfl ?_
    refine Go.iconst C at_219 rfl (v := (2 : Int32)) rfl ?_
    refine Go.icmpYes C at_220 (by decide) (q := 247) rfl (XT.ii_lt_t (by decide)) ?_
    refine Go.iload C at_247 rfl rfl ?_
    refine Go.ifc C at_249 (by decide) (q := 268) rfl (q' := 252) rfl (fun (h249_1 : la = 0) => ?_) (fun (h249_1 : ¬ la = 0) => ?_)
    · refine Go.iload C at_268 rfl rfl ?_
      refine Go.ifNo C at_270 (q := 273) rfl (XT.i0_eq_f (by decide)) ?_
      refine Go.aload C at_273 rfl rfl rfl ?_
      refine Go.perm (own_pc _ _ _) ?_
      refine Go.callV C (y := yN16) (z := yN16) (a := q) (as := []) (rest := []) (wd hw 95 rfl) (wd hw 96 rfl) (nf_sel (z := yN16) (wd hw 98 rfl)) (wd hw 98 rfl) (wd hw 97 rfl) (wd hw 99 rfl) (wd hw 9 rfl) (fun _ r => QS.exa hQ0 r) (own_fk l Z a0 hw _ (own_F ka kb kc kd ke) (own_F b0 b1 b2 b3 b4) (own_hE hE0 hE1 hE2 hE3 hE4) q 0 (own_t9 ht4) hQ0) rfl at_275 (q := 278) rfl (by decide) rfl (na := 0) (by decide +kernel) rfl (by decide) (W := 0) rfl (by decide) (by decide) (by decide) (k' := 9) (n' := 278) rfl rfl ?_
      rintro _ _ ⟨rfl, rfl⟩
      refine Go.perm (own_pd _ _ _) ?_
      show Go _ _ _ _ _ _ _ _ _ _ [(.long (own_kmin (own_F ka kb kc kd ke) L))]
      refine Go.aload C at_278 rfl rfl rfl ?_
      refine Go.aload C at_280 rfl rfl rfl ?_
      refine Go.callS C (y := yN17) (as := [(.ref pk0), (.ref pp0)]) (rest := [(.long (own_kmin (own_F ka kb kc kd ke) L))]) (wd hw 109 rfl) (wd hw 110 rfl) (wd hw 111 rfl) (wd hw 112 rfl) (m_minPresent l Z a0 hw _ pk0 pp0 ka kb kc kd ke (f 0) (f 1) (f 2) (f 3) (f 4)) rfl at_282 (q := 285) rfl (by decide) rfl (na := 2) (by decide +kernel) rfl (by decide) (W := 2) rfl (by decide) (by decide) (by decide) (k' := 9) (n' := 278) rfl rfl ?_
      rintro _ _ ⟨rfl, rfl⟩
      show Go _ _ _ _ _ _ _ _ _ _ [(.long (own_st (f 4) (own_st (f 3) (own_st (f 2) (own_st (f 1) (own_st (f 0) (9223372036854775807 : Int64) ka) kb) kc) kd) ke)), (.long (own_kmin (own_F ka kb kc kd ke) L))]
      refine Go.lcmp C at_285 rfl ?_
      refine Go.ifNo C at_286 (q := 289) rfl (XT.ll_ne_f (own_mpk hI)) ?_
      refine Go.iconst C at_289 rfl (v := (1 : Int32)) rfl ?_
      refine Go.goto C at_290 (by decide) (q := 294) rfl ?_
      refine Go.retZ C rfl (by decide) at_294 (by decide) (by decide) ?_
      exact rfl
    · refine Go.aload C at_252 rfl rfl rfl ?_
      refine Go.lload C at_254 rfl rfl ?_
      refine Go.iconst C at_256 rfl (v := (4 : Int32)) rfl ?_
      refine Go.callS C (y := yN25) (as := [(.int (4 : Int32))]) (rest := [(.long ke), (.ref q)]) (wd hw 47 rfl) (wd hw 48 rfl) (wd hw 49 rfl) (wd hw 50 rfl) (m_valueOf4 l Z a0 hw _ cb cs b4 S_high S_cache A_cache hb4) rfl at_257 (q := 260) rfl (by decide) rfl (na := 1) (by decide +kernel) rfl (by decide) (W := 3) rfl (by decide) (by decide) (by decide) (k' := 9) (n' := 278) rfl rfl ?_
      rintro _ _ ⟨rfl, rfl⟩
      show Go _ _ _ _ _ _ _ _ _ _ [(.ref b4), (.long ke), (.ref q)]
      refine Go.perm (own_pc _ _ _) ?_
      refine Go.callV C (y := yN14) (z := yN14) (a := q) (as := [(.long ke), (.ref b4)]) (rest := []) (wd hw 54 rfl) (wd hw 55 rfl) (nf_sel (z := yN14) (wd hw 57 rfl)) (wd hw 57 rfl) (wd hw 56 rfl) (wd hw 58 rfl) (wd hw 9 rfl) (fun _ r => QS.exa hQ0 r) (own_addC l Z a0 hw _ (own_F ka kb kc kd ke) (own_F b0 b1 b2 b3 b4) (own_hE hE0 hE1 hE2 hE3 hE4) q 4 (own_t7 ht4) hQ0) rfl at_260 (q := 263) rfl (by decide) rfl (na := 2) (by decide +kernel) rfl (by decide) (W := 0) rfl (by decide) (by decide) (by decide) (k' := 9) (n' := 278) rfl rfl ?_
      rintro _ _ ⟨rfl, Mq1001, ⟨tt1003, htt1004, hQ1002⟩, rfl⟩
      refine Go.perm (own_pd _ _ _) ?_
      show Go _ _ _ _ _ _ _ _ _ _ []
      refine Go.aload C at_263 rfl rfl rfl ?_
      refine Go.iconst C at_265 rfl (v := (4 : Int32)) rfl ?_
      refine Go.iconst C at_266 rfl (v := (1 : Int32)) rfl ?_
      refine Go.zastore C (i := 1) rfl (by decide) (show (4 : Int32).toNatClampNeg < 5 from by decide) (w' := (.int (1 : Int32))) rfl at_267 (q := 268) rfl (M' := (nA pk0 ka kb kc kd ke :: nB pp0 (f 0) (f 1) (f 2) (f 3) 1 :: Mq1001)) rfl ?_
      refine Go.iload C at_268 rfl rfl ?_
      refine Go.ifNo C at_270 (q := 273) rfl (XT.i0_eq_f (by decide)) ?_
      refine Go.aload C at_273 rfl rfl rfl ?_
      refine Go.perm (own_pc _ _ _) ?_
      refine Go.callV C (y := yN16) (z := yN16) (a := q) (as := []) (rest := []) (wd hw 95 rfl) (wd hw 96 rfl) (nf_sel (z := yN16) (wd hw 98 rfl)) (wd hw 98 rfl) (wd hw 97 rfl) (wd hw 99 rfl) (wd hw 9 rfl) (fun _ r => QS.exa hQ1002 r) (own_fk l Z a0 hw _ (own_F ka kb kc kd ke) (own_F b0 b1 b2 b3 b4) (own_hE hE0 hE1 hE2 hE3 hE4) q 0 htt1004 hQ1002) rfl at_275 (q := 278) rfl (by decide) rfl (na := 0) (by decide +kernel) rfl (by decide) (W := 0) rfl (by decide) (by decide) (by decide) (k' := 9) (n' := 278) rfl rfl ?_
      rintro _ _ ⟨rfl, rfl⟩
      refine Go.perm (own_pd _ _ _) ?_
      show Go _ _ _ _ _ _ _ _ _ _ [(.long (own_kmin (own_F ka kb kc kd ke) (4 :: L)))]
      refine Go.aload C at_278 rfl rfl rfl ?_
      refine Go.aload C at_280 rfl rfl rfl ?_
      refine Go.callS C (y := yN17) (as := [(.ref pk0), (.ref pp0)]) (rest := [(.long (own_kmin (own_F ka kb kc kd ke) (4 :: L)))]) (wd hw 109 rfl) (wd hw 110 rfl) (wd hw 111 rfl) (wd hw 112 rfl) (m_minPresent l Z a0 hw _ pk0 pp0 ka kb kc kd ke (f 0) (f 1) (f 2) (f 3) (1 : Int32)) rfl at_282 (q := 285) rfl (by decide) rfl (na := 2) (by decide +kernel) rfl (by decide) (W := 2) rfl (by decide) (by decide) (by decide) (k' := 9) (n' := 278) rfl rfl ?_
      rintro _ _ ⟨rfl, rfl⟩
      show Go _ _ _ _ _ _ _ _ _ _ [(.long (own_st (1 : Int32) (own_st (f 3) (own_st (f 2) (own_st (f 1) (own_st (f 0) (9223372036854775807 : Int64) ka) kb) kc) kd) ke)), (.long (own_kmin (own_F ka kb kc kd ke) (4 :: L)))]
      refine Go.lcmp C at_285 rfl ?_
      refine Go.ifNo C at_286 (q := 289) rfl (XT.ll_ne_f (own_mpk (own_Iadd hI h4))) ?_
      refine Go.iconst C at_289 rfl (v := (1 : Int32)) rfl ?_
      refine Go.goto C at_290 (by decide) (q := 294) rfl ?_
      refine Go.retZ C rfl (by decide) at_294 (by decide) (by decide) ?_
      exact rfl
  · refine Go.iload C at_187 rfl rfl ?_
    refine Go.iconst C at_189 rfl (v := (1 : Int32)) rfl ?_
    refine Go.icmpNo C at_190 (q := 193) rfl (XT.ii_lt_f (by decide)) ?_
    refine Go.iload C at_193 rfl rfl ?_
    refine Go.ifNo C at_195 (q := 198) rfl (XT.i0_eq_f (by decide)) ?_
    refine Go.aload C at_198 rfl rfl rfl ?_
    refine Go.aload C at_200 rfl rfl rfl ?_
    refine Go.aload C at_202 rfl rfl rfl ?_
    refine Go.callS C (y := yN19) (as := [(.ref q), (.ref pk0), (.ref pp0)]) (rest := []) (wd hw 131 rfl) (wd hw 132 rfl) (wd hw 111 rfl) (wd hw 133 rfl) (m_stepA l Z a0 hw q pk0 pp0 ka kb kc kd ke b0 b1 b2 b3 b4 (f) hE0 hE1 hE2 hE3 hE4 hF0 hF1 hF2 hF3 hF4 (own_t14 htl ht4 hl) (own_ne1 hl) hI hQ0) rfl at_204 (q := 207) rfl (by decide) rfl (na := 3) (by decide +kernel) rfl (by decide) (W := 0) rfl (by decide) (by decide) (by decide) (k' := 9) (n' := 278) rfl rfl ?_
    rintro _ _ ⟨si1005, Mq1006, hm1007, hQ1008, rfl, rfl⟩
    show Go _ _ _ _ _ _ _ _ _ _ [(.int (1 : Int32))]
    refine Go.ifNo C at_207 (q := 210) rfl (XT.i0_eq_f (by decide)) ?_
    refine Go.iconst C at_210 rfl (v := (1 : Int32)) rfl ?_
    refine Go.goto C at_211 (by decide) (q := 215) rfl ?_
    refine Go.istore C at_215 rfl (Ls' := #[.val (.long ka), .second, .val (.long kb), .second, .val (.long kc), .second, .val (.long kd), .second, .val (.long ke), .second, .val (.int m0), .val (.ref pk0), .val (.ref pp0), .val (.int nn), .val (.int (1 : Int32)), .val (.int la), .val (.ref q), .val (.int (1 : Int32))]) rfl ?_
    refine Go.iload C at_217 rfl rfl ?_
    refine Go.iconst C at_219 rfl (v := (2 : Int32)) rfl ?_
    refine Go.icmpYes C at_220 (by decide) (q := 247) rfl (XT.ii_lt_t (by decide)) ?_
    refine Go.iload C at_247 rfl rfl ?_
    refine Go.ifc C at_249 (by decide) (q := 268) rfl (q' := 252) rfl (fun (h249_2 : la = 0) => ?_) (fun (h249_2 : ¬ la = 0) => ?_)
    · refine Go.iload C at_268 rfl rfl ?_
      refine Go.ifNo C at_270 (q := 273) rfl (XT.i0_eq_f (by decide)) ?_
      refine Go.aload C at_273 rfl rfl rfl ?_
      refine Go.perm (own_pc _ _ _) ?_
      refine Go.callV C (y := yN16) (z := yN16) (a := q) (as := []) (rest := []) (wd hw 95 rfl) (wd hw 96 rfl) (nf_sel (z := yN16) (wd hw 98 rfl)) (wd hw 98 rfl) (wd hw 97 rfl) (wd hw 99 rfl) (wd hw 9 rfl) (fun _ r => QS.exa hQ1008 r) (own_fk l Z a0 hw _ (own_F ka kb kc kd ke) (own_F b0 b1 b2 b3 b4) (own_hE hE0 hE1 hE2 hE3 hE4) q 0 (by decide) hQ1008) rfl at_275 (q := 278) rfl (by decide) rfl (na := 0) (by decide +kernel) rfl (by decide) (W := 0) rfl (by decide) (by decide) (by decide) (k' := 9) (n' := 278) rfl rfl ?_
      rintro _ _ ⟨rfl, rfl⟩
      refine Go.perm (own_pd _ _ _) ?_
      show Go _ _ _ _ _ _ _ _ _ _ [(.long (own_kmin (own_F ka kb kc kd ke) (L.erase si1005)))]
      refine Go.aload C at_278 rfl rfl rfl ?_
      refine Go.aload C at_280 rfl rfl rfl ?_
      refine Go.callS C (y := yN17) (as := [(.ref pk0), (.ref pp0)]) (rest := [(.long (own_kmin (own_F ka kb kc kd ke) (L.erase si1005)))]) (wd hw 109 rfl) (wd hw 110 rfl) (wd hw 111 rfl) (wd hw 112 rfl) (m_minPresent l Z a0 hw _ pk0 pp0 ka kb kc kd ke (own_w (f) si1005 0 0) (own_w (f) si1005 0 1) (own_w (f) si1005 0 2) (own_w (f) si1005 0 3) (own_w (f) si1005 0 4)) rfl at_282 (q := 285) rfl (by decide) rfl (na := 2) (by decide +kernel) rfl (by decide) (W := 2) rfl (by decide) (by decide) (by decide) (k' := 9) (n' := 278) rfl rfl ?_
      rintro _ _ ⟨rfl, rfl⟩
      show Go _ _ _ _ _ _ _ _ _ _ [(.long (own_st (own_w (f) si1005 0 4) (own_st (own_w (f) si1005 0 3) (own_st (own_w (f) si1005 0 2) (own_st (own_w (f) si1005 0 1) (own_st (own_w (f) si1005 0 0) (9223372036854775807 : Int64) ka) kb) kc) kd) ke)), (.long (own_kmin (own_F ka kb kc kd ke) (L.erase si1005)))]
      refine Go.lcmp C at_285 rfl ?_
      refine Go.ifNo C at_286 (q := 289) rfl (XT.ll_ne_f (own_mpk (own_Idel hI hm1007))) ?_
      refine Go.iconst C at_289 rfl (v := (1 : Int32)) rfl ?_
      refine Go.goto C at_290 (by decide) (q := 294) rfl ?_
      refine Go.retZ C rfl (by decide) at_294 (by decide) (by decide) ?_
      exact rfl
    · refine Go.aload C at_252 rfl rfl rfl ?_
      refine Go.lload C at_254 rfl rfl ?_
      refine Go.iconst C at_256 rfl (v := (4 : Int32)) rfl ?_
      refine Go.callS C (y := yN25) (as := [(.int (4 : Int32))]) (rest := [(.long ke), (.ref q)]) (wd hw 47 rfl) (wd hw 48 rfl) (wd hw 49 rfl) (wd hw 50 rfl) (m_valueOf4 l Z a0 hw _ cb cs b4 S_high S_cache A_cache hb4) rfl at_257 (q := 260) rfl (by decide) rfl (na := 1) (by decide +kernel) rfl (by decide) (W := 3) rfl (by decide) (by decide) (by decide) (k' := 9) (n' := 278) rfl rfl ?_
      rintro _ _ ⟨rfl, rfl⟩
      show Go _ _ _ _ _ _ _ _ _ _ [(.ref b4), (.long ke), (.ref q)]
      refine Go.perm (own_pc _ _ _) ?_
      refine Go.callV C (y := yN14) (z := yN14) (a := q) (as := [(.long ke), (.ref b4)]) (rest := []) (wd hw 54 rfl) (wd hw 55 rfl) (nf_sel (z := yN14) (wd hw 57 rfl)) (wd hw 57 rfl) (wd hw 56 rfl) (wd hw 58 rfl) (wd hw 9 rfl) (fun _ r => QS.exa hQ1008 r) (own_addC l Z a0 hw _ (own_F ka kb kc kd ke) (own_F b0 b1 b2 b3 b4) (own_hE hE0 hE1 hE2 hE3 hE4) q 4 (by decide) hQ1008) rfl at_260 (q := 263) rfl (by decide) rfl (na := 2) (by decide +kernel) rfl (by decide) (W := 0) rfl (by decide) (by decide) (by decide) (k' := 9) (n' := 278) rfl rfl ?_
      rintro _ _ ⟨rfl, Mq1009, ⟨tt1011, htt1012, hQ1010⟩, rfl⟩
      refine Go.perm (own_pd _ _ _) ?_
      show Go _ _ _ _ _ _ _ _ _ _ []
      refine Go.aload C at_263 rfl rfl rfl ?_
      refine Go.iconst C at_265 rfl (v := (4 : Int32)) rfl ?_
      refine Go.iconst C at_266 rfl (v := (1 : Int32)) rfl ?_
      refine Go.zastore C (i := 1) rfl (by decide) (show (4 : Int32).toNatClampNeg < 5 from by decide) (w' := (.int (1 : Int32))) rfl at_267 (q := 268) rfl (M' := (nA pk0 ka kb kc kd ke :: nB pp0 (own_w (f) si1005 0 0) (own_w (f) si1005 0 1) (own_w (f) si1005 0 2) (own_w (f) si1005 0 3) 1 :: Mq1009)) rfl ?_
      refine Go.iload C at_268 rfl rfl ?_
      refine Go.ifNo C at_270 (q := 273) rfl (XT.i0_eq_f (by decide)) ?_
      refine Go.aload C at_273 rfl rfl rfl ?_
      refine Go.perm (own_pc _ _ _) ?_
      refine Go.callV C (y := yN16) (z := yN16) (a := q) (as := []) (rest := []) (wd hw 95 rfl) (wd hw 96 rfl) (nf_sel (z := yN16) (wd hw 98 rfl)) (wd hw 98 rfl) (wd hw 97 rfl) (wd hw 99 rfl) (wd hw 9 rfl) (fun _ r => QS.exa hQ1010 r) (own_fk l Z a0 hw _ (own_F ka kb kc kd ke) (own_F b0 b1 b2 b3 b4) (own_hE hE0 hE1 hE2 hE3 hE4) q 0 htt1012 hQ1010) rfl at_275 (q := 278) rfl (by decide) rfl (na := 0) (by decide +kernel) rfl (by decide) (W := 0) rfl (by decide) (by decide) (by decide) (k' := 9) (n' := 278) rfl rfl ?_
      rintro _ _ ⟨rfl, rfl⟩
      refine Go.perm (own_pd _ _ _) ?_
      show Go _ _ _ _ _ _ _ _ _ _ [(.long (own_kmin (own_F ka kb kc kd ke) (4 :: (L.erase si1005))))]
      refine Go.aload C at_278 rfl rfl rfl ?_
      refine Go.aload C at_280 rfl rfl rfl ?_
      refine Go.callS C (y := yN17) (as := [(.ref pk0), (.ref pp0)]) (rest := [(.long (own_kmin (own_F ka kb kc kd ke) (4 :: (L.erase si1005))))]) (wd hw 109 rfl) (wd hw 110 rfl) (wd hw 111 rfl) (wd hw 112 rfl) (m_minPresent l Z a0 hw _ pk0 pp0 ka kb kc kd ke (own_w (f) si1005 0 0) (own_w (f) si1005 0 1) (own_w (f) si1005 0 2) (own_w (f) si1005 0 3) (1 : Int32)) rfl at_282 (q := 285) rfl (by decide) rfl (na := 2) (by decide +kernel) rfl (by decide) (W := 2) rfl (by decide) (by decide) (by decide) (k' := 9) (n' := 278) rfl rfl ?_
      rintro _ _ ⟨rfl, rfl⟩
      show Go _ _ _ _ _ _ _ _ _ _ [(.long (own_st (1 : Int32) (own_st (own_w (f) si1005 0 3) (own_st (own_w (f) si1005 0 2) (own_st (own_w (f) si1005 0 1) (own_st (own_w (f) si1005 0 0) (9223372036854775807 : Int64) ka) kb) kc) kd) ke)), (.long (own_kmin (own_F ka kb kc kd ke) (4 :: (L.erase si1005))))]
      refine Go.lcmp C at_285 rfl ?_
      refine Go.ifNo C at_286 (q := 289) rfl (XT.ll_ne_f (own_mpk (own_Iadd (own_Idel hI hm1007) (fun z => h4 (List.mem_of_mem_erase z))))) ?_
      refine Go.iconst C at_289 rfl (v := (1 : Int32)) rfl ?_
      refine Go.goto C at_290 (by decide) (q := 294) rfl ?_
      refine Go.retZ C rfl (by decide) at_294 (by decide) (by decide) ?_
      exact rfl
  · refine Go.iload C at_187 rfl rfl ?_
    refine Go.iconst C at_189 rfl (v := (1 : Int32)) rfl ?_
    refine Go.icmpNo C at_190 (q := 193) rfl (XT.ii_lt_f (by decide)) ?_
    refine Go.iload C at_193 rfl rfl ?_
    refine Go.ifNo C at_195 (q := 198) rfl (XT.i0_eq_f (by decide)) ?_
    refine Go.aload C at_198 rfl rfl rfl ?_
    refine Go.aload C at_200 rfl rfl rfl ?_
    refine Go.aload C at_202 rfl rfl rfl ?_
    refine Go.callS C (y := yN19) (as := [(.ref q), (.ref pk0), (.ref pp0)]) (rest := []) (wd hw 131 rfl) (wd hw 132 rfl) (wd hw 111 rfl) (wd hw 133 rfl) (m_stepA l Z a0 hw q pk0 pp0 ka kb kc kd ke b0 b1 b2 b3 b4 (f) hE0 hE1 hE2 hE3 hE4 hF0 hF1 hF2 hF3 hF4 (own_t14 htl ht4 (Nat.le_of_succ_le hl)) (own_ne1 (Nat.le_of_succ_le hl)) hI hQ0) rfl at_204 (q := 207) rfl (by decide) rfl (na := 3) (by decide +kernel) rfl (by decide) (W := 0) rfl (by decide) (by decide) (by decide) (k' := 9) (n' := 278) rfl rfl ?_
    rintro _ _ ⟨si1013, Mq1014, hm1015, hQ1016, rfl, rfl⟩
    show Go _ _ _ _ _ _ _ _ _ _ [(.int (1 : Int32))]
    refine Go.ifNo C at_207 (q := 210) rfl (XT.i0_eq_f (by decide)) ?_
    refine Go.iconst C at_210 rfl (v := (1 : Int32)) rfl ?_
    refine Go.goto C at_211 (by decide) (q := 215) rfl ?_
    refine Go.istore C at_215 rfl (Ls' := #[.val (.long ka), .second, .val (.long kb), .second, .val (.long kc), .second, .val (.long kd), .second, .val (.long ke), .second, .val (.int m0), .val (.ref pk0), .val (.ref pp0), .val (.int nn), .val (.int (2 : Int32)), .val (.int la), .val (.ref q), .val (.int (1 : Int32))]) rfl ?_
    refine Go.iload C at_217 rfl rfl ?_
    refine Go.iconst C at_219 rfl (v := (2 : Int32)) rfl ?_
    refine Go.icmpNo C at_220 (q := 223) rfl (XT.ii_lt_f (by decide)) ?_
    refine Go.iload C at_223 rfl rfl ?_
    refine Go.ifNo C at_225 (q := 228) rfl (XT.i0_eq_f (by decide)) ?_
    refine Go.aload C at_228 rfl rfl rfl ?_
    refine Go.aload C at_230 rfl rfl rfl ?_
    refine Go.aload C at_232 rfl rfl rfl ?_
    refine Go.callS C (y := yN19) (as := [(.ref q), (.ref pk0), (.ref pp0)]) (rest := []) (wd hw 131 rfl) (wd hw 132 rfl) (wd hw 111 rfl) (wd hw 133 rfl) (m_stepB l Z a0 hw q pk0 pp0 ka kb kc kd ke b0 b1 b2 b3 b4 (own_w (f) si1013 0) hE0 hE1 hE2 hE3 hE4 hF0 hF1 hF2 hF3 hF4 (by decide) (own_ne2 hl hm1015) (own_Idel hI hm1015) hQ1016) rfl at_234 (q := 237) rfl (by decide) rfl (na := 3) (by decide +kernel) rfl (by decide) (W := 0) rfl (by decide) (by decide) (by decide) (k' := 9) (n' := 278) rfl rfl ?_
    rintro _ _ ⟨si1017, Mq1018, hm1019, hQ1020, rfl, rfl⟩
    show Go _ _ _ _ _ _ _ _ _ _ [(.int (1 : Int32))]
    refine Go.ifNo C at_237 (q := 240) rfl (XT.i0_eq_f (by decide)) ?_
    refine Go.iconst C at_240 rfl (v := (1 : Int32)) rfl ?_
    refine Go.goto C at_241 (by decide) (q := 245) rfl ?_
    refine Go.istore C at_245 rfl (Ls' := #[.val (.long ka), .second, .val (.long kb), .second, .val (.long kc), .second, .val (.long kd), .second, .val (.long ke), .second, .val (.int m0), .val (.ref pk0), .val (.ref pp0), .val (.int nn), .val (.int (2 : Int32)), .val (.int la), .val (.ref q), .val (.int (1 : Int32))]) rfl ?_
    refine Go.iload C at_247 rfl rfl ?_
    refine Go.ifc C at_249 (by decide) (q := 268) rfl (q' := 252) rfl (fun (h249_3 : la = 0) => ?_) (fun (h249_3 : ¬ la = 0) => ?_)
    · refine Go.iload C at_268 rfl rfl ?_
      refine Go.ifNo C at_270 (q := 273) rfl (XT.i0_eq_f (by decide)) ?_
      refine Go.aload C at_273 rfl rfl rfl ?_
      refine Go.perm (own_pc _ _ _) ?_
      refine Go.callV C (y := yN16) (z := yN16) (a := q) (as := []) (rest := []) (wd hw 95 rfl) (wd hw 96 rfl) (nf_sel (z := yN16) (wd hw 98 rfl)) (wd hw 98 rfl) (wd hw 97 rfl) (wd hw 99 rfl) (wd hw 9 rfl) (fun _ r => QS.exa hQ1020 r) (own_fk l Z a0 hw _ (own_F ka kb kc kd ke) (own_F b0 b1 b2 b3 b4) (own_hE hE0 hE1 hE2 hE3 hE4) q 0 (by decide) hQ1020) rfl at_275 (q := 278) rfl (by decide) rfl (na := 0) (by decide +kernel) rfl (by decide) (W := 0) rfl (by decide) (by decide) (by decide) (k' := 9) (n' := 278) rfl rfl ?_
      rintro _ _ ⟨rfl, rfl⟩
      refine Go.perm (own_pd _ _ _) ?_
      show Go _ _ _ _ _ _ _ _ _ _ [(.long (own_kmin (own_F ka kb kc kd ke) ((L.erase si1013).erase si1017)))]
      refine Go.aload C at_278 rfl rfl rfl ?_
      refine Go.aload C at_280 rfl rfl rfl ?_
      refine Go.callS C (y := yN17) (as := [(.ref pk0), (.ref pp0)]) (rest := [(.long (own_kmin (own_F ka kb kc kd ke) ((L.erase si1013).erase si1017)))]) (wd hw 109 rfl) (wd hw 110 rfl) (wd hw 111 rfl) (wd hw 112 rfl) (m_minPresent l Z a0 hw _ pk0 pp0 ka kb kc kd ke (own_w (own_w (f) si1013 0) si1017 0 0) (own_w (own_w (f) si1013 0) si1017 0 1) (own_w (own_w (f) si1013 0) si1017 0 2) (own_w (own_w (f) si1013 0) si1017 0 3) (own_w (own_w (f) si1013 0) si1017 0 4)) rfl at_282 (q := 285) rfl (by decide) rfl (na := 2) (by decide +kernel) rfl (by decide) (W := 2) rfl (by decide) (by decide) (by decide) (k' := 9) (n' := 278) rfl rfl ?_
      rintro _ _ ⟨rfl, rfl⟩
      show Go _ _ _ _ _ _ _ _ _ _ [(.long (own_st (own_w (own_w (f) si1013 0) si1017 0 4) (own_st (own_w (own_w (f) si1013 0) si1017 0 3) (own_st (own_w (own_w (f) si1013 0) si1017 0 2) (own_st (own_w (own_w (f) si1013 0) si1017 0 1) (own_st (own_w (own_w (f) si1013 0) si1017 0 0) (9223372036854775807 : Int64) ka) kb) kc) kd) ke)), (.long (own_kmin (own_F ka kb kc kd ke) ((L.erase si1013).erase si1017)))]
      refine Go.lcmp C at_285 rfl ?_
      refine Go.ifNo C at_286 (q := 289) rfl (XT.ll_ne_f (own_mpk (own_Idel (own_Idel hI hm1015) hm1019))) ?_
      refine Go.iconst C at_289 rfl (v := (1 : Int32)) rfl ?_
      refine Go.goto C at_290 (by decide) (q := 294) rfl ?_
      refine Go.retZ C rfl (by decide) at_294 (by decide) (by decide) ?_
      exact rfl
    · refine Go.aload C at_252 rfl rfl rfl ?_
      refine Go.lload C at_254 rfl rfl ?_
      refine Go.iconst C at_256 rfl (v := (4 : Int32)) rfl ?_
      refine Go.callS C (y := yN25) (as := [(.int (4 : Int32))]) (rest := [(.long ke), (.ref q)]) (wd hw 47 rfl) (wd hw 48 rfl) (wd hw 49 rfl) (wd hw 50 rfl) (m_valueOf4 l Z a0 hw _ cb cs b4 S_high S_cache A_cache hb4) rfl at_257 (q := 260) rfl (by decide) rfl (na := 1) (by decide +kernel) rfl (by decide) (W := 3) rfl (by decide) (by decide) (by decide) (k' := 9) (n' := 278) rfl rfl ?_
      rintro _ _ ⟨rfl, rfl⟩
      show Go _ _ _ _ _ _ _ _ _ _ [(.ref b4), (.long ke), (.ref q)]
      refine Go.perm (own_pc _ _ _) ?_
      refine Go.callV C (y := yN14) (z := yN14) (a := q) (as := [(.long ke), (.ref b4)]) (rest := []) (wd hw 54 rfl) (wd hw 55 rfl) (nf_sel (z := yN14) (wd hw 57 rfl)) (wd hw 57 rfl) (wd hw 56 rfl) (wd hw 58 rfl) (wd hw 9 rfl) (fun _ r => QS.exa hQ1020 r) (own_addC l Z a0 hw _ (own_F ka kb kc kd ke) (own_F b0 b1 b2 b3 b4) (own_hE hE0 hE1 hE2 hE3 hE4) q 4 (by decide) hQ1020) rfl at_260 (q := 263) rfl (by decide) rfl (na := 2) (by decide +kernel) rfl (by decide) (W := 0) rfl (by decide) (by decide) (by decide) (k' := 9) (n' := 278) rfl rfl ?_
      rintro _ _ ⟨rfl, Mq1021, ⟨tt1023, htt1024, hQ1022⟩, rfl⟩
      refine Go.perm (own_pd _ _ _) ?_
      show Go _ _ _ _ _ _ _ _ _ _ []
      refine Go.aload C at_263 rfl rfl rfl ?_
      refine Go.iconst C at_265 rfl (v := (4 : Int32)) rfl ?_
      refine Go.iconst C at_266 rfl (v := (1 : Int32)) rfl ?_
      refine Go.zastore C (i := 1) rfl (by decide) (show (4 : Int32).toNatClampNeg < 5 from by decide) (w' := (.int (1 : Int32))) rfl at_267 (q := 268) rfl (M' := (nA pk0 ka kb kc kd ke :: nB pp0 (own_w (own_w (f) si1013 0) si1017 0 0) (own_w (own_w (f) si1013 0) si1017 0 1) (own_w (own_w (f) si1013 0) si1017 0 2) (own_w (own_w (f) si1013 0) si1017 0 3) 1 :: Mq1021)) rfl ?_
      refine Go.iload C at_268 rfl rfl ?_
      refine Go.ifNo C at_270 (q := 273) rfl (XT.i0_eq_f (by decide)) ?_
      refine Go.aload C at_273 rfl rfl rfl ?_
      refine Go.perm (own_pc _ _ _) ?_
      refine Go.callV C (y := yN16) (z := yN16) (a := q) (as := []) (rest := []) (wd hw 95 rfl) (wd hw 96 rfl) (nf_sel (z := yN16) (wd hw 98 rfl)) (wd hw 98 rfl) (wd hw 97 rfl) (wd hw 99 rfl) (wd hw 9 rfl) (fun _ r => QS.exa hQ1022 r) (own_fk l Z a0 hw _ (own_F ka kb kc kd ke) (own_F b0 b1 b2 b3 b4) (own_hE hE0 hE1 hE2 hE3 hE4) q 0 htt1024 hQ1022) rfl at_275 (q := 278) rfl (by decide) rfl (na := 0) (by decide +kernel) rfl (by decide) (W := 0) rfl (by decide) (by decide) (by decide) (k' := 9) (n' := 278) rfl rfl ?_
      rintro _ _ ⟨rfl, rfl⟩
      refine Go.perm (own_pd _ _ _) ?_
      show Go _ _ _ _ _ _ _ _ _ _ [(.long (own_kmin (own_F ka kb kc kd ke) (4 :: ((L.erase si1013).erase si1017))))]
      refine Go.aload C at_278 rfl rfl rfl ?_
      refine Go.aload C at_280 rfl rfl rfl ?_
      refine Go.callS C (y := yN17) (as := [(.ref pk0), (.ref pp0)]) (rest := [(.long (own_kmin (own_F ka kb kc kd ke) (4 :: ((L.erase si1013).erase si1017))))]) (wd hw 109 rfl) (wd hw 110 rfl) (wd hw 111 rfl) (wd hw 112 rfl) (m_minPresent l Z a0 hw _ pk0 pp0 ka kb kc kd ke (own_w (own_w (f) si1013 0) si1017 0 0) (own_w (own_w (f) si1013 0) si1017 0 1) (own_w (own_w (f) si1013 0) si1017 0 2) (own_w (own_w (f) si1013 0) si1017 0 3) (1 : Int32)) rfl at_282 (q := 285) rfl (by decide) rfl (na := 2) (by decide +kernel) rfl (by decide) (W := 2) rfl (by decide) (by decide) (by decide) (k' := 9) (n' := 278) rfl rfl ?_
      rintro _ _ ⟨rfl, rfl⟩
      show Go _ _ _ _ _ _ _ _ _ _ [(.long (own_st (1 : Int32) (own_st (own_w (own_w (f) si1013 0) si1017 0 3) (own_st (own_w (own_w (f) si1013 0) si1017 0 2) (own_st (own_w (own_w (f) si1013 0) si1017 0 1) (own_st (own_w (own_w (f) si1013 0) si1017 0 0) (9223372036854775807 : Int64) ka) kb) kc) kd) ke)), (.long (own_kmin (own_F ka kb kc kd ke) (4 :: ((L.erase si1013).erase si1017))))]
      refine Go.lcmp C at_285 rfl ?_
      refine Go.ifNo C at_286 (q := 289) rfl (XT.ll_ne_f (own_mpk (own_Iadd (own_Idel (own_Idel hI hm1015) hm1019) (fun z => (fun z => h4 (List.mem_of_mem_erase z)) (List.mem_of_mem_erase z))))) ?_
      refine Go.iconst C at_289 rfl (v := (1 : Int32)) rfl ?_
      refine Go.goto C at_290 (by decide) (q := 294) rfl ?_
      refine Go.retZ C rfl (by decide) at_294 (by decide) (by decide) ?_
      exact rfl
theorem m_valueOf0 (l : Launch) (Z : State) (a0 : Array Value) (hw : HW Z a0) (F : List Ent) (cb : Addr) (cs : List Value) (b : Addr) (S_high : Sta Z Z.heap "java/lang/Integer$IntegerCache" "high" "I" (.int (127 : Int32))) (S_cache : Sta Z Z.heap "java/lang/Integer$IntegerCache" "cache" "[Ljava/lang/Integer;" (.ref cb)) (A_cache : ArrIs Z Z.heap cb (.object "java/lang/Integer") cs) (hb : cs[128]? = some (.ref b)) :
    Met l Z yN25 jdk_33_method_22_code 1 (some (.object "java/lang/Integer")) { frames := 0, cells := 0, slots := 0, locals := 0 } #[(.int (0 : Int32))] (F) (fun r M' => r = some (.ref b) ∧ M' = F) := by
  refine Met.of_go pn_21 (Ls := #[.val (.int (0 : Int32))]) (fun m => rfl) ?_
  intro E C
  refine Go.iloadN C d21_0 rfl rfl ?_
  refine Go.bipush C d21_1 rfl (v := (-128 : Int32)) (by decide) ?_
  refine Go.icmpNo C d21_3 (q := 6) rfl (XT.ii_lt_f (by decide)) ?_
  refine Go.iloadN C d21_6 rfl rfl ?_
  refine Go.getS C (host := "") (Or.inl (wd hw 51 rfl)) Via.refl S_high d21_7 rfl ?_
  refine Go.icmpNo C d21_10 (q := 13) rfl (XT.ii_gt_f (by decide)) ?_
  refine Go.getS C (host := "") (Or.inl (wd hw 53 rfl)) Via.refl S_cache d21_13 rfl ?_
  refine Go.iloadN C d21_16 rfl rfl ?_
  refine Go.sipush C d21_17 rfl (v := (128 : Int32)) (by decide) ?_
  refine Go.iadd C d21_20 rfl ?_
  refine Go.castI (w := (128 : Int32)) (by decide) ?_
  refine Go.aaload C (fun _ r => (A_cache).ext r.1) rfl (by decide) (v := (.ref b)) hb d21_21 (q := 22) rfl ?_
  refine Go.retA C rfl rfl rfl d21_22 (by decide) (by decide) ?_
  exact ⟨rfl, rfl⟩
theorem m_valueOf1 (l : Launch) (Z : State) (a0 : Array Value) (hw : HW Z a0) (F : List Ent) (cb : Addr) (cs : List Value) (b : Addr) (S_high : Sta Z Z.heap "java/lang/Integer$IntegerCache" "high" "I" (.int (127 : Int32))) (S_cache : Sta Z Z.heap "java/lang/Integer$IntegerCache" "cache" "[Ljava/lang/Integer;" (.ref cb)) (A_cache : ArrIs Z Z.heap cb (.object "java/lang/Integer") cs) (hb : cs[129]? = some (.ref b)) :
    Met l Z yN25 jdk_33_method_22_code 1 (some (.object "java/lang/Integer")) { frames := 0, cells := 0, slots := 0, locals := 0 } #[(.int (1 : Int32))] (F) (fun r M' => r = some (.ref b) ∧ M' = F) := by
  refine Met.of_go pn_21 (Ls := #[.val (.int (1 : Int32))]) (fun m => rfl) ?_
  intro E C
  refine Go.iloadN C d21_0 rfl rfl ?_
  refine Go.bipush C d21_1 rfl (v := (-128 : Int32)) (by decide) ?_
  refine Go.icmpNo C d21_3 (q := 6) rfl (XT.ii_lt_f (by decide)) ?_
  refine Go.iloadN C d21_6 rfl rfl ?_
  refine Go.getS C (host := "") (Or.inl (wd hw 51 rfl)) Via.refl S_high d21_7 rfl ?_
  refine Go.icmpNo C d21_10 (q := 13) rfl (XT.ii_gt_f (by decide)) ?_
  refine Go.getS C (host := "") (Or.inl (wd hw 53 rfl)) Via.refl S_cache d21_13 rfl ?_
  refine Go.iloadN C d21_16 rfl rfl ?_
  refine Go.sipush C d21_17 rfl (v := (128 : Int32)) (by decide) ?_
  refine Go.iadd C d21_20 rfl ?_
  refine Go.castI (w := (129 : Int32)) (by decide) ?_
  refine Go.aaload C (fun _ r => (A_cache).ext r.1) rfl (by decide) (v := (.ref b)) hb d21_21 (q := 22) rfl ?_
  refine Go.retA C rfl rfl rfl d21_22 (by decide) (by decide) ?_
  exact ⟨rfl, rfl⟩
theorem m_valueOf2 (l : Launch) (Z : State) (a0 : Array Value) (hw : HW Z a0) (F : List Ent) (cb : Addr) (cs : List Value) (b : Addr) (S_high : Sta Z Z.heap "java/lang/Integer$IntegerCache" "high" "I" (.int (127 : Int32))) (S_cache : Sta Z Z.heap "java/lang/Integer$IntegerCache" "cache" "[Ljava/lang/Integer;" (.ref cb)) (A_cache : ArrIs Z Z.heap cb (.object "java/lang/Integer") cs) (hb : cs[130]? = some (.ref b)) :
    Met l Z yN25 jdk_33_method_22_code 1 (some (.object "java/lang/Integer")) { frames := 0, cells := 0, slots := 0, locals := 0 } #[(.int (2 : Int32))] (F) (fun r M' => r = some (.ref b) ∧ M' = F) := by
  refine Met.of_go pn_21 (Ls := #[.val (.int (2 : Int32))]) (fun m => rfl) ?_
  intro E C
  refine Go.iloadN C d21_0 rfl rfl ?_
  refine Go.bipush C d21_1 rfl (v := (-128 : Int32)) (by decide) ?_
  refine Go.icmpNo C d21_3 (q := 6) rfl (XT.ii_lt_f (by decide)) ?_
  refine Go.iloadN C d21_6 rfl rfl ?_
  refine Go.getS C (host := "") (Or.inl (wd hw 51 rfl)) Via.refl S_high d21_7 rfl ?_
  refine Go.icmpNo C d21_10 (q := 13) rfl (XT.ii_gt_f (by decide)) ?_
  refine Go.getS C (host := "") (Or.inl (wd hw 53 rfl)) Via.refl S_cache d21_13 rfl ?_
  refine Go.iloadN C d21_16 rfl rfl ?_
  refine Go.sipush C d21_17 rfl (v := (128 : Int32)) (by decide) ?_
  refine Go.iadd C d21_20 rfl ?_
  refine Go.castI (w := (130 : Int32)) (by decide) ?_
  refine Go.aaload C (fun _ r => (A_cache).ext r.1) rfl (by decide) (v := (.ref b)) hb d21_21 (q := 22) rfl ?_
  refine Go.retA C rfl rfl rfl d21_22 (by decide) (by decide) ?_
  exact ⟨rfl, rfl⟩
theorem m_valueOf3 (l : Launch) (Z : State) (a0 : Array Value) (hw : HW Z a0) (F : List Ent) (cb : Addr) (cs : List Value) (b : Addr) (S_high : Sta Z Z.heap "java/lang/Integer$IntegerCache" "high" "I" (.int (127 : Int32))) (S_cache : Sta Z Z.heap "java/lang/Integer$IntegerCache" "cache" "[Ljava/lang/Integer;" (.ref cb)) (A_cache : ArrIs Z Z.heap cb (.object "java/lang/Integer") cs) (hb : cs[131]? = some (.ref b)) :
    Met l Z yN25 jdk_33_method_22_code 1 (some (.object "java/lang/Integer")) { frames := 0, cells := 0, slots := 0, locals := 0 } #[(.int (3 : Int32))] (F) (fun r M' => r = some (.ref b) ∧ M' = F) := by
  refine Met.of_go pn_21 (Ls := #[.val (.int (3 : Int32))]) (fun m => rfl) ?_
  intro E C
  refine Go.iloadN C d21_0 rfl rfl ?_
  refine Go.bipush C d21_1 rfl (v := (-128 : Int32)) (by decide) ?_
  refine Go.icmpNo C d21_3 (q := 6) rfl (XT.ii_lt_f (by decide)) ?_
  refine Go.iloadN C d21_6 rfl rfl ?_
  refine Go.getS C (host := "") (Or.inl (wd hw 51 rfl)) Via.refl S_high d21_7 rfl ?_
  refine Go.icmpNo C d21_10 (q := 13) rfl (XT.ii_gt_f (by decide)) ?_
  refine Go.getS C (host := "") (Or.inl (wd hw 53 rfl)) Via.refl S_cache d21_13 rfl ?_
  refine Go.iloadN C d21_16 rfl rfl ?_
  refine Go.sipush C d21_17 rfl (v := (128 : Int32)) (by decide) ?_
  refine Go.iadd C d21_20 rfl ?_
  refine Go.castI (w := (131 : Int32)) (by decide) ?_
  refine Go.aaload C (fun _ r => (A_cache).ext r.1) rfl (by decide) (v := (.ref b)) hb d21_21 (q := 22) rfl ?_
  refine Go.retA C rfl rfl rfl d21_22 (by decide) (by decide) ?_
  exact ⟨rfl, rfl⟩
theorem pn_22 : plainFor x = true := by first | (apply plainFor_of_name; simp [plainName, overriddenIn]; done) | decide +kernel
theorem m_law (l : Launch) (Z : State) (a0 : Array Value) (hw : HW Z a0) (ka kb kc kd ke : Int64) (m0 : Int32) (cb : Addr) (cs : List Value) (b0 b1 b2 b3 b4 : Addr) (S_high : Sta Z Z.heap "java/lang/Integer$IntegerCache" "high" "I" (.int (127 : Int32))) (S_cache : Sta Z Z.heap "java/lang/Integer$IntegerCache" "cache" "[Ljava/lang/Integer;" (.ref cb)) (A_cache : ArrIs Z Z.heap cb (.object "java/lang/Integer") cs) (hE0 : Exa Z Z.heap b0 "java/lang/Integer") (hE1 : Exa Z Z.heap b1 "java/lang/Integer") (hE2 : Exa Z Z.heap b2 "java/lang/Integer") (hE3 : Exa Z Z.heap b3 "java/lang/Integer") (hE4 : Exa Z Z.heap b4 "java/lang/Integer") (hF0 : Fld Z Z.heap b0 "java/lang/Integer" "value" "I" (.int (0 : Int32))) (hF1 : Fld Z Z.heap b1 "java/lang/Integer" "value" "I" (.int (1 : Int32))) (hF2 : Fld Z Z.heap b2 "java/lang/Integer" "value" "I" (.int (2 : Int32))) (hF3 : Fld Z Z.heap b3 "java/lang/Integer" "value" "I" (.int (3 : Int32))) (hF4 : Fld Z Z.heap b4 "java/lang/Integer" "value" "I" (.int (4 : Int32))) (hb0 : cs[128]? = some (.ref b0)) (hb1 : cs[129]? = some (.ref b1)) (hb2 : cs[130]? = some (.ref b2)) (hb3 : cs[131]? = some (.ref b3)) (hb4 : cs[132]? = some (.ref b4)) :
    Met l Z x code maxLocals ret room_1 #[(.long ka), (.long kb), (.long kc), (.long kd), (.long ke), (.int m0)] ([]) (fun v _ => v = some (.int 1)) := by
  refine Met.of_go pn_22 (Ls := #[.val (.long ka), .second, .val (.long kb), .second, .val (.long kc), .second, .val (.long kd), .second, .val (.long ke), .second, .val (.int m0), .unset, .unset, .unset, .unset, .unset, .unset, .unset]) (fun m => by first | rfl | (simp [entryFrame, mkF, argsToLocals, Value.category, maxLocals]; done)) ?_
  intro E C
  refine Go.iconst C at_0 rfl (v := (5 : Int32)) rfl ?_
  refine Go.newarray C (ty := .long) (wd hw 0 rfl) rfl (by simp) (by decide) (cap := 5) (by decide) (by decide) (vs := [(.long (0 : Int64)), (.long (0 : Int64)), (.long (0 : Int64)), (.long (0 : Int64)), (.long (0 : Int64))]) rfl at_1 (q := 3) rfl (by decide) (by decide) (k' := 1) (n' := 5) rfl rfl (fun o120 => ?_)
  refine Go.astore C at_3 rfl rfl (Ls' := #[.val (.long ka), .second, .val (.long kb), .second, .val (.long kc), .second, .val (.long kd), .second, .val (.long ke), .second, .val (.int m0), .val (.ref o120), .unset, .unset, .unset, .unset, .unset, .unset]) rfl ?_
  refine Go.aload C at_5 rfl rfl rfl ?_
  refine Go.iconst C at_7 rfl (v := (0 : Int32)) rfl ?_
  refine Go.lloadN C at_8 rfl rfl ?_
  refine Go.lastore C (i := 0) rfl (by decide) (show (0 : Int32).toNatClampNeg < 5 from by decide) (w' := (.long ka)) rfl at_9 (q := 10) rfl (M' := (nA o120 ka 0 0 0 0 :: [])) rfl ?_
  refine Go.aload C at_10 rfl rfl rfl ?_
  refine Go.iconst C at_12 rfl (v := (1 : Int32)) rfl ?_
  refine Go.lloadN C at_13 rfl rfl ?_
  refine Go.lastore C (i := 0) rfl (by decide) (show (1 : Int32).toNatClampNeg < 5 from by decide) (w' := (.long kb)) rfl at_14 (q := 15) rfl (M' := (nA o120 ka kb 0 0 0 :: [])) rfl ?_
  refine Go.aload C at_15 rfl rfl rfl ?_
  refine Go.iconst C at_17 rfl (v := (2 : Int32)) rfl ?_
  refine Go.lload C at_18 rfl rfl ?_
  refine Go.lastore C (i := 0) rfl (by decide) (show (2 : Int32).toNatClampNeg < 5 from by decide) (w' := (.long kc)) rfl at_20 (q := 21) rfl (M' := (nA o120 ka kb kc 0 0 :: [])) rfl ?_
  refine Go.aload C at_21 rfl rfl rfl ?_
  refine Go.iconst C at_23 rfl (v := (3 : Int32)) rfl ?_
  refine Go.lload C at_24 rfl rfl ?_
  refine Go.lastore C (i := 0) rfl (by decide) (show (3 : Int32).toNatClampNeg < 5 from by decide) (w' := (.long kd)) rfl at_26 (q := 27) rfl (M' := (nA o120 ka kb kc kd 0 :: [])) rfl ?_
  refine Go.aload C at_27 rfl rfl rfl ?_
  refine Go.iconst C at_29 rfl (v := (4 : Int32)) rfl ?_
  refine Go.lload C at_30 rfl rfl ?_
  refine Go.lastore C (i := 0) rfl (by decide) (show (4 : Int32).toNatClampNeg < 5 from by decide) (w' := (.long ke)) rfl at_32 (q := 33) rfl (M' := (nA o120 ka kb kc kd ke :: [])) rfl ?_
  refine Go.iconst C at_33 rfl (v := (5 : Int32)) rfl ?_
  refine Go.newarray C (ty := .boolean) (wd hw 1 rfl) rfl (by simp) (by decide) (cap := 5) (by decide) (by decide) (vs := [(.int (0 : Int32)), (.int (0 : Int32)), (.int (0 : Int32)), (.int (0 : Int32)), (.int (0 : Int32))]) rfl at_34 (q := 36) rfl (by decide) (by decide) (k' := 2) (n' := 10) rfl rfl (fun o121 => ?_)
  refine Go.astore C at_36 rfl rfl (Ls' := #[.val (.long ka), .second, .val (.long kb), .second, .val (.long kc), .second, .val (.long kd), .second, .val (.long ke), .second, .val (.int m0), .val (.ref o120), .val (.ref o121), .unset, .unset, .unset, .unset, .unset]) rfl ?_
  refine Go.iload C at_38 rfl rfl ?_
  refine Go.ldcI C (v := (2147483647 : Int32)) (wd hw 2 rfl) at_40 rfl ?_
  refine Go.iand C at_42 rfl ?_
  refine Go.iconst C at_43 rfl (v := (5 : Int32)) rfl ?_
  refine Go.irem C at_44 rfl (by decide) ?_
  obtain ⟨nn, hnn, hN⟩ := own_five4 (x := m0) rfl
  refine Go.castI (w := nn) hnn ?_
  refine Go.istore C at_45 rfl (Ls' := #[.val (.long ka), .second, .val (.long kb), .second, .val (.long kc), .second, .val (.long kd), .second, .val (.long ke), .second, .val (.int m0), .val (.ref o120), .val (.ref o121), .val (.int nn), .unset, .unset, .unset, .unset]) rfl ?_
  refine Go.iload C at_47 rfl rfl ?_
  refine Go.iconst C at_49 rfl (v := (3 : Int32)) rfl ?_
  refine Go.iushr C at_50 rfl ?_
  refine Go.iconst C at_51 rfl (v := (3 : Int32)) rfl ?_
  refine Go.iand C at_52 rfl ?_
  obtain ⟨pq, hpq, hP⟩ := own_three (x := (XT.ushr m0 (3 : Int32)))
  refine Go.castI (w := pq) hpq ?_
  have J64 : ∀ v : Int32, (v = 0 ∨ v = 1 ∨ v = 2) → Go l Z room_1 E (fun v _ => v = some (.int 1)) (nB o121 0 0 0 0 0 :: nA o120 ka kb kc kd ke :: []) 2 10 64 #[.val (.long ka), .second, .val (.long kb), .second, .val (.long kc), .second, .val (.long kd), .second, .val (.long ke), .second, .val (.int m0), .val (.ref o120), .val (.ref o121), .val (.int nn), .val (.int v), .unset, .unset, .unset] [] := by
    intro v hv
    refine Go.iload C at_64 rfl rfl ?_
    refine Go.iload C at_66 rfl rfl ?_
    refine Go.callS C (y := yN20) (as := [(.int v), (.int nn)]) (rest := []) (wd hw 3 rfl) (wd hw 4 rfl) (wd hw 5 rfl) (wd hw 6 rfl) (m_minI l Z a0 hw _ v nn) rfl at_68 (q := 71) rfl (by decide) rfl (na := 2) (by decide +kernel) rfl (by decide) (W := 0) rfl (by decide) (by decide) (by decide) (k' := 2) (n' := 10) rfl rfl ?_
    rintro _ _ ⟨rfl, rfl⟩
    show Go _ _ _ _ _ _ _ _ _ _ [(.int (own_mi v nn))]
    refine Go.istore C at_71 rfl (Ls' := #[.val (.long ka), .second, .val (.long kb), .second, .val (.long kc), .second, .val (.long kd), .second, .val (.long ke), .second, .val (.int m0), .val (.ref o120), .val (.ref o121), .val (.int nn), .val (.int (own_mi v nn)), .unset, .unset, .unset]) rfl ?_
    refine Go.iload C at_73 rfl rfl ?_
    refine Go.iconst C at_75 rfl (v := (5 : Int32)) rfl ?_
    refine Go.iushr C at_76 rfl ?_
    refine Go.iconst C at_77 rfl (v := (1 : Int32)) rfl ?_
    refine Go.iand C at_78 rfl ?_
    refine Go.joinI (q := 87) (Ls' := #[.val (.long ka), .second, .val (.long kb), .second, .val (.long kc), .second, .val (.long kd), .second, .val (.long ke), .second, .val (.int m0), .val (.ref o120), .val (.ref o121), .val (.int nn), .val (.int (own_mi v nn)), .unset, .unset, .unset]) (st' := []) ((if ((XT.ushr m0 (5 : Int32)) &&& (1 : Int32)) = (0 : Int32) then (0 : Int32) else 1)) ?_ (fun J87_54 => ?_)
    · refine Go.istore C at_87 rfl (Ls' := #[.val (.long ka), .second, .val (.long kb), .second, .val (.long kc), .second, .val (.long kd), .second, .val (.long ke), .second, .val (.int m0), .val (.ref o120), .val (.ref o121), .val (.int nn), .val (.int (own_mi v nn)), .val (.int (if ((XT.ushr m0 (5 : Int32)) &&& (1 : Int32)) = (0 : Int32) then (0 : Int32) else 1)), .unset, .unset]) rfl ?_
      refine Go.new C (wd hw 7 rfl) (wd hw 8 rfl) (wd hw 9 rfl) [(("com/example/ordered_dispatch/ordereddispatch/SequenceQueue", "run", "Lcom/example/ordered_dispatch/ordereddispatch/SequenceQueue$Run;"), .null), (("com/example/ordered_dispatch/ordereddispatch/SequenceQueue", "heap", "Lcom/example/ordered_dispatch/ordereddispatch/SequenceQueue$Heap;"), .null), (("com/example/ordered_dispatch/ordereddispatch/SequenceQueue", "holding", "Z"), (.int (0 : Int32))), (("com/example/ordered_dispatch/ordereddispatch/SequenceQueue", "heldKey", "J"), (.long (0 : Int64))), (("com/example/ordered_dispatch/ordereddispatch/SequenceQueue", "heldElement", "Ljava/lang/Object;"), .null)] ⟨⟨Or.inr (wd hw 35 rfl), (.object "com/example/ordered_dispatch/ordereddispatch/SequenceQueue$Run"), by decide, rfl⟩, ⟨Or.inr (wd hw 46 rfl), (.object "com/example/ordered_dispatch/ordereddispatch/SequenceQueue$Heap"), by decide, rfl⟩, ⟨Or.inl (wd hw 60 rfl), .boolean, by decide, rfl⟩, ⟨Or.inl (wd hw 62 rfl), .long, by decide, rfl⟩, ⟨Or.inl (wd hw 64 rfl), (.object "java/lang/Object"), by decide, rfl⟩, trivial⟩ (by decide) at_89 (q := 92) rfl (by decide) (by decide) (k' := 3) (n' := 15) rfl rfl (fun o122 => ?_)
      refine Go.dup C at_92 rfl rfl ?_
      refine Go.callI C (y := yN24) (a := o122) (as := []) (rest := [(.ref o122)]) (wd hw 10 rfl) (wd hw 11 rfl) (wd hw 9 rfl) (wd hw 12 rfl) (u_SequenceQueue_init_174 l Z a0 hw _ o122 (0 : Int64)) rfl rfl at_93 (q := 96) rfl (by decide) rfl (na := 0) (by decide +kernel) rfl (by decide) (W := 1) rfl (by decide) (by decide) (by decide) (k' := 9) (n' := 278) rfl rfl ?_
      rintro _ _ ⟨o123, o124, o125, o126, o127, o128, rfl, rfl⟩
      show Go _ _ _ _ _ _ _ _ _ _ [(.ref o122)]
      refine Go.pick (M' := (nA o120 ka kb kc kd ke :: nB o121 0 0 0 0 0 :: nQ o122 o128 o125 0 0 .null :: nR o128 o127 o126 0 0 :: nK o127 0 0 0 0 0 0 :: nE o126 .null .null .null .null .null .null :: nH o125 o124 o123 0 :: nK o124 0 0 0 0 0 0 :: nE o123 .null .null .null .null .null .null :: [])) 9 [8, 7, 6, 5, 4, 3, 2, 1, 0] (by decide) (by decide) rfl ?_
      refine (show ∀ (q : Addr) (Mq0 : List Ent), QS (own_F ka kb kc kd ke) (own_F b0 b1 b2 b3 b4) q 0 [] Mq0 → Go l Z room_1 E (fun v _ => v = some (.int 1)) (nA o120 ka kb kc kd ke :: nB o121 0 0 0 0 0 :: Mq0) 9 278 96 #[.val (.long ka), .second, .val (.long kb), .second, .val (.long kc), .second, .val (.long kd), .second, .val (.long ke), .second, .val (.int m0), .val (.ref o120), .val (.ref o121), .val (.int nn), .val (.int (own_mi v nn)), .val (.int (if ((XT.ushr m0 (5 : Int32)) &&& (1 : Int32)) = (0 : Int32) then (0 : Int32) else 1)), .unset, .unset] [(.ref q)] from ?_) o122 _ (QS.c0000 (by decide) o128 o127 o126 o125 o124 o123 (0 : Int64) (0 : Int64) (0 : Int64) (0 : Int64) (0 : Int64) (0 : Int64) (0 : Int64) (0 : Int64) (0 : Int64) (0 : Int64) (0 : Int64) (0 : Int64) (0 : Int64) (List.Perm.refl _))
      intro q Mq0 hQ0
      refine Go.astore C at_96 rfl rfl (Ls' := #[.val (.long ka), .second, .val (.long kb), .second, .val (.long kc), .second, .val (.long kd), .second, .val (.long ke), .second, .val (.int m0), .val (.ref o120), .val (.ref o121), .val (.int nn), .val (.int (own_mi v nn)), .val (.int (if ((XT.ushr m0 (5 : Int32)) &&& (1 : Int32)) = (0 : Int32) then (0 : Int32) else 1)), .val (.ref q), .unset]) rfl ?_
      refine Go.iload C at_98 rfl rfl ?_
      refine Go.iconst C at_100 rfl (v := (1 : Int32)) rfl ?_
      refine Go.icmp C at_101 (by decide) (q := 119) rfl (q' := 104) rfl (fun (h101_1 : nn < (1 : Int32)) => ?_) (fun (h101_1 : ¬ nn < (1 : Int32)) => ?_)
      · refine Go.iload C at_119 rfl rfl ?_
        refine Go.iconst C at_121 rfl (v := (2 : Int32)) rfl ?_
        refine Go.icmpYes C at_122 (by decide) (q := 140) rfl (XT.ii_lt_t (by revert h101_1; rcases hN with rfl | rfl | rfl | rfl | rfl <;> decide)) ?_
        refine Go.iload C at_140 rfl rfl ?_
        refine Go.iconst C at_142 rfl (v := (3 : Int32)) rfl ?_
        refine Go.icmpYes C at_143 (by decide) (q := 162) rfl (XT.ii_lt_t (by revert h101_1; rcases hN with rfl | rfl | rfl | rfl | rfl <;> decide)) ?_
        refine Go.iload C at_162 rfl rfl ?_
        refine Go.iconst C at_164 rfl (v := (4 : Int32)) rfl ?_
        refine Go.icmpYes C at_165 (by decide) (q := 184) rfl (XT.ii_lt_t (by revert h101_1; rcases hN with rfl | rfl | rfl | rfl | rfl <;> decide)) ?_
        refine Go.iconst C at_184 rfl (v := (1 : Int32)) rfl ?_
        refine Go.istore C at_185 rfl (Ls' := #[.val (.long ka), .second, .val (.long kb), .second, .val (.long kc), .second, .val (.long kd), .second, .val (.long ke), .second, .val (.int m0), .val (.ref o120), .val (.ref o121), .val (.int nn), .val (.int (own_mi v nn)), .val (.int (if ((XT.ushr m0 (5 : Int32)) &&& (1 : Int32)) = (0 : Int32) then (0 : Int32) else 1)), .val (.ref q), .val (.int (1 : Int32))]) rfl ?_
        obtain rfl : nn = 0 := by revert h101_1; rcases hN with rfl | rfl | rfl | rfl | rfl <;> decide
        exact own_seg l Z a0 hw ka kb kc kd ke m0 0 (own_mi v 0) _ cb cs b0 b1 b2 b3 b4 q _ _ (own_F 0 0 0 0 0) (t := 0) (L := []) S_high S_cache A_cache hE0 hE1 hE2 hE3 hE4 hF0 hF1 hF2 hF3 hF4 hb0 hb1 hb2 hb3 hb4 (by decide) rfl (by rcases hv with rfl | rfl | rfl <;> decide) (own_dI (by decide) (by decide) (by decide)) (by decide) hQ0 C
      · refine Go.aload C at_104 rfl rfl rfl ?_
        refine Go.lloadN C at_106 rfl rfl ?_
        refine Go.iconst C at_107 rfl (v := (0 : Int32)) rfl ?_
        refine Go.callS C (y := yN25) (as := [(.int (0 : Int32))]) (rest := [(.long ka), (.ref q)]) (wd hw 47 rfl) (wd hw 48 rfl) (wd hw 49 rfl) (wd hw 50 rfl) (m_valueOf0 l Z a0 hw _ cb cs b0 S_high S_cache A_cache hb0) rfl at_108 (q := 111) rfl (by decide) rfl (na := 1) (by decide +kernel) rfl (by decide) (W := 3) rfl (by decide) (by decide) (by decide) (k' := 9) (n' := 278) rfl rfl ?_
        rintro _ _ ⟨rfl, rfl⟩
        show Go _ _ _ _ _ _ _ _ _ _ [(.ref b0), (.long ka), (.ref q)]
        refine Go.perm (own_pc _ _ _) ?_
        refine Go.callV C (y := yN14) (z := yN14) (a := q) (as := [(.long ka), (.ref b0)]) (rest := []) (wd hw 54 rfl) (wd hw 55 rfl) (nf_sel (z := yN14) (wd hw 57 rfl)) (wd hw 57 rfl) (wd hw 56 rfl) (wd hw 58 rfl) (wd hw 9 rfl) (fun _ r => QS.exa hQ0 r) (own_addA l Z a0 hw _ (own_F ka kb kc kd ke) (own_F b0 b1 b2 b3 b4) (own_hE hE0 hE1 hE2 hE3 hE4) q (t := 0) 0 (by decide) hQ0) rfl at_111 (q := 114) rfl (by decide) rfl (na := 2) (by decide +kernel) rfl (by decide) (W := 0) rfl (by decide) (by decide) (by decide) (k' := 9) (n' := 278) rfl rfl ?_
        rintro _ _ ⟨rfl, Mq129, hQ130, rfl⟩
        refine Go.perm (own_pd _ _ _) ?_
        show Go _ _ _ _ _ _ _ _ _ _ []
        refine Go.aload C at_114 rfl rfl rfl ?_
        refine Go.iconst C at_116 rfl (v := (0 : Int32)) rfl ?_
        refine Go.iconst C at_117 rfl (v := (1 : Int32)) rfl ?_
        refine Go.zastore C (i := 1) rfl (by decide) (show (0 : Int32).toNatClampNeg < 5 from by decide) (w' := (.int (1 : Int32))) rfl at_118 (q := 119) rfl (M' := (nA o120 ka kb kc kd ke :: nB o121 1 0 0 0 0 :: Mq129)) rfl ?_
        refine Go.iload C at_119 rfl rfl ?_
        refine Go.iconst C at_121 rfl (v := (2 : Int32)) rfl ?_
        refine Go.icmp C at_122 (by decide) (q := 140) rfl (q' := 125) rfl (fun (h122_2 : nn < (2 : Int32)) => ?_) (fun (h122_2 : ¬ nn < (2 : Int32)) => ?_)
        · refine Go.iload C at_140 rfl rfl ?_
          refine Go.iconst C at_142 rfl (v := (3 : Int32)) rfl ?_
          refine Go.icmpYes C at_143 (by decide) (q := 162) rfl (XT.ii_lt_t (by revert h122_2; rcases hN with rfl | rfl | rfl | rfl | rfl <;> decide)) ?_
          refine Go.iload C at_162 rfl rfl ?_
          refine Go.iconst C at_164 rfl (v := (4 : Int32)) rfl ?_
          refine Go.icmpYes C at_165 (by decide) (q := 184) rfl (XT.ii_lt_t (by revert h122_2; rcases hN with rfl | rfl | rfl | rfl | rfl <;> decide)) ?_
          refine Go.iconst C at_184 rfl (v := (1 : Int32)) rfl ?_
          refine Go.istore C at_185 rfl (Ls' := #[.val (.long ka), .second, .val (.long kb), .second, .val (.long kc), .second, .val (.long kd), .second, .val (.long ke), .second, .val (.int m0), .val (.ref o120), .val (.ref o121), .val (.int nn), .val (.int (own_mi v nn)), .val (.int (if ((XT.ushr m0 (5 : Int32)) &&& (1 : Int32)) = (0 : Int32) then (0 : Int32) else 1)), .val (.ref q), .val (.int (1 : Int32))]) rfl ?_
          obtain rfl : nn = 1 := by revert h101_1 h122_2; rcases hN with rfl | rfl | rfl | rfl | rfl <;> decide
          exact own_seg l Z a0 hw ka kb kc kd ke m0 1 (own_mi v 1) _ cb cs b0 b1 b2 b3 b4 q _ _ (own_F 1 0 0 0 0) (t := 1) (L := [0]) S_high S_cache A_cache hE0 hE1 hE2 hE3 hE4 hF0 hF1 hF2 hF3 hF4 hb0 hb1 hb2 hb3 hb4 (by decide) rfl (by rcases hv with rfl | rfl | rfl <;> decide) (own_dI (by decide) (by decide) (by decide)) (by decide) hQ130 C
        · refine Go.aload C at_125 rfl rfl rfl ?_
          refine Go.lloadN C at_127 rfl rfl ?_
          refine Go.iconst C at_128 rfl (v := (1 : Int32)) rfl ?_
          refine Go.callS C (y := yN25) (as := [(.int (1 : Int32))]) (rest := [(.long kb), (.ref q)]) (wd hw 47 rfl) (wd hw 48 rfl) (wd hw 49 rfl) (wd hw 50 rfl) (m_valueOf1 l Z a0 hw _ cb cs b1 S_high S_cache A_cache hb1) rfl at_129 (q := 132) rfl (by decide) rfl (na := 1) (by decide +kernel) rfl (by decide) (W := 3) rfl (by decide) (by decide) (by decide) (k' := 9) (n' := 278) rfl rfl ?_
          rintro _ _ ⟨rfl, rfl⟩
          show Go _ _ _ _ _ _ _ _ _ _ [(.ref b1), (.long kb), (.ref q)]
          refine Go.perm (own_pc _ _ _) ?_
          refine Go.callV C (y := yN14) (z := yN14) (a := q) (as := [(.long kb), (.ref b1)]) (rest := []) (wd hw 54 rfl) (wd hw 55 rfl) (nf_sel (z := yN14) (wd hw 57 rfl)) (wd hw 57 rfl) (wd hw 56 rfl) (wd hw 58 rfl) (wd hw 9 rfl) (fun _ r => QS.exa hQ130 r) (own_addA l Z a0 hw _ (own_F ka kb kc kd ke) (own_F b0 b1 b2 b3 b4) (own_hE hE0 hE1 hE2 hE3 hE4) q (t := 1) 1 (by decide) hQ130) rfl at_132 (q := 135) rfl (by decide) rfl (na := 2) (by decide +kernel) rfl (by decide) (W := 0) rfl (by decide) (by decide) (by decide) (k' := 9) (n' := 278) rfl rfl ?_
          rintro _ _ ⟨rfl, Mq131, hQ132, rfl⟩
          refine Go.perm (own_pd _ _ _) ?_
          show Go _ _ _ _ _ _ _ _ _ _ []
          refine Go.aload C at_135 rfl rfl rfl ?_
          refine Go.iconst C at_137 rfl (v := (1 : Int32)) rfl ?_
          refine Go.iconst C at_138 rfl (v := (1 : Int32)) rfl ?_
          refine Go.zastore C (i := 1) rfl (by decide) (show (1 : Int32).toNatClampNeg < 5 from by decide) (w' := (.int (1 : Int32))) rfl at_139 (q := 140) rfl (M' := (nA o120 ka kb kc kd ke :: nB o121 1 1 0 0 0 :: Mq131)) rfl ?_
          refine Go.iload C at_140 rfl rfl ?_
          refine Go.iconst C at_142 rfl (v := (3 : Int32)) rfl ?_
          refine Go.icmp C at_143 (by decide) (q := 162) rfl (q' := 146) rfl (fun (h143_3 : nn < (3 : Int32)) => ?_) (fun (h143_3 : ¬ nn < (3 : Int32)) => ?_)
          · refine Go.iload C at_162 rfl rfl ?_
            refine Go.iconst C at_164 rfl (v := (4 : Int32)) rfl ?_
            refine Go.icmpYes C at_165 (by decide) (q := 184) rfl (XT.ii_lt_t (by revert h143_3; rcases hN with rfl | rfl | rfl | rfl | rfl <;> decide)) ?_
            refine Go.iconst C at_184 rfl (v := (1 : Int32)) rfl ?_
            refine Go.istore C at_185 rfl (Ls' := #[.val (.long ka), .second, .val (.long kb), .second, .val (.long kc), .second, .val (.long kd), .second, .val (.long ke), .second, .val (.int m0), .val (.ref o120), .val (.ref o121), .val (.int nn), .val (.int (own_mi v nn)), .val (.int (if ((XT.ushr m0 (5 : Int32)) &&& (1 : Int32)) = (0 : Int32) then (0 : Int32) else 1)), .val (.ref q), .val (.int (1 : Int32))]) rfl ?_
            obtain rfl : nn = 2 := by revert h101_1 h122_2 h143_3; rcases hN with rfl | rfl | rfl | rfl | rfl <;> decide
            exact own_seg l Z a0 hw ka kb kc kd ke m0 2 (own_mi v 2) _ cb cs b0 b1 b2 b3 b4 q _ _ (own_F 1 1 0 0 0) (t := 2) (L := [1, 0]) S_high S_cache A_cache hE0 hE1 hE2 hE3 hE4 hF0 hF1 hF2 hF3 hF4 hb0 hb1 hb2 hb3 hb4 (by decide) rfl (by rcases hv with rfl | rfl | rfl <;> decide) (own_dI (by decide) (by decide) (by decide)) (by decide) hQ132 C
          · refine Go.aload C at_146 rfl rfl rfl ?_
            refine Go.lload C at_148 rfl rfl ?_
            refine Go.iconst C at_150 rfl (v := (2 : Int32)) rfl ?_
            refine Go.callS C (y := yN25) (as := [(.int (2 : Int32))]) (rest := [(.long kc), (.ref q)]) (wd hw 47 rfl) (wd hw 48 rfl) (wd hw 49 rfl) (wd hw 50 rfl) (m_valueOf2 l Z a0 hw _ cb cs b2 S_high S_cache A_cache hb2) rfl at_151 (q := 154) rfl (by decide) rfl (na := 1) (by decide +kernel) rfl (by decide) (W := 3) rfl (by decide) (by decide) (by decide) (k' := 9) (n' := 278) rfl rfl ?_
            rintro _ _ ⟨rfl, rfl⟩
            show Go _ _ _ _ _ _ _ _ _ _ [(.ref b2), (.long kc), (.ref q)]
            refine Go.perm (own_pc _ _ _) ?_
            refine Go.callV C (y := yN14) (z := yN14) (a := q) (as := [(.long kc), (.ref b2)]) (rest := []) (wd hw 54 rfl) (wd hw 55 rfl) (nf_sel (z := yN14) (wd hw 57 rfl)) (wd hw 57 rfl) (wd hw 56 rfl) (wd hw 58 rfl) (wd hw 9 rfl) (fun _ r => QS.exa hQ132 r) (own_addA l Z a0 hw _ (own_F ka kb kc kd ke) (own_F b0 b1 b2 b3 b4) (own_hE hE0 hE1 hE2 hE3 hE4) q (t := 2) 2 (by decide) hQ132) rfl at_154 (q := 157) rfl (by decide) rfl (na := 2) (by decide +kernel) rfl (by decide) (W := 0) rfl (by decide) (by decide) (by decide) (k' := 9) (n' := 278) rfl rfl ?_
            rintro _ _ ⟨rfl, Mq133, hQ134, rfl⟩
            refine Go.perm (own_pd _ _ _) ?_
            show Go _ _ _ _ _ _ _ _ _ _ []
            refine Go.aload C at_157 rfl rfl rfl ?_
            refine Go.iconst C at_159 rfl (v := (2 : Int32)) rfl ?_
            refine Go.iconst C at_160 rfl (v := (1 : Int32)) rfl ?_
            refine Go.zastore C (i := 1) rfl (by decide) (show (2 : Int32).toNatClampNeg < 5 from by decide) (w' := (.int (1 : Int32))) rfl at_161 (q := 162) rfl (M' := (nA o120 ka kb kc kd ke :: nB o121 1 1 1 0 0 :: Mq133)) rfl ?_
            refine Go.iload C at_162 rfl rfl ?_
            refine Go.iconst C at_164 rfl (v := (4 : Int32)) rfl ?_
            refine Go.icmp C at_165 (by decide) (q := 184) rfl (q' := 168) rfl (fun (h165_4 : nn < (4 : Int32)) => ?_) (fun (h165_4 : ¬ nn < (4 : Int32)) => ?_)
            · refine Go.iconst C at_184 rfl (v := (1 : Int32)) rfl ?_
              refine Go.istore C at_185 rfl (Ls' := #[.val (.long ka), .second, .val (.long kb), .second, .val (.long kc), .second, .val (.long kd), .second, .val (.long ke), .second, .val (.int m0), .val (.ref o120), .val (.ref o121), .val (.int nn), .val (.int (own_mi v nn)), .val (.int (if ((XT.ushr m0 (5 : Int32)) &&& (1 : Int32)) = (0 : Int32) then (0 : Int32) else 1)), .val (.ref q), .val (.int (1 : Int32))]) rfl ?_
              obtain rfl : nn = 3 := by revert h101_1 h122_2 h143_3 h165_4; rcases hN with rfl | rfl | rfl | rfl | rfl <;> decide
              exact own_seg l Z a0 hw ka kb kc kd ke m0 3 (own_mi v 3) _ cb cs b0 b1 b2 b3 b4 q _ _ (own_F 1 1 1 0 0) (t := 3) (L := [2, 1, 0]) S_high S_cache A_cache hE0 hE1 hE2 hE3 hE4 hF0 hF1 hF2 hF3 hF4 hb0 hb1 hb2 hb3 hb4 (by decide) rfl (by rcases hv with rfl | rfl | rfl <;> decide) (own_dI (by decide) (by decide) (by decide)) (by decide) hQ134 C
            · refine Go.aload C at_168 rfl rfl rfl ?_
              refine Go.lload C at_170 rfl rfl ?_
              refine Go.iconst C at_172 rfl (v := (3 : Int32)) rfl ?_
              refine Go.callS C (y := yN25) (as := [(.int (3 : Int32))]) (rest := [(.long kd), (.ref q)]) (wd hw 47 rfl) (wd hw 48 rfl) (wd hw 49 rfl) (wd hw 50 rfl) (m_valueOf3 l Z a0 hw _ cb cs b3 S_high S_cache A_cache hb3) rfl at_173 (q := 176) rfl (by decide) rfl (na := 1) (by decide +kernel) rfl (by decide) (W := 3) rfl (by decide) (by decide) (by decide) (k' := 9) (n' := 278) rfl rfl ?_
              rintro _ _ ⟨rfl, rfl⟩
              show Go _ _ _ _ _ _ _ _ _ _ [(.ref b3), (.long kd), (.ref q)]
              refine Go.perm (own_pc _ _ _) ?_
              refine Go.callV C (y := yN14) (z := yN14) (a := q) (as := [(.long kd), (.ref b3)]) (rest := []) (wd hw 54 rfl) (wd hw 55 rfl) (nf_sel (z := yN14) (wd hw 57 rfl)) (wd hw 57 rfl) (wd hw 56 rfl) (wd hw 58 rfl) (wd hw 9 rfl) (fun _ r => QS.exa hQ134 r) (own_addA l Z a0 hw _ (own_F ka kb kc kd ke) (own_F b0 b1 b2 b3 b4) (own_hE hE0 hE1 hE2 hE3 hE4) q (t := 3) 3 (by decide) hQ134) rfl at_176 (q := 179) rfl (by decide) rfl (na := 2) (by decide +kernel) rfl (by decide) (W := 0) rfl (by decide) (by decide) (by decide) (k' := 9) (n' := 278) rfl rfl ?_
              rintro _ _ ⟨rfl, Mq135, hQ136, rfl⟩
              refine Go.perm (own_pd _ _ _) ?_
              show Go _ _ _ _ _ _ _ _ _ _ []
              refine Go.aload C at_179 rfl rfl rfl ?_
              refine Go.iconst C at_181 rfl (v := (3 : Int32)) rfl ?_
              refine Go.iconst C at_182 rfl (v := (1 : Int32)) rfl ?_
              refine Go.zastore C (i := 1) rfl (by decide) (show (3 : Int32).toNatClampNeg < 5 from by decide) (w' := (.int (1 : Int32))) rfl at_183 (q := 184) rfl (M' := (nA o120 ka kb kc kd ke :: nB o121 1 1 1 1 0 :: Mq135)) rfl ?_
              refine Go.iconst C at_184 rfl (v := (1 : Int32)) rfl ?_
              refine Go.istore C at_185 rfl (Ls' := #[.val (.long ka), .second, .val (.long kb), .second, .val (.long kc), .second, .val (.long kd), .second, .val (.long ke), .second, .val (.int m0), .val (.ref o120), .val (.ref o121), .val (.int nn), .val (.int (own_mi v nn)), .val (.int (if ((XT.ushr m0 (5 : Int32)) &&& (1 : Int32)) = (0 : Int32) then (0 : Int32) else 1)), .val (.ref q), .val (.int (1 : Int32))]) rfl ?_
              obtain rfl : nn = 4 := by revert h101_1 h122_2 h143_3 h165_4; rcases hN with rfl | rfl | rfl | rfl | rfl <;> decide
              exact own_seg l Z a0 hw ka kb kc kd ke m0 4 (own_mi v 4) _ cb cs b0 b1 b2 b3 b4 q _ _ (own_F 1 1 1 1 0) (t := 4) (L := [3, 2, 1, 0]) S_high S_cache A_cache hE0 hE1 hE2 hE3 hE4 hF0 hF1 hF2 hF3 hF4 hb0 hb1 hb2 hb3 hb4 (by decide) rfl (by rcases hv with rfl | rfl | rfl <;> decide) (own_dI (by decide) (by decide) (by decide)) (by decide) hQ136 C
    · refine Go.ifc C at_79 (by decide) (q := 86) rfl (q' := 82) rfl (fun (h79_5 : ((XT.ushr m0 (5 : Int32)) &&& (1 : Int32)) = 0) => ?_) (fun (h79_5 : ¬ ((XT.ushr m0 (5 : Int32)) &&& (1 : Int32)) = 0) => ?_)
      · refine Go.iconst C at_86 rfl (v := (0 : Int32)) rfl ?_
        exact J87_54 _ (by simp [h79_5])
      · refine Go.iconst C at_82 rfl (v := (1 : Int32)) rfl ?_
        refine Go.goto C at_83 (by decide) (q := 87) rfl ?_
        exact J87_54 _ (by simp [h79_5])
  refine Go.istore C at_53 rfl (Ls' := #[.val (.long ka), .second, .val (.long kb), .second, .val (.long kc), .second, .val (.long kd), .second, .val (.long ke), .second, .val (.int m0), .val (.ref o120), .val (.ref o121), .val (.int nn), .val (.int pq), .unset, .unset, .unset]) rfl ?_
  refine Go.iload C at_55 rfl rfl ?_
  refine Go.iconst C at_57 rfl (v := (2 : Int32)) rfl ?_
  refine Go.icmp C at_58 (by decide) (q := 64) rfl (q' := 61) rfl (fun (h58_6 : ¬ (2 : Int32) < pq) => ?_) (fun (h58_6 : (2 : Int32) < pq) => ?_)
  · exact J64 _ (by revert h58_6; rcases hP with rfl | rfl | rfl | rfl <;> decide)
  · refine Go.iconst C at_61 rfl (v := (2 : Int32)) rfl ?_
    refine Go.istore C at_62 rfl (Ls' := #[.val (.long ka), .second, .val (.long kb), .second, .val (.long kc), .second, .val (.long kd), .second, .val (.long ke), .second, .val (.int m0), .val (.ref o120), .val (.ref o121), .val (.int nn), .val (.int (2 : Int32)), .unset, .unset, .unset]) rfl ?_
    exact J64 _ (by decide)
set_option maxRecDepth 65536 in
set_option maxHeartbeats 40000000 in
theorem comes_1 {Post : Tables → Env → Array Value → State → Outcome → State → Prop} (hpost : ∀ tb e args s v u, (limb_1_1.after args s (.returned v) u = true ∧ limb_1_2.after args s (.returned v) u = true ∧ True) → FrameEnd s (.returned v) u (Jvm.fieldLocs frame_1_writes args s ++ Jvm.arrayLocs frame_1_arrays args s ++ Jvm.staticLocs frame_1_statics s) 32 640 → Post tb e args s (.returned v) u) :
    ArmFor flags0 classFile x code maxLocals ret World_1 tables_1 room_1 Calls_1 rest_1 Pre_1 Post := by
  intro l hfl _ _ p e ha hc hk s m args below hf hA hF happ hP
  obtain ⟨hcalls, hrest, hpre⟩ := hP
  obtain ⟨-, -, -, hnamed, -, -, -, hat⟩ := (Spec.applies_iff hf).mp happ
  obtain ⟨hg, hn⟩ := and_e (Cond.before_iff.mp (show (Jvm.Cond.and given_1 narrow_1).before args s = true from hpre))
  obtain ⟨hcount, hg⟩ := and_e hg
  obtain ⟨w0, w1, w2, w3, w4, w5, rfl⟩ : ∃ w0 w1 w2 w3 w4 w5 : Value, args = #[w0, w1, w2, w3, w4, w5] := by
    have hs : args.size = 6 := by simpa [Cond.value, given_1] using hcount
    obtain ⟨L⟩ := args
    match L, hs with
    | [w0, w1, w2, w3, w4, w5], _ => exact ⟨w0, w1, w2, w3, w4, w5, rfl⟩
  have hw := fun d (hd : d ∈ tables_1) => atoms_spec (ws := Jvm.Cond.code x code maxLocals ret :: tables_1) hat d (List.mem_cons_of_mem _ hd)
  obtain ⟨g0, hg⟩ := and_e hg
  obtain ⟨ka, e0⟩ := isL_v g0
  obtain rfl : w0 = (.long ka) := Option.some.inj e0
  obtain ⟨g1, hg⟩ := and_e hg
  obtain ⟨kb, e1⟩ := isL_v g1
  obtain rfl : w1 = (.long kb) := Option.some.inj e1
  obtain ⟨g2, hg⟩ := and_e hg
  obtain ⟨kc, e2⟩ := isL_v g2
  obtain rfl : w2 = (.long kc) := Option.some.inj e2
  obtain ⟨g3, hg⟩ := and_e hg
  obtain ⟨kd, e3⟩ := isL_v g3
  obtain rfl : w3 = (.long kd) := Option.some.inj e3
  obtain ⟨g4, hg⟩ := and_e hg
  obtain ⟨ke, e4⟩ := isL_v g4
  obtain rfl : w4 = (.long ke) := Option.some.inj e4
  have g5 := hg
  obtain ⟨m0, e5⟩ := is_v g5
  obtain rfl : w5 = (.int m0) := Option.some.inj e5
  obtain ⟨hsets, hown0⟩ := atoms_of _ (rest_1_c_eq ▸ (show rest_1_c.before _ s = true from hrest))
  have st2 := Cond.before_iff.mp (hsets _ (List.mem_of_getElem? (i := 4) rfl))
  have st4 := Cond.before_iff.mp (hsets _ (List.mem_of_getElem? (i := 6) rfl))
  have st5 := Cond.before_iff.mp (hsets _ (List.mem_of_getElem? (i := 7) rfl))
  have st6 := int_of_eq (Cond.before_iff.mp (hsets _ (List.mem_of_getElem? (i := 3) rfl)))
  have S_high := Sta.start st6 (Or.inl (hsets _ (List.mem_of_getElem? (i := 1) rfl)))
  obtain ⟨cb, ev_cb⟩ := arr_v st2
  obtain ⟨cc, AA⟩ := Arr.start ev_cb st2
  have hlen := len_of_eq ev_cb AA st4
  have hlen2 : cc.slots.toList.length = 256 := len256 hlen.1 hlen.2
  have S_cache := Sta.start ev_cb (Or.inr ⟨(wd hw 52 rfl), hsets _ (List.mem_of_getElem? (i := 2) rfl)⟩)
  have H0 := cache_elem ev_cb AA hlen.2 st5
  rw [hlen2] at H0
  have A_cache : ArrIs s s.heap cb (.object "java/lang/Integer") cc.slots.toList := ⟨_, AA, rfl⟩
  have H_cache : ∀ j : Nat, j < 256 → ∃ b, cc.slots.toList[j]? = some (.ref b) ∧ Exa s s.heap b "java/lang/Integer" ∧ Fld s s.heap b "java/lang/Integer" "value" "I" (.int (j.toInt32 - 128)) := fun j hj => by obtain ⟨b, q1, q2, q3, q4⟩ := H0 j hj; exact ⟨b, q1, q2, cache_val q3 q4⟩
  obtain ⟨b0, hb0, hE0, hF0⟩ := H_cache 128 (by decide)
  rw [show (128 : Nat).toInt32 - 128 = (0 : Int32) from by decide] at hF0
  obtain ⟨b1, hb1, hE1, hF1⟩ := H_cache 129 (by decide)
  rw [show (129 : Nat).toInt32 - 128 = (1 : Int32) from by decide] at hF1
  obtain ⟨b2, hb2, hE2, hF2⟩ := H_cache 130 (by decide)
  rw [show (130 : Nat).toInt32 - 128 = (2 : Int32) from by decide] at hF2
  obtain ⟨b3, hb3, hE3, hF3⟩ := H_cache 131 (by decide)
  rw [show (131 : Nat).toInt32 - 128 = (3 : Int32) from by decide] at hF3
  obtain ⟨b4, hb4, hE4, hF4⟩ := H_cache 132 (by decide)
  rw [show (132 : Nat).toInt32 - 128 = (4 : Int32) from by decide] at hF4
  obtain ⟨n, o, h1, h2, h3, _, L, rfl, ⟨N, _, rfl, -⟩, hq⟩ := m_law l s _ hw ka kb kc kd ke m0 cb cc.slots.toList b0 b1 b2 b3 b4 S_high S_cache A_cache hE0 hE1 hE2 hE3 hE4 hF0 hF1 hF2 hF3 hF4 hb0 hb1 hb2 hb3 hb4 tables_1 s.heap (rep0 s) p e ha hc hk s m _ below hf ((Spec.applies_iff_loose hf).mp happ).1 ⟨rfl, State.Warmed39.refl s, rfl⟩ trivial
  refine ⟨n, _, h1, h2, h3, hpost _ _ _ _ _ _ ⟨Cond.after_iff.mpr rfl, Cond.after_iff.mpr (eq_i res_at (Term.int_eval (1)) rfl), trivial⟩ ⟨hq.1, hq.2.1, (hq.2.2.sift fun y hy => Or.inr (N y hy)).mono (by decide) (by decide)⟩⟩
theorem main_1_1 : Claimed_1_1 := comes_1 fun _ _ _ _ _ _ h hF => ⟨h.1, hF⟩
theorem main_1_2 : Claimed_1_2 := comes_1 fun _ _ _ _ _ _ h hF => ⟨h.2.1, hF⟩
end Jvm.Pilot.@@N@@
namespace Jvm.Pilot.@@N@@
open Jvm Jvm.ClassFile Sem Op Lib Jvm.Free Jvm.Stand Jvm.Pilot.@@N@@.Jvm.D
/-! MADE BY PROGRAM (witnessworld.py) out of the Statement's table words and the real class files: 25 classes; the members and pool entries that the words name. The judged class is class 1, her method 1. -/
namespace start1
open Jvm.ClassFile
def u (s : String) : CpInfo := .utf8 (stringToUtf16 s)
/-- a pool by its gaps: so many unusable entries, then the entry; so many at the end -/
def gap : Nat → List CpInfo → List CpInfo
  | 0, r => r
  | n + 1, r => .unusable :: gap n r
def poolList (es : List (Nat × CpInfo)) (last : Nat) : List CpInfo := es.foldr (fun e r => gap e.1 (e.2 :: r)) (gap last [])
def pool (es : List (Nat × CpInfo)) (last : Nat) : Array CpInfo := ⟨poolList es last⟩
def fileOf (pool : Array CpInfo) (this : Nat) (attrs : Array Attribute := #[]) (ms : Array MethodInfo := #[]) (fl : Nat := 33) (sup : Nat := 0) (ifs : Array Nat := #[]) (fds : Array FieldInfo := #[]) : ClassFile where
  minorVersion := 0
  majorVersion := 65
  constantPool := pool
  accessFlags := fl
  thisClass := this
  superClass := sup
  interfaces := ifs
  fields := fds
  methods := ms
  attributes := attrs
def plain (name : String) (sup : Option ClassId) : Class where
  name := name
  kind := .ordinary
  loader := none
  accessFlags := 33
  super := sup
  interfaces := #[]
  cf := none
  fields := #[]
  methods := #[]
  instanceTypes := #[]
  staticTypes := #[]
  resolved := #[]
  callSites := []
  init := .initialized
  statics := none
  mirror := none

def pool0 : Array CpInfo := pool [(5, u "<init>"), (0, u "()V"), (1, .class_ 10), (1, u "java/lang/Object")] 113

def k0c0 : Code := { maxStack := 0, maxLocals := 1, code := object_method_1_code, exceptionTable := #[], attributes := #[] }
def k0m0 : Method := { name := "<init>", desc := "()V", sig := { parameters := [], returnType := none }, accessFlags := 1, code := some k0c0 }
/-- java/lang/Object -/
def k0 : Class := { plain "java/lang/Object" none with
  accessFlags := 33
  interfaces := #[]
  cf := some (fileOf pool0 8 #[] #[{ accessFlags := 1, nameIndex := 5, descriptorIndex := 6, attributes := #[] }] 33 0 #[] #[])
  fields := #[]
  methods := #[k0m0]
  instanceTypes := #[]
  staticTypes := #[]
  resolved := Array.replicate 124 none
  statics := none }

def pool1 : Array CpInfo := pool [(2, .class_ 4), (0, .nameAndType 5 6), (0, u "java/lang/Object"), (0, u "<init>"), (0, u "()V"), (0, .integer 2147483647), (0, .methodref 9 10), (0, .class_ 11), (0, .nameAndType 12 13), (0, u "java/lang/Math"), (0, u "min"), (0, u "(II)I"), (0, .class_ 15), (0, u "com/example/ordered_dispatch/ordereddispatch/SequenceQueue"), (0, .methodref 14 3), (0, .methodref 18 19), (0, .class_ 20), (0, .nameAndType 21 22), (0, u "java/lang/Integer"), (0, u "valueOf"), (0, u "(I)Ljava/lang/Integer;"), (0, .methodref 14 24), (0, .nameAndType 25 26), (0, u "add"), (0, u "(JLjava/lang/Object;)V"), (0, .methodref 28 29), (0, .class_ 30), (0, .nameAndType 31 32), (0, u "com/example/ordered_dispatch/ordereddispatch/SequenceQueueFirstKeyPinLaw"), (0, u "step"), (0, u "(Lcom/example/ordered_dispatch/ordereddispatch/SequenceQueue;[J[Z)Z"), (0, .methodref 14 34), (0, .nameAndType 35 36), (0, u "firstKey"), (0, u "()J"), (0, .methodref 28 38), (0, .nameAndType 39 40), (0, u "minPresent"), (0, u "([J[Z)J"), (0, .methodref 14 42), (0, .nameAndType 43 44), (0, u "poll"), (0, u "()Ljava/lang/Object;"), (0, .methodref 18 46), (0, .nameAndType 47 48), (0, u "intValue"), (0, u "()I"), (2, .long 9223372036854775807), (1, .methodref 9 54), (0, .nameAndType 12 55), (0, u "(JJ)J"), (2, u "law"), (0, u "(JJJJJI)Z")] 9

def k1m0 : Method := { name := "<init>", desc := "()V", sig := { parameters := [], returnType := none }, accessFlags := 1, code := none }
def k1c1 : Code := { maxStack := 4, maxLocals := 18, code := code, exceptionTable := #[], attributes := #[] }
def k1m1 : Method := { name := "law", desc := "(JJJJJI)Z", sig := { parameters := [.long, .long, .long, .long, .long, .int], returnType := some .boolean }, accessFlags := 9, code := some k1c1 }
def k1c2 : Code := { maxStack := 4, maxLocals := 7, code := method_3_code, exceptionTable := #[], attributes := #[] }
def k1m2 : Method := { name := "step", desc := "(Lcom/example/ordered_dispatch/ordereddispatch/SequenceQueue;[J[Z)Z", sig := { parameters := [(.object "com/example/ordered_dispatch/ordereddispatch/SequenceQueue"), (.array .long), (.array .boolean)], returnType := some .boolean }, accessFlags := 10, code := some k1c2 }
def k1c3 : Code := { maxStack := 4, maxLocals := 4, code := method_4_code, exceptionTable := #[], attributes := #[] }
def k1m3 : Method := { name := "minPresent", desc := "([J[Z)J", sig := { parameters := [(.array .long), (.array .boolean)], returnType := some .long }, accessFlags := 10, code := some k1c3 }
/-- com/example/ordered_dispatch/ordereddispatch/SequenceQueueFirstKeyPinLaw -/
def k1 : Class := { plain "com/example/ordered_dispatch/ordereddispatch/SequenceQueueFirstKeyPinLaw" (some 0) with
  accessFlags := 49
  interfaces := #[]
  cf := some (fileOf pool1 28 #[] #[{ accessFlags := 1, nameIndex := 5, descriptorIndex := 6, attributes := #[] }, { accessFlags := 9, nameIndex := 58, descriptorIndex := 59, attributes := #[] }, { accessFlags := 10, nameIndex := 31, descriptorIndex := 32, attributes := #[] }, { accessFlags := 10, nameIndex := 39, descriptorIndex := 40, attributes := #[] }] 49 2 #[] #[])
  fields := #[]
  methods := #[k1m0, k1m1, k1m2, k1m3]
  instanceTypes := #[]
  staticTypes := #[]
  resolved := Array.replicate 69 none
  statics := none }

def pool2 : Array CpInfo := pool [(1, .class_ 2), (0, u "java/lang/Math"), (1, .class_ 6), (1, u "java/lang/Object"), (0, u "<init>"), (0, u "()V"), (89, .class_ 100), (1, u "java/lang/Math$RandomNumberGeneratorHolder"), (20, u "(JJ)J"), (50, u "negativeZeroFloatBits"), (0, u "J"), (2, u "negativeZeroDoubleBits"), (24, u "min"), (43, u "$assertionsDisabled"), (0, u "Z"), (88, u "(II)I"), (2, u "twoToTheDoubleScaleDown"), (0, u "D"), (4, u "twoToTheDoubleScaleUp"), (9, u "E"), (3, u "PI"), (2, u "TAU"), (2, u "DEGREES_TO_RADIANS"), (0, u "RADIANS_TO_DEGREES")] 94

def k2m0 : Method := { name := "<init>", desc := "()V", sig := { parameters := [], returnType := none }, accessFlags := 2, code := none }
def k2c1 : Code := { maxStack := 2, maxLocals := 2, code := jdk_29_method_69_code, exceptionTable := #[], attributes := #[] }
def k2m1 : Method := { name := "min", desc := "(II)I", sig := { parameters := [.int, .int], returnType := some .int }, accessFlags := 9, code := some k2c1 }
def k2c2 : Code := { maxStack := 4, maxLocals := 4, code := jdk_29_method_70_code, exceptionTable := #[], attributes := #[] }
def k2m2 : Method := { name := "min", desc := "(JJ)J", sig := { parameters := [.long, .long], returnType := some .long }, accessFlags := 9, code := some k2c2 }
/-- java/lang/Math -/
def k2 : Class := { plain "java/lang/Math" (some 0) with
  accessFlags := 49
  interfaces := #[]
  cf := some (fileOf pool2 1 #[.nestMembers #[98]] #[{ accessFlags := 2, nameIndex := 7, descriptorIndex := 8, attributes := #[] }, { accessFlags := 9, nameIndex := 201, descriptorIndex := 335, attributes := #[] }, { accessFlags := 9, nameIndex := 201, descriptorIndex := 121, attributes := #[] }] 49 4 #[] #[{ accessFlags := 25, nameIndex := 354, descriptorIndex := 339, attributes := #[] }, { accessFlags := 25, nameIndex := 358, descriptorIndex := 339, attributes := #[] }, { accessFlags := 25, nameIndex := 361, descriptorIndex := 339, attributes := #[] }, { accessFlags := 26, nameIndex := 364, descriptorIndex := 339, attributes := #[] }, { accessFlags := 26, nameIndex := 365, descriptorIndex := 339, attributes := #[] }, { accessFlags := 26, nameIndex := 172, descriptorIndex := 173, attributes := #[] }, { accessFlags := 26, nameIndex := 176, descriptorIndex := 173, attributes := #[] }, { accessFlags := 8, nameIndex := 344, descriptorIndex := 339, attributes := #[] }, { accessFlags := 8, nameIndex := 338, descriptorIndex := 339, attributes := #[] }, { accessFlags := 4120, nameIndex := 245, descriptorIndex := 246, attributes := #[] }])
  fields := #[{ name := "E", type := .double, accessFlags := 25, slot := 0, constantValue := 0 }, { name := "PI", type := .double, accessFlags := 25, slot := 1, constantValue := 0 }, { name := "TAU", type := .double, accessFlags := 25, slot := 2, constantValue := 0 }, { name := "DEGREES_TO_RADIANS", type := .double, accessFlags := 26, slot := 3, constantValue := 0 }, { name := "RADIANS_TO_DEGREES", type := .double, accessFlags := 26, slot := 4, constantValue := 0 }, { name := "negativeZeroFloatBits", type := .long, accessFlags := 26, slot := 5, constantValue := 0 }, { name := "negativeZeroDoubleBits", type := .long, accessFlags := 26, slot := 6, constantValue := 0 }, { name := "twoToTheDoubleScaleUp", type := .double, accessFlags := 8, slot := 7, constantValue := 0 }, { name := "twoToTheDoubleScaleDown", type := .double, accessFlags := 8, slot := 8, constantValue := 0 }, { name := "$assertionsDisabled", type := .boolean, accessFlags := 4120, slot := 9, constantValue := 0 }]
  methods := #[k2m0, k2m1, k2m2]
  instanceTypes := #[]
  staticTypes := #[.double, .double, .double, .double, .double, .long, .long, .double, .double, .boolean]
  resolved := Array.replicate 460 none
  statics := none }

def pool3 : Array CpInfo := pool [(3, .methodref 4 5), (0, .class_ 6), (0, .nameAndType 7 8), (0, u "java/lang/Object"), (0, u "<init>"), (0, u "()V"), (0, .class_ 10), (0, u "com/example/ordered_dispatch/ordereddispatch/SequenceQueue$Run"), (0, .methodref 9 5), (0, .fieldref 13 14), (0, .class_ 15), (0, .nameAndType 16 17), (0, u "com/example/ordered_dispatch/ordereddispatch/SequenceQueue"), (0, u "run"), (0, u "Lcom/example/ordered_dispatch/ordereddispatch/SequenceQueue$Run;"), (0, .class_ 19), (0, u "com/example/ordered_dispatch/ordereddispatch/SequenceQueue$Heap"), (0, .methodref 18 5), (0, .fieldref 13 22), (0, .nameAndType 23 24), (0, u "heap"), (0, u "Lcom/example/ordered_dispatch/ordereddispatch/SequenceQueue$Heap;"), (0, .fieldref 13 26), (0, .nameAndType 27 28), (0, u "holding"), (0, u "Z"), (0, .fieldref 13 30), (0, .nameAndType 31 32), (0, u "heldKey"), (0, u "J"), (0, .fieldref 13 34), (0, .nameAndType 35 36), (0, u "heldElement"), (0, u "Ljava/lang/Object;"), (0, .methodref 13 38), (0, .nameAndType 39 40), (0, u "place"), (0, u "(JLjava/lang/Object;)V"), (0, .fieldref 9 42), (0, .nameAndType 43 44), (0, u "size"), (0, u "I"), (0, .fieldref 9 46), (0, .nameAndType 47 48), (0, u "keys"), (0, u "[J"), (0, .fieldref 9 50), (0, .nameAndType 51 44), (0, u "head"), (0, .fieldref 18 42), (0, .fieldref 18 46), (0, .methodref 9 55), (0, .nameAndType 56 57), (0, u "poll"), (0, u "()Ljava/lang/Object;"), (0, .methodref 18 55), (2, .long 9223372036854775807), (1, .methodref 64 65), (0, .class_ 66), (0, .nameAndType 67 68), (0, u "java/lang/Math"), (0, u "min"), (0, u "(JJ)J"), (13, u "add"), (14, .methodref 9 98), (0, .nameAndType 99 100), (0, u "lastKey"), (0, u "()J"), (0, .methodref 9 102), (0, .nameAndType 82 40), (0, .methodref 18 102), (0, u "KEPT"), (2, u "LONGEST"), (9, u "firstKey"), (7, .class_ 126), (0, u "com/example/ordered_dispatch/ordereddispatch/SequenceQueue$Part")] 4

def k3c0 : Code := { maxStack := 3, maxLocals := 1, code := prog_20_method_1_code, exceptionTable := #[], attributes := #[] }
def k3m0 : Method := { name := "<init>", desc := "()V", sig := { parameters := [], returnType := none }, accessFlags := 0, code := some k3c0 }
def k3c1 : Code := { maxStack := 4, maxLocals := 4, code := prog_20_method_2_code, exceptionTable := #[], attributes := #[] }
def k3m1 : Method := { name := "add", desc := "(JLjava/lang/Object;)V", sig := { parameters := [.long, (.object "java/lang/Object")], returnType := none }, accessFlags := 0, code := some k3c1 }
def k3c2 : Code := { maxStack := 4, maxLocals := 3, code := prog_20_method_3_code, exceptionTable := #[], attributes := #[] }
def k3m2 : Method := { name := "poll", desc := "()Ljava/lang/Object;", sig := { parameters := [], returnType := some (.object "java/lang/Object") }, accessFlags := 0, code := some k3c2 }
def k3c3 : Code := { maxStack := 4, maxLocals := 3, code := prog_20_method_5_code, exceptionTable := #[], attributes := #[] }
def k3m3 : Method := { name := "firstKey", desc := "()J", sig := { parameters := [], returnType := some .long }, accessFlags := 0, code := some k3c3 }
def k3c4 : Code := { maxStack := 4, maxLocals := 4, code := prog_20_method_9_code, exceptionTable := #[], attributes := #[] }
def k3m4 : Method := { name := "place", desc := "(JLjava/lang/Object;)V", sig := { parameters := [.long, (.object "java/lang/Object")], returnType := none }, accessFlags := 2, code := some k3c4 }
/-- com/example/ordered_dispatch/ordereddispatch/SequenceQueue -/
def k3 : Class := { plain "com/example/ordered_dispatch/ordereddispatch/SequenceQueue" (some 0) with
  accessFlags := 32
  interfaces := #[]
  cf := some (fileOf pool3 13 #[.nestMembers #[18, 9, 125]] #[{ accessFlags := 0, nameIndex := 7, descriptorIndex := 8, attributes := #[] }, { accessFlags := 0, nameIndex := 82, descriptorIndex := 40, attributes := #[] }, { accessFlags := 0, nameIndex := 56, descriptorIndex := 57, attributes := #[] }, { accessFlags := 0, nameIndex := 117, descriptorIndex := 100, attributes := #[] }, { accessFlags := 2, nameIndex := 39, descriptorIndex := 40, attributes := #[] }] 32 4 #[] #[{ accessFlags := 26, nameIndex := 104, descriptorIndex := 44, attributes := #[] }, { accessFlags := 26, nameIndex := 107, descriptorIndex := 44, attributes := #[] }, { accessFlags := 18, nameIndex := 16, descriptorIndex := 17, attributes := #[] }, { accessFlags := 18, nameIndex := 23, descriptorIndex := 24, attributes := #[] }, { accessFlags := 2, nameIndex := 27, descriptorIndex := 28, attributes := #[] }, { accessFlags := 2, nameIndex := 31, descriptorIndex := 32, attributes := #[] }, { accessFlags := 2, nameIndex := 35, descriptorIndex := 36, attributes := #[] }])
  fields := #[{ name := "KEPT", type := .int, accessFlags := 26, slot := 0, constantValue := 0 }, { name := "LONGEST", type := .int, accessFlags := 26, slot := 1, constantValue := 0 }, { name := "run", type := (.object "com/example/ordered_dispatch/ordereddispatch/SequenceQueue$Run"), accessFlags := 18, slot := 0, constantValue := 0 }, { name := "heap", type := (.object "com/example/ordered_dispatch/ordereddispatch/SequenceQueue$Heap"), accessFlags := 18, slot := 1, constantValue := 0 }, { name := "holding", type := .boolean, accessFlags := 2, slot := 2, constantValue := 0 }, { name := "heldKey", type := .long, accessFlags := 2, slot := 3, constantValue := 0 }, { name := "heldElement", type := (.object "java/lang/Object"), accessFlags := 2, slot := 4, constantValue := 0 }]
  methods := #[k3m0, k3m1, k3m2, k3m3, k3m4]
  instanceTypes := #[(.object "com/example/ordered_dispatch/ordereddispatch/SequenceQueue$Run"), (.object "com/example/ordered_dispatch/ordereddispatch/SequenceQueue$Heap"), .boolean, .long, (.object "java/lang/Object")]
  staticTypes := #[.int, .int]
  resolved := (((((((((((Array.replicate 131 none).setIfInBounds 9 (some (.cls 5))).setIfInBounds 11 (some (.method ⟨5, 0⟩))).setIfInBounds 18 (some (.cls 6))).setIfInBounds 20 (some (.method ⟨6, 0⟩))).setIfInBounds 49 (some (.field 5 0))).setIfInBounds 54 (some (.method ⟨5, 3⟩))).setIfInBounds 58 (some (.method ⟨6, 2⟩))).setIfInBounds 97 (some (.method ⟨5, 1⟩))).setIfInBounds 101 (some (.method ⟨5, 2⟩))).setIfInBounds 103 (some (.method ⟨6, 1⟩)))
  statics := none }

def pool4 : Array CpInfo := pool [(1, .class_ 2), (0, u "com/example/ordered_dispatch/ordereddispatch/SequenceQueue"), (0, .methodref 4 5), (0, .class_ 6), (0, .nameAndType 7 8), (0, u "java/lang/Object"), (0, u "<init>"), (0, u "()V"), (0, .fieldref 10 11), (0, .class_ 12), (0, .nameAndType 13 14), (0, u "com/example/ordered_dispatch/ordereddispatch/SequenceQueue$Part"), (0, u "keys"), (0, u "[J"), (0, .fieldref 10 16), (0, .nameAndType 17 18), (0, u "elements"), (0, u "[Ljava/lang/Object;"), (0, .fieldref 10 20), (0, .nameAndType 21 22), (0, u "size"), (0, u "I"), (0, .integer 2147483639), (9, .long 2), (1, .long 2147483639), (1, .methodref 38 39), (0, .class_ 40), (0, .nameAndType 41 42), (0, u "java/lang/Math"), (0, u "min"), (0, u "(JJ)J"), (10, u "makeRoom"), (1, u "giveBackRoom")] 20

def k4c0 : Code := { maxStack := 2, maxLocals := 1, code := prog_22_method_1_code, exceptionTable := #[], attributes := #[] }
def k4m0 : Method := { name := "<init>", desc := "()V", sig := { parameters := [], returnType := none }, accessFlags := 2, code := some k4c0 }
def k4c1 : Code := { maxStack := 5, maxLocals := 1, code := prog_22_method_2_code, exceptionTable := #[], attributes := #[] }
def k4m1 : Method := { name := "makeRoom", desc := "()V", sig := { parameters := [], returnType := none }, accessFlags := 4, code := some k4c1 }
def k4c2 : Code := { maxStack := 4, maxLocals := 1, code := prog_22_method_3_code, exceptionTable := #[], attributes := #[] }
def k4m2 : Method := { name := "giveBackRoom", desc := "()V", sig := { parameters := [], returnType := none }, accessFlags := 4, code := some k4c2 }
/-- com/example/ordered_dispatch/ordereddispatch/SequenceQueue$Part -/
def k4 : Class := { plain "com/example/ordered_dispatch/ordereddispatch/SequenceQueue$Part" (some 0) with
  accessFlags := 1056
  interfaces := #[]
  cf := some (fileOf pool4 10 #[.nestHost 1] #[{ accessFlags := 2, nameIndex := 7, descriptorIndex := 8, attributes := #[] }, { accessFlags := 4, nameIndex := 53, descriptorIndex := 8, attributes := #[] }, { accessFlags := 4, nameIndex := 55, descriptorIndex := 8, attributes := #[] }] 1056 4 #[] #[{ accessFlags := 4, nameIndex := 13, descriptorIndex := 14, attributes := #[] }, { accessFlags := 4, nameIndex := 17, descriptorIndex := 18, attributes := #[] }, { accessFlags := 4, nameIndex := 21, descriptorIndex := 22, attributes := #[] }])
  fields := #[{ name := "keys", type := (.array .long), accessFlags := 4, slot := 0, constantValue := 0 }, { name := "elements", type := (.array (.object "java/lang/Object")), accessFlags := 4, slot := 1, constantValue := 0 }, { name := "size", type := .int, accessFlags := 4, slot := 2, constantValue := 0 }]
  methods := #[k4m0, k4m1, k4m2]
  instanceTypes := #[(.array .long), (.array (.object "java/lang/Object")), .int]
  staticTypes := #[]
  resolved := Array.replicate 76 none
  statics := none }

def pool5 : Array CpInfo := pool [(1, .methodref 2 3), (0, .class_ 4), (0, .nameAndType 5 6), (0, u "com/example/ordered_dispatch/ordereddispatch/SequenceQueue$Part"), (0, u "<init>"), (0, u "()V"), (0, .fieldref 8 9), (0, .class_ 10), (0, .nameAndType 11 12), (0, u "com/example/ordered_dispatch/ordereddispatch/SequenceQueue$Run"), (0, u "keys"), (0, u "[J"), (0, .fieldref 8 14), (0, .nameAndType 15 16), (0, u "size"), (0, u "I"), (0, .methodref 8 18), (0, .nameAndType 19 20), (0, u "slot"), (0, u "(I)I"), (0, .methodref 8 22), (0, .nameAndType 23 6), (0, u "makeRoom"), (0, .fieldref 8 25), (0, .nameAndType 26 27), (0, u "elements"), (0, u "[Ljava/lang/Object;"), (0, .fieldref 8 29), (0, .nameAndType 30 16), (0, u "head"), (0, .methodref 8 32), (0, .nameAndType 33 6), (0, u "giveBackRoom"), (19, u "lastKey"), (0, u "()J"), (0, u "add"), (0, u "(JLjava/lang/Object;)V"), (0, u "poll"), (0, u "()Ljava/lang/Object;"), (6, .class_ 66), (0, u "com/example/ordered_dispatch/ordereddispatch/SequenceQueue")] 3

def k5c0 : Code := { maxStack := 1, maxLocals := 1, code := prog_23_method_1_code, exceptionTable := #[], attributes := #[] }
def k5m0 : Method := { name := "<init>", desc := "()V", sig := { parameters := [], returnType := none }, accessFlags := 2, code := some k5c0 }
def k5c1 : Code := { maxStack := 4, maxLocals := 1, code := prog_23_method_2_code, exceptionTable := #[], attributes := #[] }
def k5m1 : Method := { name := "lastKey", desc := "()J", sig := { parameters := [], returnType := some .long }, accessFlags := 2, code := some k5c1 }
def k5c2 : Code := { maxStack := 4, maxLocals := 5, code := prog_23_method_3_code, exceptionTable := #[], attributes := #[] }
def k5m2 : Method := { name := "add", desc := "(JLjava/lang/Object;)V", sig := { parameters := [.long, (.object "java/lang/Object")], returnType := none }, accessFlags := 2, code := some k5c2 }
def k5c3 : Code := { maxStack := 3, maxLocals := 2, code := prog_23_method_4_code, exceptionTable := #[], attributes := #[] }
def k5m3 : Method := { name := "poll", desc := "()Ljava/lang/Object;", sig := { parameters := [], returnType := some (.object "java/lang/Object") }, accessFlags := 2, code := some k5c3 }
def k5c4 : Code := { maxStack := 2, maxLocals := 3, code := prog_23_method_6_code, exceptionTable := #[], attributes := #[] }
def k5m4 : Method := { name := "slot", desc := "(I)I", sig := { parameters := [.int], returnType := some .int }, accessFlags := 2, code := some k5c4 }
/-- com/example/ordered_dispatch/ordereddispatch/SequenceQueue$Run -/
def k5 : Class := { plain "com/example/ordered_dispatch/ordereddispatch/SequenceQueue$Run" (some 4) with
  accessFlags := 32
  interfaces := #[]
  cf := some (fileOf pool5 8 #[.nestHost 65] #[{ accessFlags := 2, nameIndex := 5, descriptorIndex := 6, attributes := #[] }, { accessFlags := 2, nameIndex := 53, descriptorIndex := 54, attributes := #[] }, { accessFlags := 2, nameIndex := 55, descriptorIndex := 56, attributes := #[] }, { accessFlags := 2, nameIndex := 57, descriptorIndex := 58, attributes := #[] }, { accessFlags := 2, nameIndex := 19, descriptorIndex := 20, attributes := #[] }] 32 2 #[] #[{ accessFlags := 2, nameIndex := 30, descriptorIndex := 16, attributes := #[] }])
  fields := #[{ name := "head", type := .int, accessFlags := 2, slot := 3, constantValue := 0 }]
  methods := #[k5m0, k5m1, k5m2, k5m3, k5m4]
  instanceTypes := #[(.array .long), (.array (.object "java/lang/Object")), .int, .int]
  staticTypes := #[]
  resolved := Array.replicate 70 none
  statics := none }

def pool6 : Array CpInfo := pool [(1, .methodref 2 3), (0, .class_ 4), (0, .nameAndType 5 6), (0, u "com/example/ordered_dispatch/ordereddispatch/SequenceQueue$Part"), (0, u "<init>"), (0, u "()V"), (0, .methodref 8 9), (0, .class_ 10), (0, .nameAndType 11 6), (0, u "com/example/ordered_dispatch/ordereddispatch/SequenceQueue$Heap"), (0, u "makeRoom"), (0, .fieldref 8 13), (0, .nameAndType 14 15), (0, u "size"), (0, u "I"), (0, .fieldref 8 17), (0, .nameAndType 18 19), (0, u "keys"), (0, u "[J"), (0, .fieldref 8 21), (0, .nameAndType 22 23), (0, u "elements"), (0, u "[Ljava/lang/Object;"), (0, .methodref 8 25), (0, .nameAndType 26 6), (0, u "giveBackRoom"), (11, u "add"), (0, u "(JLjava/lang/Object;)V"), (1, u "poll"), (0, u "()Ljava/lang/Object;"), (7, .class_ 51), (0, u "com/example/ordered_dispatch/ordereddispatch/SequenceQueue")] 3

def k6c0 : Code := { maxStack := 1, maxLocals := 1, code := prog_21_method_1_code, exceptionTable := #[], attributes := #[] }
def k6m0 : Method := { name := "<init>", desc := "()V", sig := { parameters := [], returnType := none }, accessFlags := 2, code := some k6c0 }
def k6c1 : Code := { maxStack := 4, maxLocals := 6, code := prog_21_method_2_code, exceptionTable := #[], attributes := #[] }
def k6m1 : Method := { name := "add", desc := "(JLjava/lang/Object;)V", sig := { parameters := [.long, (.object "java/lang/Object")], returnType := none }, accessFlags := 2, code := some k6c1 }
def k6c2 : Code := { maxStack := 4, maxLocals := 8, code := prog_21_method_3_code, exceptionTable := #[], attributes := #[] }
def k6m2 : Method := { name := "poll", desc := "()Ljava/lang/Object;", sig := { parameters := [], returnType := some (.object "java/lang/Object") }, accessFlags := 2, code := some k6c2 }
/-- com/example/ordered_dispatch/ordereddispatch/SequenceQueue$Heap -/
def k6 : Class := { plain "com/example/ordered_dispatch/ordereddispatch/SequenceQueue$Heap" (some 4) with
  accessFlags := 32
  interfaces := #[]
  cf := some (fileOf pool6 8 #[.nestHost 50] #[{ accessFlags := 2, nameIndex := 5, descriptorIndex := 6, attributes := #[] }, { accessFlags := 2, nameIndex := 38, descriptorIndex := 39, attributes := #[] }, { accessFlags := 2, nameIndex := 41, descriptorIndex := 42, attributes := #[] }] 32 2 #[] #[])
  fields := #[]
  methods := #[k6m0, k6m1, k6m2]
  instanceTypes := #[(.array .long), (.array (.object "java/lang/Object")), .int]
  staticTypes := #[]
  resolved := Array.replicate 55 none
  statics := none }

def pool7 : Array CpInfo := pool [(1, .class_ 2), (0, u "java/io/Serializable"), (0, .class_ 4), (0, u "java/lang/Object")] 2

/-- java/io/Serializable -/
def k7 : Class := { plain "java/io/Serializable" (some 0) with
  accessFlags := 1537
  interfaces := #[]
  cf := some (fileOf pool7 1 #[] #[] 1537 3 #[] #[])
  fields := #[]
  methods := #[]
  instanceTypes := #[]
  staticTypes := #[]
  resolved := Array.replicate 7 none
  statics := none }

def pool8 : Array CpInfo := pool [(2, .class_ 4), (1, u "java/lang/Object"), (0, u "<init>"), (0, u "()V"), (1, .class_ 10), (1, u "java/lang/Number"), (2, .class_ 14), (0, u "java/io/Serializable"), (0, u "serialVersionUID"), (0, u "J")] 20

def k8m0 : Method := { name := "<init>", desc := "()V", sig := { parameters := [], returnType := none }, accessFlags := 1, code := none }
/-- java/lang/Number -/
def k8 : Class := { plain "java/lang/Number" (some 0) with
  accessFlags := 1057
  interfaces := #[7]
  cf := some (fileOf pool8 8 #[] #[{ accessFlags := 1, nameIndex := 5, descriptorIndex := 6, attributes := #[] }] 1057 2 #[13] #[{ accessFlags := 26, nameIndex := 15, descriptorIndex := 16, attributes := #[] }])
  fields := #[{ name := "serialVersionUID", type := .long, accessFlags := 26, slot := 0, constantValue := 0 }]
  methods := #[k8m0]
  instanceTypes := #[]
  staticTypes := #[.long]
  resolved := Array.replicate 37 none
  statics := none }

def pool9 : Array CpInfo := pool [(1, .class_ 2), (0, u "java/lang/Comparable"), (0, .class_ 4), (0, u "java/lang/Object")] 7

/-- java/lang/Comparable -/
def k9 : Class := { plain "java/lang/Comparable" (some 0) with
  accessFlags := 1537
  interfaces := #[]
  cf := some (fileOf pool9 1 #[] #[] 1537 3 #[] #[])
  fields := #[]
  methods := #[]
  instanceTypes := #[]
  staticTypes := #[]
  resolved := Array.replicate 12 none
  statics := none }

def pool10 : Array CpInfo := pool [(1, .class_ 2), (0, u "java/lang/constant/Constable"), (0, .class_ 4), (0, u "java/lang/Object")] 6

/-- java/lang/constant/Constable -/
def k10 : Class := { plain "java/lang/constant/Constable" (some 0) with
  accessFlags := 1537
  interfaces := #[]
  cf := some (fileOf pool10 1 #[] #[] 1537 3 #[] #[])
  fields := #[]
  methods := #[]
  instanceTypes := #[]
  staticTypes := #[]
  resolved := Array.replicate 11 none
  statics := none }

def pool11 : Array CpInfo := pool [(1, .class_ 2), (0, u "java/lang/constant/ConstantDesc"), (0, .class_ 4), (0, u "java/lang/Object")] 32

/-- java/lang/constant/ConstantDesc -/
def k11 : Class := { plain "java/lang/constant/ConstantDesc" (some 0) with
  accessFlags := 1537
  interfaces := #[]
  cf := some (fileOf pool11 1 #[] #[] 1537 3 #[] #[])
  fields := #[]
  methods := #[]
  instanceTypes := #[]
  staticTypes := #[]
  resolved := Array.replicate 37 none
  statics := none }

def pool12 : Array CpInfo := pool [(1, .class_ 2), (0, u "java/lang/Integer"), (16, u "digits"), (0, u "[C"), (64, u "DigitOnes"), (0, u "[B"), (2, u "DigitTens"), (31, u "()I"), (65, u "valueOf"), (0, u "(I)Ljava/lang/Integer;"), (0, .class_ 190), (0, u "java/lang/Integer$IntegerCache"), (0, .fieldref 189 192), (0, .nameAndType 193 194), (0, u "high"), (0, u "I"), (0, .fieldref 189 196), (0, .nameAndType 197 198), (0, u "cache"), (0, u "[Ljava/lang/Integer;"), (4, .class_ 204), (0, u "java/lang/Number"), (0, .fieldref 1 206), (0, .nameAndType 207 194), (0, u "value"), (5, u "intValue"), (88, u "TYPE"), (0, u "Ljava/lang/Class;"), (0, .class_ 305), (0, u "java/lang/Comparable"), (0, .class_ 307), (0, u "java/lang/constant/Constable"), (0, .class_ 309), (0, u "java/lang/constant/ConstantDesc"), (0, u "MIN_VALUE"), (1, u "MAX_VALUE"), (3, u "SIZE"), (1, u "BYTES"), (1, u "serialVersionUID"), (0, u "J")] 131

def k12c0 : Code := { maxStack := 3, maxLocals := 1, code := jdk_33_method_22_code, exceptionTable := #[], attributes := #[] }
def k12m0 : Method := { name := "valueOf", desc := "(I)Ljava/lang/Integer;", sig := { parameters := [.int], returnType := some (.object "java/lang/Integer") }, accessFlags := 9, code := some k12c0 }
def k12c1 : Code := { maxStack := 1, maxLocals := 1, code := jdk_33_method_27_code, exceptionTable := #[], attributes := #[] }
def k12m1 : Method := { name := "intValue", desc := "()I", sig := { parameters := [], returnType := some .int }, accessFlags := 1, code := some k12c1 }
/-- java/lang/Integer -/
def k12 : Class := { plain "java/lang/Integer" (some 8) with
  accessFlags := 49
  interfaces := #[9, 10, 11]
  cf := some (fileOf pool12 1 #[.nestMembers #[189]] #[{ accessFlags := 9, nameIndex := 187, descriptorIndex := 188, attributes := #[] }, { accessFlags := 1, nameIndex := 213, descriptorIndex := 121, attributes := #[] }] 49 203 #[304, 306, 308] #[{ accessFlags := 25, nameIndex := 310, descriptorIndex := 194, attributes := #[] }, { accessFlags := 25, nameIndex := 312, descriptorIndex := 194, attributes := #[] }, { accessFlags := 25, nameIndex := 302, descriptorIndex := 303, attributes := #[] }, { accessFlags := 24, nameIndex := 19, descriptorIndex := 20, attributes := #[] }, { accessFlags := 24, nameIndex := 89, descriptorIndex := 86, attributes := #[] }, { accessFlags := 24, nameIndex := 85, descriptorIndex := 86, attributes := #[] }, { accessFlags := 18, nameIndex := 207, descriptorIndex := 194, attributes := #[] }, { accessFlags := 25, nameIndex := 316, descriptorIndex := 194, attributes := #[] }, { accessFlags := 25, nameIndex := 318, descriptorIndex := 194, attributes := #[] }, { accessFlags := 26, nameIndex := 320, descriptorIndex := 321, attributes := #[] }])
  fields := #[{ name := "MIN_VALUE", type := .int, accessFlags := 25, slot := 0, constantValue := 0 }, { name := "MAX_VALUE", type := .int, accessFlags := 25, slot := 1, constantValue := 0 }, { name := "TYPE", type := (.object "java/lang/Class"), accessFlags := 25, slot := 2, constantValue := 0 }, { name := "digits", type := (.array .char), accessFlags := 24, slot := 3, constantValue := 0 }, { name := "DigitTens", type := (.array .byte), accessFlags := 24, slot := 4, constantValue := 0 }, { name := "DigitOnes", type := (.array .byte), accessFlags := 24, slot := 5, constantValue := 0 }, { name := "value", type := .int, accessFlags := 18, slot := 0, constantValue := 0 }, { name := "SIZE", type := .int, accessFlags := 25, slot := 6, constantValue := 0 }, { name := "BYTES", type := .int, accessFlags := 25, slot := 7, constantValue := 0 }, { name := "serialVersionUID", type := .long, accessFlags := 26, slot := 8, constantValue := 0 }]
  methods := #[k12m0, k12m1]
  instanceTypes := #[.int]
  staticTypes := #[.int, .int, (.object "java/lang/Class"), (.array .char), (.array .byte), (.array .byte), .int, .int, .long]
  resolved := Array.replicate 453 none
  statics := none }

def pool13 : Array CpInfo := pool [(2, .class_ 4), (1, u "java/lang/Object"), (0, u "<init>"), (0, u "()V"), (0, .class_ 8), (0, u "java/lang/Integer"), (7, .class_ 18), (1, u "java/lang/Integer$IntegerCache"), (0, u "$assertionsDisabled"), (0, u "Z"), (26, u "high"), (0, u "I"), (8, u "archivedCache"), (0, u "[Ljava/lang/Integer;"), (12, u "cache"), (0, u "low")] 27

def k13m0 : Method := { name := "<init>", desc := "()V", sig := { parameters := [], returnType := none }, accessFlags := 2, code := none }
/-- java/lang/Integer$IntegerCache -/
def k13 : Class := { plain "java/lang/Integer$IntegerCache" (some 0) with
  accessFlags := 48
  interfaces := #[]
  cf := some (fileOf pool13 16 #[.nestHost 7] #[{ accessFlags := 2, nameIndex := 5, descriptorIndex := 6, attributes := #[] }] 48 2 #[] #[{ accessFlags := 24, nameIndex := 72, descriptorIndex := 48, attributes := #[] }, { accessFlags := 24, nameIndex := 47, descriptorIndex := 48, attributes := #[] }, { accessFlags := 24, nameIndex := 71, descriptorIndex := 58, attributes := #[] }, { accessFlags := 8, nameIndex := 57, descriptorIndex := 58, attributes := #[] }, { accessFlags := 4120, nameIndex := 19, descriptorIndex := 20, attributes := #[] }])
  fields := #[{ name := "low", type := .int, accessFlags := 24, slot := 0, constantValue := 0 }, { name := "high", type := .int, accessFlags := 24, slot := 1, constantValue := 0 }, { name := "cache", type := (.array (.object "java/lang/Integer")), accessFlags := 24, slot := 2, constantValue := 0 }, { name := "archivedCache", type := (.array (.object "java/lang/Integer")), accessFlags := 8, slot := 3, constantValue := 0 }, { name := "$assertionsDisabled", type := .boolean, accessFlags := 4120, slot := 4, constantValue := 0 }]
  methods := #[k13m0]
  instanceTypes := #[]
  staticTypes := #[.int, .int, (.array (.object "java/lang/Integer")), (.array (.object "java/lang/Integer")), .boolean]
  resolved := Array.replicate 100 none
  statics := some 0 }

def pool14 : Array CpInfo := pool [(1, u "java/lang/Cloneable"), (0, .class_ 1), (0, u "java/lang/Object"), (0, .class_ 3)] 3

/-- java/lang/Cloneable -/
def k14 : Class := { plain "java/lang/Cloneable" (some 0) with
  accessFlags := 1537
  interfaces := #[]
  cf := some (fileOf pool14 2 #[] #[] 1537 4 #[] #[])
  fields := #[]
  methods := #[]
  instanceTypes := #[]
  staticTypes := #[]
  resolved := Array.replicate 8 none
  statics := none }

/-- the primitive boolean -/
def k15 : Class := { plain "boolean" none with kind := .primitive 'Z', accessFlags := 0x411 }
/-- [Z -/
def k16 : Class := { plain "[Z" (some 0) with kind := .array 15 .boolean, interfaces := #[14, 7], accessFlags := 1041 }

/-- the primitive byte -/
def k17 : Class := { plain "byte" none with kind := .primitive 'B', accessFlags := 0x411 }
/-- [B -/
def k18 : Class := { plain "[B" (some 0) with kind := .array 17 .byte, interfaces := #[14, 7], accessFlags := 1041 }

/-- the primitive int -/
def k19 : Class := { plain "int" none with kind := .primitive 'I', accessFlags := 0x411 }
/-- [I -/
def k20 : Class := { plain "[I" (some 0) with kind := .array 19 .int, interfaces := #[14, 7], accessFlags := 1041 }

/-- the primitive long -/
def k21 : Class := { plain "long" none with kind := .primitive 'J', accessFlags := 0x411 }
/-- [J -/
def k22 : Class := { plain "[J" (some 0) with kind := .array 21 .long, interfaces := #[14, 7], accessFlags := 1041 }

/-- [Ljava/lang/Integer; -/
def k23 : Class := { plain "[Ljava/lang/Integer;" (some 0) with kind := .array 12 (.object "java/lang/Integer"), interfaces := #[14, 7], accessFlags := 1041 }

/-- [Ljava/lang/Object; -/
def k24 : Class := { plain "[Ljava/lang/Object;" (some 0) with kind := .array 0 (.object "java/lang/Object"), interfaces := #[14, 7], accessFlags := 1041 }

def heap : Heap := #[{ cls := 13, slots := #[.int 0, .int 127, .ref 1, .null, .int 0], vm := .statics 13 },
  { cls := 23, slots := #[.ref 2, .ref 3, .ref 4, .ref 5, .ref 6, .ref 7, .ref 8, .ref 9, .ref 10, .ref 11, .ref 12, .ref 13, .ref 14, .ref 15, .ref 16, .ref 17, .ref 18, .ref 19, .ref 20, .ref 21, .ref 22, .ref 23, .ref 24, .ref 25, .ref 26, .ref 27, .ref 28, .ref 29, .ref 30, .ref 31, .ref 32, .ref 33, .ref 34, .ref 35, .ref 36, .ref 37, .ref 38, .ref 39, .ref 40, .ref 41, .ref 42, .ref 43, .ref 44, .ref 45, .ref 46, .ref 47, .ref 48, .ref 49, .ref 50, .ref 51, .ref 52, .ref 53, .ref 54, .ref 55, .ref 56, .ref 57, .ref 58, .ref 59, .ref 60, .ref 61, .ref 62, .ref 63, .ref 64, .ref 65, .ref 66, .ref 67, .ref 68, .ref 69, .ref 70, .ref 71, .ref 72, .ref 73, .ref 74, .ref 75, .ref 76, .ref 77, .ref 78, .ref 79, .ref 80, .ref 81, .ref 82, .ref 83, .ref 84, .ref 85, .ref 86, .ref 87, .ref 88, .ref 89, .ref 90, .ref 91, .ref 92, .ref 93, .ref 94, .ref 95, .ref 96, .ref 97, .ref 98, .ref 99, .ref 100, .ref 101, .ref 102, .ref 103, .ref 104, .ref 105, .ref 106, .ref 107, .ref 108, .ref 109, .ref 110, .ref 111, .ref 112, .ref 113, .ref 114, .ref 115, .ref 116, .ref 117, .ref 118, .ref 119, .ref 120, .ref 121, .ref 122, .ref 123, .ref 124, .ref 125, .ref 126, .ref 127, .ref 128, .ref 129, .ref 130, .ref 131, .ref 132, .ref 133, .ref 134, .ref 135, .ref 136, .ref 137, .ref 138, .ref 139, .ref 140, .ref 141, .ref 142, .ref 143, .ref 144, .ref 145, .ref 146, .ref 147, .ref 148, .ref 149, .ref 150, .ref 151, .ref 152, .ref 153, .ref 154, .ref 155, .ref 156, .ref 157, .ref 158, .ref 159, .ref 160, .ref 161, .ref 162, .ref 163, .ref 164, .ref 165, .ref 166, .ref 167, .ref 168, .ref 169, .ref 170, .ref 171, .ref 172, .ref 173, .ref 174, .ref 175, .ref 176, .ref 177, .ref 178, .ref 179, .ref 180, .ref 181, .ref 182, .ref 183, .ref 184, .ref 185, .ref 186, .ref 187, .ref 188, .ref 189, .ref 190, .ref 191, .ref 192, .ref 193, .ref 194, .ref 195, .ref 196, .ref 197, .ref 198, .ref 199, .ref 200, .ref 201, .ref 202, .ref 203, .ref 204, .ref 205, .ref 206, .ref 207, .ref 208, .ref 209, .ref 210, .ref 211, .ref 212, .ref 213, .ref 214, .ref 215, .ref 216, .ref 217, .ref 218, .ref 219, .ref 220, .ref 221, .ref 222, .ref 223, .ref 224, .ref 225, .ref 226, .ref 227, .ref 228, .ref 229, .ref 230, .ref 231, .ref 232, .ref 233, .ref 234, .ref 235, .ref 236, .ref 237, .ref 238, .ref 239, .ref 240, .ref 241, .ref 242, .ref 243, .ref 244, .ref 245, .ref 246, .ref 247, .ref 248, .ref 249, .ref 250, .ref 251, .ref 252, .ref 253, .ref 254, .ref 255, .ref 256, .ref 257], vm := .none },
  { cls := 12, slots := #[.int (-128)], vm := .none },
  { cls := 12, slots := #[.int (-127)], vm := .none },
  { cls := 12, slots := #[.int (-126)], vm := .none },
  { cls := 12, slots := #[.int (-125)], vm := .none },
  { cls := 12, slots := #[.int (-124)], vm := .none },
  { cls := 12, slots := #[.int (-123)], vm := .none },
  { cls := 12, slots := #[.int (-122)], vm := .none },
  { cls := 12, slots := #[.int (-121)], vm := .none },
  { cls := 12, slots := #[.int (-120)], vm := .none },
  { cls := 12, slots := #[.int (-119)], vm := .none },
  { cls := 12, slots := #[.int (-118)], vm := .none },
  { cls := 12, slots := #[.int (-117)], vm := .none },
  { cls := 12, slots := #[.int (-116)], vm := .none },
  { cls := 12, slots := #[.int (-115)], vm := .none },
  { cls := 12, slots := #[.int (-114)], vm := .none },
  { cls := 12, slots := #[.int (-113)], vm := .none },
  { cls := 12, slots := #[.int (-112)], vm := .none },
  { cls := 12, slots := #[.int (-111)], vm := .none },
  { cls := 12, slots := #[.int (-110)], vm := .none },
  { cls := 12, slots := #[.int (-109)], vm := .none },
  { cls := 12, slots := #[.int (-108)], vm := .none },
  { cls := 12, slots := #[.int (-107)], vm := .none },
  { cls := 12, slots := #[.int (-106)], vm := .none },
  { cls := 12, slots := #[.int (-105)], vm := .none },
  { cls := 12, slots := #[.int (-104)], vm := .none },
  { cls := 12, slots := #[.int (-103)], vm := .none },
  { cls := 12, slots := #[.int (-102)], vm := .none },
  { cls := 12, slots := #[.int (-101)], vm := .none },
  { cls := 12, slots := #[.int (-100)], vm := .none },
  { cls := 12, slots := #[.int (-99)], vm := .none },
  { cls := 12, slots := #[.int (-98)], vm := .none },
  { cls := 12, slots := #[.int (-97)], vm := .none },
  { cls := 12, slots := #[.int (-96)], vm := .none },
  { cls := 12, slots := #[.int (-95)], vm := .none },
  { cls := 12, slots := #[.int (-94)], vm := .none },
  { cls := 12, slots := #[.int (-93)], vm := .none },
  { cls := 12, slots := #[.int (-92)], vm := .none },
  { cls := 12, slots := #[.int (-91)], vm := .none },
  { cls := 12, slots := #[.int (-90)], vm := .none },
  { cls := 12, slots := #[.int (-89)], vm := .none },
  { cls := 12, slots := #[.int (-88)], vm := .none },
  { cls := 12, slots := #[.int (-87)], vm := .none },
  { cls := 12, slots := #[.int (-86)], vm := .none },
  { cls := 12, slots := #[.int (-85)], vm := .none },
  { cls := 12, slots := #[.int (-84)], vm := .none },
  { cls := 12, slots := #[.int (-83)], vm := .none },
  { cls := 12, slots := #[.int (-82)], vm := .none },
  { cls := 12, slots := #[.int (-81)], vm := .none },
  { cls := 12, slots := #[.int (-80)], vm := .none },
  { cls := 12, slots := #[.int (-79)], vm := .none },
  { cls := 12, slots := #[.int (-78)], vm := .none },
  { cls := 12, slots := #[.int (-77)], vm := .none },
  { cls := 12, slots := #[.int (-76)], vm := .none },
  { cls := 12, slots := #[.int (-75)], vm := .none },
  { cls := 12, slots := #[.int (-74)], vm := .none },
  { cls := 12, slots := #[.int (-73)], vm := .none },
  { cls := 12, slots := #[.int (-72)], vm := .none },
  { cls := 12, slots := #[.int (-71)], vm := .none },
  { cls := 12, slots := #[.int (-70)], vm := .none },
  { cls := 12, slots := #[.int (-69)], vm := .none },
  { cls := 12, slots := #[.int (-68)], vm := .none },
  { cls := 12, slots := #[.int (-67)], vm := .none },
  { cls := 12, slots := #[.int (-66)], vm := .none },
  { cls := 12, slots := #[.int (-65)], vm := .none },
  { cls := 12, slots := #[.int (-64)], vm := .none },
  { cls := 12, slots := #[.int (-63)], vm := .none },
  { cls := 12, slots := #[.int (-62)], vm := .none },
  { cls := 12, slots := #[.int (-61)], vm := .none },
  { cls := 12, slots := #[.int (-60)], vm := .none },
  { cls := 12, slots := #[.int (-59)], vm := .none },
  { cls := 12, slots := #[.int (-58)], vm := .none },
  { cls := 12, slots := #[.int (-57)], vm := .none },
  { cls := 12, slots := #[.int (-56)], vm := .none },
  { cls := 12, slots := #[.int (-55)], vm := .none },
  { cls := 12, slots := #[.int (-54)], vm := .none },
  { cls := 12, slots := #[.int (-53)], vm := .none },
  { cls := 12, slots := #[.int (-52)], vm := .none },
  { cls := 12, slots := #[.int (-51)], vm := .none },
  { cls := 12, slots := #[.int (-50)], vm := .none },
  { cls := 12, slots := #[.int (-49)], vm := .none },
  { cls := 12, slots := #[.int (-48)], vm := .none },
  { cls := 12, slots := #[.int (-47)], vm := .none },
  { cls := 12, slots := #[.int (-46)], vm := .none },
  { cls := 12, slots := #[.int (-45)], vm := .none },
  { cls := 12, slots := #[.int (-44)], vm := .none },
  { cls := 12, slots := #[.int (-43)], vm := .none },
  { cls := 12, slots := #[.int (-42)], vm := .none },
  { cls := 12, slots := #[.int (-41)], vm := .none },
  { cls := 12, slots := #[.int (-40)], vm := .none },
  { cls := 12, slots := #[.int (-39)], vm := .none },
  { cls := 12, slots := #[.int (-38)], vm := .none },
  { cls := 12, slots := #[.int (-37)], vm := .none },
  { cls := 12, slots := #[.int (-36)], vm := .none },
  { cls := 12, slots := #[.int (-35)], vm := .none },
  { cls := 12, slots := #[.int (-34)], vm := .none },
  { cls := 12, slots := #[.int (-33)], vm := .none },
  { cls := 12, slots := #[.int (-32)], vm := .none },
  { cls := 12, slots := #[.int (-31)], vm := .none },
  { cls := 12, slots := #[.int (-30)], vm := .none },
  { cls := 12, slots := #[.int (-29)], vm := .none },
  { cls := 12, slots := #[.int (-28)], vm := .none },
  { cls := 12, slots := #[.int (-27)], vm := .none },
  { cls := 12, slots := #[.int (-26)], vm := .none },
  { cls := 12, slots := #[.int (-25)], vm := .none },
  { cls := 12, slots := #[.int (-24)], vm := .none },
  { cls := 12, slots := #[.int (-23)], vm := .none },
  { cls := 12, slots := #[.int (-22)], vm := .none },
  { cls := 12, slots := #[.int (-21)], vm := .none },
  { cls := 12, slots := #[.int (-20)], vm := .none },
  { cls := 12, slots := #[.int (-19)], vm := .none },
  { cls := 12, slots := #[.int (-18)], vm := .none },
  { cls := 12, slots := #[.int (-17)], vm := .none },
  { cls := 12, slots := #[.int (-16)], vm := .none },
  { cls := 12, slots := #[.int (-15)], vm := .none },
  { cls := 12, slots := #[.int (-14)], vm := .none },
  { cls := 12, slots := #[.int (-13)], vm := .none },
  { cls := 12, slots := #[.int (-12)], vm := .none },
  { cls := 12, slots := #[.int (-11)], vm := .none },
  { cls := 12, slots := #[.int (-10)], vm := .none },
  { cls := 12, slots := #[.int (-9)], vm := .none },
  { cls := 12, slots := #[.int (-8)], vm := .none },
  { cls := 12, slots := #[.int (-7)], vm := .none },
  { cls := 12, slots := #[.int (-6)], vm := .none },
  { cls := 12, slots := #[.int (-5)], vm := .none },
  { cls := 12, slots := #[.int (-4)], vm := .none },
  { cls := 12, slots := #[.int (-3)], vm := .none },
  { cls := 12, slots := #[.int (-2)], vm := .none },
  { cls := 12, slots := #[.int (-1)], vm := .none },
  { cls := 12, slots := #[.int 0], vm := .none },
  { cls := 12, slots := #[.int 1], vm := .none },
  { cls := 12, slots := #[.int 2], vm := .none },
  { cls := 12, slots := #[.int 3], vm := .none },
  { cls := 12, slots := #[.int 4], vm := .none },
  { cls := 12, slots := #[.int 5], vm := .none },
  { cls := 12, slots := #[.int 6], vm := .none },
  { cls := 12, slots := #[.int 7], vm := .none },
  { cls := 12, slots := #[.int 8], vm := .none },
  { cls := 12, slots := #[.int 9], vm := .none },
  { cls := 12, slots := #[.int 10], vm := .none },
  { cls := 12, slots := #[.int 11], vm := .none },
  { cls := 12, slots := #[.int 12], vm := .none },
  { cls := 12, slots := #[.int 13], vm := .none },
  { cls := 12, slots := #[.int 14], vm := .none },
  { cls := 12, slots := #[.int 15], vm := .none },
  { cls := 12, slots := #[.int 16], vm := .none },
  { cls := 12, slots := #[.int 17], vm := .none },
  { cls := 12, slots := #[.int 18], vm := .none },
  { cls := 12, slots := #[.int 19], vm := .none },
  { cls := 12, slots := #[.int 20], vm := .none },
  { cls := 12, slots := #[.int 21], vm := .none },
  { cls := 12, slots := #[.int 22], vm := .none },
  { cls := 12, slots := #[.int 23], vm := .none },
  { cls := 12, slots := #[.int 24], vm := .none },
  { cls := 12, slots := #[.int 25], vm := .none },
  { cls := 12, slots := #[.int 26], vm := .none },
  { cls := 12, slots := #[.int 27], vm := .none },
  { cls := 12, slots := #[.int 28], vm := .none },
  { cls := 12, slots := #[.int 29], vm := .none },
  { cls := 12, slots := #[.int 30], vm := .none },
  { cls := 12, slots := #[.int 31], vm := .none },
  { cls := 12, slots := #[.int 32], vm := .none },
  { cls := 12, slots := #[.int 33], vm := .none },
  { cls := 12, slots := #[.int 34], vm := .none },
  { cls := 12, slots := #[.int 35], vm := .none },
  { cls := 12, slots := #[.int 36], vm := .none },
  { cls := 12, slots := #[.int 37], vm := .none },
  { cls := 12, slots := #[.int 38], vm := .none },
  { cls := 12, slots := #[.int 39], vm := .none },
  { cls := 12, slots := #[.int 40], vm := .none },
  { cls := 12, slots := #[.int 41], vm := .none },
  { cls := 12, slots := #[.int 42], vm := .none },
  { cls := 12, slots := #[.int 43], vm := .none },
  { cls := 12, slots := #[.int 44], vm := .none },
  { cls := 12, slots := #[.int 45], vm := .none },
  { cls := 12, slots := #[.int 46], vm := .none },
  { cls := 12, slots := #[.int 47], vm := .none },
  { cls := 12, slots := #[.int 48], vm := .none },
  { cls := 12, slots := #[.int 49], vm := .none },
  { cls := 12, slots := #[.int 50], vm := .none },
  { cls := 12, slots := #[.int 51], vm := .none },
  { cls := 12, slots := #[.int 52], vm := .none },
  { cls := 12, slots := #[.int 53], vm := .none },
  { cls := 12, slots := #[.int 54], vm := .none },
  { cls := 12, slots := #[.int 55], vm := .none },
  { cls := 12, slots := #[.int 56], vm := .none },
  { cls := 12, slots := #[.int 57], vm := .none },
  { cls := 12, slots := #[.int 58], vm := .none },
  { cls := 12, slots := #[.int 59], vm := .none },
  { cls := 12, slots := #[.int 60], vm := .none },
  { cls := 12, slots := #[.int 61], vm := .none },
  { cls := 12, slots := #[.int 62], vm := .none },
  { cls := 12, slots := #[.int 63], vm := .none },
  { cls := 12, slots := #[.int 64], vm := .none },
  { cls := 12, slots := #[.int 65], vm := .none },
  { cls := 12, slots := #[.int 66], vm := .none },
  { cls := 12, slots := #[.int 67], vm := .none },
  { cls := 12, slots := #[.int 68], vm := .none },
  { cls := 12, slots := #[.int 69], vm := .none },
  { cls := 12, slots := #[.int 70], vm := .none },
  { cls := 12, slots := #[.int 71], vm := .none },
  { cls := 12, slots := #[.int 72], vm := .none },
  { cls := 12, slots := #[.int 73], vm := .none },
  { cls := 12, slots := #[.int 74], vm := .none },
  { cls := 12, slots := #[.int 75], vm := .none },
  { cls := 12, slots := #[.int 76], vm := .none },
  { cls := 12, slots := #[.int 77], vm := .none },
  { cls := 12, slots := #[.int 78], vm := .none },
  { cls := 12, slots := #[.int 79], vm := .none },
  { cls := 12, slots := #[.int 80], vm := .none },
  { cls := 12, slots := #[.int 81], vm := .none },
  { cls := 12, slots := #[.int 82], vm := .none },
  { cls := 12, slots := #[.int 83], vm := .none },
  { cls := 12, slots := #[.int 84], vm := .none },
  { cls := 12, slots := #[.int 85], vm := .none },
  { cls := 12, slots := #[.int 86], vm := .none },
  { cls := 12, slots := #[.int 87], vm := .none },
  { cls := 12, slots := #[.int 88], vm := .none },
  { cls := 12, slots := #[.int 89], vm := .none },
  { cls := 12, slots := #[.int 90], vm := .none },
  { cls := 12, slots := #[.int 91], vm := .none },
  { cls := 12, slots := #[.int 92], vm := .none },
  { cls := 12, slots := #[.int 93], vm := .none },
  { cls := 12, slots := #[.int 94], vm := .none },
  { cls := 12, slots := #[.int 95], vm := .none },
  { cls := 12, slots := #[.int 96], vm := .none },
  { cls := 12, slots := #[.int 97], vm := .none },
  { cls := 12, slots := #[.int 98], vm := .none },
  { cls := 12, slots := #[.int 99], vm := .none },
  { cls := 12, slots := #[.int 100], vm := .none },
  { cls := 12, slots := #[.int 101], vm := .none },
  { cls := 12, slots := #[.int 102], vm := .none },
  { cls := 12, slots := #[.int 103], vm := .none },
  { cls := 12, slots := #[.int 104], vm := .none },
  { cls := 12, slots := #[.int 105], vm := .none },
  { cls := 12, slots := #[.int 106], vm := .none },
  { cls := 12, slots := #[.int 107], vm := .none },
  { cls := 12, slots := #[.int 108], vm := .none },
  { cls := 12, slots := #[.int 109], vm := .none },
  { cls := 12, slots := #[.int 110], vm := .none },
  { cls := 12, slots := #[.int 111], vm := .none },
  { cls := 12, slots := #[.int 112], vm := .none },
  { cls := 12, slots := #[.int 113], vm := .none },
  { cls := 12, slots := #[.int 114], vm := .none },
  { cls := 12, slots := #[.int 115], vm := .none },
  { cls := 12, slots := #[.int 116], vm := .none },
  { cls := 12, slots := #[.int 117], vm := .none },
  { cls := 12, slots := #[.int 118], vm := .none },
  { cls := 12, slots := #[.int 119], vm := .none },
  { cls := 12, slots := #[.int 120], vm := .none },
  { cls := 12, slots := #[.int 121], vm := .none },
  { cls := 12, slots := #[.int 122], vm := .none },
  { cls := 12, slots := #[.int 123], vm := .none },
  { cls := 12, slots := #[.int 124], vm := .none },
  { cls := 12, slots := #[.int 125], vm := .none },
  { cls := 12, slots := #[.int 126], vm := .none },
  { cls := 12, slots := #[.int 127], vm := .none }]
def classes : Array Class := #[k0, k1, k2, k3, k4, k5, k6, k7, k8, k9, k10, k11, k12, k13, k14, k15, k16, k17, k18, k19, k20, k21, k22, k23, k24]
def interned : List (Array UInt16 × Addr) := []
def slotsUsed : Nat := 517
def theMethod : MethodId := ⟨1, 1⟩
def args0 : Array Value := #[.long 3, .long 1, .long 2, .long 4, .long 0, .int 12]
def aboutOver (below : List Frame) : State where
  vm := { classes := classes, interned := interned.toArray }
  heap := heap
  slotsUsed := slotsUsed
  threads := #[{ frames := .invoking theMethod args0 :: below }]
def below0 : List Frame := [.native { method := ⟨0, 0⟩, args := #[] }]
def about1 : State := aboutOver below0
def p0 : Program := .bare "" "" ""
def e0 : Env := launch0.env 0 0 0
theorem w_frames : about1.frames = Frame.invoking theMethod args0 :: below0 := rfl
set_option maxRecDepth 65536 in
theorem w_args : argsFit about1.vm theMethod args0 = true := by decide +kernel
set_option maxRecDepth 65536 in
theorem w_heap : heapFits about1 = true := by decide +kernel
set_option maxRecDepth 65536 in
theorem w_runnable : about1.curStatus? = some .runnable := by decide +kernel
set_option maxRecDepth 65536 in
theorem w_alone : about1.alone = true := by decide +kernel
set_option maxRecDepth 65536 in
theorem w_named : about1.methodNamed? x = some theMethod := by decide +kernel
set_option maxRecDepth 65536 in
theorem w_hears : about1.hears theMethod below0 = true := by decide +kernel
set_option maxRecDepth 65536 in
theorem w_ripe : about1.ripe theMethod args0 below0 = true := by decide +kernel
theorem w_running : about1.status = .running := rfl
set_option maxRecDepth 65536 in
theorem w_room : about1.hasRoom e0.platform room_1 = true :=
  launch0.hasRoom_least _ room_1 (by decide +kernel) (by decide +kernel) (by decide +kernel) (by decide +kernel) (by decide +kernel) (by decide +kernel)
theorem allAtoms_all (ts : List Jvm.Cond) (a : Array Jvm.Value) (st : Jvm.State) : (allAtoms ts).before a st = ts.all (fun c => c.before a st) := by
  induction ts with
  | nil => rfl
  | cons c t ih =>
    show (Jvm.Cond.and c (allAtoms t)).before a st = _
    rw [Jvm.Cond.before_and, ih, List.all_cons]
def words1 : List Jvm.Cond := Jvm.Cond.code x code maxLocals ret :: tables_1
/-- a 'code' word, met by the world's own term for the bytes: nothing is compared byte by byte -/
theorem code_word {y : MethodName} {bytes : ByteArray} {mx : Nat} {rt : Option FieldType} {a : Array Value} {s : State} {m : MethodId} {meth : Method} {c : Code} (h1 : s.methodNamed? y = some m) (h2 : s.vm.method? m = some meth) (h3 : meth.code = some c) (h4 : c.code = bytes)
    (h5 : (c.maxLocals == mx && c.exceptionTable.isEmpty && decide (c.maxStack ≤ mostOperands) && decide (meth.sig.returnType = rt) && !meth.locks && decide (parseMethodDescriptor y.desc = some meth.sig)) = true) : (Jvm.Cond.code y bytes mx rt).before a s = true := by
  simp only [Bool.and_eq_true, beq_iff_eq, Bool.not_eq_true', decide_eq_true_eq] at h5
  obtain ⟨⟨⟨⟨⟨g1, g2⟩, g3⟩, g4⟩, g5⟩, g6⟩ := h5
  simp [Cond.before, Cond.holds, Cond.value, h1, h2, h3, h4, g1, g2, g3, g4, g5, g6]
def isCode : Jvm.Cond → Bool
  | .code _ _ _ _ => true
  | _ => false
theorem all_split {L : List Jvm.Cond} {P : Jvm.Cond → Bool} (h1 : L.all (fun c => isCode c || P c) = true) (h2 : ∀ c ∈ L.filter isCode, P c = true) : L.all P = true := by
  refine List.all_eq_true.mpr fun c hc => ?_
  have h := List.all_eq_true.mp h1 c hc
  rcases Bool.eq_false_or_eq_true (isCode c) with hi | hi
  · exact h2 c (List.mem_filter.mpr ⟨hc, hi⟩)
  · simpa [hi] using h
set_option maxRecDepth 65536 in
theorem w_c0 : (Jvm.Cond.code x code maxLocals ret).before args0 about1 = true := code_word (m := ⟨1, 1⟩) (meth := k1m1) (c := k1c1) (by decide +kernel) rfl rfl rfl (by decide +kernel)
set_option maxRecDepth 65536 in
theorem w_c1 : (Jvm.Cond.code ({ cls := "java/lang/Math", name := "min", desc := "(II)I" } : Jvm.MethodName) jdk_29_method_69_code (2 : Nat) (Option.some Jvm.ClassFile.FieldType.int)).before args0 about1 = true := code_word (m := ⟨2, 1⟩) (meth := k2m1) (c := k2c1) (by decide +kernel) rfl rfl rfl (by decide +kernel)
set_option maxRecDepth 65536 in
theorem w_c2 : (Jvm.Cond.code ({ cls := "com/example/ordered_dispatch/ordereddispatch/SequenceQueue", name := "<init>", desc := "()V" } : Jvm.MethodName) prog_20_method_1_code (1 : Nat) (Option.none : Option Jvm.ClassFile.FieldType)).before args0 about1 = true := code_word (m := ⟨3, 0⟩) (meth := k3m0) (c := k3c0) (by decide +kernel) rfl rfl rfl (by decide +kernel)
set_option maxRecDepth 65536 in
theorem w_c3 : (Jvm.Cond.code ({ cls := "java/lang/Object", name := "<init>", desc := "()V" } : Jvm.MethodName) object_method_1_code (1 : Nat) (Option.none : Option Jvm.ClassFile.FieldType)).before args0 about1 = true := code_word (m := ⟨0, 0⟩) (meth := k0m0) (c := k0c0) (by decide +kernel) rfl rfl rfl (by decide +kernel)
set_option maxRecDepth 65536 in
theorem w_c4 : (Jvm.Cond.code ({ cls := "com/example/ordered_dispatch/ordereddispatch/SequenceQueue$Run", name := "<init>", desc := "()V" } : Jvm.MethodName) prog_23_method_1_code (1 : Nat) (Option.none : Option Jvm.ClassFile.FieldType)).before args0 about1 = true := code_word (m := ⟨5, 0⟩) (meth := k5m0) (c := k5c0) (by decide +kernel) rfl rfl rfl (by decide +kernel)
set_option maxRecDepth 65536 in
theorem w_c5 : (Jvm.Cond.code ({ cls := "com/example/ordered_dispatch/ordereddispatch/SequenceQueue$Part", name := "<init>", desc := "()V" } : Jvm.MethodName) prog_22_method_1_code (1 : Nat) (Option.none : Option Jvm.ClassFile.FieldType)).before args0 about1 = true := code_word (m := ⟨4, 0⟩) (meth := k4m0) (c := k4c0) (by decide +kernel) rfl rfl rfl (by decide +kernel)
set_option maxRecDepth 65536 in
theorem w_c6 : (Jvm.Cond.code ({ cls := "com/example/ordered_dispatch/ordereddispatch/SequenceQueue$Heap", name := "<init>", desc := "()V" } : Jvm.MethodName) prog_21_method_1_code (1 : Nat) (Option.none : Option Jvm.ClassFile.FieldType)).before args0 about1 = true := code_word (m := ⟨6, 0⟩) (meth := k6m0) (c := k6c0) (by decide +kernel) rfl rfl rfl (by decide +kernel)
set_option maxRecDepth 65536 in
theorem w_c7 : (Jvm.Cond.code ({ cls := "java/lang/Integer", name := "valueOf", desc := "(I)Ljava/lang/Integer;" } : Jvm.MethodName) jdk_33_method_22_code (1 : Nat) (Option.some (Jvm.ClassFile.FieldType.object "java/lang/Integer"))).before args0 about1 = true := code_word (m := ⟨12, 0⟩) (meth := k12m0) (c := k12c0) (by decide +kernel) rfl rfl rfl (by decide +kernel)
set_option maxRecDepth 65536 in
theorem w_c8 : (Jvm.Cond.code ({ cls := "com/example/ordered_dispatch/ordereddispatch/SequenceQueue", name := "add", desc := "(JLjava/lang/Object;)V" } : Jvm.MethodName) prog_20_method_2_code (4 : Nat) (Option.none : Option Jvm.ClassFile.FieldType)).before args0 about1 = true := code_word (m := ⟨3, 1⟩) (meth := k3m1) (c := k3c1) (by decide +kernel) rfl rfl rfl (by decide +kernel)
set_option maxRecDepth 65536 in
theorem w_c9 : (Jvm.Cond.code ({ cls := "com/example/ordered_dispatch/ordereddispatch/SequenceQueue", name := "place", desc := "(JLjava/lang/Object;)V" } : Jvm.MethodName) prog_20_method_9_code (4 : Nat) (Option.none : Option Jvm.ClassFile.FieldType)).before args0 about1 = true := code_word (m := ⟨3, 4⟩) (meth := k3m4) (c := k3c4) (by decide +kernel) rfl rfl rfl (by decide +kernel)
set_option maxRecDepth 65536 in
theorem w_c10 : (Jvm.Cond.code ({ cls := "com/example/ordered_dispatch/ordereddispatch/SequenceQueue$Run", name := "add", desc := "(JLjava/lang/Object;)V" } : Jvm.MethodName) prog_23_method_3_code (5 : Nat) (Option.none : Option Jvm.ClassFile.FieldType)).before args0 about1 = true := code_word (m := ⟨5, 2⟩) (meth := k5m2) (c := k5c2) (by decide +kernel) rfl rfl rfl (by decide +kernel)
set_option maxRecDepth 65536 in
theorem w_c11 : (Jvm.Cond.code ({ cls := "com/example/ordered_dispatch/ordereddispatch/SequenceQueue$Part", name := "makeRoom", desc := "()V" } : Jvm.MethodName) prog_22_method_2_code (1 : Nat) (Option.none : Option Jvm.ClassFile.FieldType)).before args0 about1 = true := code_word (m := ⟨4, 1⟩) (meth := k4m1) (c := k4c1) (by decide +kernel) rfl rfl rfl (by decide +kernel)
set_option maxRecDepth 65536 in
theorem w_c12 : (Jvm.Cond.code ({ cls := "com/example/ordered_dispatch/ordereddispatch/SequenceQueue$Run", name := "slot", desc := "(I)I" } : Jvm.MethodName) prog_23_method_6_code (3 : Nat) (Option.some Jvm.ClassFile.FieldType.int)).before args0 about1 = true := code_word (m := ⟨5, 4⟩) (meth := k5m4) (c := k5c4) (by decide +kernel) rfl rfl rfl (by decide +kernel)
set_option maxRecDepth 65536 in
theorem w_c13 : (Jvm.Cond.code ({ cls := "com/example/ordered_dispatch/ordereddispatch/SequenceQueue", name := "firstKey", desc := "()J" } : Jvm.MethodName) prog_20_method_5_code (3 : Nat) (Option.some Jvm.ClassFile.FieldType.long)).before args0 about1 = true := code_word (m := ⟨3, 3⟩) (meth := k3m3) (c := k3c3) (by decide +kernel) rfl rfl rfl (by decide +kernel)
set_option maxRecDepth 65536 in
theorem w_c14 : (Jvm.Cond.code ({ cls := "java/lang/Math", name := "min", desc := "(JJ)J" } : Jvm.MethodName) jdk_29_method_70_code (4 : Nat) (Option.some Jvm.ClassFile.FieldType.long)).before args0 about1 = true := code_word (m := ⟨2, 2⟩) (meth := k2m2) (c := k2c2) (by decide +kernel) rfl rfl rfl (by decide +kernel)
set_option maxRecDepth 65536 in
theorem w_c15 : (Jvm.Cond.code ({ cls := "com/example/ordered_dispatch/ordereddispatch/SequenceQueueFirstKeyPinLaw", name := "minPresent", desc := "([J[Z)J" } : Jvm.MethodName) method_4_code (4 : Nat) (Option.some Jvm.ClassFile.FieldType.long)).before args0 about1 = true := code_word (m := ⟨1, 3⟩) (meth := k1m3) (c := k1c3) (by decide +kernel) rfl rfl rfl (by decide +kernel)
set_option maxRecDepth 65536 in
theorem w_c16 : (Jvm.Cond.code ({ cls := "com/example/ordered_dispatch/ordereddispatch/SequenceQueue$Run", name := "lastKey", desc := "()J" } : Jvm.MethodName) prog_23_method_2_code (1 : Nat) (Option.some Jvm.ClassFile.FieldType.long)).before args0 about1 = true := code_word (m := ⟨5, 1⟩) (meth := k5m1) (c := k5c1) (by decide +kernel) rfl rfl rfl (by decide +kernel)
set_option maxRecDepth 65536 in
theorem w_c17 : (Jvm.Cond.code ({ cls := "com/example/ordered_dispatch/ordereddispatch/SequenceQueue$Heap", name := "add", desc := "(JLjava/lang/Object;)V" } : Jvm.MethodName) prog_21_method_2_code (6 : Nat) (Option.none : Option Jvm.ClassFile.FieldType)).before args0 about1 = true := code_word (m := ⟨6, 1⟩) (meth := k6m1) (c := k6c1) (by decide +kernel) rfl rfl rfl (by decide +kernel)
set_option maxRecDepth 65536 in
theorem w_c18 : (Jvm.Cond.code ({ cls := "com/example/ordered_dispatch/ordereddispatch/SequenceQueueFirstKeyPinLaw", name := "step", desc := "(Lcom/example/ordered_dispatch/ordereddispatch/SequenceQueue;[J[Z)Z" } : Jvm.MethodName) method_3_code (7 : Nat) (Option.some Jvm.ClassFile.FieldType.boolean)).before args0 about1 = true := code_word (m := ⟨1, 2⟩) (meth := k1m2) (c := k1c2) (by decide +kernel) rfl rfl rfl (by decide +kernel)
set_option maxRecDepth 65536 in
theorem w_c19 : (Jvm.Cond.code ({ cls := "com/example/ordered_dispatch/ordereddispatch/SequenceQueue", name := "poll", desc := "()Ljava/lang/Object;" } : Jvm.MethodName) prog_20_method_3_code (3 : Nat) (Option.some (Jvm.ClassFile.FieldType.object "java/lang/Object"))).before args0 about1 = true := code_word (m := ⟨3, 2⟩) (meth := k3m2) (c := k3c2) (by decide +kernel) rfl rfl rfl (by decide +kernel)
set_option maxRecDepth 65536 in
theorem w_c20 : (Jvm.Cond.code ({ cls := "com/example/ordered_dispatch/ordereddispatch/SequenceQueue$Heap", name := "poll", desc := "()Ljava/lang/Object;" } : Jvm.MethodName) prog_21_method_3_code (8 : Nat) (Option.some (Jvm.ClassFile.FieldType.object "java/lang/Object"))).before args0 about1 = true := code_word (m := ⟨6, 2⟩) (meth := k6m2) (c := k6c2) (by decide +kernel) rfl rfl rfl (by decide +kernel)
set_option maxRecDepth 65536 in
theorem w_c21 : (Jvm.Cond.code ({ cls := "com/example/ordered_dispatch/ordereddispatch/SequenceQueue$Part", name := "giveBackRoom", desc := "()V" } : Jvm.MethodName) prog_22_method_3_code (1 : Nat) (Option.none : Option Jvm.ClassFile.FieldType)).before args0 about1 = true := code_word (m := ⟨4, 2⟩) (meth := k4m2) (c := k4c2) (by decide +kernel) rfl rfl rfl (by decide +kernel)
set_option maxRecDepth 65536 in
theorem w_c22 : (Jvm.Cond.code ({ cls := "java/lang/Integer", name := "intValue", desc := "()I" } : Jvm.MethodName) jdk_33_method_27_code (1 : Nat) (Option.some Jvm.ClassFile.FieldType.int)).before args0 about1 = true := code_word (m := ⟨12, 1⟩) (meth := k12m1) (c := k12c1) (by decide +kernel) rfl rfl rfl (by decide +kernel)
set_option maxRecDepth 65536 in
theorem w_c23 : (Jvm.Cond.code ({ cls := "com/example/ordered_dispatch/ordereddispatch/SequenceQueue$Run", name := "poll", desc := "()Ljava/lang/Object;" } : Jvm.MethodName) prog_23_method_4_code (2 : Nat) (Option.some (Jvm.ClassFile.FieldType.object "java/lang/Object"))).before args0 about1 = true := code_word (m := ⟨5, 3⟩) (meth := k5m3) (c := k5c3) (by decide +kernel) rfl rfl rfl (by decide +kernel)
def codes1 : List Jvm.Cond := [Jvm.Cond.code x code maxLocals ret, Jvm.Cond.code ({ cls := "java/lang/Math", name := "min", desc := "(II)I" } : Jvm.MethodName) jdk_29_method_69_code (2 : Nat) (Option.some Jvm.ClassFile.FieldType.int), Jvm.Cond.code ({ cls := "com/example/ordered_dispatch/ordereddispatch/SequenceQueue", name := "<init>", desc := "()V" } : Jvm.MethodName) prog_20_method_1_code (1 : Nat) (Option.none : Option Jvm.ClassFile.FieldType), Jvm.Cond.code ({ cls := "java/lang/Object", name := "<init>", desc := "()V" } : Jvm.MethodName) object_method_1_code (1 : Nat) (Option.none : Option Jvm.ClassFile.FieldType), Jvm.Cond.code ({ cls := "com/example/ordered_dispatch/ordereddispatch/SequenceQueue$Run", name := "<init>", desc := "()V" } : Jvm.MethodName) prog_23_method_1_code (1 : Nat) (Option.none : Option Jvm.ClassFile.FieldType), Jvm.Cond.code ({ cls := "com/example/ordered_dispatch/ordereddispatch/SequenceQueue$Part", name := "<init>", desc := "()V" } : Jvm.MethodName) prog_22_method_1_code (1 : Nat) (Option.none : Option Jvm.ClassFile.FieldType), Jvm.Cond.code ({ cls := "com/example/ordered_dispatch/ordereddispatch/SequenceQueue$Heap", name := "<init>", desc := "()V" } : Jvm.MethodName) prog_21_method_1_code (1 : Nat) (Option.none : Option Jvm.ClassFile.FieldType), Jvm.Cond.code ({ cls := "java/lang/Integer", name := "valueOf", desc := "(I)Ljava/lang/Integer;" } : Jvm.MethodName) jdk_33_method_22_code (1 : Nat) (Option.some (Jvm.ClassFile.FieldType.object "java/lang/Integer")), Jvm.Cond.code ({ cls := "com/example/ordered_dispatch/ordereddispatch/SequenceQueue", name := "add", desc := "(JLjava/lang/Object;)V" } : Jvm.MethodName) prog_20_method_2_code (4 : Nat) (Option.none : Option Jvm.ClassFile.FieldType), Jvm.Cond.code ({ cls := "com/example/ordered_dispatch/ordereddispatch/SequenceQueue", name := "place", desc := "(JLjava/lang/Object;)V" } : Jvm.MethodName) prog_20_method_9_code (4 : Nat) (Option.none : Option Jvm.ClassFile.FieldType), Jvm.Cond.code ({ cls := "com/example/ordered_dispatch/ordereddispatch/SequenceQueue$Run", name := "add", desc := "(JLjava/lang/Object;)V" } : Jvm.MethodName) prog_23_method_3_code (5 : Nat) (Option.none : Option Jvm.ClassFile.FieldType), Jvm.Cond.code ({ cls := "com/example/ordered_dispatch/ordereddispatch/SequenceQueue$Part", name := "makeRoom", desc := "()V" } : Jvm.MethodName) prog_22_method_2_code (1 : Nat) (Option.none : Option Jvm.ClassFile.FieldType), Jvm.Cond.code ({ cls := "com/example/ordered_dispatch/ordereddispatch/SequenceQueue$Run", name := "slot", desc := "(I)I" } : Jvm.MethodName) prog_23_method_6_code (3 : Nat) (Option.some Jvm.ClassFile.FieldType.int), Jvm.Cond.code ({ cls := "com/example/ordered_dispatch/ordereddispatch/SequenceQueue", name := "firstKey", desc := "()J" } : Jvm.MethodName) prog_20_method_5_code (3 : Nat) (Option.some Jvm.ClassFile.FieldType.long), Jvm.Cond.code ({ cls := "java/lang/Math", name := "min", desc := "(JJ)J" } : Jvm.MethodName) jdk_29_method_70_code (4 : Nat) (Option.some Jvm.ClassFile.FieldType.long), Jvm.Cond.code ({ cls := "com/example/ordered_dispatch/ordereddispatch/SequenceQueueFirstKeyPinLaw", name := "minPresent", desc := "([J[Z)J" } : Jvm.MethodName) method_4_code (4 : Nat) (Option.some Jvm.ClassFile.FieldType.long), Jvm.Cond.code ({ cls := "com/example/ordered_dispatch/ordereddispatch/SequenceQueue$Run", name := "lastKey", desc := "()J" } : Jvm.MethodName) prog_23_method_2_code (1 : Nat) (Option.some Jvm.ClassFile.FieldType.long), Jvm.Cond.code ({ cls := "com/example/ordered_dispatch/ordereddispatch/SequenceQueue$Heap", name := "add", desc := "(JLjava/lang/Object;)V" } : Jvm.MethodName) prog_21_method_2_code (6 : Nat) (Option.none : Option Jvm.ClassFile.FieldType), Jvm.Cond.code ({ cls := "com/example/ordered_dispatch/ordereddispatch/SequenceQueueFirstKeyPinLaw", name := "step", desc := "(Lcom/example/ordered_dispatch/ordereddispatch/SequenceQueue;[J[Z)Z" } : Jvm.MethodName) method_3_code (7 : Nat) (Option.some Jvm.ClassFile.FieldType.boolean), Jvm.Cond.code ({ cls := "com/example/ordered_dispatch/ordereddispatch/SequenceQueue", name := "poll", desc := "()Ljava/lang/Object;" } : Jvm.MethodName) prog_20_method_3_code (3 : Nat) (Option.some (Jvm.ClassFile.FieldType.object "java/lang/Object")), Jvm.Cond.code ({ cls := "com/example/ordered_dispatch/ordereddispatch/SequenceQueue$Heap", name := "poll", desc := "()Ljava/lang/Object;" } : Jvm.MethodName) prog_21_method_3_code (8 : Nat) (Option.some (Jvm.ClassFile.FieldType.object "java/lang/Object")), Jvm.Cond.code ({ cls := "com/example/ordered_dispatch/ordereddispatch/SequenceQueue$Part", name := "giveBackRoom", desc := "()V" } : Jvm.MethodName) prog_22_method_3_code (1 : Nat) (Option.none : Option Jvm.ClassFile.FieldType), Jvm.Cond.code ({ cls := "java/lang/Integer", name := "intValue", desc := "()I" } : Jvm.MethodName) jdk_33_method_27_code (1 : Nat) (Option.some Jvm.ClassFile.FieldType.int), Jvm.Cond.code ({ cls := "com/example/ordered_dispatch/ordereddispatch/SequenceQueue$Run", name := "poll", desc := "()Ljava/lang/Object;" } : Jvm.MethodName) prog_23_method_4_code (2 : Nat) (Option.some (Jvm.ClassFile.FieldType.object "java/lang/Object"))]
set_option maxRecDepth 65536 in
theorem codes_eq : words1.filter isCode = codes1 := rfl
theorem w_codes : ∀ c ∈ words1.filter isCode, c.before args0 about1 = true := by
  rw [codes_eq]
  intro c hc
  simp only [codes1, List.mem_cons, List.not_mem_nil, or_false] at hc
  rcases hc with rfl | rfl | rfl | rfl | rfl | rfl | rfl | rfl | rfl | rfl | rfl | rfl | rfl | rfl | rfl | rfl | rfl | rfl | rfl | rfl | rfl | rfl | rfl | rfl
  · exact w_c0
  · exact w_c1
  · exact w_c2
  · exact w_c3
  · exact w_c4
  · exact w_c5
  · exact w_c6
  · exact w_c7
  · exact w_c8
  · exact w_c9
  · exact w_c10
  · exact w_c11
  · exact w_c12
  · exact w_c13
  · exact w_c14
  · exact w_c15
  · exact w_c16
  · exact w_c17
  · exact w_c18
  · exact w_c19
  · exact w_c20
  · exact w_c21
  · exact w_c22
  · exact w_c23
set_option maxRecDepth 65536 in
theorem w_t1 : (words1.take 24).all (fun c => isCode c || c.before args0 about1) = true := by decide +kernel
set_option maxRecDepth 65536 in
theorem w_t2 : ((words1.drop 24).take 24).all (fun c => isCode c || c.before args0 about1) = true := by decide +kernel
set_option maxRecDepth 65536 in
theorem w_t3 : (((words1.drop 24).drop 24).take 24).all (fun c => isCode c || c.before args0 about1) = true := by decide +kernel
set_option maxRecDepth 65536 in
theorem w_t4 : ((((words1.drop 24).drop 24).drop 24).take 24).all (fun c => isCode c || c.before args0 about1) = true := by decide +kernel
set_option maxRecDepth 65536 in
theorem w_t5 : (((((words1.drop 24).drop 24).drop 24).drop 24).take 24).all (fun c => isCode c || c.before args0 about1) = true := by decide +kernel
set_option maxRecDepth 65536 in
theorem w_t6 : ((((((words1.drop 24).drop 24).drop 24).drop 24).drop 24).take 24).all (fun c => isCode c || c.before args0 about1) = true := by decide +kernel
set_option maxRecDepth 65536 in
theorem w_t7 : (((((((words1.drop 24).drop 24).drop 24).drop 24).drop 24).drop 24).take 24).all (fun c => isCode c || c.before args0 about1) = true := by decide +kernel
set_option maxRecDepth 65536 in
theorem w_t8 : (((((((words1.drop 24).drop 24).drop 24).drop 24).drop 24).drop 24).drop 24).all (fun c => isCode c || c.before args0 about1) = true := by decide +kernel
theorem w_tables : (allAtoms (Jvm.Cond.code x code maxLocals ret :: tables_1)).before args0 about1 = true := by
  rw [allAtoms_all]
  show words1.all (fun c => c.before args0 about1) = true
  refine all_split ?_ w_codes
  rw [← List.take_append_drop 24 words1, List.all_append, w_t1, ← List.take_append_drop 24 (words1.drop 24), List.all_append, w_t2, ← List.take_append_drop 24 ((words1.drop 24).drop 24), List.all_append, w_t3, ← List.take_append_drop 24 (((words1.drop 24).drop 24).drop 24), List.all_append, w_t4, ← List.take_append_drop 24 ((((words1.drop 24).drop 24).drop 24).drop 24), List.all_append, w_t5, ← List.take_append_drop 24 (((((words1.drop 24).drop 24).drop 24).drop 24).drop 24), List.all_append, w_t6, ← List.take_append_drop 24 ((((((words1.drop 24).drop 24).drop 24).drop 24).drop 24).drop 24), List.all_append, w_t7, w_t8]
  rfl
set_option maxRecDepth 65536 in
theorem w_rest : rest_1_c.before args0 about1 = true := by decide +kernel
set_option maxRecDepth 65536 in
theorem w_case : (Jvm.Cond.and given_1 narrow_1).before args0 about1 = true := by decide +kernel
theorem w_applies : (headSpec (Jvm.Cond.code x code maxLocals ret :: tables_1) room_1).applies x e0.platform about1 = true :=
  (Spec.applies_iff w_frames).mpr ⟨w_running, w_runnable, w_alone, w_named, w_hears, w_ripe, w_room, w_tables⟩
theorem atStart : AtStart classFile x code maxLocals ret World_1 tables_1 room_1 Calls_1 rest_1 Pre_1 launch0 p0 e0 about1 theMethod args0 below0 :=
  ⟨lists_1, trivial, launch0.admits_env _ _ _, launch0.least_env, fairChoices_fair.cas, fairChoices_fair.clock, w_frames, w_args, w_heap, w_applies, trivial, w_rest, w_case⟩
end start1
theorem witness_1 : WitnessClaimed_1 := ⟨start1.p0, start1.e0, start1.about1, start1.theMethod, start1.args0, start1.below0, start1.atStart⟩
end Jvm.Pilot.@@N@@
