import JvmDerived
import JvmDerived.Pilot.@@N@@Statement
import JvmDerived.Pilot.@@N@@Code
set_option linter.unusedVariables false
set_option linter.unusedSimpArgs false
namespace Jvm.RoadKit
open Sem ClassFile Op Lib Jvm.Stand Jvm.Free Jvm.LawKit
section New
variable {p : Program} {l : Launch} {e : Env} {R : Room} {s : State} {m : MethodId} {args : Array Value} {below : List Frame} {meth : Method} {c : Code} {T : State} {locs : List Loc} {cells slots : Nat}
theorem retI (X : Stand p l e R s m args below meth c T locs cells slots) (hx : p.tables.exec = Jvm.exec) {pc : Nat} {Ls : Array Slot} {z : Int32} {rest : List Value} (hret : meth.sig.returnType = some .int) (hd : decode c.code pc = .ok (.ireturn, 1)) {fs : List Frame}
    (hl : ∀ (f : JFrame) (acts : List Action), f.method = m → f.locked = none → f.entered = [] → (doReturn e (T.setTop f) acts (some (.int z))).1 = T.setFrames fs) : Steps p.tables e below (T.setTop (mkF m pc Ls (.int z :: rest))) (T.setFrames fs) := by
  have hm' : T.vm.method? m = some meth := X.method'
  have hn : narrow .int (.int z) = .int z := rfl
  show Steps p.tables e below (T.setTop { method := m, pc := pc, locals := Ls, stack := _ :: rest, locked := none }) _
  jvm_step X.here [X.here.top, hx, hd, hm', hret, hn]
  first | (intro acts; rw [hl _ acts rfl rfl rfl]) | rw [hl _ _ rfl rfl rfl]
  exact Steps.refl _
end New
end Jvm.RoadKit
namespace Jvm.Wp
open Sem ClassFile Op Lib Jvm.Free Jvm.Stand Jvm.LawKit Jvm.RoadKit

/-- a cell of the walk's own small heap: an array (its kind, its values) or an object (its class, its fields: name, descriptor, value) -/
abbrev MC : Type := Sum (FieldType × List Value) (String × List (String × String × Value))
abbrev MH : Type := List (Addr × MC)
def COk (Z : State) (a0 : Array Value) (h : Heap) (a : Addr) : MC → Prop
  | .inl (ty, vs) => ∃ c : Cell, Arr Z h a c ty ∧ c.slots = vs.toArray ∧ vs.length < 2 ^ 31
  | .inr (C, fs) => Exa Z h a C ∧ (fs.map (·.1)).Nodup ∧ ∀ x ∈ fs, Fld Z h a C x.1 x.2.1 x.2.2 ∧ Laid Z a0 C C x.1 x.2.1 ∧ ∃ t, parseFieldDescriptor x.2.1 = some t
def Rel (Z : State) (a0 : Array Value) (n0 : Nat) (H : MH) (h : Heap) : Prop := n0 ≤ h.size ∧ (H.map (·.1)).Nodup ∧ ∀ x ∈ H, n0 ≤ x.1 ∧ COk Z a0 h x.1 x.2

theorem idx_eq {j : Int32} {i : Nat} (hj : j.toInt = (i : Int)) : j.toNatClampNeg = i := by
  show j.toInt.toNat = i
  rw [hj]; simp
theorem idx_ok {j : Int32} {i n : Nat} (hj : j.toInt = (i : Int)) (hi : i < n) : ¬ (j < 0 ∨ n ≤ j.toNatClampNeg) := by
  rw [idx_eq hj, Int32.lt_iff_toInt_lt, hj]
  simp; omega
theorem COk.lt {Z : State} {a0 : Array Value} {h : Heap} {a : Addr} {c : MC} (k : COk Z a0 h a c) : a < h.size := by
  cases c with
  | inl q => obtain ⟨ty, vs⟩ := q; obtain ⟨c, A, -⟩ := k; exact A.lt
  | inr q => obtain ⟨C, fs⟩ := q; exact k.1.lt
theorem COk.ext {Z : State} {a0 : Array Value} {h h' : Heap} {a : Addr} {c : MC} (E : Ext h h') (k : COk Z a0 h a c) : COk Z a0 h' a c := by
  cases c with
  | inl q => obtain ⟨ty, vs⟩ := q; obtain ⟨c, A, r⟩ := k; exact ⟨c, A.ext E, r⟩
  | inr q => obtain ⟨C, fs⟩ := q; exact ⟨k.1.ext E, k.2.1, fun x hx => ⟨(k.2.2 x hx).1.ext E, (k.2.2 x hx).2⟩⟩
theorem COk.other {Z : State} {a0 : Array Value} {h h' : Heap} {a b : Addr} {sl : Nat} {v : Value} {c : MC} (W : Wr h h' b sl v) (hne : a ≠ b) (k : COk Z a0 h a c) : COk Z a0 h' a c := by
  cases c with
  | inl q => obtain ⟨ty, vs⟩ := q; obtain ⟨c, A, r⟩ := k; exact ⟨c, A.other W hne, r⟩
  | inr q => obtain ⟨C, fs⟩ := q; exact ⟨k.1.wr W, k.2.1, fun x hx => ⟨(k.2.2 x hx).1.other W (Or.inl hne), (k.2.2 x hx).2⟩⟩
theorem COk.setArr {Z : State} {a0 : Array Value} {h h' : Heap} {a : Addr} {ty : FieldType} {vs : List Value} {i : Nat} {v : Value} (W : Wr h h' a i v) (k : COk Z a0 h a (.inl (ty, vs))) : COk Z a0 h' a (.inl (ty, vs.set i v)) := by
  obtain ⟨c, A, e, r⟩ := k
  refine ⟨_, A.same W, ?_, by simpa using r⟩
  show c.slots.setIfInBounds i v = _
  rw [e]; simp
theorem COk.setFld {Z : State} {a0 : Array Value} {h h' : Heap} {a : Addr} {C n d : String} {pre post : List (String × String × Value)} {v w : Value} (W : Wr h h' a (Jvm.RoadKit.slotOf Z C n d) v) (k : COk Z a0 h a (.inr (C, pre ++ (n, d, w) :: post))) : COk Z a0 h' a (.inr (C, pre ++ (n, d, v) :: post)) := by
  obtain ⟨E, N, F⟩ := k
  have hme := F (n, d, w) (by simp)
  refine ⟨E.wr W, by simpa using N, fun x hx => ?_⟩
  have hsplit : x = (n, d, v) ∨ (x ∈ pre ++ (n, d, w) :: post ∧ x.1 ≠ n) := by
    simp only [List.map_append, List.map_cons] at N
    rw [List.nodup_append] at N
    obtain ⟨-, N2, N3⟩ := N
    rw [List.nodup_cons] at N2
    rcases List.mem_append.mp hx with h1 | h1
    · refine Or.inr ⟨List.mem_append.mpr (Or.inl h1), ?_⟩
      exact N3 x.1 (List.mem_map_of_mem h1) n (by simp)
    · rcases List.mem_cons.mp h1 with h2 | h2
      · exact Or.inl h2
      · refine Or.inr ⟨List.mem_append.mpr (Or.inr (List.mem_cons_of_mem _ h2)), fun q => N2.1 ?_⟩
        rw [← q]; exact List.mem_map_of_mem h2
  rcases hsplit with rfl | ⟨hm, hne⟩
  · exact ⟨hme.1.same W, hme.2⟩
  · have G := F x hm
    obtain ⟨t, ht⟩ := G.2.2
    obtain ⟨t', ht'⟩ := hme.2.2
    exact ⟨G.1.other W (Or.inr (slot_ne G.2.1 hme.2.1 hne ht ht')), G.2⟩
theorem Rel.ext {Z : State} {a0 : Array Value} {n0 : Nat} {H : MH} {h h' : Heap} (E : Ext h h') (r : Rel Z a0 n0 H h) : Rel Z a0 n0 H h' := ⟨Nat.le_trans r.1 E.1, r.2.1, fun x hx => ⟨(r.2.2 x hx).1, (r.2.2 x hx).2.ext E⟩⟩
theorem Rel.push {Z : State} {a0 : Array Value} {n0 : Nat} {H : MH} {h h' : Heap} {c : MC} (E : Ext h h') (r : Rel Z a0 n0 H h) (k : COk Z a0 h' h.size c) : Rel Z a0 n0 ((h.size, c) :: H) h' := by
  refine ⟨Nat.le_trans r.1 E.1, ?_, fun x hx => ?_⟩
  · rw [List.map_cons, List.nodup_cons]
    refine ⟨fun q => ?_, r.2.1⟩
    obtain ⟨x, hx, e⟩ := List.mem_map.mp q
    have h1 := (r.2.2 x hx).2.lt
    rw [e] at h1
    exact Nat.lt_irrefl _ h1
  · rcases List.mem_cons.mp hx with rfl | q
    · exact ⟨r.1, k⟩
    · exact ⟨(r.2.2 x q).1, (r.2.2 x q).2.ext E⟩
theorem Rel.set {Z : State} {a0 : Array Value} {n0 : Nat} {pre post : MH} {h h' : Heap} {a : Addr} {c c' : MC} {sl : Nat} {v : Value} (W : Wr h h' a sl v) (r : Rel Z a0 n0 (pre ++ (a, c) :: post) h) (k : COk Z a0 h a c → COk Z a0 h' a c') : Rel Z a0 n0 (pre ++ (a, c') :: post) h' := by
  obtain ⟨r1, N, F⟩ := r
  refine ⟨by rw [W.size]; exact r1, by simpa using N, fun x hx => ?_⟩
  have hme := F (a, c) (by simp)
  have hsplit : x = (a, c') ∨ (x ∈ pre ++ (a, c) :: post ∧ x.1 ≠ a) := by
    simp only [List.map_append, List.map_cons] at N
    rw [List.nodup_append] at N
    obtain ⟨-, N2, N3⟩ := N
    rw [List.nodup_cons] at N2
    rcases List.mem_append.mp hx with h1 | h1
    · refine Or.inr ⟨List.mem_append.mpr (Or.inl h1), ?_⟩
      exact N3 x.1 (List.mem_map_of_mem h1) a (by simp)
    · rcases List.mem_cons.mp h1 with h2 | h2
      · exact Or.inl h2
      · refine Or.inr ⟨List.mem_append.mpr (Or.inr (List.mem_cons_of_mem _ h2)), fun q => N2.1 ?_⟩
        rw [← q]; exact List.mem_map_of_mem h2
  rcases hsplit with rfl | ⟨hm, hne⟩
  · exact ⟨hme.1, k hme.2⟩
  · exact ⟨(F x hm).1, (F x hm).2.other W hne⟩
theorem Rel.at {Z : State} {a0 : Array Value} {n0 : Nat} {H : MH} {h : Heap} {k : Nat} {a : Addr} {c : MC} (r : Rel Z a0 n0 H h) (hk : H[k]? = some (a, c)) : n0 ≤ a ∧ COk Z a0 h a c := r.2.2 (a, c) (List.mem_of_getElem? hk)

/-- from pc on, with these locals, this stack, this small heap: the method returns, and Q holds of what it returns and of the small heap at the end -/
def WP (l : Launch) (Z : State) (a0 : Array Value) (n0 : Nat) (R : Room) (y : MethodName) (code : ByteArray) (mx : Nat) (ret : Option FieldType) (cells slots pc : Nat) (Ls : List Slot) (st : List Value) (H : MH) (Q : Option Value → MH → Prop) : Prop :=
  ∀ (p : Program) (e : Env) (s : State) (m : MethodId) (args : Array Value) (below : List Frame) (meth : Method) (c : Code) (T : State) (locs : List Loc),
    Stand p l e R s m args below meth c T locs cells slots → p.tables.exec = Jvm.exec → Z.Warmed39 s.vm → c.code = code → c.maxLocals = mx → s.vm.findClass y.cls = some m.cls → meth.name = y.name → meth.sig.returnType = ret → meth.locks = false →
    Fr n0 locs → Rel Z a0 n0 H T.heap → cells ≤ R.cells → slots ≤ R.slots →
    ∃ v H' L s₂, Steps p.tables e below (T.setTop (mkF m pc ⟨Ls⟩ st)) s₂ ∧ T.heap.size ≤ s₂.heap.size ∧ s₂.status = .running ∧ Ended s₂ below (.returned v) ∧ Fr n0 L ∧ Rel Z a0 n0 H' s₂.heap ∧ Q v H' ∧ s.Since s₂.vm s₂.heap.size ∧ s.sameButNew ({ s₂ with vm := s.vm } : State) L R.cells R.slots
/-- a method's contract: called with these arguments over this small heap it returns, and Q holds -/
def Con (l : Launch) (Z : State) (a0 : Array Value) (n0 : Nat) (y : MethodName) (code : ByteArray) (mx : Nat) (ret : Option FieldType) (rm : Room) (as : Array Value) (H : MH) (Q : Option Value → MH → Prop) : Prop :=
  ∀ (ws : List Cond) (h0 : Heap), Rel Z a0 n0 H h0 → MetFree l y (head1 (Cond.code y code mx ret :: ws) rm) (fun a U => a = as ∧ Z.Warmed39 U.vm ∧ U.heap = h0) (fun _ _ _ _ _ => True)
    (fun _ U o U' => ∃ v L, o = .returned v ∧ (Fr n0 L ∧ ∃ H', Rel Z a0 n0 H' U'.heap ∧ Q v H') ∧ ReturnedEndW U o U' L rm.cells rm.slots)

variable {l : Launch} {Z : State} {a0 : Array Value} {n0 : Nat} {R : Room} {y : MethodName} {code : ByteArray} {mx : Nat} {ret : Option FieldType} {cells slots pc : Nat} {Ls : List Slot} {st : List Value} {H : MH} {Q : Option Value → MH → Prop}

def locsOf : List Value → List Slot
  | [] => []
  | v :: t => if v.category = 2 then .val v :: .second :: locsOf t else .val v :: locsOf t
theorem foldl_locs (l : List Value) : ∀ acc : Array Slot, l.foldl (fun acc v => if v.category = 2 then (acc.push (.val v)).push .second else acc.push (.val v)) acc = acc ++ (locsOf l).toArray := by
  induction l with
  | nil => intro acc; simp [locsOf]
  | cons v t ih =>
    intro acc
    rw [List.foldl_cons, ih, locsOf]
    split <;> simp
theorem efG (m : MethodId) (l : List Value) (mx : Nat) : entryFrame m l.toArray mx = mkF m 0 ⟨locsOf l ++ List.replicate (mx - (locsOf l).length) .unset⟩ [] := by
  have h : argsToLocals l.toArray mx = ⟨locsOf l ++ List.replicate (mx - (locsOf l).length) .unset⟩ := by
    unfold argsToLocals
    rw [show l.toArray.foldl (init := #[]) (fun acc v => if v.category = 2 then (acc.push (.val v)).push .second else acc.push (.val v)) = (locsOf l).toArray by rw [List.foldl_toArray, foldl_locs]; simp]
    apply Array.ext'
    simp
  simp only [entryFrame, mkF, h]
theorem Con.intro {rm : Room} {as : Array Value} (hpn : plainFor y = true) (hE : ∀ m, entryFrame m as mx = mkF m 0 ⟨Ls⟩ []) (h : WP l Z a0 n0 rm y code mx ret 0 0 0 Ls [] H Q) : Con l Z a0 n0 y code mx ret rm as H Q := by
  intro ws h0 hR
  refine MetFree.of_bodySF hpn hisR ?_
  intro p e s m args below meth c s₁ Bd hml0 hP hK
  obtain ⟨rfl, hZ, hh⟩ := hP
  have e0 : s₁.heap = h0 := by rw [← hh, Bd.state]; rfl
  obtain ⟨v, H', L, s2, k1, -, k2, k3, k4, k5, k6, k7, k8⟩ := h p e s m _ below meth c s₁ [] (Stand.of_body Bd) Bd.exec hZ Bd.bytes hml0 (findClass_of_methodNamed Bd.named) (name_of_methodNamed Bd.named Bd.method).1 Bd.returns Bd.notSynchronized (Fr.nil n0) (by rw [e0]; exact hR) (Nat.zero_le _) (Nat.zero_le _)
  exact ⟨s2, _, castTop (hE m) k1, k2, k3, v, L, rfl, ⟨k4, H', k5, k6⟩, ⟨_, rfl⟩, k7.1, k7.2, k8⟩
theorem Con.mono {rm : Room} {as : Array Value} {Q' : Option Value → MH → Prop} (h : Con l Z a0 n0 y code mx ret rm as H Q) (k : ∀ v H', Q v H' → Q' v H') : Con l Z a0 n0 y code mx ret rm as H Q' := by
  intro ws h0 hR p e ha hc hk s m args below hf happ hP hK
  obtain ⟨n, o, q1, q2, q3, v, L, q4, ⟨q5, H', q6, q7⟩, q8⟩ := h ws h0 hR p e ha hc hk s m args below hf happ hP hK
  exact ⟨n, o, q1, q2, q3, v, L, q4, ⟨q5, H', q6, k _ _ q7⟩, q8⟩
theorem WP.mono {Q' : Option Value → MH → Prop} (h : WP l Z a0 n0 R y code mx ret cells slots pc Ls st H Q) (k : ∀ v H', Q v H' → Q' v H') : WP l Z a0 n0 R y code mx ret cells slots pc Ls st H Q' := by
  intro p e s m args below meth c T locs X hx hZ hc hm ho hn hr hl hF hR g1 g2
  obtain ⟨v, H', L, s2, k1, kz, k2, k3, k4, k5, k6, k7⟩ := h p e s m args below meth c T locs X hx hZ hc hm ho hn hr hl hF hR g1 g2
  exact ⟨v, H', L, s2, k1, kz, k2, k3, k4, k5, k _ _ k6, k7⟩

/-- a step that moves the frame alone -/
theorem pure {pc' : Nat} {Ls' : List Slot} {st' : List Value}
    (h : ∀ (p : Program) (e : Env) (m : MethodId) (below : List Frame) (c : Code) (T target : State), At T m c below → p.tables.exec = Jvm.exec → c.code = code → Steps p.tables e below (T.setTop (mkF m pc' ⟨Ls'⟩ st')) target → Steps p.tables e below (T.setTop (mkF m pc ⟨Ls⟩ st)) target)
    (k : WP l Z a0 n0 R y code mx ret cells slots pc' Ls' st' H Q) : WP l Z a0 n0 R y code mx ret cells slots pc Ls st H Q := by
  intro p e s m args below meth c T locs X hx hZ hc hm ho hn hr hl hF hR g1 g2
  obtain ⟨v, H', L, s2, k1, k2⟩ := k p e s m args below meth c T locs X hx hZ hc hm ho hn hr hl hF hR g1 g2
  exact ⟨v, H', L, s2, h p e m below c T s2 X.here hx hc k1, k2⟩
/-- a step that hands back a new state over the same heap -/
theorem stepT {pc' : Nat} {Ls' : List Slot} {st' : List Value}
    (h : ∀ (p : Program) (e : Env) (s : State) (m : MethodId) (args : Array Value) (below : List Frame) (meth : Method) (c : Code) (T : State) (locs : List Loc), Stand p l e R s m args below meth c T locs cells slots → p.tables.exec = Jvm.exec → Z.Warmed39 s.vm → c.code = code → c.maxLocals = mx → s.vm.findClass y.cls = some m.cls → Rel Z a0 n0 H T.heap →
      ∃ T', Stand p l e R s m args below meth c T' locs cells slots ∧ T'.heap = T.heap ∧ ∀ target, Steps p.tables e below (T'.setTop (mkF m pc' ⟨Ls'⟩ st')) target → Steps p.tables e below (T.setTop (mkF m pc ⟨Ls⟩ st)) target)
    (k : WP l Z a0 n0 R y code mx ret cells slots pc' Ls' st' H Q) : WP l Z a0 n0 R y code mx ret cells slots pc Ls st H Q := by
  intro p e s m args below meth c T locs X hx hZ hc hm ho hn hr hl hF hR g1 g2
  obtain ⟨T', X', e', st⟩ := h p e s m args below meth c T locs X hx hZ hc hm ho hR
  obtain ⟨v, H', L, s2, k1, kz, k2⟩ := k p e s m args below meth c T' locs X' hx hZ hc hm ho hn hr hl hF (by rw [e']; exact hR) g1 g2
  exact ⟨v, H', L, s2, st _ k1, by rw [← e']; exact kz, k2⟩
/-- a step that writes one place of the cell (a, cl) -/
theorem stepW {pc' : Nat} {Ls' : List Slot} {st' : List Value} {pre post : MH} {a : Addr} {cl cl' : MC}
    (h : ∀ (p : Program) (e : Env) (s : State) (m : MethodId) (args : Array Value) (below : List Frame) (meth : Method) (c : Code) (T : State) (locs : List Loc), Stand p l e R s m args below meth c T locs cells slots → p.tables.exec = Jvm.exec → Z.Warmed39 s.vm → c.code = code → c.maxLocals = mx → s.vm.findClass y.cls = some m.cls → meth.name = y.name → COk Z a0 T.heap a cl →
      ∃ T' h' sl v, Stand p l e R s m args below meth c T' (locs ++ [⟨a, sl⟩]) cells slots ∧ T'.heap = h' ∧ Wr T.heap h' a sl v ∧ (COk Z a0 T.heap a cl → COk Z a0 h' a cl') ∧ ∀ target, Steps p.tables e below (T'.setTop (mkF m pc' ⟨Ls'⟩ st')) target → Steps p.tables e below (T.setTop (mkF m pc ⟨Ls⟩ st)) target)
    (k : WP l Z a0 n0 R y code mx ret cells slots pc' Ls' st' (pre ++ (a, cl') :: post) Q) : WP l Z a0 n0 R y code mx ret cells slots pc Ls st (pre ++ (a, cl) :: post) Q := by
  intro p e s m args below meth c T locs X hx hZ hc hm ho hn hr hl hF hR g1 g2
  have hA := hR.at (k := pre.length) (a := a) (c := cl) (by simp)
  obtain ⟨T', h', sl, v, X', e', W, hco, st⟩ := h p e s m args below meth c T locs X hx hZ hc hm ho hn hA.2
  obtain ⟨v, H', L, s2, k1, kz, k2⟩ := k p e s m args below meth c T' _ X' hx hZ hc hm ho hn hr hl (Fr.snoc X' hF hA.1) (by rw [e']; exact hR.set W hco) g1 g2
  exact ⟨v, H', L, s2, st _ k1, by rw [← W.size, ← e']; exact kz, k2⟩

theorem iloadN {k : Fin 4} {v : Int32} {pc' : Nat} (hd : decode code pc = .ok (.iload_n k, 1)) (hl : Ls[k.val]? = some (.val (.int v))) (hp : pc + 1 = pc') (w : WP l Z a0 n0 R y code mx ret cells slots pc' Ls (.int v :: st) H Q) : WP l Z a0 n0 R y code mx ret cells slots pc Ls st H Q := by
  subst hp
  exact pure (fun p e m below c T t h hx hc hs => XS.iloadN h hx rfl (hb hc hd) (by simpa using hl) hs) w
theorem iload {k : Nat} {v : Int32} {pc' : Nat} (hd : decode code pc = .ok (.iload k, 2)) (hl : Ls[k]? = some (.val (.int v))) (hp : pc + 2 = pc') (w : WP l Z a0 n0 R y code mx ret cells slots pc' Ls (.int v :: st) H Q) : WP l Z a0 n0 R y code mx ret cells slots pc Ls st H Q := by
  subst hp
  exact pure (fun p e m below c T t h hx hc hs => XS.iload h hx rfl (hb hc hd) (by simpa using hl) hs) w
theorem lloadN {k : Fin 4} {v : Int64} {pc' : Nat} (hd : decode code pc = .ok (.lload_n k, 1)) (hl : Ls[k.val]? = some (.val (.long v))) (hp : pc + 1 = pc') (w : WP l Z a0 n0 R y code mx ret cells slots pc' Ls (.long v :: st) H Q) : WP l Z a0 n0 R y code mx ret cells slots pc Ls st H Q := by
  subst hp
  exact pure (fun p e m below c T t h hx hc hs => XS.lloadN h hx rfl (hb hc hd) (by simpa using hl) hs) w
theorem aloadN {k : Fin 4} {v : Value} {pc' : Nat} (hd : decode code pc = .ok (.aload_n k, 1)) (hl : Ls[k.val]? = some (.val v)) (hv : v.isRef = true) (hp : pc + 1 = pc') (w : WP l Z a0 n0 R y code mx ret cells slots pc' Ls (v :: st) H Q) : WP l Z a0 n0 R y code mx ret cells slots pc Ls st H Q := by
  subst hp
  exact pure (fun p e m below c T t h hx hc hs => XS.aloadN h hx rfl (hb hc hd) (by simpa using hl) hv hs) w
theorem aload {k : Nat} {v : Value} {pc' : Nat} (hd : decode code pc = .ok (.aload k, 2)) (hl : Ls[k]? = some (.val v)) (hv : v.isRef = true) (hp : pc + 2 = pc') (w : WP l Z a0 n0 R y code mx ret cells slots pc' Ls (v :: st) H Q) : WP l Z a0 n0 R y code mx ret cells slots pc Ls st H Q := by
  subst hp
  exact pure (fun p e m below c T t h hx hc hs => XS.aload h hx rfl (hb hc hd) (by simpa using hl) hv hs) w
theorem iconst {i : Int} (n : Int32) {pc' : Nat} (hd : decode code pc = .ok (.iconst i, 1)) (hn : Int32.ofInt i = n) (hp : pc + 1 = pc') (w : WP l Z a0 n0 R y code mx ret cells slots pc' Ls (.int n :: st) H Q) : WP l Z a0 n0 R y code mx ret cells slots pc Ls st H Q := by
  subst hp hn
  exact pure (fun p e m below c T t h hx hc hs => XS.iconst h hx rfl (hb hc hd) hs) w
theorem bipush {i : Int} (n : Int32) {pc' : Nat} (hd : decode code pc = .ok (.bipush i, 2)) (hn : (Int8.ofInt i).toInt32 = n) (hp : pc + 2 = pc') (w : WP l Z a0 n0 R y code mx ret cells slots pc' Ls (.int n :: st) H Q) : WP l Z a0 n0 R y code mx ret cells slots pc Ls st H Q := by
  subst hp hn
  exact pure (fun p e m below c T t h hx hc hs => XS.bipush h hx rfl (hb hc hd) hs) w
theorem sipush {i : Int} (n : Int32) {pc' : Nat} (hd : decode code pc = .ok (.sipush i, 3)) (hn : (Int16.ofInt i).toInt32 = n) (hp : pc + 3 = pc') (w : WP l Z a0 n0 R y code mx ret cells slots pc' Ls (.int n :: st) H Q) : WP l Z a0 n0 R y code mx ret cells slots pc Ls st H Q := by
  subst hp hn
  exact pure (fun p e m below c T t h hx hc hs => XS.sipush h hx rfl (hb hc hd) hs) w
theorem lconst {i : Fin 2} (n : Int64) {pc' : Nat} (hd : decode code pc = .ok (.lconst i, 1)) (hn : Int64.ofNat i = n) (hp : pc + 1 = pc') (w : WP l Z a0 n0 R y code mx ret cells slots pc' Ls (.long n :: st) H Q) : WP l Z a0 n0 R y code mx ret cells slots pc Ls st H Q := by
  subst hp hn
  exact pure (fun p e m below c T t h hx hc hs => XS.lconst h hx rfl (hb hc hd) hs) w
theorem iadd {x z : Int32} {pc' : Nat} (hd : decode code pc = .ok (.iadd, 1)) (hp : pc + 1 = pc') (w : WP l Z a0 n0 R y code mx ret cells slots pc' Ls (.int (x + z) :: st) H Q) : WP l Z a0 n0 R y code mx ret cells slots pc Ls (.int z :: .int x :: st) H Q := by
  subst hp
  exact pure (fun p e m below c T t h hx hc hs => XS.iadd h hx rfl (hb hc hd) rfl hs) w
theorem isub {x z : Int32} {pc' : Nat} (hd : decode code pc = .ok (.isub, 1)) (hp : pc + 1 = pc') (w : WP l Z a0 n0 R y code mx ret cells slots pc' Ls (.int (x - z) :: st) H Q) : WP l Z a0 n0 R y code mx ret cells slots pc Ls (.int z :: .int x :: st) H Q := by
  subst hp
  exact pure (fun p e m below c T t h hx hc hs => XS.isub h hx rfl (hb hc hd) rfl hs) w
theorem iand {x z : Int32} {pc' : Nat} (hd : decode code pc = .ok (.iand, 1)) (hp : pc + 1 = pc') (w : WP l Z a0 n0 R y code mx ret cells slots pc' Ls (.int (x &&& z) :: st) H Q) : WP l Z a0 n0 R y code mx ret cells slots pc Ls (.int z :: .int x :: st) H Q := by
  subst hp
  exact pure (fun p e m below c T t h hx hc hs => XS.iand h hx rfl (hb hc hd) rfl hs) w
theorem ixor {x z : Int32} {pc' : Nat} (hd : decode code pc = .ok (.ixor, 1)) (hp : pc + 1 = pc') (w : WP l Z a0 n0 R y code mx ret cells slots pc' Ls (.int (x ^^^ z) :: st) H Q) : WP l Z a0 n0 R y code mx ret cells slots pc Ls (.int z :: .int x :: st) H Q := by
  subst hp
  exact pure (fun p e m below c T t h hx hc hs => XS.ixor h hx rfl (hb hc hd) rfl hs) w
theorem ishr {x z : Int32} {pc' : Nat} (hd : decode code pc = .ok (.ishr, 1)) (hp : pc + 1 = pc') (w : WP l Z a0 n0 R y code mx ret cells slots pc' Ls (.int (x >>> (z &&& 31)) :: st) H Q) : WP l Z a0 n0 R y code mx ret cells slots pc Ls (.int z :: .int x :: st) H Q := by
  subst hp
  exact pure (fun p e m below c T t h hx hc hs => XS.ishr h hx rfl (hb hc hd) rfl hs) w
theorem lor {x z : Int64} {pc' : Nat} (hd : decode code pc = .ok (.lor, 1)) (hp : pc + 1 = pc') (w : WP l Z a0 n0 R y code mx ret cells slots pc' Ls (.long (x ||| z) :: st) H Q) : WP l Z a0 n0 R y code mx ret cells slots pc Ls (.long z :: .long x :: st) H Q := by
  subst hp
  exact pure (fun p e m below c T t h hx hc hs => XS.lor h hx rfl (hb hc hd) rfl hs) w
theorem lshl {x : Int64} {z : Int32} {pc' : Nat} (hd : decode code pc = .ok (.lshl, 1)) (hp : pc + 1 = pc') (w : WP l Z a0 n0 R y code mx ret cells slots pc' Ls (.long (x <<< (z &&& 0x3f).toInt64) :: st) H Q) : WP l Z a0 n0 R y code mx ret cells slots pc Ls (.int z :: .long x :: st) H Q := by
  subst hp
  exact pure (fun p e m below c T t h hx hc hs => XS.lshl h hx rfl (hb hc hd) rfl hs) w
theorem i2l {x : Int32} {pc' : Nat} (hd : decode code pc = .ok (.i2l, 1)) (hp : pc + 1 = pc') (w : WP l Z a0 n0 R y code mx ret cells slots pc' Ls (.long (x.toInt64) :: st) H Q) : WP l Z a0 n0 R y code mx ret cells slots pc Ls (.int x :: st) H Q := by
  subst hp
  exact pure (fun p e m below c T t h hx hc hs => XS.i2l h hx rfl (hb hc hd) rfl hs) w
theorem l2i {x : Int64} {pc' : Nat} (hd : decode code pc = .ok (.l2i, 1)) (hp : pc + 1 = pc') (w : WP l Z a0 n0 R y code mx ret cells slots pc' Ls (.int (x.toInt32) :: st) H Q) : WP l Z a0 n0 R y code mx ret cells slots pc Ls (.long x :: st) H Q := by
  subst hp
  exact pure (fun p e m below c T t h hx hc hs => XS.l2i h hx rfl (hb hc hd) rfl hs) w
theorem i2b {x : Int32} {pc' : Nat} (hd : decode code pc = .ok (.i2b, 1)) (hp : pc + 1 = pc') (w : WP l Z a0 n0 R y code mx ret cells slots pc' Ls (.int (x.toInt8.toInt32) :: st) H Q) : WP l Z a0 n0 R y code mx ret cells slots pc Ls (.int x :: st) H Q := by
  subst hp
  exact pure (fun p e m below c T t h hx hc hs => XS.i2b h hx rfl (hb hc hd) rfl hs) w
theorem lcmp {x z : Int64} {pc' : Nat} (hd : decode code pc = .ok (.lcmp, 1)) (hp : pc + 1 = pc') (w : WP l Z a0 n0 R y code mx ret cells slots pc' Ls (.int (lcmpW x z) :: st) H Q) : WP l Z a0 n0 R y code mx ret cells slots pc Ls (.long z :: .long x :: st) H Q := by
  subst hp
  exact pure (fun p e m below c T t h hx hc hs => XS.lcmp h hx rfl (hb hc hd) rfl hs) w
theorem dup {v : Value} {pc' : Nat} (hd : decode code pc = .ok (.dup, 1)) (hv : v.category = 1) (hp : pc + 1 = pc') (w : WP l Z a0 n0 R y code mx ret cells slots pc' Ls (v :: v :: st) H Q) : WP l Z a0 n0 R y code mx ret cells slots pc Ls (v :: st) H Q := by
  subst hp
  exact pure (fun p e m below c T t h hx hc hs => XS.dup h hx rfl (hb hc hd) rfl hv hs) w
theorem dupX1 {v u : Value} {pc' : Nat} (hd : decode code pc = .ok (.dup_x1, 1)) (hv : v.category = 1) (hu : u.category = 1) (hp : pc + 1 = pc') (w : WP l Z a0 n0 R y code mx ret cells slots pc' Ls (v :: u :: v :: st) H Q) : WP l Z a0 n0 R y code mx ret cells slots pc Ls (v :: u :: st) H Q := by
  subst hp
  exact pure (fun p e m below c T t h hx hc hs => XS.dupX1 h hx rfl (hb hc hd) rfl hv hu hs) w
theorem goto {o : Int} {pc' : Nat} (hd : decode code pc = .ok (.goto o, 3)) (hp : (pc : Int) + o = (pc' : Int)) (w : WP l Z a0 n0 R y code mx ret cells slots pc' Ls st H Q) : WP l Z a0 n0 R y code mx ret cells slots pc Ls st H Q :=
  pure (fun p e m below c T t h hx hc hs => XS.goto h hx rfl (pc0 := pc) (pc' := pc') rfl (hb hc hd) (by omega) (by omega) hs) w
theorem hI_ge {x z : Int32} : (if_icmp.holds .ge x z = true → z.toInt ≤ x.toInt) ∧ (if_icmp.holds .ge x z = false → x.toInt < z.toInt) := by
  constructor <;> intro hq <;> simp [if_icmp.holds, Int32.lt_iff_toInt_lt, Int32.le_iff_toInt_le] at hq ⊢ <;> first | omega | exact hq | simp_all
theorem icmp_ge {x z : Int32} {o : Int} {pt pf : Nat} (hd : decode code pc = .ok (.if_icmp .ge o, 3)) (hp : (pc : Int) + o = (pt : Int)) (hq : pc + 3 = pf) (wt : z.toInt ≤ x.toInt → WP l Z a0 n0 R y code mx ret cells slots pt Ls st H Q) (wf : x.toInt < z.toInt → WP l Z a0 n0 R y code mx ret cells slots pf Ls st H Q) : WP l Z a0 n0 R y code mx ret cells slots pc Ls (.int z :: .int x :: st) H Q := by
  subst hq
  cases hh : if_icmp.holds .ge x z
  · exact pure (fun p e m below c T t h hx hc hs => XS.icmpNo h hx rfl (hb hc hd) rfl hh hs) (wf (hI_ge.2 hh))
  · exact pure (fun p e m below c T t h hx hc hs => XS.icmpYes h hx rfl (pc0 := pc) (pc' := pt) rfl (hb hc hd) rfl hh (by omega) (by omega) hs) (wt (hI_ge.1 hh))
theorem hI_le {x z : Int32} : (if_icmp.holds .le x z = true → x.toInt ≤ z.toInt) ∧ (if_icmp.holds .le x z = false → z.toInt < x.toInt) := by
  constructor <;> intro hq <;> simp [if_icmp.holds, Int32.lt_iff_toInt_lt, Int32.le_iff_toInt_le] at hq ⊢ <;> first | omega | exact hq | simp_all
theorem icmp_le {x z : Int32} {o : Int} {pt pf : Nat} (hd : decode code pc = .ok (.if_icmp .le o, 3)) (hp : (pc : Int) + o = (pt : Int)) (hq : pc + 3 = pf) (wt : x.toInt ≤ z.toInt → WP l Z a0 n0 R y code mx ret cells slots pt Ls st H Q) (wf : z.toInt < x.toInt → WP l Z a0 n0 R y code mx ret cells slots pf Ls st H Q) : WP l Z a0 n0 R y code mx ret cells slots pc Ls (.int z :: .int x :: st) H Q := by
  subst hq
  cases hh : if_icmp.holds .le x z
  · exact pure (fun p e m below c T t h hx hc hs => XS.icmpNo h hx rfl (hb hc hd) rfl hh hs) (wf (hI_le.2 hh))
  · exact pure (fun p e m below c T t h hx hc hs => XS.icmpYes h hx rfl (pc0 := pc) (pc' := pt) rfl (hb hc hd) rfl hh (by omega) (by omega) hs) (wt (hI_le.1 hh))
theorem hZ_le {x : Int32} : (ifCond.holds .le x = true → x.toInt ≤ 0) ∧ (ifCond.holds .le x = false → 0 < x.toInt) := by
  rw [if0]
  exact hI_le (z := 0)
theorem if_le {x : Int32} {o : Int} {pt pf : Nat} (hd : decode code pc = .ok (.ifCond .le o, 3)) (hp : (pc : Int) + o = (pt : Int)) (hq : pc + 3 = pf) (wt : x.toInt ≤ 0 → WP l Z a0 n0 R y code mx ret cells slots pt Ls st H Q) (wf : 0 < x.toInt → WP l Z a0 n0 R y code mx ret cells slots pf Ls st H Q) : WP l Z a0 n0 R y code mx ret cells slots pc Ls (.int x :: st) H Q := by
  subst hq
  cases hh : ifCond.holds .le x
  · exact pure (fun p e m below c T t h hx hc hs => XS.ifNo h hx rfl (hb hc hd) rfl hh hs) (wf (hZ_le.2 hh))
  · exact pure (fun p e m below c T t h hx hc hs => XS.ifYes h hx rfl (pc0 := pc) (pc' := pt) rfl (hb hc hd) rfl hh (by omega) (by omega) hs) (wt (hZ_le.1 hh))
theorem lcmp_le {x z : Int64} {o : Int} {pt pf p1 : Nat} (hd : decode code pc = .ok (.lcmp, 1)) (h1 : pc + 1 = p1) (he : decode code p1 = .ok (.ifCond .le o, 3)) (hp : (p1 : Int) + o = (pt : Int)) (hq : p1 + 3 = pf) (wt : x.toInt ≤ z.toInt → WP l Z a0 n0 R y code mx ret cells slots pt Ls st H Q) (wf : z.toInt < x.toInt → WP l Z a0 n0 R y code mx ret cells slots pf Ls st H Q) : WP l Z a0 n0 R y code mx ret cells slots pc Ls (.long z :: .long x :: st) H Q :=
  lcmp hd h1 (if_le he hp hq (fun q => wt ((by obtain ⟨k1, k2, k3⟩ := c_lcmp x z; omega))) fun q => wf ((by obtain ⟨k1, k2, k3⟩ := c_lcmp x z; omega)))
theorem hI_eq {x z : Int32} : (if_icmp.holds .eq x z = true → x = z) ∧ (if_icmp.holds .eq x z = false → ¬ x = z) := by
  constructor <;> intro hq <;> simp [if_icmp.holds, Int32.lt_iff_toInt_lt, Int32.le_iff_toInt_le] at hq ⊢ <;> first | omega | exact hq | simp_all
theorem hZ_eq {x : Int32} : (ifCond.holds .eq x = true → x = 0) ∧ (ifCond.holds .eq x = false → ¬ x = 0) := by
  rw [if0]
  exact hI_eq (z := 0)
theorem if_eq {x : Int32} {o : Int} {pt pf : Nat} (hd : decode code pc = .ok (.ifCond .eq o, 3)) (hp : (pc : Int) + o = (pt : Int)) (hq : pc + 3 = pf) (wt : x = 0 → WP l Z a0 n0 R y code mx ret cells slots pt Ls st H Q) (wf : ¬ x = 0 → WP l Z a0 n0 R y code mx ret cells slots pf Ls st H Q) : WP l Z a0 n0 R y code mx ret cells slots pc Ls (.int x :: st) H Q := by
  subst hq
  cases hh : ifCond.holds .eq x
  · exact pure (fun p e m below c T t h hx hc hs => XS.ifNo h hx rfl (hb hc hd) rfl hh hs) (wf (hZ_eq.2 hh))
  · exact pure (fun p e m below c T t h hx hc hs => XS.ifYes h hx rfl (pc0 := pc) (pc' := pt) rfl (hb hc hd) rfl hh (by omega) (by omega) hs) (wt (hZ_eq.1 hh))
theorem hI_ne {x z : Int32} : (if_icmp.holds .ne x z = true → ¬ x = z) ∧ (if_icmp.holds .ne x z = false → x = z) := by
  constructor <;> intro hq <;> simp [if_icmp.holds, Int32.lt_iff_toInt_lt, Int32.le_iff_toInt_le] at hq ⊢ <;> first | omega | exact hq | simp_all
theorem icmp_ne {x z : Int32} {o : Int} {pt pf : Nat} (hd : decode code pc = .ok (.if_icmp .ne o, 3)) (hp : (pc : Int) + o = (pt : Int)) (hq : pc + 3 = pf) (wt : ¬ x = z → WP l Z a0 n0 R y code mx ret cells slots pt Ls st H Q) (wf : x = z → WP l Z a0 n0 R y code mx ret cells slots pf Ls st H Q) : WP l Z a0 n0 R y code mx ret cells slots pc Ls (.int z :: .int x :: st) H Q := by
  subst hq
  cases hh : if_icmp.holds .ne x z
  · exact pure (fun p e m below c T t h hx hc hs => XS.icmpNo h hx rfl (hb hc hd) rfl hh hs) (wf (hI_ne.2 hh))
  · exact pure (fun p e m below c T t h hx hc hs => XS.icmpYes h hx rfl (pc0 := pc) (pc' := pt) rfl (hb hc hd) rfl hh (by omega) (by omega) hs) (wt (hI_ne.1 hh))
def ok1 : Slot → Bool
  | .unset => true
  | .val v => v.category == 1
  | .second => false
def ok2 : Slot → Slot → Bool
  | .val (.long _), .second => true
  | a, b => ok1 a && ok1 b
theorem stl1 (pre : List Slot) {o : Slot} {t : List Slot} {v : Value} (ho : ok1 o = true) (hv : v.category = 1) : storeLocals ⟨pre ++ o :: t⟩ pre.length v = some ⟨pre ++ .val v :: t⟩ := by
  have hg : (⟨pre ++ o :: t⟩ : Array Slot)[pre.length]? = some o := by simp
  have hs : storeSelf (⟨pre ++ o :: t⟩ : Array Slot) pre.length v = some ⟨pre ++ .val v :: t⟩ := by
    simp [storeSelf, setAt, hv, Array.setIfInBounds]
  cases o with
  | unset => simp only [storeLocals, hg]; exact hs
  | second => cases ho
  | val w =>
    have hw : ¬ w.category = 2 := by simp only [ok1, beq_iff_eq] at ho; omega
    simp only [storeLocals, hg]
    show (if w.category = 2 then _ else _) = _
    rw [if_neg hw]; exact hs
theorem stl2 (pre : List Slot) {o o' : Slot} {t : List Slot} {x : Int64} (ho : ok2 o o' = true) : storeLocals ⟨pre ++ o :: o' :: t⟩ pre.length (.long x) = some ⟨pre ++ .val (.long x) :: .second :: t⟩ := by
  have hg : (⟨pre ++ o :: o' :: t⟩ : Array Slot)[pre.length]? = some o := by simp
  have hs : ∀ q : Slot, (∀ w, q = .val w → w.category = 1) → storeSelf (⟨pre ++ o :: q :: t⟩ : Array Slot) pre.length (.long x) = some ⟨pre ++ .val (.long x) :: .second :: t⟩ := by
    intro q hq
    have e1 : setAt (⟨pre ++ o :: q :: t⟩ : Array Slot) pre.length (.val (.long x)) = some ⟨pre ++ .val (.long x) :: q :: t⟩ := by simp [setAt, Array.setIfInBounds]
    have e2 : (⟨pre ++ .val (.long x) :: q :: t⟩ : Array Slot)[pre.length + 1]? = some q := by simp
    have e3 : setAt (⟨pre ++ .val (.long x) :: q :: t⟩ : Array Slot) (pre.length + 1) .second = some ⟨pre ++ .val (.long x) :: .second :: t⟩ := by
      simp [setAt, Array.setIfInBounds]
    cases q with
    | unset => simp only [storeSelf, e1]; simp [Value.category, e2, e3]
    | second => simp only [storeSelf, e1]; simp [Value.category, e2, e3]
    | val w =>
      have hw1 : w.category = 1 := hq w rfl
      cases w <;> first | (simp [Value.category] at hw1; done) | (simp only [storeSelf, e1]; simp [Value.category, e2, e3])
  have hl : ∀ w : Value, ok1 (.val w) = true → w.category = 1 := fun w h => by simpa [ok1] using h
  have main : ∀ {o o' : Slot}, ok1 o = true → ok1 o' = true → (∀ q : Slot, (∀ w, q = .val w → w.category = 1) → storeSelf (⟨pre ++ o :: q :: t⟩ : Array Slot) pre.length (.long x) = some ⟨pre ++ .val (.long x) :: .second :: t⟩) → storeLocals ⟨pre ++ o :: o' :: t⟩ pre.length (.long x) = some ⟨pre ++ .val (.long x) :: .second :: t⟩ := by
    intro o o' h1 h2 hs
    have hg : (⟨pre ++ o :: o' :: t⟩ : Array Slot)[pre.length]? = some o := by simp
    have h3 := hs o' fun w e => hl w (by rw [← e]; exact h2)
    cases o with
    | unset => simp only [storeLocals, hg]; exact h3
    | second => cases h1
    | val w =>
      have hw : ¬ w.category = 2 := by have := hl w h1; omega
      simp only [storeLocals, hg]
      show (if w.category = 2 then _ else _) = _
      rw [if_neg hw]; exact h3
  by_cases hb : ok1 o = true ∧ ok1 o' = true
  · exact main hb.1 hb.2 hs
  · have : (∃ z, o = .val (.long z)) ∧ o' = .second := by
      unfold ok2 at ho
      split at ho
      · exact ⟨⟨_, rfl⟩, rfl⟩
      · simp only [Bool.and_eq_true] at ho; exact absurd ho hb
    obtain ⟨⟨z, rfl⟩, rfl⟩ := this
    simp only [storeLocals, hg]
    have e4 : setAt (⟨pre ++ .val (.long z) :: .second :: t⟩ : Array Slot) (pre.length + 1) .unset = some ⟨pre ++ .val (.long z) :: .unset :: t⟩ := by
      simp [setAt, Array.setIfInBounds]
    simp only [Option.bind_eq_bind, Option.bind_some, Value.category, if_true, e4]
    exact hs .unset fun w e => by cases e
theorem istoreN_1 {s0 : Slot} {o : Slot} {t : List Slot} {x : Int32} {pc' : Nat} (hd : decode code pc = .ok (.istore_n 1, 1)) (ho : ok1 o = true) (hp : pc + 1 = pc') (w : WP l Z a0 n0 R y code mx ret cells slots pc' (s0 :: .val (.int x) :: t) st H Q) : WP l Z a0 n0 R y code mx ret cells slots pc (s0 :: o :: t) (.int x :: st) H Q := by
  subst hp
  exact pure (fun p e m below c T t h hx hc' hs => XS.istoreN h hx rfl (hb hc' hd) rfl (stl1 [s0] ho rfl) hs) w
theorem lstoreN_3 {s0 s1 s2 : Slot} {o o' : Slot} {t : List Slot} {x : Int64} {pc' : Nat} (hd : decode code pc = .ok (.lstore_n 3, 1)) (ho : ok2 o o' = true) (hp : pc + 1 = pc') (w : WP l Z a0 n0 R y code mx ret cells slots pc' (s0 :: s1 :: s2 :: .val (.long x) :: .second :: t) st H Q) : WP l Z a0 n0 R y code mx ret cells slots pc (s0 :: s1 :: s2 :: o :: o' :: t) (.long x :: st) H Q := by
  subst hp
  exact pure (fun p e m below c T t h hx hc' hs => XS.lstoreN h hx rfl (hb hc' hd) rfl (stl2 [s0, s1, s2] ho) hs) w
theorem istore_5 {s0 s1 s2 s3 s4 : Slot} {o : Slot} {t : List Slot} {x : Int32} {pc' : Nat} (hd : decode code pc = .ok (.istore 5, 2)) (ho : ok1 o = true) (hp : pc + 2 = pc') (w : WP l Z a0 n0 R y code mx ret cells slots pc' (s0 :: s1 :: s2 :: s3 :: s4 :: .val (.int x) :: t) st H Q) : WP l Z a0 n0 R y code mx ret cells slots pc (s0 :: s1 :: s2 :: s3 :: s4 :: o :: t) (.int x :: st) H Q := by
  subst hp
  exact pure (fun p e m below c T t h hx hc' hs => XS.istore h hx rfl (hb hc' hd) rfl (stl1 [s0, s1, s2, s3, s4] ho rfl) hs) w
theorem iinc_5 {s0 s1 s2 s3 s4 : Slot} {t : List Slot} {x : Int32} {i : Int} (n : Int32) {pc' : Nat} (hd : decode code pc = .ok (.iinc 5 i, 3)) (hn : Int32.ofInt i = n) (hp : pc + 3 = pc') (w : WP l Z a0 n0 R y code mx ret cells slots pc' (s0 :: s1 :: s2 :: s3 :: s4 :: .val (.int (x + n)) :: t) st H Q) : WP l Z a0 n0 R y code mx ret cells slots pc (s0 :: s1 :: s2 :: s3 :: s4 :: .val (.int x) :: t) st H Q := by
  subst hp hn
  exact pure (fun p e m below c T t h hx hc' hs => XS.iinc h hx rfl (hb hc' hd) rfl (stl1 [s0, s1, s2, s3, s4] rfl rfl) hs) w
theorem istore_6 {s0 s1 s2 s3 s4 s5 : Slot} {o : Slot} {t : List Slot} {x : Int32} {pc' : Nat} (hd : decode code pc = .ok (.istore 6, 2)) (ho : ok1 o = true) (hp : pc + 2 = pc') (w : WP l Z a0 n0 R y code mx ret cells slots pc' (s0 :: s1 :: s2 :: s3 :: s4 :: s5 :: .val (.int x) :: t) st H Q) : WP l Z a0 n0 R y code mx ret cells slots pc (s0 :: s1 :: s2 :: s3 :: s4 :: s5 :: o :: t) (.int x :: st) H Q := by
  subst hp
  exact pure (fun p e m below c T t h hx hc' hs => XS.istore h hx rfl (hb hc' hd) rfl (stl1 [s0, s1, s2, s3, s4, s5] ho rfl) hs) w
theorem istore_7 {s0 s1 s2 s3 s4 s5 s6 : Slot} {o : Slot} {t : List Slot} {x : Int32} {pc' : Nat} (hd : decode code pc = .ok (.istore 7, 2)) (ho : ok1 o = true) (hp : pc + 2 = pc') (w : WP l Z a0 n0 R y code mx ret cells slots pc' (s0 :: s1 :: s2 :: s3 :: s4 :: s5 :: s6 :: .val (.int x) :: t) st H Q) : WP l Z a0 n0 R y code mx ret cells slots pc (s0 :: s1 :: s2 :: s3 :: s4 :: s5 :: s6 :: o :: t) (.int x :: st) H Q := by
  subst hp
  exact pure (fun p e m below c T t h hx hc' hs => XS.istore h hx rfl (hb hc' hd) rfl (stl1 [s0, s1, s2, s3, s4, s5, s6] ho rfl) hs) w
theorem istore_8 {s0 s1 s2 s3 s4 s5 s6 s7 : Slot} {o : Slot} {t : List Slot} {x : Int32} {pc' : Nat} (hd : decode code pc = .ok (.istore 8, 2)) (ho : ok1 o = true) (hp : pc + 2 = pc') (w : WP l Z a0 n0 R y code mx ret cells slots pc' (s0 :: s1 :: s2 :: s3 :: s4 :: s5 :: s6 :: s7 :: .val (.int x) :: t) st H Q) : WP l Z a0 n0 R y code mx ret cells slots pc (s0 :: s1 :: s2 :: s3 :: s4 :: s5 :: s6 :: s7 :: o :: t) (.int x :: st) H Q := by
  subst hp
  exact pure (fun p e m below c T t h hx hc' hs => XS.istore h hx rfl (hb hc' hd) rfl (stl1 [s0, s1, s2, s3, s4, s5, s6, s7] ho rfl) hs) w
theorem istore_9 {s0 s1 s2 s3 s4 s5 s6 s7 s8 : Slot} {o : Slot} {t : List Slot} {x : Int32} {pc' : Nat} (hd : decode code pc = .ok (.istore 9, 2)) (ho : ok1 o = true) (hp : pc + 2 = pc') (w : WP l Z a0 n0 R y code mx ret cells slots pc' (s0 :: s1 :: s2 :: s3 :: s4 :: s5 :: s6 :: s7 :: s8 :: .val (.int x) :: t) st H Q) : WP l Z a0 n0 R y code mx ret cells slots pc (s0 :: s1 :: s2 :: s3 :: s4 :: s5 :: s6 :: s7 :: s8 :: o :: t) (.int x :: st) H Q := by
  subst hp
  exact pure (fun p e m below c T t h hx hc' hs => XS.istore h hx rfl (hb hc' hd) rfl (stl1 [s0, s1, s2, s3, s4, s5, s6, s7, s8] ho rfl) hs) w
theorem istore_10 {s0 s1 s2 s3 s4 s5 s6 s7 s8 s9 : Slot} {o : Slot} {t : List Slot} {x : Int32} {pc' : Nat} (hd : decode code pc = .ok (.istore 10, 2)) (ho : ok1 o = true) (hp : pc + 2 = pc') (w : WP l Z a0 n0 R y code mx ret cells slots pc' (s0 :: s1 :: s2 :: s3 :: s4 :: s5 :: s6 :: s7 :: s8 :: s9 :: .val (.int x) :: t) st H Q) : WP l Z a0 n0 R y code mx ret cells slots pc (s0 :: s1 :: s2 :: s3 :: s4 :: s5 :: s6 :: s7 :: s8 :: s9 :: o :: t) (.int x :: st) H Q := by
  subst hp
  exact pure (fun p e m below c T t h hx hc' hs => XS.istore h hx rfl (hb hc' hd) rfl (stl1 [s0, s1, s2, s3, s4, s5, s6, s7, s8, s9] ho rfl) hs) w
theorem istore_11 {s0 s1 s2 s3 s4 s5 s6 s7 s8 s9 s10 : Slot} {o : Slot} {t : List Slot} {x : Int32} {pc' : Nat} (hd : decode code pc = .ok (.istore 11, 2)) (ho : ok1 o = true) (hp : pc + 2 = pc') (w : WP l Z a0 n0 R y code mx ret cells slots pc' (s0 :: s1 :: s2 :: s3 :: s4 :: s5 :: s6 :: s7 :: s8 :: s9 :: s10 :: .val (.int x) :: t) st H Q) : WP l Z a0 n0 R y code mx ret cells slots pc (s0 :: s1 :: s2 :: s3 :: s4 :: s5 :: s6 :: s7 :: s8 :: s9 :: s10 :: o :: t) (.int x :: st) H Q := by
  subst hp
  exact pure (fun p e m below c T t h hx hc' hs => XS.istore h hx rfl (hb hc' hd) rfl (stl1 [s0, s1, s2, s3, s4, s5, s6, s7, s8, s9, s10] ho rfl) hs) w
theorem istore_12 {s0 s1 s2 s3 s4 s5 s6 s7 s8 s9 s10 s11 : Slot} {o : Slot} {t : List Slot} {x : Int32} {pc' : Nat} (hd : decode code pc = .ok (.istore 12, 2)) (ho : ok1 o = true) (hp : pc + 2 = pc') (w : WP l Z a0 n0 R y code mx ret cells slots pc' (s0 :: s1 :: s2 :: s3 :: s4 :: s5 :: s6 :: s7 :: s8 :: s9 :: s10 :: s11 :: .val (.int x) :: t) st H Q) : WP l Z a0 n0 R y code mx ret cells slots pc (s0 :: s1 :: s2 :: s3 :: s4 :: s5 :: s6 :: s7 :: s8 :: s9 :: s10 :: s11 :: o :: t) (.int x :: st) H Q := by
  subst hp
  exact pure (fun p e m below c T t h hx hc' hs => XS.istore h hx rfl (hb hc' hd) rfl (stl1 [s0, s1, s2, s3, s4, s5, s6, s7, s8, s9, s10, s11] ho rfl) hs) w
theorem istore_13 {s0 s1 s2 s3 s4 s5 s6 s7 s8 s9 s10 s11 s12 : Slot} {o : Slot} {t : List Slot} {x : Int32} {pc' : Nat} (hd : decode code pc = .ok (.istore 13, 2)) (ho : ok1 o = true) (hp : pc + 2 = pc') (w : WP l Z a0 n0 R y code mx ret cells slots pc' (s0 :: s1 :: s2 :: s3 :: s4 :: s5 :: s6 :: s7 :: s8 :: s9 :: s10 :: s11 :: s12 :: .val (.int x) :: t) st H Q) : WP l Z a0 n0 R y code mx ret cells slots pc (s0 :: s1 :: s2 :: s3 :: s4 :: s5 :: s6 :: s7 :: s8 :: s9 :: s10 :: s11 :: s12 :: o :: t) (.int x :: st) H Q := by
  subst hp
  exact pure (fun p e m below c T t h hx hc' hs => XS.istore h hx rfl (hb hc' hd) rfl (stl1 [s0, s1, s2, s3, s4, s5, s6, s7, s8, s9, s10, s11, s12] ho rfl) hs) w
theorem istore_14 {s0 s1 s2 s3 s4 s5 s6 s7 s8 s9 s10 s11 s12 s13 : Slot} {o : Slot} {t : List Slot} {x : Int32} {pc' : Nat} (hd : decode code pc = .ok (.istore 14, 2)) (ho : ok1 o = true) (hp : pc + 2 = pc') (w : WP l Z a0 n0 R y code mx ret cells slots pc' (s0 :: s1 :: s2 :: s3 :: s4 :: s5 :: s6 :: s7 :: s8 :: s9 :: s10 :: s11 :: s12 :: s13 :: .val (.int x) :: t) st H Q) : WP l Z a0 n0 R y code mx ret cells slots pc (s0 :: s1 :: s2 :: s3 :: s4 :: s5 :: s6 :: s7 :: s8 :: s9 :: s10 :: s11 :: s12 :: s13 :: o :: t) (.int x :: st) H Q := by
  subst hp
  exact pure (fun p e m below c T t h hx hc' hs => XS.istore h hx rfl (hb hc' hd) rfl (stl1 [s0, s1, s2, s3, s4, s5, s6, s7, s8, s9, s10, s11, s12, s13] ho rfl) hs) w
theorem astore_15 {s0 s1 s2 s3 s4 s5 s6 s7 s8 s9 s10 s11 s12 s13 s14 : Slot} {o : Slot} {t : List Slot} {v : Value} {pc' : Nat} (hd : decode code pc = .ok (.astore 15, 2)) (hv : v.isRef = true) (hc : v.category = 1) (ho : ok1 o = true) (hp : pc + 2 = pc') (w : WP l Z a0 n0 R y code mx ret cells slots pc' (s0 :: s1 :: s2 :: s3 :: s4 :: s5 :: s6 :: s7 :: s8 :: s9 :: s10 :: s11 :: s12 :: s13 :: s14 :: .val (v) :: t) st H Q) : WP l Z a0 n0 R y code mx ret cells slots pc (s0 :: s1 :: s2 :: s3 :: s4 :: s5 :: s6 :: s7 :: s8 :: s9 :: s10 :: s11 :: s12 :: s13 :: s14 :: o :: t) (v :: st) H Q := by
  subst hp
  exact pure (fun p e m below c T t h hx hc' hs => XS.astore h hx rfl (hb hc' hd) rfl hv (stl1 [s0, s1, s2, s3, s4, s5, s6, s7, s8, s9, s10, s11, s12, s13, s14] ho hc) hs) w
theorem astore_16 {s0 s1 s2 s3 s4 s5 s6 s7 s8 s9 s10 s11 s12 s13 s14 s15 : Slot} {o : Slot} {t : List Slot} {v : Value} {pc' : Nat} (hd : decode code pc = .ok (.astore 16, 2)) (hv : v.isRef = true) (hc : v.category = 1) (ho : ok1 o = true) (hp : pc + 2 = pc') (w : WP l Z a0 n0 R y code mx ret cells slots pc' (s0 :: s1 :: s2 :: s3 :: s4 :: s5 :: s6 :: s7 :: s8 :: s9 :: s10 :: s11 :: s12 :: s13 :: s14 :: s15 :: .val (v) :: t) st H Q) : WP l Z a0 n0 R y code mx ret cells slots pc (s0 :: s1 :: s2 :: s3 :: s4 :: s5 :: s6 :: s7 :: s8 :: s9 :: s10 :: s11 :: s12 :: s13 :: s14 :: s15 :: o :: t) (v :: st) H Q := by
  subst hp
  exact pure (fun p e m below c T t h hx hc' hs => XS.astore h hx rfl (hb hc' hd) rfl hv (stl1 [s0, s1, s2, s3, s4, s5, s6, s7, s8, s9, s10, s11, s12, s13, s14, s15] ho hc) hs) w
theorem istore_17 {s0 s1 s2 s3 s4 s5 s6 s7 s8 s9 s10 s11 s12 s13 s14 s15 s16 : Slot} {o : Slot} {t : List Slot} {x : Int32} {pc' : Nat} (hd : decode code pc = .ok (.istore 17, 2)) (ho : ok1 o = true) (hp : pc + 2 = pc') (w : WP l Z a0 n0 R y code mx ret cells slots pc' (s0 :: s1 :: s2 :: s3 :: s4 :: s5 :: s6 :: s7 :: s8 :: s9 :: s10 :: s11 :: s12 :: s13 :: s14 :: s15 :: s16 :: .val (.int x) :: t) st H Q) : WP l Z a0 n0 R y code mx ret cells slots pc (s0 :: s1 :: s2 :: s3 :: s4 :: s5 :: s6 :: s7 :: s8 :: s9 :: s10 :: s11 :: s12 :: s13 :: s14 :: s15 :: s16 :: o :: t) (.int x :: st) H Q := by
  subst hp
  exact pure (fun p e m below c T t h hx hc' hs => XS.istore h hx rfl (hb hc' hd) rfl (stl1 [s0, s1, s2, s3, s4, s5, s6, s7, s8, s9, s10, s11, s12, s13, s14, s15, s16] ho rfl) hs) w
theorem istore_18 {s0 s1 s2 s3 s4 s5 s6 s7 s8 s9 s10 s11 s12 s13 s14 s15 s16 s17 : Slot} {o : Slot} {t : List Slot} {x : Int32} {pc' : Nat} (hd : decode code pc = .ok (.istore 18, 2)) (ho : ok1 o = true) (hp : pc + 2 = pc') (w : WP l Z a0 n0 R y code mx ret cells slots pc' (s0 :: s1 :: s2 :: s3 :: s4 :: s5 :: s6 :: s7 :: s8 :: s9 :: s10 :: s11 :: s12 :: s13 :: s14 :: s15 :: s16 :: s17 :: .val (.int x) :: t) st H Q) : WP l Z a0 n0 R y code mx ret cells slots pc (s0 :: s1 :: s2 :: s3 :: s4 :: s5 :: s6 :: s7 :: s8 :: s9 :: s10 :: s11 :: s12 :: s13 :: s14 :: s15 :: s16 :: s17 :: o :: t) (.int x :: st) H Q := by
  subst hp
  exact pure (fun p e m below c T t h hx hc' hs => XS.istore h hx rfl (hb hc' hd) rfl (stl1 [s0, s1, s2, s3, s4, s5, s6, s7, s8, s9, s10, s11, s12, s13, s14, s15, s16, s17] ho rfl) hs) w
theorem istore_19 {s0 s1 s2 s3 s4 s5 s6 s7 s8 s9 s10 s11 s12 s13 s14 s15 s16 s17 s18 : Slot} {o : Slot} {t : List Slot} {x : Int32} {pc' : Nat} (hd : decode code pc = .ok (.istore 19, 2)) (ho : ok1 o = true) (hp : pc + 2 = pc') (w : WP l Z a0 n0 R y code mx ret cells slots pc' (s0 :: s1 :: s2 :: s3 :: s4 :: s5 :: s6 :: s7 :: s8 :: s9 :: s10 :: s11 :: s12 :: s13 :: s14 :: s15 :: s16 :: s17 :: s18 :: .val (.int x) :: t) st H Q) : WP l Z a0 n0 R y code mx ret cells slots pc (s0 :: s1 :: s2 :: s3 :: s4 :: s5 :: s6 :: s7 :: s8 :: s9 :: s10 :: s11 :: s12 :: s13 :: s14 :: s15 :: s16 :: s17 :: s18 :: o :: t) (.int x :: st) H Q := by
  subst hp
  exact pure (fun p e m below c T t h hx hc' hs => XS.istore h hx rfl (hb hc' hd) rfl (stl1 [s0, s1, s2, s3, s4, s5, s6, s7, s8, s9, s10, s11, s12, s13, s14, s15, s16, s17, s18] ho rfl) hs) w
theorem getfield {i : Nat} {C n d : String} {a : Addr} {v : Value} {fs : List (String × String × Value)} {pc' : Nat} (k j : Nat) (hw : (Cond.fieldLink y.cls i C n d).before a0 Z = true) (hd : decode code pc = .ok (.getfield i, 3)) (hk : H[k]? = some (a, .inr (C, fs))) (hj : fs[j]? = some (n, d, v)) (hp : pc + 3 = pc') (w : WP l Z a0 n0 R y code mx ret cells slots pc' Ls (v :: st) H Q) : WP l Z a0 n0 R y code mx ret cells slots pc Ls (.ref a :: st) H Q := by
  subst hp
  exact stepT (fun p e s m args below meth c T locs X hx hZ hc hm ho hR => by
    have F := ((hR.at hk).2.2.2 _ (List.mem_of_getElem? hj)).1
    exact getF X hx hZ ho (host := "") (Or.inl hw) Via.refl rfl F (g := mkF m pc ⟨Ls⟩ (.ref a :: st)) rfl rfl (hb hc hd)) w
theorem baload {a : Addr} {vs : List Value} {j : Int32} {v : Value} {pc' : Nat} (k i : Nat) (hd : decode code pc = .ok (.baload, 1)) (hk : H[k]? = some (a, .inl (.byte, vs))) (hj : j.toInt = (i : Int)) (hv : vs[i]? = some v) (hp : pc + 1 = pc') (w : WP l Z a0 n0 R y code mx ret cells slots pc' Ls (v :: st) H Q) : WP l Z a0 n0 R y code mx ret cells slots pc Ls (.int j :: .ref a :: st) H Q := by
  subst hp
  exact stepT (fun p e s m args below meth c T locs X hx hZ hc hm ho hR => ⟨T, X, rfl, fun target hs => by
    obtain ⟨cl, A, q1, q2⟩ := (hR.at hk).2
    have q3 : j.toNatClampNeg = i := idx_eq hj
    have q4 : cl.slots[j.toNatClampNeg]? = some v := by rw [q1, q3]; simpa using hv
    exact X.baloadBytes hx A.1 (State.isArrayOf_alike hZ.alike A.2.1) A.2.2 (idx_ok hj (by rw [q1, List.size_toArray]; exact (List.getElem?_eq_some_iff.mp hv).1)) q4 (g := mkF m pc ⟨Ls⟩ (.int j :: .ref a :: st)) rfl rfl (hb hc hd) _ hs⟩) w
theorem bastoreG (pre : MH) {post : MH} {a : Addr} {vs : List Value} {j : Int32} {x : Int32} {pc' : Nat} (i : Nat) (hd : decode code pc = .ok (.bastore, 1)) (hj : j.toInt = (i : Int)) (hi : i < vs.length) (hp : pc + 1 = pc') (w : WP l Z a0 n0 R y code mx ret cells slots pc' Ls st (pre ++ (a, .inl (.byte, vs.set i (.int x.toInt8.toInt32))) :: post) Q) : WP l Z a0 n0 R y code mx ret cells slots pc Ls ((.int x) :: .int j :: .ref a :: st) (pre ++ (a, .inl (.byte, vs)) :: post) Q := by
  subst hp
  exact stepW (pre := pre) (fun p e s m args below meth c T locs X hx hZ hc hm ho hn hR => by
    obtain ⟨cl, A, q1, q2⟩ := hR
    have q3 : j.toNatClampNeg = i := idx_eq hj
    obtain ⟨T', h', X', e', W, st⟩ := stB X hx hZ rfl A (x := x) (idx_ok hj (by rw [q1, List.size_toArray]; exact hi)) (g := mkF m pc ⟨Ls⟩ ((.int x) :: .int j :: .ref a :: st)) rfl rfl (hb hc hd)
    rw [q3] at W X'
    exact ⟨T', h', _, _, X', e', W, fun k => k.setArr W, st⟩) w
theorem bastore_0 {post : MH} {a : Addr} {vs : List Value} {j : Int32} {x : Int32} {pc' : Nat} (i : Nat) (hd : decode code pc = .ok (.bastore, 1)) (hj : j.toInt = (i : Int)) (hi : i < vs.length) (hp : pc + 1 = pc') (w : WP l Z a0 n0 R y code mx ret cells slots pc' Ls st ((a, .inl (.byte, vs.set i (.int x.toInt8.toInt32))) :: post) Q) : WP l Z a0 n0 R y code mx ret cells slots pc Ls ((.int x) :: .int j :: .ref a :: st) ((a, .inl (.byte, vs)) :: post) Q := bastoreG [] i hd hj hi hp w
theorem putfieldG (pre : MH) (fpre : List (String × String × Value)) {post : MH} {fpost : List (String × String × Value)} {i kk : Nat} {C n d : String} {a : Addr} {v u : Value} {ty : FieldType} {pc' : Nat} (hw : (Cond.fieldLink y.cls i C n d).before a0 Z = true) (hL : (Cond.lays C C n d).before a0 Z = true ∨ ((Cond.laysFinal C C n d).before a0 Z = true ∧ y.cls = C ∧ y.name = "<init>")) (hI : (Cond.instantiable C kk).before a0 Z = true) (hty : parseFieldDescriptor d = some ty) (hn : narrow ty v = v) (hf : fits ty v = true) (hd : decode code pc = .ok (.putfield i, 3)) (hp : pc + 3 = pc') (w : WP l Z a0 n0 R y code mx ret cells slots pc' Ls st (pre ++ (a, .inr (C, fpre ++ (n, d, v) :: fpost)) :: post) Q) : WP l Z a0 n0 R y code mx ret cells slots pc Ls (v :: .ref a :: st) (pre ++ (a, .inr (C, fpre ++ (n, d, u) :: fpost)) :: post) Q := by
  subst hp
  exact stepW (pre := pre) (fun p e s m args below meth c T locs X hx hZ hc hm ho hnm hR => by
    have F := (hR.2.2 (n, d, u) (by simp)).1
    obtain ⟨T', h', X', e', W, st⟩ := putF X hx hZ ho (host := "") (Or.inl hw) Via.refl rfl F hR.1 (hL.imp id fun q => ⟨q.1, q.2.1, hnm.trans q.2.2⟩) hI hty hn hf (g := mkF m pc ⟨Ls⟩ (v :: .ref a :: st)) rfl rfl (hb hc hd)
    exact ⟨T', h', _, _, X', e', W, fun k => k.setFld W, st⟩) w
theorem putfield_0_0 {post : MH} {fpost : List (String × String × Value)} {i kk : Nat} {C n d : String} {a : Addr} {v u : Value} {ty : FieldType} {pc' : Nat} (hw : (Cond.fieldLink y.cls i C n d).before a0 Z = true) (hL : (Cond.lays C C n d).before a0 Z = true ∨ ((Cond.laysFinal C C n d).before a0 Z = true ∧ y.cls = C ∧ y.name = "<init>")) (hI : (Cond.instantiable C kk).before a0 Z = true) (hty : parseFieldDescriptor d = some ty) (hn : narrow ty v = v) (hf : fits ty v = true) (hd : decode code pc = .ok (.putfield i, 3)) (hp : pc + 3 = pc') (w : WP l Z a0 n0 R y code mx ret cells slots pc' Ls st ((a, .inr (C, (n, d, v) :: fpost)) :: post) Q) : WP l Z a0 n0 R y code mx ret cells slots pc Ls (v :: .ref a :: st) ((a, .inr (C, (n, d, u) :: fpost)) :: post) Q := putfieldG [] [] hw hL hI hty hn hf hd hp w
theorem putfield_0_1 {f0 : String × String × Value} {post : MH} {fpost : List (String × String × Value)} {i kk : Nat} {C n d : String} {a : Addr} {v u : Value} {ty : FieldType} {pc' : Nat} (hw : (Cond.fieldLink y.cls i C n d).before a0 Z = true) (hL : (Cond.lays C C n d).before a0 Z = true ∨ ((Cond.laysFinal C C n d).before a0 Z = true ∧ y.cls = C ∧ y.name = "<init>")) (hI : (Cond.instantiable C kk).before a0 Z = true) (hty : parseFieldDescriptor d = some ty) (hn : narrow ty v = v) (hf : fits ty v = true) (hd : decode code pc = .ok (.putfield i, 3)) (hp : pc + 3 = pc') (w : WP l Z a0 n0 R y code mx ret cells slots pc' Ls st ((a, .inr (C, f0 :: (n, d, v) :: fpost)) :: post) Q) : WP l Z a0 n0 R y code mx ret cells slots pc Ls (v :: .ref a :: st) ((a, .inr (C, f0 :: (n, d, u) :: fpost)) :: post) Q := putfieldG [] [f0] hw hL hI hty hn hf hd hp w
theorem putfield_0_2 {f0 f1 : String × String × Value} {post : MH} {fpost : List (String × String × Value)} {i kk : Nat} {C n d : String} {a : Addr} {v u : Value} {ty : FieldType} {pc' : Nat} (hw : (Cond.fieldLink y.cls i C n d).before a0 Z = true) (hL : (Cond.lays C C n d).before a0 Z = true ∨ ((Cond.laysFinal C C n d).before a0 Z = true ∧ y.cls = C ∧ y.name = "<init>")) (hI : (Cond.instantiable C kk).before a0 Z = true) (hty : parseFieldDescriptor d = some ty) (hn : narrow ty v = v) (hf : fits ty v = true) (hd : decode code pc = .ok (.putfield i, 3)) (hp : pc + 3 = pc') (w : WP l Z a0 n0 R y code mx ret cells slots pc' Ls st ((a, .inr (C, f0 :: f1 :: (n, d, v) :: fpost)) :: post) Q) : WP l Z a0 n0 R y code mx ret cells slots pc Ls (v :: .ref a :: st) ((a, .inr (C, f0 :: f1 :: (n, d, u) :: fpost)) :: post) Q := putfieldG [] [f0, f1] hw hL hI hty hn hf hd hp w
theorem putfield_0_3 {f0 f1 f2 : String × String × Value} {post : MH} {fpost : List (String × String × Value)} {i kk : Nat} {C n d : String} {a : Addr} {v u : Value} {ty : FieldType} {pc' : Nat} (hw : (Cond.fieldLink y.cls i C n d).before a0 Z = true) (hL : (Cond.lays C C n d).before a0 Z = true ∨ ((Cond.laysFinal C C n d).before a0 Z = true ∧ y.cls = C ∧ y.name = "<init>")) (hI : (Cond.instantiable C kk).before a0 Z = true) (hty : parseFieldDescriptor d = some ty) (hn : narrow ty v = v) (hf : fits ty v = true) (hd : decode code pc = .ok (.putfield i, 3)) (hp : pc + 3 = pc') (w : WP l Z a0 n0 R y code mx ret cells slots pc' Ls st ((a, .inr (C, f0 :: f1 :: f2 :: (n, d, v) :: fpost)) :: post) Q) : WP l Z a0 n0 R y code mx ret cells slots pc Ls (v :: .ref a :: st) ((a, .inr (C, f0 :: f1 :: f2 :: (n, d, u) :: fpost)) :: post) Q := putfieldG [] [f0, f1, f2] hw hL hI hty hn hf hd hp w
theorem putfield_0_4 {f0 f1 f2 f3 : String × String × Value} {post : MH} {fpost : List (String × String × Value)} {i kk : Nat} {C n d : String} {a : Addr} {v u : Value} {ty : FieldType} {pc' : Nat} (hw : (Cond.fieldLink y.cls i C n d).before a0 Z = true) (hL : (Cond.lays C C n d).before a0 Z = true ∨ ((Cond.laysFinal C C n d).before a0 Z = true ∧ y.cls = C ∧ y.name = "<init>")) (hI : (Cond.instantiable C kk).before a0 Z = true) (hty : parseFieldDescriptor d = some ty) (hn : narrow ty v = v) (hf : fits ty v = true) (hd : decode code pc = .ok (.putfield i, 3)) (hp : pc + 3 = pc') (w : WP l Z a0 n0 R y code mx ret cells slots pc' Ls st ((a, .inr (C, f0 :: f1 :: f2 :: f3 :: (n, d, v) :: fpost)) :: post) Q) : WP l Z a0 n0 R y code mx ret cells slots pc Ls (v :: .ref a :: st) ((a, .inr (C, f0 :: f1 :: f2 :: f3 :: (n, d, u) :: fpost)) :: post) Q := putfieldG [] [f0, f1, f2, f3] hw hL hI hty hn hf hd hp w
theorem newarray {aty : ArrayType} {n : Int32} {pc' : Nat} {ty : FieldType} (i cap : Nat) (vs : List Value) (hw : (Cond.arrayClass ty).before a0 Z = true) (hd : decode code pc = .ok (.newarray aty, 2)) (hn : n.toInt = (i : Int)) (hcap : i ≤ cap) (hbig : cap * 8 ≤ 536870912) (hc : cells + 1 ≤ R.cells) (hl : slots + cap ≤ R.slots) (hvs : List.replicate i (defaultValue ty) = vs) (hp : pc + 2 = pc') (hty : newarray.typeOf aty = ty) {cells' slots' : Nat} (hc' : cells + 1 = cells') (hs' : slots + cap = slots') (w : ∀ a : Addr, WP l Z a0 n0 R y code mx ret cells' slots' pc' Ls (.ref a :: st) ((a, .inl (ty, vs)) :: H) Q) : WP l Z a0 n0 R y code mx ret cells slots pc Ls (.int n :: st) H Q := by
  subst hp hvs hty hc' hs'
  intro p e s m args below meth c T locs X hx hZ hcode hm ho hnm hr hlk hF hR g1 g2
  have q3 : n.toNatClampNeg = i := idx_eq hn
  obtain ⟨T', h', cA, X', e', E, A, st⟩ := newP X hx hZ hw rfl (g := mkF m pc ⟨Ls⟩ (.int n :: st)) rfl (hb hcode hd) rfl (fun q => by rw [Int32.lt_iff_toInt_lt, hn] at q; simp at q; omega) (cap := cap) (by rw [q3]; exact hcap) hbig hc hl
  have hlt : i < 2 ^ 31 := by have := n.toInt_lt; rw [hn] at this; omega
  obtain ⟨v, H', L, s2, k1, kz, k2⟩ := w _ p e s m args below meth c T' locs X' hx hZ hcode hm ho hnm hr hlk hF (by rw [e']; exact hR.push E ⟨_, A, by simp [newA, q3], by simpa using hlt⟩) hc hl
  exact ⟨v, H', L, s2, st _ k1, Nat.le_trans E.1 (by rw [← e']; exact kz), k2⟩
theorem new_ {i k : Nat} {C : String} {pc' : Nat} (fs : List (String × String × Value)) (hw : (Cond.classLink y.cls i C).before a0 Z = true) (hI : (Cond.instantiable C k).before a0 Z = true) (hz : (Cond.initialized C).before a0 Z = true) (hN : (fs.map (·.1)).Nodup) (hfs : ∀ x ∈ fs, Laid Z a0 C C x.1 x.2.1 ∧ ∃ t, parseFieldDescriptor x.2.1 = some t ∧ defaultValue t = x.2.2) (hd : decode code pc = .ok (.new i, 3)) (hc : cells + 1 ≤ R.cells) (hl : slots + k ≤ R.slots) (hp : pc + 3 = pc') {cells' slots' : Nat} (hc' : cells + 1 = cells') (hs' : slots + k = slots') (w : ∀ a : Addr, WP l Z a0 n0 R y code mx ret cells' slots' pc' Ls (.ref a :: st) ((a, .inr (C, fs)) :: H) Q) : WP l Z a0 n0 R y code mx ret cells slots pc Ls st H Q := by
  subst hp hc' hs'
  intro p e s m args below meth c T locs X hx hZ hcode hm ho hnm hr hlk hF hR g1 g2
  obtain ⟨T', h', X', e', E, A, D, -, st⟩ := newO X hx hZ ho hw hI hz rfl (g := mkF m pc ⟨Ls⟩ st) rfl (hb hcode hd) hc hl
  obtain ⟨v, H', L, s2, k1, kz, k2⟩ := w _ p e s m args below meth c T' locs X' hx hZ hcode hm ho hnm hr hlk hF (by
    rw [e']
    refine hR.push E ⟨A, hN, fun x hx => ?_⟩
    obtain ⟨q1, t, q2, q3⟩ := hfs x hx
    exact ⟨q3 ▸ D q1 q2, q1, t, q2⟩) hc hl
  exact ⟨v, H', L, s2, st _ k1, Nat.le_trans E.1 (by rw [← e']; exact kz), k2⟩
theorem initObj {i : Nat} {a : Addr} {pc' : Nat} (W : Nat) (w1 : (Cond.methodLink y.cls i Lib.objectInit).before a0 Z = true) (w2 : (Cond.instanceMethod Lib.objectInit).before a0 Z = true) (w3 : (Cond.code Lib.objectInit ⟨#[0xb1]⟩ 1 none).before a0 Z = true) (hd : decode code pc = .ok (.invokespecial i, 3)) (hs : Ls.length = mx) (hf : 1 ≤ R.frames) (hW : (st.map fun v => v.category).sum = W) (hl : W + 12 ≤ R.locals) (hp : pc + 3 = pc') (w : WP l Z a0 n0 R y code mx ret cells slots pc' Ls st H Q) : WP l Z a0 n0 R y code mx ret cells slots pc Ls (.ref a :: st) H Q := by
  subst hp
  exact stepT (fun p e s m args below meth c T locs X hx hZ hc hm ho hR => initO X hx hZ ho w1 w2 w3 rfl (g := mkF m pc ⟨Ls⟩ (.ref a :: st)) rfl (by rw [hm]; simpa using hs) rfl (hb hc hd) hf (W := W) (by show 2 * 0 + _ ≤ _; omega) hl) w
theorem topI {z : Int32} (P : Int32 → Prop) (h : P z) (w : ∀ z' : Int32, P z' → WP l Z a0 n0 R y code mx ret cells slots pc Ls (.int z' :: st) H Q) : WP l Z a0 n0 R y code mx ret cells slots pc Ls (.int z :: st) H Q := w z h
theorem leaveW {v : Option Value} {st : List Value} (hv : ret = none → v = none) (q : Q v H)
    (h : ∀ (p : Program) (e : Env) (s : State) (m : MethodId) (args : Array Value) (below : List Frame) (meth : Method) (c : Code) (T : State) (locs : List Loc) (fs : List Frame), Stand p l e R s m args below meth c T locs cells slots → p.tables.exec = Jvm.exec → c.code = code → meth.sig.returnType = ret → (∀ (f : JFrame) (acts : List Action), f.method = m → f.locked = none → f.entered = [] → (doReturn e (T.setTop f) acts v).1 = T.setFrames fs) → Steps p.tables e below (T.setTop (mkF m pc ⟨Ls⟩ st)) (T.setFrames fs)) : WP l Z a0 n0 R y code mx ret cells slots pc Ls st H Q := by
  intro p e s m args below meth c T locs X hx hZ hc hm ho hn hr hl hF hR g1 g2
  obtain ⟨fs, hrr, hrun, hended, hW, hsame⟩ := X.leave (v := v) (fun k => hv (by rw [← hr]; exact k)) hl
  exact ⟨v, H, locs, _, h p e s m args below meth c T locs fs X hx hc hr hrr, Nat.le_refl _, hrun, hended, hF, hR, q, hW.since _, hsame.mono g1 g2⟩
theorem ireturn {z : Int32} (hret : ret = some .int) (hd : decode code pc = .ok (.ireturn, 1)) (q : Q (some (.int z)) H) : WP l Z a0 n0 R y code mx ret cells slots pc Ls (.int z :: st) H Q :=
  leaveW (fun k => by rw [hret] at k; cases k) q fun p e s m args below meth c T locs fs X hx hc hr hrr => retI X hx (hr.trans hret) (hb hc hd) hrr
theorem zreturn {z : Int32} (hret : ret = some .boolean) (hd : decode code pc = .ok (.ireturn, 1)) (q : Q (some (.int (z &&& 1))) H) : WP l Z a0 n0 R y code mx ret cells slots pc Ls (.int z :: st) H Q :=
  leaveW (fun k => by rw [hret] at k; cases k) q fun p e s m args below meth c T locs fs X hx hc hr hrr => retN X hx (t := .boolean) (hr.trans hret) (by simp) (hb hc hd) hrr
theorem lreturn {z : Int64} (hret : ret = some .long) (hd : decode code pc = .ok (.lreturn, 1)) (q : Q (some (.long z)) H) : WP l Z a0 n0 R y code mx ret cells slots pc Ls (.long z :: st) H Q :=
  leaveW (fun k => by rw [hret] at k; cases k) q fun p e s m args below meth c T locs fs X hx hc hr hrr => retOut X hx (hr.trans hret) rfl (Or.inr (Or.inl ⟨rfl, rfl, _, rfl⟩)) (hb hc hd) hrr
theorem return_ (hret : ret = none) (hd : decode code pc = .ok (.return_, 1)) (q : Q none H) : WP l Z a0 n0 R y code mx ret cells slots pc Ls [] H Q :=
  leaveW (fun _ => rfl) q fun p e s m args below meth c T locs fs X hx hc hr hrr => X.returnOut hx (hr.trans hret) (hb hc hd) hrr
/-- what a call by a contract leaves -/
def After (l : Launch) (Z : State) (a0 : Array Value) (n0 : Nat) (R : Room) (y : MethodName) (code : ByteArray) (mx : Nat) (ret : Option FieldType) (cells slots pc : Nat) (Ls : List Slot) (st : List Value) (Q : Option Value → MH → Prop) : Option Value → MH → Prop
  | some r, H' => WP l Z a0 n0 R y code mx ret cells slots pc Ls (r :: st) H' Q
  | none, H' => WP l Z a0 n0 R y code mx ret cells slots pc Ls st H' Q
theorem After.to {v : Option Value} {H' : MH} (h : After l Z a0 n0 R y code mx ret cells slots pc Ls st Q v H') : WP l Z a0 n0 R y code mx ret cells slots pc Ls (v.toList ++ st) H' Q := by
  cases v <;> exact h
theorem callIG {z : MethodName} {zc : ByteArray} {zm : Nat} {ps : List FieldType} {i : Nat} {rm : Room} {pc' : Nat} {a : Addr} (W : Nat) (argsL : List Value) {rest : List Value} (hzn : z.name = "<init>") (w1 : (Cond.methodLink y.cls i z).before a0 Z = true) (w2 : (Cond.instanceMethod z).before a0 Z = true) (w3 : (Cond.initialized z.cls).before a0 Z = true) (w4 : (Cond.code z zc zm none).before a0 Z = true) (hy : z.cls ≠ "java/lang/invoke/MethodHandle" ∧ z.cls ≠ "java/lang/invoke/VarHandle") (hds : parseMethodDescriptor z.desc = some ⟨ps, none⟩) (hlen : argsL.length = ps.length) (hd : decode code pc = .ok (.invokespecial i, 3)) (hs : Ls.length = mx) (hW : (rest.map fun v => v.category).sum = W) (hf : rm.frames + 1 ≤ R.frames) (hl : W + (zm + 11) + rm.locals ≤ R.locals) (hc : cells + rm.cells ≤ R.cells) (hsl : slots + rm.slots ≤ R.slots) (hp : pc + 3 = pc') {cells' slots' : Nat} (hc' : cells + rm.cells = cells') (hs' : slots + rm.slots = slots') (hst : st = argsL.reverse ++ .ref a :: rest)
    (k : Con l Z a0 n0 z zc zm none rm (.ref a :: argsL).toArray H (After l Z a0 n0 R y code mx ret cells' slots' pc' Ls rest Q)) : WP l Z a0 n0 R y code mx ret cells slots pc Ls st H Q := by
  subst hp hst hc' hs'
  intro p e s m args below meth c T locs X hx hZ hcode hm ho hnm hr hlk hF hR g1 g2
  obtain ⟨v, vm, ⟨T', L', k', n'⟩, -, X', hS', hgr, ⟨Lc, ⟨q1, H', q2, q3⟩, e1, e2, e3⟩, st'⟩ := X.specialBackS hx (y := z) hzn ho (mvT hZ w1) (mvT hZ w2) (mvT hZ w4) hy (backOfS (W := W) (h := T.heap) (Q := fun v h L => Fr n0 L ∧ ∃ H', Rel Z a0 n0 H' h ∧ After l Z a0 n0 R y code mx ret (cells + rm.cells) (slots + rm.slots) (pc + 3) Ls rest Q v H') (k [] T.heap hR) hZ w4 w3 hf hl) (g := mkF m pc ⟨Ls⟩ (argsL.reverse ++ .ref a :: rest)) rfl (by rw [hm]; simpa using hs) (Steps.refl _) (a := a) (argsL := argsL) (rest := rest) (lenOf hds hlen) rfl (by show 2 * 0 + _ ≤ _; omega) (hb hcode hd) (fun _ _ => ⟨rfl, rfl, hc, hsl⟩)
  dsimp only [Pt.U, Pt.locs, Pt.cells, Pt.slots] at X' e1 e2 e3 st' hS' hgr q2
  subst e1 e2 e3
  obtain ⟨v2, H2, L2, s2, k1, kz, c1, c2, c3, c4, c5, c6, c7⟩ := (After.to q3) p e (s.setVm T'.vm) m args below meth c T' _ X' hx (State.Warmed39.trans hZ hS'.1) hcode hm ((hS'.1.alike.findClass _ _).trans ho) hnm hr hlk (Fr.app hF q1) q2 hc hsl
  exact ⟨v2, H2, L2, s2, st'.trans k1, Nat.le_trans hgr kz, c1, c2, c3, c4, c5, hS'.trans c6 kz, State.sameButNew.setVm c7 s.vm⟩
theorem callVG {z : MethodName} {zc : ByteArray} {zm : Nat} {zr : Option FieldType} {ps : List FieldType} {i : Nat} {rm : Room} {pc' : Nat} {a : Addr} {fs : List (String × String × Value)} (kk W : Nat) (argsL : List Value) {rest : List Value} (w1 : (Cond.methodLink y.cls i z).before a0 Z = true) (wd : (Cond.declares z).before a0 Z = true) (ws : (Cond.selects z.cls z z).before a0 Z = true) (w2 : (Cond.instanceMethod z).before a0 Z = true) (w3 : (Cond.initialized z.cls).before a0 Z = true) (w4 : (Cond.code z zc zm zr).before a0 Z = true) (hy : z.cls ≠ "java/lang/invoke/MethodHandle" ∧ z.cls ≠ "java/lang/invoke/VarHandle") (hds : parseMethodDescriptor z.desc = some ⟨ps, zr⟩) (hlen : argsL.length = ps.length) (hd : decode code pc = .ok (.invokevirtual i, 3)) (hk : H[kk]? = some (a, .inr (z.cls, fs))) (hs : Ls.length = mx) (hW : (rest.map fun v => v.category).sum = W) (hf : rm.frames + 1 ≤ R.frames) (hl : W + (zm + 11) + rm.locals ≤ R.locals) (hc : cells + rm.cells ≤ R.cells) (hsl : slots + rm.slots ≤ R.slots) (hp : pc + 3 = pc') {cells' slots' : Nat} (hc' : cells + rm.cells = cells') (hs' : slots + rm.slots = slots') (hst : st = argsL.reverse ++ .ref a :: rest)
    (k : Con l Z a0 n0 z zc zm zr rm (.ref a :: argsL).toArray H (After l Z a0 n0 R y code mx ret cells' slots' pc' Ls rest Q)) : WP l Z a0 n0 R y code mx ret cells slots pc Ls st H Q := by
  subst hp hst hc' hs'
  intro p e s m args below meth c T locs X hx hZ hcode hm ho hnm hr hlk hF hR g1 g2
  obtain ⟨cq, kq, qa, qb, qc⟩ := isOf hZ (T := T) rfl (hR.at hk).2.1
  obtain ⟨v, vm, ⟨T', L', k', n'⟩, -, X', hS', hgr, ⟨Lc, ⟨q1, H', q2, q3⟩, e1, e2, e3⟩, st'⟩ := X.virtualBackS hx (y := z) (z := z) ho (mvT hZ w1) (mvT hZ wd) (notFace_of_selects (args := #[]) (mvT hZ ws)) (mvT hZ ws) (mvT hZ w2) hy (backOfS (W := W) (h := T.heap) (Q := fun v h L => Fr n0 L ∧ ∃ H', Rel Z a0 n0 H' h ∧ After l Z a0 n0 R y code mx ret (cells + rm.cells) (slots + rm.slots) (pc + 3) Ls rest Q v H') (k [] T.heap hR) hZ w4 w3 hf hl) qa qc (g := mkF m pc ⟨Ls⟩ (argsL.reverse ++ .ref a :: rest)) rfl (by rw [hm]; simpa using hs) (Steps.refl _) (argsL := argsL) (rest := rest) (lenOf hds hlen) rfl (by show 2 * 0 + _ ≤ _; omega) (hb hcode hd) (fun _ _ => ⟨rfl, rfl, hc, hsl⟩)
  dsimp only [Pt.U, Pt.locs, Pt.cells, Pt.slots] at X' e1 e2 e3 st' hS' hgr q2
  subst e1 e2 e3
  obtain ⟨v2, H2, L2, s2, k1, kz, c1, c2, c3, c4, c5, c6, c7⟩ := (After.to q3) p e (s.setVm T'.vm) m args below meth c T' _ X' hx (State.Warmed39.trans hZ hS'.1) hcode hm ((hS'.1.alike.findClass _ _).trans ho) hnm hr hlk (Fr.app hF q1) q2 hc hsl
  exact ⟨v2, H2, L2, s2, st'.trans k1, Nat.le_trans hgr kz, c1, c2, c3, c4, c5, hS'.trans c6 kz, State.sameButNew.setVm c7 s.vm⟩
theorem callPG {z : MethodName} {zc : ByteArray} {zm : Nat} {zr : Option FieldType} {ps : List FieldType} {i nn : Nat} {rm : Room} {pc' : Nat} {a : Addr} {fs : List (String × String × Value)} (kk W : Nat) (argsL : List Value) {rest : List Value} (w1 : (Cond.methodLink y.cls i z).before a0 Z = true) (wp : (Cond.privateMethod z).before a0 Z = true) (wi : (Cond.instantiable z.cls nn).before a0 Z = true) (w2 : (Cond.instanceMethod z).before a0 Z = true) (w3 : (Cond.initialized z.cls).before a0 Z = true) (w4 : (Cond.code z zc zm zr).before a0 Z = true) (hy : z.cls ≠ "java/lang/invoke/MethodHandle" ∧ z.cls ≠ "java/lang/invoke/VarHandle") (hds : parseMethodDescriptor z.desc = some ⟨ps, zr⟩) (hlen : argsL.length = ps.length) (hd : decode code pc = .ok (.invokevirtual i, 3)) (hk : H[kk]? = some (a, .inr (z.cls, fs))) (hs : Ls.length = mx) (hW : (rest.map fun v => v.category).sum = W) (hf : rm.frames + 1 ≤ R.frames) (hl : W + (zm + 11) + rm.locals ≤ R.locals) (hc : cells + rm.cells ≤ R.cells) (hsl : slots + rm.slots ≤ R.slots) (hp : pc + 3 = pc') {cells' slots' : Nat} (hc' : cells + rm.cells = cells') (hs' : slots + rm.slots = slots') (hst : st = argsL.reverse ++ .ref a :: rest)
    (k : Con l Z a0 n0 z zc zm zr rm (.ref a :: argsL).toArray H (After l Z a0 n0 R y code mx ret cells' slots' pc' Ls rest Q)) : WP l Z a0 n0 R y code mx ret cells slots pc Ls st H Q := by
  subst hp hst hc' hs'
  intro p e s m args below meth c T locs X hx hZ hcode hm ho hnm hr hlk hF hR g1 g2
  obtain ⟨cq, kq, hcq, hkq, -, hflags, -⟩ := Cond.instantiable_spec (mvT (args := args) hZ wi)
  have hitf : kq.isInterface = false := by
    cases hi : kq.isInterface
    · rfl
    · simp [hi] at hflags
  have hpa : s.PrivateAt z := Cond.privateMethod_at (mvP hZ wp (args := #[]))
  obtain ⟨cell, hcell, hobj⟩ := (hR.at hk).2.1.cell
  obtain ⟨v, vm, ⟨T', L', k', n'⟩, -, X', hS', hgr, ⟨Lc, ⟨q1, H', q2, q3⟩, e1, e2, e3⟩, st'⟩ := X.privateBackS hx (y := z) ho (mvT hZ w1) (mvT hZ w2) (selects_self_of_private hcq hkq hitf hpa (mvT hZ w2) hy) hpa (mvT hZ w4) hy (backOfS (W := W) (h := T.heap) (Q := fun v h L => Fr n0 L ∧ ∃ H', Rel Z a0 n0 H' h ∧ After l Z a0 n0 R y code mx ret (cells + rm.cells) (slots + rm.slots) (pc + 3) Ls rest Q v H') (k [] T.heap hR) hZ w4 w3 hf hl) (g := mkF m pc ⟨Ls⟩ (argsL.reverse ++ .ref a :: rest)) rfl (by rw [hm]; simpa using hs) (Steps.refl _) (a := a) hcell hobj (argsL := argsL) (rest := rest) (lenOf hds hlen) rfl (by show 2 * 0 + _ ≤ _; omega) (hb hcode hd) (fun _ _ => ⟨rfl, rfl, hc, hsl⟩)
  dsimp only [Pt.U, Pt.locs, Pt.cells, Pt.slots] at X' e1 e2 e3 st' hS' hgr q2
  subst e1 e2 e3
  obtain ⟨v2, H2, L2, s2, k1, kz, c1, c2, c3, c4, c5, c6, c7⟩ := (After.to q3) p e (s.setVm T'.vm) m args below meth c T' _ X' hx (State.Warmed39.trans hZ hS'.1) hcode hm ((hS'.1.alike.findClass _ _).trans ho) hnm hr hlk (Fr.app hF q1) q2 hc hsl
  exact ⟨v2, H2, L2, s2, st'.trans k1, Nat.le_trans hgr kz, c1, c2, c3, c4, c5, hS'.trans c6 kz, State.sameButNew.setVm c7 s.vm⟩
theorem afterS {r : Value} {H' : MH} (h : WP l Z a0 n0 R y code mx ret cells slots pc Ls (r :: st) H' Q) : After l Z a0 n0 R y code mx ret cells slots pc Ls st Q (some r) H' := h
theorem afterN {H' : MH} (h : WP l Z a0 n0 R y code mx ret cells slots pc Ls st H' Q) : After l Z a0 n0 R y code mx ret cells slots pc Ls st Q none H' := h
theorem callV_0 {z : MethodName} {zc : ByteArray} {zm : Nat} {zr : Option FieldType} {ps : List FieldType} {i : Nat} {rm : Room} {pc' : Nat} {a : Addr} {fs : List (String × String × Value)} (kk W : Nat) {rest : List Value} (w1 : (Cond.methodLink y.cls i z).before a0 Z = true) (wd : (Cond.declares z).before a0 Z = true) (ws : (Cond.selects z.cls z z).before a0 Z = true) (w2 : (Cond.instanceMethod z).before a0 Z = true) (w3 : (Cond.initialized z.cls).before a0 Z = true) (w4 : (Cond.code z zc zm zr).before a0 Z = true) (hy : z.cls ≠ "java/lang/invoke/MethodHandle" ∧ z.cls ≠ "java/lang/invoke/VarHandle") (hds : parseMethodDescriptor z.desc = some ⟨ps, zr⟩) (hlen : 0 = ps.length) (hd : decode code pc = .ok (.invokevirtual i, 3)) (hk : H[kk]? = some (a, .inr (z.cls, fs))) (hs : Ls.length = mx) (hW : (rest.map fun v => v.category).sum = W) (hf : rm.frames + 1 ≤ R.frames) (hl : W + (zm + 11) + rm.locals ≤ R.locals) (hc : cells + rm.cells ≤ R.cells) (hsl : slots + rm.slots ≤ R.slots) (hp : pc + 3 = pc') {cells' slots' : Nat} (hc' : cells + rm.cells = cells') (hs' : slots + rm.slots = slots') (k : Con l Z a0 n0 z zc zm zr rm #[.ref a] H (After l Z a0 n0 R y code mx ret cells' slots' pc' Ls rest Q)) : WP l Z a0 n0 R y code mx ret cells slots pc Ls (.ref a :: rest) H Q := callVG kk W [] w1 wd ws w2 w3 w4 hy hds hlen hd hk hs hW hf hl hc hsl hp hc' hs' rfl k
theorem callP_0 {z : MethodName} {zc : ByteArray} {zm : Nat} {zr : Option FieldType} {ps : List FieldType} {i nn : Nat} {rm : Room} {pc' : Nat} {a : Addr} {fs : List (String × String × Value)} (kk W : Nat) {rest : List Value} (w1 : (Cond.methodLink y.cls i z).before a0 Z = true) (wp : (Cond.privateMethod z).before a0 Z = true) (wi : (Cond.instantiable z.cls nn).before a0 Z = true) (w2 : (Cond.instanceMethod z).before a0 Z = true) (w3 : (Cond.initialized z.cls).before a0 Z = true) (w4 : (Cond.code z zc zm zr).before a0 Z = true) (hy : z.cls ≠ "java/lang/invoke/MethodHandle" ∧ z.cls ≠ "java/lang/invoke/VarHandle") (hds : parseMethodDescriptor z.desc = some ⟨ps, zr⟩) (hlen : 0 = ps.length) (hd : decode code pc = .ok (.invokevirtual i, 3)) (hk : H[kk]? = some (a, .inr (z.cls, fs))) (hs : Ls.length = mx) (hW : (rest.map fun v => v.category).sum = W) (hf : rm.frames + 1 ≤ R.frames) (hl : W + (zm + 11) + rm.locals ≤ R.locals) (hc : cells + rm.cells ≤ R.cells) (hsl : slots + rm.slots ≤ R.slots) (hp : pc + 3 = pc') {cells' slots' : Nat} (hc' : cells + rm.cells = cells') (hs' : slots + rm.slots = slots') (k : Con l Z a0 n0 z zc zm zr rm #[.ref a] H (After l Z a0 n0 R y code mx ret cells' slots' pc' Ls rest Q)) : WP l Z a0 n0 R y code mx ret cells slots pc Ls (.ref a :: rest) H Q := callPG kk W [] w1 wp wi w2 w3 w4 hy hds hlen hd hk hs hW hf hl hc hsl hp hc' hs' rfl k
theorem callP_2 {z : MethodName} {zc : ByteArray} {zm : Nat} {zr : Option FieldType} {ps : List FieldType} {i nn : Nat} {rm : Room} {pc' : Nat} {a : Addr} {fs : List (String × String × Value)} (kk W : Nat) {v0 v1 : Value} {rest : List Value} (w1 : (Cond.methodLink y.cls i z).before a0 Z = true) (wp : (Cond.privateMethod z).before a0 Z = true) (wi : (Cond.instantiable z.cls nn).before a0 Z = true) (w2 : (Cond.instanceMethod z).before a0 Z = true) (w3 : (Cond.initialized z.cls).before a0 Z = true) (w4 : (Cond.code z zc zm zr).before a0 Z = true) (hy : z.cls ≠ "java/lang/invoke/MethodHandle" ∧ z.cls ≠ "java/lang/invoke/VarHandle") (hds : parseMethodDescriptor z.desc = some ⟨ps, zr⟩) (hlen : 2 = ps.length) (hd : decode code pc = .ok (.invokevirtual i, 3)) (hk : H[kk]? = some (a, .inr (z.cls, fs))) (hs : Ls.length = mx) (hW : (rest.map fun v => v.category).sum = W) (hf : rm.frames + 1 ≤ R.frames) (hl : W + (zm + 11) + rm.locals ≤ R.locals) (hc : cells + rm.cells ≤ R.cells) (hsl : slots + rm.slots ≤ R.slots) (hp : pc + 3 = pc') {cells' slots' : Nat} (hc' : cells + rm.cells = cells') (hs' : slots + rm.slots = slots') (k : Con l Z a0 n0 z zc zm zr rm #[.ref a, v0, v1] H (After l Z a0 n0 R y code mx ret cells' slots' pc' Ls rest Q)) : WP l Z a0 n0 R y code mx ret cells slots pc Ls (v1 :: v0 :: .ref a :: rest) H Q := callPG kk W [v0, v1] w1 wp wi w2 w3 w4 hy hds hlen hd hk hs hW hf hl hc hsl hp hc' hs' rfl k
theorem callI_3 {z : MethodName} {zc : ByteArray} {zm : Nat} {ps : List FieldType} {i : Nat} {rm : Room} {pc' : Nat} {a : Addr} (W : Nat) {v0 v1 v2 : Value} {rest : List Value} (hzn : z.name = "<init>") (w1 : (Cond.methodLink y.cls i z).before a0 Z = true) (w2 : (Cond.instanceMethod z).before a0 Z = true) (w3 : (Cond.initialized z.cls).before a0 Z = true) (w4 : (Cond.code z zc zm none).before a0 Z = true) (hy : z.cls ≠ "java/lang/invoke/MethodHandle" ∧ z.cls ≠ "java/lang/invoke/VarHandle") (hds : parseMethodDescriptor z.desc = some ⟨ps, none⟩) (hlen : 3 = ps.length) (hd : decode code pc = .ok (.invokespecial i, 3)) (hs : Ls.length = mx) (hW : (rest.map fun v => v.category).sum = W) (hf : rm.frames + 1 ≤ R.frames) (hl : W + (zm + 11) + rm.locals ≤ R.locals) (hc : cells + rm.cells ≤ R.cells) (hsl : slots + rm.slots ≤ R.slots) (hp : pc + 3 = pc') {cells' slots' : Nat} (hc' : cells + rm.cells = cells') (hs' : slots + rm.slots = slots') (k : Con l Z a0 n0 z zc zm none rm #[.ref a, v0, v1, v2] H (After l Z a0 n0 R y code mx ret cells' slots' pc' Ls rest Q)) : WP l Z a0 n0 R y code mx ret cells slots pc Ls (v2 :: v1 :: v0 :: .ref a :: rest) H Q := callIG W [v0, v1, v2] hzn w1 w2 w3 w4 hy hds hlen hd hs hW hf hl hc hsl hp hc' hs' rfl k
/-- ldc of a String constant -/
theorem ldcStr {i : Nat} {text : String} {pc' : Nat} (n : Nat) (hw : (Cond.stringLink y.cls i text).before a0 Z = true) (wS : ∀ a ∈ Bundle.stringAtoms, a.before a0 Z = true) (hd : decode code pc = .ok (.ldc i, 2)) (hn : 4 * text.toList.length ≤ n) (hbig : n ≤ 536870912) (hc : cells + 2 ≤ R.cells) (hl : slots + (n + 4) ≤ R.slots) (hp : pc + 2 = pc') {cells' slots' : Nat} (hc' : cells + 2 = cells') (hs' : slots + (n + 4) = slots') (w : ∀ a : Addr, WP l Z a0 n0 R y code mx ret cells' slots' pc' Ls (.ref a :: st) H Q) : WP l Z a0 n0 R y code mx ret cells slots pc Ls st H Q := by
  subst hp hc' hs'
  intro p e s m args below meth c T locs X hx hZ hcode hm ho hnm hr hlk hF hR g1 g2
  obtain ⟨a, T', h', k1, X', e', E, hS', hk1, hZ', ho', st'⟩ := ldcS (s := s) (vm0 := s.vm) X hx hZ ho hw wS rfl ((State.WarmedH.refl s).since 0) (Nat.zero_le _) (g := mkF m pc ⟨Ls⟩ st) rfl (hb hcode hd) hn hbig hc hl
  subst e'
  obtain ⟨v2, H2, L2, s2, k1, kz, c1, c2, c3, c4, c5, c6, c7⟩ := w a p e (s.setVm T'.vm) m args below meth c T' _ X' hx hZ' hcode hm ho' hnm hr hlk hF (hR.ext E) hc hl
  exact ⟨v2, H2, L2, s2, st' _ k1, Nat.le_trans E.1 kz, c1, c2, c3, c4, c5, hS'.trans c6 (Nat.le_trans hk1 kz), State.sameButNew.setVm c7 s.vm⟩
end Jvm.Wp
namespace Jvm.Pilot.@@N@@
open Jvm Jvm.ClassFile Sem Op Lib Jvm.Free Jvm.Stand Jvm.LawKit Jvm.RoadKit Bundle Jvm.Pilot.@@N@@.Jvm.D
set_option maxHeartbeats 8000000
abbrev Hw (Z : State) (a0 : Array Value) : Prop := ∀ d ∈ tables_1, d.before a0 Z = true
theorem w0 {Z : State} {a0 : Array Value} (hw : Hw Z a0) : (Jvm.Cond.arrayClass Jvm.ClassFile.FieldType.byte).before a0 Z = true := hw _ (List.mem_of_getElem? (i := 0) rfl)
theorem w1 {Z : State} {a0 : Array Value} (hw : Hw Z a0) : (Jvm.Cond.classLink "com/example/slim_broker/slimbroker/codec/WireReaderSkipShortStringPinLaw" (7 : Nat) "com/example/slim_broker/slimbroker/codec/WireReader").before a0 Z = true := hw _ (List.mem_of_getElem? (i := 1) rfl)
theorem w2 {Z : State} {a0 : Array Value} (hw : Hw Z a0) : (Jvm.Cond.instantiable "com/example/slim_broker/slimbroker/codec/WireReader" (5 : Nat)).before a0 Z = true := hw _ (List.mem_of_getElem? (i := 2) rfl)
theorem w3 {Z : State} {a0 : Array Value} (hw : Hw Z a0) : (Jvm.Cond.initialized "com/example/slim_broker/slimbroker/codec/WireReader").before a0 Z = true := hw _ (List.mem_of_getElem? (i := 3) rfl)
theorem w4 {Z : State} {a0 : Array Value} (hw : Hw Z a0) : (Jvm.Cond.methodLink "com/example/slim_broker/slimbroker/codec/WireReaderSkipShortStringPinLaw" (9 : Nat) ({ cls := "com/example/slim_broker/slimbroker/codec/WireReader", name := "<init>", desc := "([BII)V" } : Jvm.MethodName)).before a0 Z = true := hw _ (List.mem_of_getElem? (i := 4) rfl)
theorem w5 {Z : State} {a0 : Array Value} (hw : Hw Z a0) : (Jvm.Cond.instanceMethod ({ cls := "com/example/slim_broker/slimbroker/codec/WireReader", name := "<init>", desc := "([BII)V" } : Jvm.MethodName)).before a0 Z = true := hw _ (List.mem_of_getElem? (i := 5) rfl)
theorem w6 {Z : State} {a0 : Array Value} (hw : Hw Z a0) : (Jvm.Cond.code ({ cls := "com/example/slim_broker/slimbroker/codec/WireReader", name := "<init>", desc := "([BII)V" } : Jvm.MethodName) prog_4_method_2_code (4 : Nat) (Option.none : Option Jvm.ClassFile.FieldType)).before a0 Z = true := hw _ (List.mem_of_getElem? (i := 6) rfl)
theorem w7 {Z : State} {a0 : Array Value} (hw : Hw Z a0) : (Jvm.Cond.methodLink "com/example/slim_broker/slimbroker/codec/WireReader" (7 : Nat) ({ cls := "java/lang/Object", name := "<init>", desc := "()V" } : Jvm.MethodName)).before a0 Z = true := hw _ (List.mem_of_getElem? (i := 7) rfl)
theorem w8 {Z : State} {a0 : Array Value} (hw : Hw Z a0) : (Jvm.Cond.instanceMethod ({ cls := "java/lang/Object", name := "<init>", desc := "()V" } : Jvm.MethodName)).before a0 Z = true := hw _ (List.mem_of_getElem? (i := 8) rfl)
theorem w9 {Z : State} {a0 : Array Value} (hw : Hw Z a0) : (Jvm.Cond.code ({ cls := "java/lang/Object", name := "<init>", desc := "()V" } : Jvm.MethodName) object_method_1_code (1 : Nat) (Option.none : Option Jvm.ClassFile.FieldType)).before a0 Z = true := hw _ (List.mem_of_getElem? (i := 9) rfl)
theorem w10 {Z : State} {a0 : Array Value} (hw : Hw Z a0) : (Jvm.Cond.fieldLink "com/example/slim_broker/slimbroker/codec/WireReader" (14 : Nat) "com/example/slim_broker/slimbroker/codec/WireReader" "nextBit" "I").before a0 Z = true := hw _ (List.mem_of_getElem? (i := 10) rfl)
theorem w11 {Z : State} {a0 : Array Value} (hw : Hw Z a0) : (Jvm.Cond.lays "com/example/slim_broker/slimbroker/codec/WireReader" "com/example/slim_broker/slimbroker/codec/WireReader" "nextBit" "I").before a0 Z = true := hw _ (List.mem_of_getElem? (i := 11) rfl)
theorem w12 {Z : State} {a0 : Array Value} (hw : Hw Z a0) : (Jvm.Cond.fieldLink "com/example/slim_broker/slimbroker/codec/WireReader" (18 : Nat) "com/example/slim_broker/slimbroker/codec/WireReader" "data" "[B").before a0 Z = true := hw _ (List.mem_of_getElem? (i := 12) rfl)
theorem w13 {Z : State} {a0 : Array Value} (hw : Hw Z a0) : (Jvm.Cond.laysFinal "com/example/slim_broker/slimbroker/codec/WireReader" "com/example/slim_broker/slimbroker/codec/WireReader" "data" "[B").before a0 Z = true := hw _ (List.mem_of_getElem? (i := 13) rfl)
theorem w14 {Z : State} {a0 : Array Value} (hw : Hw Z a0) : (Jvm.Cond.fieldLink "com/example/slim_broker/slimbroker/codec/WireReader" (22 : Nat) "com/example/slim_broker/slimbroker/codec/WireReader" "position" "I").before a0 Z = true := hw _ (List.mem_of_getElem? (i := 14) rfl)
theorem w15 {Z : State} {a0 : Array Value} (hw : Hw Z a0) : (Jvm.Cond.lays "com/example/slim_broker/slimbroker/codec/WireReader" "com/example/slim_broker/slimbroker/codec/WireReader" "position" "I").before a0 Z = true := hw _ (List.mem_of_getElem? (i := 15) rfl)
theorem w16 {Z : State} {a0 : Array Value} (hw : Hw Z a0) : (Jvm.Cond.fieldLink "com/example/slim_broker/slimbroker/codec/WireReader" (25 : Nat) "com/example/slim_broker/slimbroker/codec/WireReader" "end" "I").before a0 Z = true := hw _ (List.mem_of_getElem? (i := 16) rfl)
theorem w17 {Z : State} {a0 : Array Value} (hw : Hw Z a0) : (Jvm.Cond.laysFinal "com/example/slim_broker/slimbroker/codec/WireReader" "com/example/slim_broker/slimbroker/codec/WireReader" "end" "I").before a0 Z = true := hw _ (List.mem_of_getElem? (i := 17) rfl)
theorem w18 {Z : State} {a0 : Array Value} (hw : Hw Z a0) : (Jvm.Cond.methodLink "com/example/slim_broker/slimbroker/codec/WireReaderSkipShortStringPinLaw" (12 : Nat) ({ cls := "com/example/slim_broker/slimbroker/codec/WireReader", name := "readBit", desc := "()Z" } : Jvm.MethodName)).before a0 Z = true := hw _ (List.mem_of_getElem? (i := 18) rfl)
theorem w19 {Z : State} {a0 : Array Value} (hw : Hw Z a0) : (Jvm.Cond.declares ({ cls := "com/example/slim_broker/slimbroker/codec/WireReader", name := "readBit", desc := "()Z" } : Jvm.MethodName)).before a0 Z = true := hw _ (List.mem_of_getElem? (i := 19) rfl)
theorem w20 {Z : State} {a0 : Array Value} (hw : Hw Z a0) : (Jvm.Cond.instanceMethod ({ cls := "com/example/slim_broker/slimbroker/codec/WireReader", name := "readBit", desc := "()Z" } : Jvm.MethodName)).before a0 Z = true := hw _ (List.mem_of_getElem? (i := 20) rfl)
theorem w21 {Z : State} {a0 : Array Value} (hw : Hw Z a0) : (Jvm.Cond.selects "com/example/slim_broker/slimbroker/codec/WireReader" ({ cls := "com/example/slim_broker/slimbroker/codec/WireReader", name := "readBit", desc := "()Z" } : Jvm.MethodName) ({ cls := "com/example/slim_broker/slimbroker/codec/WireReader", name := "readBit", desc := "()Z" } : Jvm.MethodName)).before a0 Z = true := hw _ (List.mem_of_getElem? (i := 21) rfl)
theorem w22 {Z : State} {a0 : Array Value} (hw : Hw Z a0) : (Jvm.Cond.code ({ cls := "com/example/slim_broker/slimbroker/codec/WireReader", name := "readBit", desc := "()Z" } : Jvm.MethodName) prog_4_method_8_code (1 : Nat) (Option.some Jvm.ClassFile.FieldType.boolean)).before a0 Z = true := hw _ (List.mem_of_getElem? (i := 22) rfl)
theorem w23 {Z : State} {a0 : Array Value} (hw : Hw Z a0) : (Jvm.Cond.methodLink "com/example/slim_broker/slimbroker/codec/WireReader" (40 : Nat) ({ cls := "com/example/slim_broker/slimbroker/codec/WireReader", name := "readOctet", desc := "()I" } : Jvm.MethodName)).before a0 Z = true := hw _ (List.mem_of_getElem? (i := 23) rfl)
theorem w24 {Z : State} {a0 : Array Value} (hw : Hw Z a0) : (Jvm.Cond.declares ({ cls := "com/example/slim_broker/slimbroker/codec/WireReader", name := "readOctet", desc := "()I" } : Jvm.MethodName)).before a0 Z = true := hw _ (List.mem_of_getElem? (i := 24) rfl)
theorem w25 {Z : State} {a0 : Array Value} (hw : Hw Z a0) : (Jvm.Cond.instanceMethod ({ cls := "com/example/slim_broker/slimbroker/codec/WireReader", name := "readOctet", desc := "()I" } : Jvm.MethodName)).before a0 Z = true := hw _ (List.mem_of_getElem? (i := 25) rfl)
theorem w26 {Z : State} {a0 : Array Value} (hw : Hw Z a0) : (Jvm.Cond.selects "com/example/slim_broker/slimbroker/codec/WireReader" ({ cls := "com/example/slim_broker/slimbroker/codec/WireReader", name := "readOctet", desc := "()I" } : Jvm.MethodName) ({ cls := "com/example/slim_broker/slimbroker/codec/WireReader", name := "readOctet", desc := "()I" } : Jvm.MethodName)).before a0 Z = true := hw _ (List.mem_of_getElem? (i := 26) rfl)
theorem w27 {Z : State} {a0 : Array Value} (hw : Hw Z a0) : (Jvm.Cond.code ({ cls := "com/example/slim_broker/slimbroker/codec/WireReader", name := "readOctet", desc := "()I" } : Jvm.MethodName) prog_4_method_4_code (1 : Nat) (Option.some Jvm.ClassFile.FieldType.int)).before a0 Z = true := hw _ (List.mem_of_getElem? (i := 27) rfl)
theorem w28 {Z : State} {a0 : Array Value} (hw : Hw Z a0) : (Jvm.Cond.stringLink "com/example/slim_broker/slimbroker/codec/WireReader" (28 : Nat) "octet").before a0 Z = true := hw _ (List.mem_of_getElem? (i := 28) rfl)
theorem w35 {Z : State} {a0 : Array Value} (hw : Hw Z a0) : (Jvm.Cond.methodLink "com/example/slim_broker/slimbroker/codec/WireReader" (30 : Nat) ({ cls := "com/example/slim_broker/slimbroker/codec/WireReader", name := "readUnsigned", desc := "(ILjava/lang/String;)J" } : Jvm.MethodName)).before a0 Z = true := hw _ (List.mem_of_getElem? (i := 35) rfl)
theorem w36 {Z : State} {a0 : Array Value} (hw : Hw Z a0) : (Jvm.Cond.instanceMethod ({ cls := "com/example/slim_broker/slimbroker/codec/WireReader", name := "readUnsigned", desc := "(ILjava/lang/String;)J" } : Jvm.MethodName)).before a0 Z = true := hw _ (List.mem_of_getElem? (i := 36) rfl)
theorem w37 {Z : State} {a0 : Array Value} (hw : Hw Z a0) : (Jvm.Cond.privateMethod ({ cls := "com/example/slim_broker/slimbroker/codec/WireReader", name := "readUnsigned", desc := "(ILjava/lang/String;)J" } : Jvm.MethodName)).before a0 Z = true := hw _ (List.mem_of_getElem? (i := 37) rfl)
theorem w38 {Z : State} {a0 : Array Value} (hw : Hw Z a0) : (Jvm.Cond.code ({ cls := "com/example/slim_broker/slimbroker/codec/WireReader", name := "readUnsigned", desc := "(ILjava/lang/String;)J" } : Jvm.MethodName) prog_4_method_18_code (6 : Nat) (Option.some Jvm.ClassFile.FieldType.long)).before a0 Z = true := hw _ (List.mem_of_getElem? (i := 38) rfl)
theorem w39 {Z : State} {a0 : Array Value} (hw : Hw Z a0) : (Jvm.Cond.methodLink "com/example/slim_broker/slimbroker/codec/WireReader" (245 : Nat) ({ cls := "com/example/slim_broker/slimbroker/codec/WireReader", name := "require", desc := "(JLjava/lang/String;)V" } : Jvm.MethodName)).before a0 Z = true := hw _ (List.mem_of_getElem? (i := 39) rfl)
theorem w40 {Z : State} {a0 : Array Value} (hw : Hw Z a0) : (Jvm.Cond.instanceMethod ({ cls := "com/example/slim_broker/slimbroker/codec/WireReader", name := "require", desc := "(JLjava/lang/String;)V" } : Jvm.MethodName)).before a0 Z = true := hw _ (List.mem_of_getElem? (i := 40) rfl)
theorem w41 {Z : State} {a0 : Array Value} (hw : Hw Z a0) : (Jvm.Cond.privateMethod ({ cls := "com/example/slim_broker/slimbroker/codec/WireReader", name := "require", desc := "(JLjava/lang/String;)V" } : Jvm.MethodName)).before a0 Z = true := hw _ (List.mem_of_getElem? (i := 41) rfl)
theorem w42 {Z : State} {a0 : Array Value} (hw : Hw Z a0) : (Jvm.Cond.code ({ cls := "com/example/slim_broker/slimbroker/codec/WireReader", name := "require", desc := "(JLjava/lang/String;)V" } : Jvm.MethodName) prog_4_method_21_code (4 : Nat) (Option.none : Option Jvm.ClassFile.FieldType)).before a0 Z = true := hw _ (List.mem_of_getElem? (i := 42) rfl)
theorem w43 {Z : State} {a0 : Array Value} (hw : Hw Z a0) : (Jvm.Cond.fieldLink "com/example/slim_broker/slimbroker/codec/WireReader" (44 : Nat) "com/example/slim_broker/slimbroker/codec/WireReader" "bitOctet" "I").before a0 Z = true := hw _ (List.mem_of_getElem? (i := 43) rfl)
theorem w44 {Z : State} {a0 : Array Value} (hw : Hw Z a0) : (Jvm.Cond.lays "com/example/slim_broker/slimbroker/codec/WireReader" "com/example/slim_broker/slimbroker/codec/WireReader" "bitOctet" "I").before a0 Z = true := hw _ (List.mem_of_getElem? (i := 44) rfl)
theorem w45 {Z : State} {a0 : Array Value} (hw : Hw Z a0) : (Jvm.Cond.methodLink "com/example/slim_broker/slimbroker/codec/WireReaderSkipShortStringPinLaw" (16 : Nat) ({ cls := "com/example/slim_broker/slimbroker/codec/WireReader", name := "skipShortString", desc := "()V" } : Jvm.MethodName)).before a0 Z = true := hw _ (List.mem_of_getElem? (i := 45) rfl)
theorem w46 {Z : State} {a0 : Array Value} (hw : Hw Z a0) : (Jvm.Cond.declares ({ cls := "com/example/slim_broker/slimbroker/codec/WireReader", name := "skipShortString", desc := "()V" } : Jvm.MethodName)).before a0 Z = true := hw _ (List.mem_of_getElem? (i := 46) rfl)
theorem w47 {Z : State} {a0 : Array Value} (hw : Hw Z a0) : (Jvm.Cond.instanceMethod ({ cls := "com/example/slim_broker/slimbroker/codec/WireReader", name := "skipShortString", desc := "()V" } : Jvm.MethodName)).before a0 Z = true := hw _ (List.mem_of_getElem? (i := 47) rfl)
theorem w48 {Z : State} {a0 : Array Value} (hw : Hw Z a0) : (Jvm.Cond.selects "com/example/slim_broker/slimbroker/codec/WireReader" ({ cls := "com/example/slim_broker/slimbroker/codec/WireReader", name := "skipShortString", desc := "()V" } : Jvm.MethodName) ({ cls := "com/example/slim_broker/slimbroker/codec/WireReader", name := "skipShortString", desc := "()V" } : Jvm.MethodName)).before a0 Z = true := hw _ (List.mem_of_getElem? (i := 48) rfl)
theorem w49 {Z : State} {a0 : Array Value} (hw : Hw Z a0) : (Jvm.Cond.code ({ cls := "com/example/slim_broker/slimbroker/codec/WireReader", name := "skipShortString", desc := "()V" } : Jvm.MethodName) prog_4_method_10_code (2 : Nat) (Option.none : Option Jvm.ClassFile.FieldType)).before a0 Z = true := hw _ (List.mem_of_getElem? (i := 49) rfl)
theorem w50 {Z : State} {a0 : Array Value} (hw : Hw Z a0) : (Jvm.Cond.methodLink "com/example/slim_broker/slimbroker/codec/WireReader" (47 : Nat) ({ cls := "com/example/slim_broker/slimbroker/codec/WireReader", name := "readShortStringLength", desc := "()I" } : Jvm.MethodName)).before a0 Z = true := hw _ (List.mem_of_getElem? (i := 50) rfl)
theorem w51 {Z : State} {a0 : Array Value} (hw : Hw Z a0) : (Jvm.Cond.instanceMethod ({ cls := "com/example/slim_broker/slimbroker/codec/WireReader", name := "readShortStringLength", desc := "()I" } : Jvm.MethodName)).before a0 Z = true := hw _ (List.mem_of_getElem? (i := 51) rfl)
theorem w52 {Z : State} {a0 : Array Value} (hw : Hw Z a0) : (Jvm.Cond.privateMethod ({ cls := "com/example/slim_broker/slimbroker/codec/WireReader", name := "readShortStringLength", desc := "()I" } : Jvm.MethodName)).before a0 Z = true := hw _ (List.mem_of_getElem? (i := 52) rfl)
theorem w53 {Z : State} {a0 : Array Value} (hw : Hw Z a0) : (Jvm.Cond.code ({ cls := "com/example/slim_broker/slimbroker/codec/WireReader", name := "readShortStringLength", desc := "()I" } : Jvm.MethodName) prog_4_method_19_code (2 : Nat) (Option.some Jvm.ClassFile.FieldType.int)).before a0 Z = true := hw _ (List.mem_of_getElem? (i := 53) rfl)
theorem w54 {Z : State} {a0 : Array Value} (hw : Hw Z a0) : (Jvm.Cond.stringLink "com/example/slim_broker/slimbroker/codec/WireReader" (249 : Nat) "short string").before a0 Z = true := hw _ (List.mem_of_getElem? (i := 54) rfl)
theorem w55 {Z : State} {a0 : Array Value} (hw : Hw Z a0) : (Jvm.Cond.methodLink "com/example/slim_broker/slimbroker/codec/WireReaderSkipShortStringPinLaw" (19 : Nat) ({ cls := "com/example/slim_broker/slimbroker/codec/WireReader", name := "hasRemaining", desc := "()Z" } : Jvm.MethodName)).before a0 Z = true := hw _ (List.mem_of_getElem? (i := 55) rfl)
theorem w56 {Z : State} {a0 : Array Value} (hw : Hw Z a0) : (Jvm.Cond.declares ({ cls := "com/example/slim_broker/slimbroker/codec/WireReader", name := "hasRemaining", desc := "()Z" } : Jvm.MethodName)).before a0 Z = true := hw _ (List.mem_of_getElem? (i := 56) rfl)
theorem w57 {Z : State} {a0 : Array Value} (hw : Hw Z a0) : (Jvm.Cond.instanceMethod ({ cls := "com/example/slim_broker/slimbroker/codec/WireReader", name := "hasRemaining", desc := "()Z" } : Jvm.MethodName)).before a0 Z = true := hw _ (List.mem_of_getElem? (i := 57) rfl)
theorem w58 {Z : State} {a0 : Array Value} (hw : Hw Z a0) : (Jvm.Cond.selects "com/example/slim_broker/slimbroker/codec/WireReader" ({ cls := "com/example/slim_broker/slimbroker/codec/WireReader", name := "hasRemaining", desc := "()Z" } : Jvm.MethodName) ({ cls := "com/example/slim_broker/slimbroker/codec/WireReader", name := "hasRemaining", desc := "()Z" } : Jvm.MethodName)).before a0 Z = true := hw _ (List.mem_of_getElem? (i := 58) rfl)
theorem w59 {Z : State} {a0 : Array Value} (hw : Hw Z a0) : (Jvm.Cond.code ({ cls := "com/example/slim_broker/slimbroker/codec/WireReader", name := "hasRemaining", desc := "()Z" } : Jvm.MethodName) prog_4_method_3_code (1 : Nat) (Option.some Jvm.ClassFile.FieldType.boolean)).before a0 Z = true := hw _ (List.mem_of_getElem? (i := 59) rfl)
theorem w60 {Z : State} {a0 : Array Value} (hw : Hw Z a0) : (Jvm.Cond.methodLink "com/example/slim_broker/slimbroker/codec/WireReaderSkipShortStringPinLaw" (22 : Nat) ({ cls := "com/example/slim_broker/slimbroker/codec/WireReader", name := "readOctet", desc := "()I" } : Jvm.MethodName)).before a0 Z = true := hw _ (List.mem_of_getElem? (i := 60) rfl)
theorem d1_0 : decode prog_4_method_2_code 0 = .ok (.aload_n 0, 1) := by decide +kernel
theorem d1_1 : decode prog_4_method_2_code 1 = .ok (.invokespecial 7, 3) := by decide +kernel
theorem d1_4 : decode prog_4_method_2_code 4 = .ok (.aload_n 0, 1) := by decide +kernel
theorem d1_5 : decode prog_4_method_2_code 5 = .ok (.bipush 8, 2) := by decide +kernel
theorem d1_7 : decode prog_4_method_2_code 7 = .ok (.putfield 14, 3) := by decide +kernel
theorem d1_10 : decode prog_4_method_2_code 10 = .ok (.aload_n 0, 1) := by decide +kernel
theorem d1_11 : decode prog_4_method_2_code 11 = .ok (.aload_n 1, 1) := by decide +kernel
theorem d1_12 : decode prog_4_method_2_code 12 = .ok (.putfield 18, 3) := by decide +kernel
theorem d1_15 : decode prog_4_method_2_code 15 = .ok (.aload_n 0, 1) := by decide +kernel
theorem d1_16 : decode prog_4_method_2_code 16 = .ok (.iload_n 2, 1) := by decide +kernel
theorem d1_17 : decode prog_4_method_2_code 17 = .ok (.putfield 22, 3) := by decide +kernel
theorem d1_20 : decode prog_4_method_2_code 20 = .ok (.aload_n 0, 1) := by decide +kernel
theorem d1_21 : decode prog_4_method_2_code 21 = .ok (.iload_n 2, 1) := by decide +kernel
theorem d1_22 : decode prog_4_method_2_code 22 = .ok (.iload_n 3, 1) := by decide +kernel
theorem d1_23 : decode prog_4_method_2_code 23 = .ok (.iadd, 1) := by decide +kernel
theorem d1_24 : decode prog_4_method_2_code 24 = .ok (.putfield 25, 3) := by decide +kernel
theorem d1_27 : decode prog_4_method_2_code 27 = .ok (.return_, 1) := by decide +kernel
theorem d2_0 : decode prog_4_method_8_code 0 = .ok (.aload_n 0, 1) := by decide +kernel
theorem d2_1 : decode prog_4_method_8_code 1 = .ok (.getfield 14, 3) := by decide +kernel
theorem d2_4 : decode prog_4_method_8_code 4 = .ok (.bipush 8, 2) := by decide +kernel
theorem d2_6 : decode prog_4_method_8_code 6 = .ok (.if_icmp .ne 16, 3) := by decide +kernel
theorem d2_9 : decode prog_4_method_8_code 9 = .ok (.aload_n 0, 1) := by decide +kernel
theorem d2_10 : decode prog_4_method_8_code 10 = .ok (.aload_n 0, 1) := by decide +kernel
theorem d2_11 : decode prog_4_method_8_code 11 = .ok (.invokevirtual 40, 3) := by decide +kernel
theorem d2_14 : decode prog_4_method_8_code 14 = .ok (.putfield 44, 3) := by decide +kernel
theorem d2_17 : decode prog_4_method_8_code 17 = .ok (.aload_n 0, 1) := by decide +kernel
theorem d2_18 : decode prog_4_method_8_code 18 = .ok (.iconst 0, 1) := by decide +kernel
theorem d2_19 : decode prog_4_method_8_code 19 = .ok (.putfield 14, 3) := by decide +kernel
theorem d2_22 : decode prog_4_method_8_code 22 = .ok (.aload_n 0, 1) := by decide +kernel
theorem d2_23 : decode prog_4_method_8_code 23 = .ok (.getfield 44, 3) := by decide +kernel
theorem d2_26 : decode prog_4_method_8_code 26 = .ok (.aload_n 0, 1) := by decide +kernel
theorem d2_27 : decode prog_4_method_8_code 27 = .ok (.dup, 1) := by decide +kernel
theorem d2_28 : decode prog_4_method_8_code 28 = .ok (.getfield 14, 3) := by decide +kernel
theorem d2_31 : decode prog_4_method_8_code 31 = .ok (.dup_x1, 1) := by decide +kernel
theorem d2_32 : decode prog_4_method_8_code 32 = .ok (.iconst 1, 1) := by decide +kernel
theorem d2_33 : decode prog_4_method_8_code 33 = .ok (.iadd, 1) := by decide +kernel
theorem d2_34 : decode prog_4_method_8_code 34 = .ok (.putfield 14, 3) := by decide +kernel
theorem d2_37 : decode prog_4_method_8_code 37 = .ok (.ishr, 1) := by decide +kernel
theorem d2_38 : decode prog_4_method_8_code 38 = .ok (.iconst 1, 1) := by decide +kernel
theorem d2_39 : decode prog_4_method_8_code 39 = .ok (.iand, 1) := by decide +kernel
theorem d2_40 : decode prog_4_method_8_code 40 = .ok (.ifCond .eq 7, 3) := by decide +kernel
theorem d2_43 : decode prog_4_method_8_code 43 = .ok (.iconst 1, 1) := by decide +kernel
theorem d2_44 : decode prog_4_method_8_code 44 = .ok (.goto 4, 3) := by decide +kernel
theorem d2_47 : decode prog_4_method_8_code 47 = .ok (.iconst 0, 1) := by decide +kernel
theorem d2_48 : decode prog_4_method_8_code 48 = .ok (.ireturn, 1) := by decide +kernel
theorem d3_0 : decode prog_4_method_4_code 0 = .ok (.aload_n 0, 1) := by decide +kernel
theorem d3_1 : decode prog_4_method_4_code 1 = .ok (.iconst 1, 1) := by decide +kernel
theorem d3_2 : decode prog_4_method_4_code 2 = .ok (.ldc 28, 2) := by decide +kernel
theorem d3_4 : decode prog_4_method_4_code 4 = .ok (.invokevirtual 30, 3) := by decide +kernel
theorem d3_7 : decode prog_4_method_4_code 7 = .ok (.l2i, 1) := by decide +kernel
theorem d3_8 : decode prog_4_method_4_code 8 = .ok (.ireturn, 1) := by decide +kernel
theorem d4_0 : decode prog_4_method_18_code 0 = .ok (.aload_n 0, 1) := by decide +kernel
theorem d4_1 : decode prog_4_method_18_code 1 = .ok (.bipush 8, 2) := by decide +kernel
theorem d4_3 : decode prog_4_method_18_code 3 = .ok (.putfield 14, 3) := by decide +kernel
theorem d4_6 : decode prog_4_method_18_code 6 = .ok (.aload_n 0, 1) := by decide +kernel
theorem d4_7 : decode prog_4_method_18_code 7 = .ok (.iload_n 1, 1) := by decide +kernel
theorem d4_8 : decode prog_4_method_18_code 8 = .ok (.i2l, 1) := by decide +kernel
theorem d4_9 : decode prog_4_method_18_code 9 = .ok (.aload_n 2, 1) := by decide +kernel
theorem d4_10 : decode prog_4_method_18_code 10 = .ok (.invokevirtual 245, 3) := by decide +kernel
theorem d4_13 : decode prog_4_method_18_code 13 = .ok (.lconst 0, 1) := by decide +kernel
theorem d4_14 : decode prog_4_method_18_code 14 = .ok (.lstore_n 3, 1) := by decide +kernel
theorem d4_15 : decode prog_4_method_18_code 15 = .ok (.iconst 0, 1) := by decide +kernel
theorem d4_16 : decode prog_4_method_18_code 16 = .ok (.istore 5, 2) := by decide +kernel
theorem d4_18 : decode prog_4_method_18_code 18 = .ok (.iload 5, 2) := by decide +kernel
theorem d4_20 : decode prog_4_method_18_code 20 = .ok (.iload_n 1, 1) := by decide +kernel
theorem d4_21 : decode prog_4_method_18_code 21 = .ok (.if_icmp .ge 36, 3) := by decide +kernel
theorem d4_24 : decode prog_4_method_18_code 24 = .ok (.lload_n 3, 1) := by decide +kernel
theorem d4_25 : decode prog_4_method_18_code 25 = .ok (.bipush 8, 2) := by decide +kernel
theorem d4_27 : decode prog_4_method_18_code 27 = .ok (.lshl, 1) := by decide +kernel
theorem d4_28 : decode prog_4_method_18_code 28 = .ok (.aload_n 0, 1) := by decide +kernel
theorem d4_29 : decode prog_4_method_18_code 29 = .ok (.getfield 18, 3) := by decide +kernel
theorem d4_32 : decode prog_4_method_18_code 32 = .ok (.aload_n 0, 1) := by decide +kernel
theorem d4_33 : decode prog_4_method_18_code 33 = .ok (.dup, 1) := by decide +kernel
theorem d4_34 : decode prog_4_method_18_code 34 = .ok (.getfield 22, 3) := by decide +kernel
theorem d4_37 : decode prog_4_method_18_code 37 = .ok (.dup_x1, 1) := by decide +kernel
theorem d4_38 : decode prog_4_method_18_code 38 = .ok (.iconst 1, 1) := by decide +kernel
theorem d4_39 : decode prog_4_method_18_code 39 = .ok (.iadd, 1) := by decide +kernel
theorem d4_40 : decode prog_4_method_18_code 40 = .ok (.putfield 22, 3) := by decide +kernel
theorem d4_43 : decode prog_4_method_18_code 43 = .ok (.baload, 1) := by decide +kernel
theorem d4_44 : decode prog_4_method_18_code 44 = .ok (.sipush 255, 3) := by decide +kernel
theorem d4_47 : decode prog_4_method_18_code 47 = .ok (.iand, 1) := by decide +kernel
theorem d4_48 : decode prog_4_method_18_code 48 = .ok (.i2l, 1) := by decide +kernel
theorem d4_49 : decode prog_4_method_18_code 49 = .ok (.lor, 1) := by decide +kernel
theorem d4_50 : decode prog_4_method_18_code 50 = .ok (.lstore_n 3, 1) := by decide +kernel
theorem d4_51 : decode prog_4_method_18_code 51 = .ok (.iinc 5 1, 3) := by decide +kernel
theorem d4_54 : decode prog_4_method_18_code 54 = .ok (.goto (-36), 3) := by decide +kernel
theorem d4_57 : decode prog_4_method_18_code 57 = .ok (.lload_n 3, 1) := by decide +kernel
theorem d4_58 : decode prog_4_method_18_code 58 = .ok (.lreturn, 1) := by decide +kernel
theorem d5_0 : decode prog_4_method_21_code 0 = .ok (.lload_n 1, 1) := by decide +kernel
theorem d5_1 : decode prog_4_method_21_code 1 = .ok (.aload_n 0, 1) := by decide +kernel
theorem d5_2 : decode prog_4_method_21_code 2 = .ok (.getfield 25, 3) := by decide +kernel
theorem d5_5 : decode prog_4_method_21_code 5 = .ok (.aload_n 0, 1) := by decide +kernel
theorem d5_6 : decode prog_4_method_21_code 6 = .ok (.getfield 22, 3) := by decide +kernel
theorem d5_9 : decode prog_4_method_21_code 9 = .ok (.isub, 1) := by decide +kernel
theorem d5_10 : decode prog_4_method_21_code 10 = .ok (.i2l, 1) := by decide +kernel
theorem d5_11 : decode prog_4_method_21_code 11 = .ok (.lcmp, 1) := by decide +kernel
theorem d5_12 : decode prog_4_method_21_code 12 = .ok (.ifCond .le 20, 3) := by decide +kernel
theorem d5_32 : decode prog_4_method_21_code 32 = .ok (.return_, 1) := by decide +kernel
theorem d6_0 : decode prog_4_method_10_code 0 = .ok (.aload_n 0, 1) := by decide +kernel
theorem d6_1 : decode prog_4_method_10_code 1 = .ok (.invokevirtual 47, 3) := by decide +kernel
theorem d6_4 : decode prog_4_method_10_code 4 = .ok (.istore_n 1, 1) := by decide +kernel
theorem d6_5 : decode prog_4_method_10_code 5 = .ok (.aload_n 0, 1) := by decide +kernel
theorem d6_6 : decode prog_4_method_10_code 6 = .ok (.dup, 1) := by decide +kernel
theorem d6_7 : decode prog_4_method_10_code 7 = .ok (.getfield 22, 3) := by decide +kernel
theorem d6_10 : decode prog_4_method_10_code 10 = .ok (.iload_n 1, 1) := by decide +kernel
theorem d6_11 : decode prog_4_method_10_code 11 = .ok (.iadd, 1) := by decide +kernel
theorem d6_12 : decode prog_4_method_10_code 12 = .ok (.putfield 22, 3) := by decide +kernel
theorem d6_15 : decode prog_4_method_10_code 15 = .ok (.return_, 1) := by decide +kernel
theorem d7_0 : decode prog_4_method_19_code 0 = .ok (.aload_n 0, 1) := by decide +kernel
theorem d7_1 : decode prog_4_method_19_code 1 = .ok (.invokevirtual 40, 3) := by decide +kernel
theorem d7_4 : decode prog_4_method_19_code 4 = .ok (.istore_n 1, 1) := by decide +kernel
theorem d7_5 : decode prog_4_method_19_code 5 = .ok (.aload_n 0, 1) := by decide +kernel
theorem d7_6 : decode prog_4_method_19_code 6 = .ok (.iload_n 1, 1) := by decide +kernel
theorem d7_7 : decode prog_4_method_19_code 7 = .ok (.i2l, 1) := by decide +kernel
theorem d7_8 : decode prog_4_method_19_code 8 = .ok (.ldc 249, 2) := by decide +kernel
theorem d7_10 : decode prog_4_method_19_code 10 = .ok (.invokevirtual 245, 3) := by decide +kernel
theorem d7_13 : decode prog_4_method_19_code 13 = .ok (.iload_n 1, 1) := by decide +kernel
theorem d7_14 : decode prog_4_method_19_code 14 = .ok (.ireturn, 1) := by decide +kernel
theorem d8_0 : decode prog_4_method_3_code 0 = .ok (.aload_n 0, 1) := by decide +kernel
theorem d8_1 : decode prog_4_method_3_code 1 = .ok (.getfield 22, 3) := by decide +kernel
theorem d8_4 : decode prog_4_method_3_code 4 = .ok (.aload_n 0, 1) := by decide +kernel
theorem d8_5 : decode prog_4_method_3_code 5 = .ok (.getfield 25, 3) := by decide +kernel
theorem d8_8 : decode prog_4_method_3_code 8 = .ok (.if_icmp .ge 7, 3) := by decide +kernel
theorem d8_11 : decode prog_4_method_3_code 11 = .ok (.iconst 1, 1) := by decide +kernel
theorem d8_12 : decode prog_4_method_3_code 12 = .ok (.goto 4, 3) := by decide +kernel
theorem d8_15 : decode prog_4_method_3_code 15 = .ok (.iconst 0, 1) := by decide +kernel
theorem d8_16 : decode prog_4_method_3_code 16 = .ok (.ireturn, 1) := by decide +kernel
theorem pd0 : parseMethodDescriptor "(JLjava/lang/String;)V" = some ⟨[.long, (.object "java/lang/String")], none⟩ := by decide +kernel
theorem pd1 : parseMethodDescriptor "(ILjava/lang/String;)J" = some ⟨[.int, (.object "java/lang/String")], some .long⟩ := by decide +kernel
theorem pd2 : parseMethodDescriptor "()I" = some ⟨[], some .int⟩ := by decide +kernel
theorem pd3 : parseMethodDescriptor "()Z" = some ⟨[], some .boolean⟩ := by decide +kernel
theorem pd4 : parseMethodDescriptor "()V" = some ⟨[], none⟩ := by decide +kernel
theorem pd5 : parseMethodDescriptor "([BII)V" = some ⟨[(.array .byte), .int, .int], none⟩ := by decide +kernel
abbrev nm0 : MethodName := x
abbrev rm0 : Room := room_1
abbrev C0 (l : Launch) (Z : State) (a0 : Array Value) (n0 : Nat) := Wp.Con l Z a0 n0 nm0 code maxLocals ret rm0
abbrev W0 (l : Launch) (Z : State) (a0 : Array Value) (n0 : Nat) := Wp.WP l Z a0 n0 rm0 nm0 code maxLocals ret
theorem pn0 : plainFor nm0 = true := by first | exact plainFor_of_name (by first | (simp [plainName, overriddenIn, nm0, x]; done) | decide +kernel) | decide +kernel
theorem ef0 (m : MethodId) (x0 : Int32) (x1 : Int32) (x2 : Int32) (x3 : Int32) (x4 : Int32) (x5 : Int32) : entryFrame m #[(.int x0), (.int x1), (.int x2), (.int x3), (.int x4), (.int x5)] maxLocals = mkF m 0 ⟨[.val (.int x0), .val (.int x1), .val (.int x2), .val (.int x3), .val (.int x4), .val (.int x5), .unset, .unset, .unset, .unset, .unset, .unset, .unset, .unset, .unset, .unset, .unset, .unset, .unset, .unset]⟩ [] := by first | exact (Wp.efG m [(.int x0), (.int x1), (.int x2), (.int x3), (.int x4), (.int x5)] maxLocals).trans rfl | (simp [entryFrame, mkF, argsToLocals, Value.category, maxLocals]; done)
abbrev nm1 : MethodName := ⟨"com/example/slim_broker/slimbroker/codec/WireReader", "<init>", "([BII)V"⟩
abbrev rm1 : Room := { frames := 1, cells := 0, slots := 0, locals := 12 }
abbrev C1 (l : Launch) (Z : State) (a0 : Array Value) (n0 : Nat) := Wp.Con l Z a0 n0 nm1 prog_4_method_2_code 4 none rm1
abbrev W1 (l : Launch) (Z : State) (a0 : Array Value) (n0 : Nat) := Wp.WP l Z a0 n0 rm1 nm1 prog_4_method_2_code 4 none
theorem pn1 : plainFor nm1 = true := by first | exact plainFor_of_name (by first | (simp [plainName, overriddenIn, nm1, x]; done) | decide +kernel) | decide +kernel
theorem ef1 (m : MethodId) (r : Addr) (x0 : Addr) (x1 : Int32) (x2 : Int32) : entryFrame m #[(.ref r), (.ref x0), (.int x1), (.int x2)] 4 = mkF m 0 ⟨[.val (.ref r), .val (.ref x0), .val (.int x1), .val (.int x2)]⟩ [] := by first | exact (Wp.efG m [(.ref r), (.ref x0), (.int x1), (.int x2)] 4).trans rfl | (simp [entryFrame, mkF, argsToLocals, Value.category]; done)
abbrev nm2 : MethodName := ⟨"com/example/slim_broker/slimbroker/codec/WireReader", "readBit", "()Z"⟩
abbrev rm2 : Room := { frames := 3, cells := 2, slots := 24, locals := 45 }
abbrev C2 (l : Launch) (Z : State) (a0 : Array Value) (n0 : Nat) := Wp.Con l Z a0 n0 nm2 prog_4_method_8_code 1 (some .boolean) rm2
abbrev W2 (l : Launch) (Z : State) (a0 : Array Value) (n0 : Nat) := Wp.WP l Z a0 n0 rm2 nm2 prog_4_method_8_code 1 (some .boolean)
theorem pn2 : plainFor nm2 = true := by first | exact plainFor_of_name (by first | (simp [plainName, overriddenIn, nm2, x]; done) | decide +kernel) | decide +kernel
theorem ef2 (m : MethodId) (r : Addr) : entryFrame m #[(.ref r)] 1 = mkF m 0 ⟨[.val (.ref r)]⟩ [] := by first | exact (Wp.efG m [(.ref r)] 1).trans rfl | (simp [entryFrame, mkF, argsToLocals, Value.category]; done)
abbrev nm3 : MethodName := ⟨"com/example/slim_broker/slimbroker/codec/WireReader", "readOctet", "()I"⟩
abbrev rm3 : Room := { frames := 2, cells := 2, slots := 24, locals := 32 }
abbrev C3 (l : Launch) (Z : State) (a0 : Array Value) (n0 : Nat) := Wp.Con l Z a0 n0 nm3 prog_4_method_4_code 1 (some .int) rm3
abbrev W3 (l : Launch) (Z : State) (a0 : Array Value) (n0 : Nat) := Wp.WP l Z a0 n0 rm3 nm3 prog_4_method_4_code 1 (some .int)
theorem pn3 : plainFor nm3 = true := by first | exact plainFor_of_name (by first | (simp [plainName, overriddenIn, nm3, x]; done) | decide +kernel) | decide +kernel
theorem ef3 (m : MethodId) (r : Addr) : entryFrame m #[(.ref r)] 1 = mkF m 0 ⟨[.val (.ref r)]⟩ [] := by first | exact (Wp.efG m [(.ref r)] 1).trans rfl | (simp [entryFrame, mkF, argsToLocals, Value.category]; done)
abbrev nm4 : MethodName := ⟨"com/example/slim_broker/slimbroker/codec/WireReader", "readUnsigned", "(ILjava/lang/String;)J"⟩
abbrev rm4 : Room := { frames := 1, cells := 0, slots := 0, locals := 15 }
abbrev C4 (l : Launch) (Z : State) (a0 : Array Value) (n0 : Nat) := Wp.Con l Z a0 n0 nm4 prog_4_method_18_code 6 (some .long) rm4
abbrev W4 (l : Launch) (Z : State) (a0 : Array Value) (n0 : Nat) := Wp.WP l Z a0 n0 rm4 nm4 prog_4_method_18_code 6 (some .long)
theorem pn4 : plainFor nm4 = true := by first | exact plainFor_of_name (by first | (simp [plainName, overriddenIn, nm4, x]; done) | decide +kernel) | decide +kernel
theorem ef4 (m : MethodId) (r : Addr) (x0 : Int32) (x1 : Addr) : entryFrame m #[(.ref r), (.int x0), (.ref x1)] 6 = mkF m 0 ⟨[.val (.ref r), .val (.int x0), .val (.ref x1), .unset, .unset, .unset]⟩ [] := by first | exact (Wp.efG m [(.ref r), (.int x0), (.ref x1)] 6).trans rfl | (simp [entryFrame, mkF, argsToLocals, Value.category]; done)
abbrev nm5 : MethodName := ⟨"com/example/slim_broker/slimbroker/codec/WireReader", "require", "(JLjava/lang/String;)V"⟩
abbrev rm5 : Room := { frames := 0, cells := 0, slots := 0, locals := 0 }
abbrev C5 (l : Launch) (Z : State) (a0 : Array Value) (n0 : Nat) := Wp.Con l Z a0 n0 nm5 prog_4_method_21_code 4 none rm5
abbrev W5 (l : Launch) (Z : State) (a0 : Array Value) (n0 : Nat) := Wp.WP l Z a0 n0 rm5 nm5 prog_4_method_21_code 4 none
theorem pn5 : plainFor nm5 = true := by first | exact plainFor_of_name (by first | (simp [plainName, overriddenIn, nm5, x]; done) | decide +kernel) | decide +kernel
theorem ef5 (m : MethodId) (r : Addr) (x0 : Int64) (x1 : Addr) : entryFrame m #[(.ref r), (.long x0), (.ref x1)] 4 = mkF m 0 ⟨[.val (.ref r), .val (.long x0), .second, .val (.ref x1)]⟩ [] := by first | exact (Wp.efG m [(.ref r), (.long x0), (.ref x1)] 4).trans rfl | (simp [entryFrame, mkF, argsToLocals, Value.category]; done)
abbrev nm6 : MethodName := ⟨"com/example/slim_broker/slimbroker/codec/WireReader", "skipShortString", "()V"⟩
abbrev rm6 : Room := { frames := 4, cells := 4, slots := 76, locals := 57 }
abbrev C6 (l : Launch) (Z : State) (a0 : Array Value) (n0 : Nat) := Wp.Con l Z a0 n0 nm6 prog_4_method_10_code 2 none rm6
abbrev W6 (l : Launch) (Z : State) (a0 : Array Value) (n0 : Nat) := Wp.WP l Z a0 n0 rm6 nm6 prog_4_method_10_code 2 none
theorem pn6 : plainFor nm6 = true := by first | exact plainFor_of_name (by first | (simp [plainName, overriddenIn, nm6, x]; done) | decide +kernel) | decide +kernel
theorem ef6 (m : MethodId) (r : Addr) : entryFrame m #[(.ref r)] 2 = mkF m 0 ⟨[.val (.ref r), .unset]⟩ [] := by first | exact (Wp.efG m [(.ref r)] 2).trans rfl | (simp [entryFrame, mkF, argsToLocals, Value.category]; done)
abbrev nm7 : MethodName := ⟨"com/example/slim_broker/slimbroker/codec/WireReader", "readShortStringLength", "()I"⟩
abbrev rm7 : Room := { frames := 3, cells := 4, slots := 76, locals := 44 }
abbrev C7 (l : Launch) (Z : State) (a0 : Array Value) (n0 : Nat) := Wp.Con l Z a0 n0 nm7 prog_4_method_19_code 2 (some .int) rm7
abbrev W7 (l : Launch) (Z : State) (a0 : Array Value) (n0 : Nat) := Wp.WP l Z a0 n0 rm7 nm7 prog_4_method_19_code 2 (some .int)
theorem pn7 : plainFor nm7 = true := by first | exact plainFor_of_name (by first | (simp [plainName, overriddenIn, nm7, x]; done) | decide +kernel) | decide +kernel
theorem ef7 (m : MethodId) (r : Addr) : entryFrame m #[(.ref r)] 2 = mkF m 0 ⟨[.val (.ref r), .unset]⟩ [] := by first | exact (Wp.efG m [(.ref r)] 2).trans rfl | (simp [entryFrame, mkF, argsToLocals, Value.category]; done)
abbrev nm8 : MethodName := ⟨"com/example/slim_broker/slimbroker/codec/WireReader", "hasRemaining", "()Z"⟩
abbrev rm8 : Room := { frames := 0, cells := 0, slots := 0, locals := 0 }
abbrev C8 (l : Launch) (Z : State) (a0 : Array Value) (n0 : Nat) := Wp.Con l Z a0 n0 nm8 prog_4_method_3_code 1 (some .boolean) rm8
abbrev W8 (l : Launch) (Z : State) (a0 : Array Value) (n0 : Nat) := Wp.WP l Z a0 n0 rm8 nm8 prog_4_method_3_code 1 (some .boolean)
theorem pn8 : plainFor nm8 = true := by first | exact plainFor_of_name (by first | (simp [plainName, overriddenIn, nm8, x]; done) | decide +kernel) | decide +kernel
theorem ef8 (m : MethodId) (r : Addr) : entryFrame m #[(.ref r)] 1 = mkF m 0 ⟨[.val (.ref r)]⟩ [] := by first | exact (Wp.efG m [(.ref r)] 1).trans rfl | (simp [entryFrame, mkF, argsToLocals, Value.category]; done)
def fs_WireReader : List (String × String × Value) := [("nextBit", "I", .int 0), ("data", "[B", .null), ("position", "I", .int 0), ("end", "I", .int 0), ("bitOctet", "I", .int 0)]
theorem fs_WireReader_ok {Z : State} {a0 : Array Value} (hw : Hw Z a0) : ∀ x ∈ fs_WireReader, Laid Z a0 "com/example/slim_broker/slimbroker/codec/WireReader" "com/example/slim_broker/slimbroker/codec/WireReader" x.1 x.2.1 ∧ ∃ t, parseFieldDescriptor x.2.1 = some t ∧ defaultValue t = x.2.2 := by
  intro x hx
  simp only [fs_WireReader, List.mem_cons, List.not_mem_nil, or_false] at hx
  rcases hx with rfl | rfl | rfl | rfl | rfl
  · exact ⟨Or.inl (w11 hw), .int, by decide, rfl⟩
  · exact ⟨Or.inr (w13 hw), (.array .byte), by decide, rfl⟩
  · exact ⟨Or.inl (w15 hw), .int, by decide, rfl⟩
  · exact ⟨Or.inr (w17 hw), .int, by decide, rfl⟩
  · exact ⟨Or.inl (w44 hw), .int, by decide, rfl⟩
theorem str_ok {Z : State} {a0 : Array Value} (hw : Hw Z a0) : ∀ a ∈ Bundle.stringAtoms, a.before a0 Z = true := by
  intro a ha
  simp only [Bundle.stringAtoms, List.mem_cons, List.not_mem_nil, or_false] at ha
  rcases ha with rfl | rfl | rfl | rfl | rfl | rfl | rfl
  · exact hw _ (List.mem_of_getElem? (i := 29) rfl)
  · exact hw _ (List.mem_of_getElem? (i := 30) rfl)
  · exact hw _ (List.mem_of_getElem? (i := 0) rfl)
  · exact hw _ (List.mem_of_getElem? (i := 31) rfl)
  · exact hw _ (List.mem_of_getElem? (i := 32) rfl)
  · exact hw _ (List.mem_of_getElem? (i := 33) rfl)
  · exact hw _ (List.mem_of_getElem? (i := 34) rfl)
set_option maxRecDepth 65536
def own_b (p : Bool) : Int32 := if p then 1 else 0
theorem own_b1 {p : Bool} (h : p = true) : (some (Value.int (1 &&& 1)) : Option Value) = some (.int (own_b p)) := by subst h; rfl
theorem own_b0 {p : Bool} (h : p = false) : (some (Value.int (0 &&& 1)) : Option Value) = some (.int (own_b p)) := by subst h; rfl

theorem own_inc {i : Int32} {k : Nat} (h : i.toInt = (k : Int)) (hk : k < 2147483647) : (i + 1).toInt = ((k + 1 : Nat) : Int) := by
  have h1 := c_iadd i 1
  have h2 := rng32 (i + 1)
  have h3 : (1 : Int32).toInt = 1 := rfl
  omega

theorem own_more {l : Launch} {Z : State} {a0 : Array Value} {n0 : Nat} {R : Room} {y : MethodName} {code : ByteArray} {mx : Nat} {ret : Option FieldType} {cells slots pc : Nat} {Ls : List Slot} {st : List Value} {H : Wp.MH} {Q : Option Value → Wp.MH → Prop} {cells' slots' : Nat} (h1 : cells ≤ cells') (h2 : slots ≤ slots') (h3 : cells' ≤ R.cells) (h4 : slots' ≤ R.slots) (k : Wp.WP l Z a0 n0 R y code mx ret cells' slots' pc Ls st H Q) : Wp.WP l Z a0 n0 R y code mx ret cells slots pc Ls st H Q :=
  fun p e s m args below meth c T locs X hx hZ hc hm ho hn hr hl hF hR g1 g2 => k p e s m args below meth c T locs (X.mono h1 h2) hx hZ hc hm ho hn hr hl hF hR h3 h4
abbrev ob (nb : Int32) (d : Addr) (p e : Int32) (q : Int32) : Wp.MC := .inr ("com/example/slim_broker/slimbroker/codec/WireReader", [("nextBit", "I", .int nb), ("data", "[B", .ref d), ("position", "I", .int p), ("end", "I", .int e), ("bitOctet", "I", .int q)])
abbrev obn (r : Addr) (nb : Int32) (d : Addr) (p e : Int32) (q : Int32) (T : Wp.MH) : Wp.MH := (r, ob nb d p e q) :: T
theorem con_init {l : Launch} {Z : State} {a0 : Array Value} {n0 : Nat} (hw : Hw Z a0) (r d : Addr) (o n : Int32) (T : Wp.MH) :
    C1 l Z a0 n0 #[.ref r, .ref d, .int o, .int n] ((r, .inr ("com/example/slim_broker/slimbroker/codec/WireReader", fs_WireReader)) :: T) (fun v H' => v = none ∧ H' = obn r 8 d o (o + n) 0 T) := by
  refine Wp.Con.intro pn1 (fun m => ef1 m r d o n) ?_
  unfold fs_WireReader
  refine Wp.aloadN (pc' := 1) d1_0 rfl rfl rfl ?_
  refine Wp.initObj 0 (pc' := 4) (w7 hw) (w8 hw) (w9 hw) d1_1 rfl (by decide) rfl (by decide) rfl ?_
  refine Wp.aloadN (pc' := 5) d1_4 rfl rfl rfl ?_
  refine Wp.bipush (8) (pc' := 7) d1_5 rfl rfl ?_
  refine Wp.putfield_0_0 (pc' := 10) (ty := .int) (w10 hw) (Or.inl (w11 hw)) (w2 hw) (by decide) rfl rfl d1_7 rfl ?_
  refine Wp.aloadN (pc' := 11) d1_10 rfl rfl rfl ?_
  refine Wp.aloadN (pc' := 12) d1_11 rfl rfl rfl ?_
  refine Wp.putfield_0_1 (pc' := 15) (ty := (.array .byte)) (w12 hw) (Or.inr ⟨(w13 hw), rfl, rfl⟩) (w2 hw) (by decide) rfl rfl d1_12 rfl ?_
  refine Wp.aloadN (pc' := 16) d1_15 rfl rfl rfl ?_
  refine Wp.iloadN (pc' := 17) d1_16 rfl rfl ?_
  refine Wp.putfield_0_2 (pc' := 20) (ty := .int) (w14 hw) (Or.inl (w15 hw)) (w2 hw) (by decide) rfl rfl d1_17 rfl ?_
  refine Wp.aloadN (pc' := 21) d1_20 rfl rfl rfl ?_
  refine Wp.iloadN (pc' := 22) d1_21 rfl rfl ?_
  refine Wp.iloadN (pc' := 23) d1_22 rfl rfl ?_
  refine Wp.iadd (pc' := 24) d1_23 rfl ?_
  refine Wp.putfield_0_3 (pc' := 27) (ty := .int) (w16 hw) (Or.inr ⟨(w17 hw), rfl, rfl⟩) (w2 hw) (by decide) rfl rfl d1_24 rfl ?_
  refine Wp.return_ rfl d1_27 ?_
  exact ⟨rfl, rfl⟩
theorem con_has {l : Launch} {Z : State} {a0 : Array Value} {n0 : Nat} (hw : Hw Z a0) (r d : Addr) (nb p e q : Int32) (T : Wp.MH) :
    C8 l Z a0 n0 #[.ref r] (obn r nb d p e q T) (fun v H' => v = some (.int (own_b (decide (p.toInt < e.toInt)))) ∧ H' = obn r nb d p e q T) := by
  refine Wp.Con.intro pn8 (fun m => ef8 m r) ?_
  by_cases hh : p.toInt < e.toInt
  · skip
    refine Wp.aloadN (pc' := 1) d8_0 rfl rfl rfl ?_
    refine Wp.getfield 0 2 (pc' := 4) (w14 hw) d8_1 rfl rfl rfl ?_
    refine Wp.aloadN (pc' := 5) d8_4 rfl rfl rfl ?_
    refine Wp.getfield 0 3 (pc' := 8) (w16 hw) d8_5 rfl rfl rfl ?_
    refine Wp.icmp_ge (pt := 15) (pf := 11) d8_8 (by decide) rfl (fun hc8 => ?_) (fun hc8 => ?_)
    · exfalso; omega
    · refine Wp.iconst (1) (pc' := 12) d8_11 rfl rfl ?_
      refine Wp.goto (pc' := 16) d8_12 (by decide) ?_
      refine Wp.zreturn rfl d8_16 ?_
      exact ⟨own_b1 (by simpa using hh), rfl⟩
  · skip
    refine Wp.aloadN (pc' := 1) d8_0 rfl rfl rfl ?_
    refine Wp.getfield 0 2 (pc' := 4) (w14 hw) d8_1 rfl rfl rfl ?_
    refine Wp.aloadN (pc' := 5) d8_4 rfl rfl rfl ?_
    refine Wp.getfield 0 3 (pc' := 8) (w16 hw) d8_5 rfl rfl rfl ?_
    refine Wp.icmp_ge (pt := 15) (pf := 11) d8_8 (by decide) rfl (fun hc8 => ?_) (fun hc8 => ?_)
    · refine Wp.iconst (0) (pc' := 16) d8_15 rfl rfl ?_
      refine Wp.zreturn rfl d8_16 ?_
      exact ⟨own_b0 (by simpa using hh), rfl⟩
    · exfalso; omega
theorem con_req {l : Launch} {Z : State} {a0 : Array Value} {n0 : Nat} (hw : Hw Z a0) (r d s : Addr) (n : Int64) (nb p e q : Int32) (T : Wp.MH) (h : n.toInt ≤ (e - p).toInt) :
    C5 l Z a0 n0 #[.ref r, .long n, .ref s] (obn r nb d p e q T) (fun v H' => v = none ∧ H' = obn r nb d p e q T) := by
  refine Wp.Con.intro pn5 (fun m => ef5 m r n s) ?_
  have h2 : (e - p).toInt64.toInt = (e - p).toInt := Int32.toInt_toInt64 _
  refine Wp.lloadN (pc' := 1) d5_0 rfl rfl ?_
  refine Wp.aloadN (pc' := 2) d5_1 rfl rfl rfl ?_
  refine Wp.getfield 0 3 (pc' := 5) (w16 hw) d5_2 rfl rfl rfl ?_
  refine Wp.aloadN (pc' := 6) d5_5 rfl rfl rfl ?_
  refine Wp.getfield 0 2 (pc' := 9) (w14 hw) d5_6 rfl rfl rfl ?_
  refine Wp.isub (pc' := 10) d5_9 rfl ?_
  refine Wp.i2l (pc' := 11) d5_10 rfl ?_
  refine Wp.lcmp_le (pt := 32) (pf := 15) d5_11 rfl d5_12 (by decide) rfl (fun hc12 => ?_) (fun hc12 => ?_)
  · refine Wp.return_ rfl d5_32 ?_
    exact ⟨rfl, rfl⟩
  · exfalso; omega
theorem con_uns {l : Launch} {Z : State} {a0 : Array Value} {n0 : Nat} (hw : Hw Z a0) (r d s : Addr) (nb p e q b : Int32) (i : Nat) (bs : List Value) (T : Wp.MH) (k : Nat) (hk : T[k]? = some (d, .inl (.byte, bs))) (hp : p.toInt = (i : Int)) (hb : bs[i]? = some (.int b)) (h : 1 ≤ (e - p).toInt) :
    C4 l Z a0 n0 #[.ref r, .int 1, .ref s] (obn r nb d p e q T) (fun v H' => v = some (.long (b &&& 255).toInt64) ∧ H' = obn r 8 d (p + 1) e q T) := by
  refine Wp.Con.intro pn4 (fun m => ef4 m r 1 s) ?_
  refine Wp.aloadN (pc' := 1) d4_0 rfl rfl rfl ?_
  refine Wp.bipush (8) (pc' := 3) d4_1 rfl rfl ?_
  refine Wp.putfield_0_0 (pc' := 6) (ty := .int) (w10 hw) (Or.inl (w11 hw)) (w2 hw) (by decide) rfl rfl d4_3 rfl ?_
  refine Wp.aloadN (pc' := 7) d4_6 rfl rfl rfl ?_
  refine Wp.iloadN (pc' := 8) d4_7 rfl rfl ?_
  refine Wp.i2l (pc' := 9) d4_8 rfl ?_
  refine Wp.aloadN (pc' := 10) d4_9 rfl rfl rfl ?_
  refine Wp.callP_2 0 0 (pc' := 13) (cells' := 0) (slots' := 0)  (rm := rm5) (w39 hw) (w41 hw) (w2 hw) (w40 hw) (w3 hw) (w42 hw) (by decide) pd0 rfl d4_10 rfl rfl rfl (by decide) (by decide) (by decide) (by decide) rfl rfl rfl ?_
  refine (con_req hw _ _ _ ((1 : Int32).toInt64) _ _ _ _ T (by rw [show ((1 : Int32).toInt64).toInt = 1 by decide]; exact h)).mono ?_
  rintro _ _ ⟨rfl, rfl⟩
  refine Wp.afterN ?_
  refine Wp.lconst (0) (pc' := 14) d4_13 rfl rfl ?_
  refine Wp.lstoreN_3 (pc' := 15) d4_14 rfl rfl ?_
  refine Wp.iconst (0) (pc' := 16) d4_15 rfl rfl ?_
  refine Wp.istore_5 (pc' := 18) d4_16 rfl rfl ?_
  refine Wp.iload (pc' := 20) d4_18 rfl rfl ?_
  refine Wp.iloadN (pc' := 21) d4_20 rfl rfl ?_
  refine Wp.icmp_ge (pt := 57) (pf := 24) d4_21 (by decide) rfl (fun hc21 => absurd hc21 (by decide)) (fun hc21 => ?_)
  refine Wp.lloadN (pc' := 25) d4_24 rfl rfl ?_
  refine Wp.bipush (8) (pc' := 27) d4_25 rfl rfl ?_
  refine Wp.lshl (pc' := 28) d4_27 rfl ?_
  refine Wp.aloadN (pc' := 29) d4_28 rfl rfl rfl ?_
  refine Wp.getfield 0 1 (pc' := 32) (w12 hw) d4_29 rfl rfl rfl ?_
  refine Wp.aloadN (pc' := 33) d4_32 rfl rfl rfl ?_
  refine Wp.dup (pc' := 34) d4_33 rfl rfl ?_
  refine Wp.getfield 0 2 (pc' := 37) (w14 hw) d4_34 rfl rfl rfl ?_
  refine Wp.dupX1 (pc' := 38) d4_37 rfl rfl rfl ?_
  refine Wp.iconst (1) (pc' := 39) d4_38 rfl rfl ?_
  refine Wp.iadd (pc' := 40) d4_39 rfl ?_
  refine Wp.putfield_0_2 (pc' := 43) (ty := .int) (w14 hw) (Or.inl (w15 hw)) (w2 hw) (by decide) rfl rfl d4_40 rfl ?_
  refine Wp.baload (k + 1) i (v := .int b) (pc' := 44) d4_43 hk hp hb rfl ?_
  refine Wp.sipush (255) (pc' := 47) d4_44 rfl rfl ?_
  refine Wp.iand (pc' := 48) d4_47 rfl ?_
  refine Wp.i2l (pc' := 49) d4_48 rfl ?_
  refine Wp.lor (pc' := 50) d4_49 rfl ?_
  refine Wp.lstoreN_3 (pc' := 51) d4_50 rfl rfl ?_
  refine Wp.iinc_5 (1) (pc' := 54) d4_51 rfl rfl ?_
  refine Wp.goto (pc' := 18) d4_54 (by decide) ?_
  refine Wp.iload (pc' := 20) d4_18 rfl rfl ?_
  refine Wp.iloadN (pc' := 21) d4_20 rfl rfl ?_
  refine Wp.icmp_ge (pt := 57) (pf := 24) d4_21 (by decide) rfl (fun hc21 => ?_) (fun hc21 => absurd hc21 (by decide))
  refine Wp.lloadN (pc' := 58) d4_57 rfl rfl ?_
  refine Wp.lreturn rfl d4_58 ?_
  exact ⟨by rw [show (0 : Int64) <<< ((8 : Int32) &&& 0x3f).toInt64 = 0 by decide, Int64.zero_or], rfl⟩
theorem con_oct {l : Launch} {Z : State} {a0 : Array Value} {n0 : Nat} (hw : Hw Z a0) (r d : Addr) (nb p e q b : Int32) (i : Nat) (bs : List Value) (T : Wp.MH) (k : Nat) (hk : T[k]? = some (d, .inl (.byte, bs))) (hp : p.toInt = (i : Int)) (hb : bs[i]? = some (.int b)) (h : 1 ≤ (e - p).toInt) :
    C3 l Z a0 n0 #[.ref r] (obn r nb d p e q T) (fun v H' => v = some (.int (b &&& 255)) ∧ H' = obn r 8 d (p + 1) e q T) := by
  refine Wp.Con.intro pn3 (fun m => ef3 m r) ?_
  refine Wp.aloadN (pc' := 1) d3_0 rfl rfl rfl ?_
  refine Wp.iconst (1) (pc' := 2) d3_1 rfl rfl ?_
  refine Wp.ldcStr 20 (pc' := 4) (cells' := 2) (slots' := 24) (w28 hw) (str_ok hw) d3_2 (by decide) (by decide) (by decide) (by decide) rfl rfl rfl (fun b2 => ?_)
  refine Wp.callP_2 0 0 (pc' := 7) (cells' := 2) (slots' := 24)  (rm := rm4) (w35 hw) (w37 hw) (w2 hw) (w36 hw) (w3 hw) (w38 hw) (by decide) pd1 rfl d3_4 rfl rfl rfl (by decide) (by decide) (by decide) (by decide) rfl rfl rfl ?_
  refine (con_uns hw _ _ _ _ _ _ _ b i bs T k hk hp hb h).mono ?_
  rintro _ _ ⟨rfl, rfl⟩
  refine Wp.afterS ?_
  refine Wp.l2i (pc' := 8) d3_7 rfl ?_
  refine Wp.ireturn rfl d3_8 ?_
  exact ⟨by rw [Int32.toInt32_toInt64], rfl⟩
def own_bit (q nb : Int32) : Bool := decide (¬ (q >>> (nb &&& 31)) &&& 1 = 0)
theorem con_bit {l : Launch} {Z : State} {a0 : Array Value} {n0 : Nat} (hw : Hw Z a0) (r d : Addr) (p e q b : Int32) (i : Nat) (bs : List Value) (T : Wp.MH) (k : Nat) (hk : T[k]? = some (d, .inl (.byte, bs))) (hp : p.toInt = (i : Int)) (hb : bs[i]? = some (.int b)) (h : 1 ≤ (e - p).toInt) :
    C2 l Z a0 n0 #[.ref r] (obn r 8 d p e q T) (fun v H' => v = some (.int (own_b (own_bit (b &&& 255) 0))) ∧ H' = obn r 1 d (p + 1) e (b &&& 255) T) := by
  refine Wp.Con.intro pn2 (fun m => ef2 m r) ?_
  refine Wp.aloadN (pc' := 1) d2_0 rfl rfl rfl ?_
  refine Wp.getfield 0 0 (pc' := 4) (w10 hw) d2_1 rfl rfl rfl ?_
  refine Wp.bipush (8) (pc' := 6) d2_4 rfl rfl ?_
  refine Wp.icmp_ne (pt := 22) (pf := 9) d2_6 (by decide) rfl (fun hc6 => ?_) (fun hc6 => ?_)
  · exact absurd rfl hc6
  · refine Wp.aloadN (pc' := 10) d2_9 rfl rfl rfl ?_
    refine Wp.aloadN (pc' := 11) d2_10 rfl rfl rfl ?_
    refine Wp.callV_0 0 1 (pc' := 14) (cells' := 2) (slots' := 24)  (rm := rm3) (w23 hw) (w24 hw) (w26 hw) (w25 hw) (w3 hw) (w27 hw) (by decide) pd2 rfl d2_11 rfl rfl rfl (by decide) (by decide) (by decide) (by decide) rfl rfl rfl ?_
    refine (con_oct hw _ _ _ _ _ _ b i bs T k hk hp hb h).mono ?_
    rintro _ _ ⟨rfl, rfl⟩
    refine Wp.afterS ?_
    refine Wp.putfield_0_4 (pc' := 17) (ty := .int) (w43 hw) (Or.inl (w44 hw)) (w2 hw) (by decide) rfl rfl d2_14 rfl ?_
    refine Wp.aloadN (pc' := 18) d2_17 rfl rfl rfl ?_
    refine Wp.iconst (0) (pc' := 19) d2_18 rfl rfl ?_
    refine Wp.putfield_0_0 (pc' := 22) (ty := .int) (w10 hw) (Or.inl (w11 hw)) (w2 hw) (by decide) rfl rfl d2_19 rfl ?_
    refine Wp.aloadN (pc' := 23) d2_22 rfl rfl rfl ?_
    refine Wp.getfield 0 4 (pc' := 26) (w43 hw) d2_23 rfl rfl rfl ?_
    refine Wp.aloadN (pc' := 27) d2_26 rfl rfl rfl ?_
    refine Wp.dup (pc' := 28) d2_27 rfl rfl ?_
    refine Wp.getfield 0 0 (pc' := 31) (w10 hw) d2_28 rfl rfl rfl ?_
    refine Wp.dupX1 (pc' := 32) d2_31 rfl rfl rfl ?_
    refine Wp.iconst (1) (pc' := 33) d2_32 rfl rfl ?_
    refine Wp.iadd (pc' := 34) d2_33 rfl ?_
    refine Wp.putfield_0_0 (pc' := 37) (ty := .int) (w10 hw) (Or.inl (w11 hw)) (w2 hw) (by decide) rfl rfl d2_34 rfl ?_
    refine Wp.ishr (pc' := 38) d2_37 rfl ?_
    refine Wp.iconst (1) (pc' := 39) d2_38 rfl rfl ?_
    refine Wp.iand (pc' := 40) d2_39 rfl ?_
    refine Wp.if_eq (pt := 47) (pf := 43) d2_40 (by decide) rfl (fun hc40 => ?_) (fun hc40 => ?_)
    · refine Wp.iconst (0) (pc' := 48) d2_47 rfl rfl ?_
      refine Wp.zreturn rfl d2_48 ?_
      first | exact ⟨own_b1 (decide_eq_true hc40), rfl⟩ | exact ⟨own_b0 (decide_eq_false (fun h => h hc40)), rfl⟩
    · refine Wp.iconst (1) (pc' := 44) d2_43 rfl rfl ?_
      refine Wp.goto (pc' := 48) d2_44 (by decide) ?_
      refine Wp.zreturn rfl d2_48 ?_
      first | exact ⟨own_b1 (decide_eq_true hc40), rfl⟩ | exact ⟨own_b0 (decide_eq_false (fun h => h hc40)), rfl⟩
theorem con_len {l : Launch} {Z : State} {a0 : Array Value} {n0 : Nat} (hw : Hw Z a0) (r d : Addr) (nb p e q b : Int32) (i : Nat) (bs : List Value) (T : Wp.MH) (k : Nat) (hk : T[k]? = some (d, .inl (.byte, bs))) (hp : p.toInt = (i : Int)) (hb : bs[i]? = some (.int b)) (h : 1 ≤ (e - p).toInt) (h2 : (b &&& 255).toInt ≤ (e - (p + 1)).toInt) :
    C7 l Z a0 n0 #[.ref r] (obn r nb d p e q T) (fun v H' => v = some (.int (b &&& 255)) ∧ H' = obn r 8 d (p + 1) e q T) := by
  refine Wp.Con.intro pn7 (fun m => ef7 m r) ?_
  refine Wp.aloadN (pc' := 1) d7_0 rfl rfl rfl ?_
  refine Wp.callV_0 0 0 (pc' := 4) (cells' := 2) (slots' := 24)  (rm := rm3) (w23 hw) (w24 hw) (w26 hw) (w25 hw) (w3 hw) (w27 hw) (by decide) pd2 rfl d7_1 rfl rfl rfl (by decide) (by decide) (by decide) (by decide) rfl rfl rfl ?_
  refine (con_oct hw _ _ _ _ _ _ b i bs T k hk hp hb h).mono ?_
  rintro _ _ ⟨rfl, rfl⟩
  refine Wp.afterS ?_
  refine Wp.istoreN_1 (pc' := 5) d7_4 rfl rfl ?_
  refine Wp.aloadN (pc' := 6) d7_5 rfl rfl rfl ?_
  refine Wp.iloadN (pc' := 7) d7_6 rfl rfl ?_
  refine Wp.i2l (pc' := 8) d7_7 rfl ?_
  refine Wp.ldcStr 48 (pc' := 10) (cells' := 4) (slots' := 76) (w54 hw) (str_ok hw) d7_8 (by decide) (by decide) (by decide) (by decide) rfl rfl rfl (fun b8 => ?_)
  refine Wp.callP_2 0 0 (pc' := 13) (cells' := 4) (slots' := 76)  (rm := rm5) (w39 hw) (w41 hw) (w2 hw) (w40 hw) (w3 hw) (w42 hw) (by decide) pd0 rfl d7_10 rfl rfl rfl (by decide) (by decide) (by decide) (by decide) rfl rfl rfl ?_
  refine (con_req hw _ _ _ ((b &&& 255).toInt64) _ _ _ _ T (by rw [Int32.toInt_toInt64]; exact h2)).mono ?_
  rintro _ _ ⟨rfl, rfl⟩
  refine Wp.afterN ?_
  refine Wp.iloadN (pc' := 14) d7_13 rfl rfl ?_
  refine Wp.ireturn rfl d7_14 ?_
  exact ⟨rfl, rfl⟩
theorem con_skip {l : Launch} {Z : State} {a0 : Array Value} {n0 : Nat} (hw : Hw Z a0) (r d : Addr) (nb p e q b : Int32) (i : Nat) (bs : List Value) (T : Wp.MH) (k : Nat) (hk : T[k]? = some (d, .inl (.byte, bs))) (hp : p.toInt = (i : Int)) (hb : bs[i]? = some (.int b)) (h : 1 ≤ (e - p).toInt) (h2 : (b &&& 255).toInt ≤ (e - (p + 1)).toInt) :
    C6 l Z a0 n0 #[.ref r] (obn r nb d p e q T) (fun v H' => v = none ∧ H' = obn r 8 d (p + 1 + (b &&& 255)) e q T) := by
  refine Wp.Con.intro pn6 (fun m => ef6 m r) ?_
  refine Wp.aloadN (pc' := 1) d6_0 rfl rfl rfl ?_
  refine Wp.callP_0 0 0 (pc' := 4) (cells' := 4) (slots' := 76)  (rm := rm7) (w50 hw) (w52 hw) (w2 hw) (w51 hw) (w3 hw) (w53 hw) (by decide) pd2 rfl d6_1 rfl rfl rfl (by decide) (by decide) (by decide) (by decide) rfl rfl rfl ?_
  refine (con_len hw _ _ _ _ _ _ b i bs T k hk hp hb h h2).mono ?_
  rintro _ _ ⟨rfl, rfl⟩
  refine Wp.afterS ?_
  refine Wp.istoreN_1 (pc' := 5) d6_4 rfl rfl ?_
  refine Wp.aloadN (pc' := 6) d6_5 rfl rfl rfl ?_
  refine Wp.dup (pc' := 7) d6_6 rfl rfl ?_
  refine Wp.getfield 0 2 (pc' := 10) (w14 hw) d6_7 rfl rfl rfl ?_
  refine Wp.iloadN (pc' := 11) d6_10 rfl rfl ?_
  refine Wp.iadd (pc' := 12) d6_11 rfl ?_
  refine Wp.putfield_0_2 (pc' := 15) (ty := .int) (w14 hw) (Or.inl (w15 hw)) (w2 hw) (by decide) rfl rfl d6_12 rfl ?_
  refine Wp.return_ rfl d6_15 ?_
  exact ⟨rfl, rfl⟩
theorem own_low8 (x : Int32) : ∃ k : Fin 256, x &&& 255 = Int32.ofNat k.1 ∧ x.toInt8 = Int8.ofNat k.1 := by
  refine ⟨⟨x.toBitVec.toNat % 256, Nat.mod_lt _ (by decide)⟩, ?_, ?_⟩
  · apply Int32.toBitVec_inj.mp
    apply BitVec.eq_of_toNat_eq
    rw [Int32.toBitVec_and, BitVec.toNat_and]
    show x.toBitVec.toNat &&& 255 = (BitVec.ofNat 32 (x.toBitVec.toNat % 256)).toNat
    rw [show (255 : Nat) = 2 ^ 8 - 1 from rfl, Nat.and_two_pow_sub_one_eq_mod, BitVec.toNat_ofNat]
    omega
  · apply Int8.toBitVec_inj.mp
    apply BitVec.eq_of_toNat_eq
    show (x.toBitVec.signExtend 8).toNat = (BitVec.ofNat 8 (x.toBitVec.toNat % 256)).toNat
    rw [BitVec.signExtend_eq_setWidth_of_le _ (by decide), BitVec.toNat_setWidth, BitVec.toNat_ofNat]
    omega

def own_O (z : Int32) : Prop := ∃ k : Fin 256, z = Int32.ofNat k.1
def own_tb (z : Int32) : Int32 := z.toInt8.toInt32.toInt8.toInt32
theorem own_O_and (x : Int32) : own_O (x &&& 255) := by obtain ⟨k, hk, _⟩ := own_low8 x; exact ⟨k, hk⟩
theorem own_O_rng {z : Int32} (h : own_O z) : 0 ≤ z.toInt ∧ z.toInt ≤ 255 := by
  obtain ⟨k, rfl⟩ := h
  have key : ∀ k : Fin 256, 0 ≤ (Int32.ofNat k.1).toInt ∧ (Int32.ofNat k.1).toInt ≤ 255 := by decide +kernel
  exact key k
theorem own_O_tb {z : Int32} (h : own_O z) : own_tb z &&& 255 = z := by
  obtain ⟨k, rfl⟩ := h
  have key : ∀ k : Fin 256, own_tb (Int32.ofNat k.1) &&& 255 = Int32.ofNat k.1 := by decide +kernel
  exact key k
theorem own_O_bit {z : Int32} (h : own_O z) : own_bit z 0 = decide (¬ z &&& 1 = 0) := by
  obtain ⟨k, rfl⟩ := h
  have key : ∀ k : Fin 256, own_bit (Int32.ofNat k.1) 0 = decide (¬ Int32.ofNat k.1 &&& 1 = 0) := by decide +kernel
  exact key k
theorem own_and31 (s : Int32) : 0 ≤ (s &&& 31).toInt ∧ (s &&& 31).toInt ≤ 31 := by
  have h : s &&& 31 = (s &&& 255) &&& 31 := by rw [Int32.and_assoc]; exact congrArg (s &&& ·) (by decide)
  obtain ⟨k, hk, _⟩ := own_low8 s
  have key : ∀ k : Fin 256, 0 ≤ (Int32.ofNat k.1 &&& 31).toInt ∧ (Int32.ofNat k.1 &&& 31).toInt ≤ 31 := by decide +kernel
  rw [h, hk]; exact key k
theorem own_and3 (s : Int32) : 0 ≤ (s &&& 3).toInt ∧ (s &&& 3).toInt ≤ 3 := by
  have h : s &&& 3 = (s &&& 255) &&& 3 := by rw [Int32.and_assoc]; exact congrArg (s &&& ·) (by decide)
  obtain ⟨k, hk, _⟩ := own_low8 s
  have key : ∀ k : Fin 256, 0 ≤ (Int32.ofNat k.1 &&& 3).toInt ∧ (Int32.ofNat k.1 &&& 3).toInt ≤ 3 := by decide +kernel
  rw [h, hk]; exact key k
theorem own_sne {vs : List Value} {i j : Nat} {v w : Value} (h : ¬ i = j) (k : vs[j]? = some w) : (vs.set i v)[j]? = some w := by rw [List.getElem?_set_ne h]; exact k
theorem own_seq {vs : List Value} {i j : Nat} {v : Value} (h : i = j) (k : i < vs.length) : (vs.set i v)[j]? = some v := by subst h; rw [List.getElem?_set_self k]
theorem own_p {a b : Int32} {x y : Nat} (h : a.toInt = (x : Int)) (k : b.toInt = (y : Int)) (hs : x + y < 2147483648) : (a + b).toInt = ((x + y : Nat) : Int) := by
  have h1 := c_iadd a b; have h2 := rng32 (a + b); omega
theorem law_con (l : Launch) (Z : State) (a0 : Array Value) (n0 : Nat) (hw : Hw Z a0) (x1 x2 x3 x4 x5 x6 : Int32) :
    C0 l Z a0 n0 #[.int x1, .int x2, .int x3, .int x4, .int x5, .int x6] [] (fun v _ => v = some (.int 1)) := by
  refine Wp.Con.intro pn0 (fun m => ef0 m x1 x2 x3 x4 x5 x6) ?_
  generalize hQ : (fun (v : Option Value) (_ : Wp.MH) => v = some (.int 1)) = Q
  have K : ∀ (o len ext m g : Int32) (iO iL iE : Nat), o.toInt = (iO : Int) → iO ≤ 31 → len.toInt = (iL : Int) → iL ≤ 255 → own_O len → ext.toInt = (iE : Int) → iE ≤ 3 → own_O m → own_O g → ∀ (P B : Int32) (iP : Nat), (P = 0 ∧ iP = 0 ∨ P = 1 ∧ iP = 1) → (B = 0 ∨ B = 1) →
      W0 l Z a0 n0 0 0 61 [.val (.int x1), .val (.int x2), .val (.int x3), .val (.int x4), .val (.int x5), .val (.int x6), .val (.int o), .val (.int len), .val (.int ext), .val (.int m), .val (.int g), .val (.int P), .val (.int B), .unset, .unset, .unset, .unset, .unset, .unset, .unset] [] [] Q := by
    intro o len ext m g iO iL iE ho hO hl hL hlo he hE hm hg P B iP hP hB
    have hP' : P.toInt = (iP : Int) := by rcases hP with ⟨rfl, rfl⟩ | ⟨rfl, rfl⟩ <;> rfl
    have hP1 : iP ≤ 1 := by rcases hP with ⟨_, rfl⟩ | ⟨_, rfl⟩ <;> decide
    have h1 : (1 : Int32).toInt = ((1 : Nat) : Int) := rfl
    have hn0 : (P + 1 + len + ext).toInt = ((iP + 1 + iL + iE : Nat) : Int) := own_p (own_p (own_p hP' h1 (by omega)) hl (by omega)) he (by omega)
    have F350 : ∀ (n : Int32), n.toInt = ((iP + 1 + iL + iE : Nat) : Int) → ∀ (d r : Addr) (nb q pos v18 v19 : Int32) (bs : List Value), pos.toInt = ((iO + (iP + 1 + iL + 1) : Nat) : Int) →
        W0 l Z a0 n0 10 429 350 [.val (.int x1), .val (.int x2), .val (.int x3), .val (.int x4), .val (.int x5), .val (.int x6), .val (.int o), .val (.int len), .val (.int ext), .val (.int m), .val (.int g), .val (.int P), .val (.int B), .val (.int P), .val (.int n), .val (.ref d), .val (.ref r), .val (.int 1), .val (.int v18), .val (.int v19)] [] (obn r nb d pos (o + n) q [(d, .inl (.byte, bs))]) Q := by
      intro n hn d r nb q pos v18 v19 bs hpos
      have hE1 : (o + n).toInt = ((iO + (iP + 1 + iL + iE) : Nat) : Int) := own_p ho hn (by omega)
      by_cases hx : 1 < ext.toInt
      · skip
        refine Wp.aload (pc' := 352) at_350 rfl rfl rfl ?_
        refine Wp.callV_0 0 0 (pc' := 355) (cells' := 10) (slots' := 429)  (rm := rm8) (w55 hw) (w56 hw) (w58 hw) (w57 hw) (w3 hw) (w59 hw) (by decide) pd3 rfl at_352 rfl rfl rfl (by decide) (by decide) (by decide) (by decide) rfl rfl rfl ?_
        refine (con_has hw _ _ _ _ _ _ _).mono ?_
        rintro _ _ ⟨rfl, rfl⟩
        rw [show decide (pos.toInt < (o + n).toInt) = true by rw [decide_eq_true_eq]; omega]
        refine Wp.afterS ?_
        refine Wp.istore_19 (pc' := 357) at_355 rfl rfl ?_
        refine Wp.iload (pc' := 359) at_357 rfl rfl ?_
        refine Wp.if_eq (pt := 382) (pf := 362) at_359 (by decide) rfl (fun hc359 => absurd hc359 (by decide)) (fun hc359 => ?_)
        refine Wp.iload (pc' := 364) at_362 rfl rfl ?_
        refine Wp.iload (pc' := 366) at_364 rfl rfl ?_
        refine Wp.iconst (1) (pc' := 367) at_366 rfl rfl ?_
        refine Wp.icmp_le (pt := 374) (pf := 370) at_367 (by decide) rfl (fun hc367 => ?_) (fun hc367 => ?_)
        · exfalso; omega
        · refine Wp.iconst (1) (pc' := 371) at_370 rfl rfl ?_
          refine Wp.goto (pc' := 375) at_371 (by decide) ?_
          refine Wp.icmp_ne (pt := 382) (pf := 378) at_375 (by decide) rfl (fun hc375 => ?_) (fun hc375 => ?_)
          · exact absurd rfl hc375
          · refine Wp.iconst (1) (pc' := 379) at_378 rfl rfl ?_
            refine Wp.goto (pc' := 383) at_379 (by decide) ?_
            refine Wp.istore_17 (pc' := 385) at_383 rfl rfl ?_
            refine Wp.iload (pc' := 387) at_385 rfl rfl ?_
            refine Wp.zreturn rfl at_387 ?_
            subst hQ; rfl
      · skip
        refine Wp.aload (pc' := 352) at_350 rfl rfl rfl ?_
        refine Wp.callV_0 0 0 (pc' := 355) (cells' := 10) (slots' := 429)  (rm := rm8) (w55 hw) (w56 hw) (w58 hw) (w57 hw) (w3 hw) (w59 hw) (by decide) pd3 rfl at_352 rfl rfl rfl (by decide) (by decide) (by decide) (by decide) rfl rfl rfl ?_
        refine (con_has hw _ _ _ _ _ _ _).mono ?_
        rintro _ _ ⟨rfl, rfl⟩
        rw [show decide (pos.toInt < (o + n).toInt) = false by rw [decide_eq_false_iff_not]; omega]
        refine Wp.afterS ?_
        refine Wp.istore_19 (pc' := 357) at_355 rfl rfl ?_
        refine Wp.iload (pc' := 359) at_357 rfl rfl ?_
        refine Wp.if_eq (pt := 382) (pf := 362) at_359 (by decide) rfl (fun hc359 => absurd hc359 (by decide)) (fun hc359 => ?_)
        refine Wp.iload (pc' := 364) at_362 rfl rfl ?_
        refine Wp.iload (pc' := 366) at_364 rfl rfl ?_
        refine Wp.iconst (1) (pc' := 367) at_366 rfl rfl ?_
        refine Wp.icmp_le (pt := 374) (pf := 370) at_367 (by decide) rfl (fun hc367 => ?_) (fun hc367 => ?_)
        · refine Wp.iconst (0) (pc' := 375) at_374 rfl rfl ?_
          refine Wp.icmp_ne (pt := 382) (pf := 378) at_375 (by decide) rfl (fun hc375 => ?_) (fun hc375 => ?_)
          · exact absurd rfl hc375
          · refine Wp.iconst (1) (pc' := 379) at_378 rfl rfl ?_
            refine Wp.goto (pc' := 383) at_379 (by decide) ?_
            refine Wp.istore_17 (pc' := 385) at_383 rfl rfl ?_
            refine Wp.iload (pc' := 387) at_385 rfl rfl ?_
            refine Wp.zreturn rfl at_387 ?_
            subst hQ; rfl
        · exfalso; omega
    have F236 : ∀ (n : Int32), n.toInt = ((iP + 1 + iL + iE : Nat) : Int) → ∀ (d r : Addr) (nb q pos : Int32) (bs : List Value), pos.toInt = ((iO + iP : Nat) : Int) → bs[iO + iP]? = some (.int (own_tb len)) → (0 < iE → bs[iO + (iP + 1 + iL)]? = some (.int (own_tb m))) →
        W0 l Z a0 n0 4 329 236 [.val (.int x1), .val (.int x2), .val (.int x3), .val (.int x4), .val (.int x5), .val (.int x6), .val (.int o), .val (.int len), .val (.int ext), .val (.int m), .val (.int g), .val (.int P), .val (.int B), .val (.int P), .val (.int n), .val (.ref d), .val (.ref r), .val (.int 1), .unset, .unset] [] (obn r nb d pos (o + n) q [(d, .inl (.byte, bs))]) Q := by
      intro n hn d r nb q pos bs hpos hb1 hb2
      have hE1 : (o + n).toInt = ((iO + (iP + 1 + iL + iE) : Nat) : Int) := own_p ho hn (by omega)
      have hp1 : (pos + 1).toInt = ((iO + iP + 1 : Nat) : Int) := own_p hpos h1 (by omega)
      have hp2 : (pos + 1 + len).toInt = ((iO + iP + 1 + iL : Nat) : Int) := own_p hp1 hl (by omega)
      have s0 : 1 ≤ (o + n - pos).toInt := by have h1 := c_isub (o + n) pos; have h2 := rng32 (o + n - pos); omega
      have s1 : (own_tb len &&& 255).toInt ≤ (o + n - (pos + 1)).toInt := by rw [own_O_tb hlo]; have h1 := c_isub (o + n) (pos + 1); have h2 := rng32 (o + n - (pos + 1)); omega
      by_cases hx : 0 < ext.toInt
      · have s2 : 1 ≤ (o + n - (pos + 1 + len)).toInt := by have h1 := c_isub (o + n) (pos + 1 + len); have h2 := rng32 (o + n - (pos + 1 + len)); omega
        have hb3 : bs[iO + iP + 1 + iL]? = some (.int (own_tb m)) := by have := hb2 (by omega); rwa [show iO + (iP + 1 + iL) = iO + iP + 1 + iL by omega] at this
        have hp3 : (pos + 1 + len + 1).toInt = ((iO + (iP + 1 + iL + 1) : Nat) : Int) := by have := own_p hp2 h1 (by omega); omega
        have F280 : W0 l Z a0 n0 8 405 280 [.val (.int x1), .val (.int x2), .val (.int x3), .val (.int x4), .val (.int x5), .val (.int x6), .val (.int o), .val (.int len), .val (.int ext), .val (.int m), .val (.int g), .val (.int P), .val (.int B), .val (.int P), .val (.int n), .val (.ref d), .val (.ref r), .val (.int 1), .val (.int 1), .unset] [] (obn r 8 d (pos + 1 + len) (o + n) q [(d, .inl (.byte, bs))]) Q := by
          rcases hB with rfl | rfl
          · skip
            refine Wp.iload (pc' := 282) at_280 rfl rfl ?_
            refine Wp.if_eq (pt := 324) (pf := 285) at_282 (by decide) rfl (fun hc282 => ?_) (fun hc282 => absurd hc282 (by decide))
            refine Wp.aload (pc' := 326) at_324 rfl rfl rfl ?_
            refine Wp.callV_0 0 0 (pc' := 329) (cells' := 10) (slots' := 429)  (rm := rm3) (w60 hw) (w24 hw) (w26 hw) (w25 hw) (w3 hw) (w27 hw) (by decide) pd2 rfl at_326 rfl rfl rfl (by decide) (by decide) (by decide) (by decide) rfl rfl rfl ?_
            refine (con_oct hw _ d 8 (pos + 1 + len) (o + n) q (own_tb m) (iO + iP + 1 + iL) bs [(d, .inl (.byte, bs))] 0 rfl hp2 hb3 s2).mono ?_
            rintro _ _ ⟨rfl, rfl⟩
            rw [own_O_tb hm]
            refine Wp.afterS ?_
            refine Wp.istore_19 (pc' := 331) at_329 rfl rfl ?_
            refine Wp.iload (pc' := 333) at_331 rfl rfl ?_
            refine Wp.if_eq (pt := 347) (pf := 336) at_333 (by decide) rfl (fun hc333 => absurd hc333 (by decide)) (fun hc333 => ?_)
            refine Wp.iload (pc' := 338) at_336 rfl rfl ?_
            refine Wp.iload (pc' := 340) at_338 rfl rfl ?_
            refine Wp.icmp_ne (pt := 347) (pf := 343) at_340 (by decide) rfl (fun hc340 => ?_) (fun hc340 => ?_)
            · exact absurd rfl hc340
            · refine Wp.iconst (1) (pc' := 344) at_343 rfl rfl ?_
              refine Wp.goto (pc' := 348) at_344 (by decide) ?_
              refine Wp.istore_17 (pc' := 350) at_348 rfl rfl ?_
              exact F350 n hn _ _ _ _ _ _ _ _ hp3
          · skip
            refine Wp.iload (pc' := 282) at_280 rfl rfl ?_
            refine Wp.if_eq (pt := 324) (pf := 285) at_282 (by decide) rfl (fun hc282 => absurd hc282 (by decide)) (fun hc282 => ?_)
            refine Wp.aload (pc' := 287) at_285 rfl rfl rfl ?_
            refine Wp.callV_0 0 0 (pc' := 290) (cells' := 10) (slots' := 429)  (rm := rm2) (w18 hw) (w19 hw) (w21 hw) (w20 hw) (w3 hw) (w22 hw) (by decide) pd3 rfl at_287 rfl rfl rfl (by decide) (by decide) (by decide) (by decide) rfl rfl rfl ?_
            refine (con_bit hw _ d (pos + 1 + len) (o + n) q (own_tb m) (iO + iP + 1 + iL) bs [(d, .inl (.byte, bs))] 0 rfl hp2 hb3 s2).mono ?_
            rintro _ _ ⟨rfl, rfl⟩
            rw [own_O_tb hm, own_O_bit hm]
            refine Wp.afterS ?_
            refine Wp.istore_19 (pc' := 292) at_290 rfl rfl ?_
            refine Wp.iload (pc' := 294) at_292 rfl rfl ?_
            refine Wp.if_eq (pt := 318) (pf := 297) at_294 (by decide) rfl (fun hc294 => absurd hc294 (by decide)) (fun hc294 => ?_)
            refine Wp.iload (pc' := 299) at_297 rfl rfl ?_
            refine Wp.iload (pc' := 301) at_299 rfl rfl ?_
            refine Wp.iconst (1) (pc' := 302) at_301 rfl rfl ?_
            refine Wp.iand (pc' := 303) at_302 rfl ?_
            refine Wp.if_eq (pt := 310) (pf := 306) at_303 (by decide) rfl (fun hc303 => ?_) (fun hc303 => ?_)
            · refine Wp.iconst (0) (pc' := 311) at_310 rfl rfl ?_
              refine Wp.icmp_ne (pt := 318) (pf := 314) at_311 (by decide) rfl (fun hc311 => ?_) (fun hc311 => ?_)
              · exfalso; simp [own_b, hc303] at hc311
              · refine Wp.iconst (1) (pc' := 315) at_314 rfl rfl ?_
                refine Wp.goto (pc' := 319) at_315 (by decide) ?_
                refine Wp.istore_17 (pc' := 321) at_319 rfl rfl ?_
                refine Wp.goto (pc' := 350) at_321 (by decide) ?_
                exact F350 n hn _ _ _ _ _ _ _ _ hp3
            · refine Wp.iconst (1) (pc' := 307) at_306 rfl rfl ?_
              refine Wp.goto (pc' := 311) at_307 (by decide) ?_
              refine Wp.icmp_ne (pt := 318) (pf := 314) at_311 (by decide) rfl (fun hc311 => ?_) (fun hc311 => ?_)
              · exfalso; simp [own_b, hc303] at hc311
              · refine Wp.iconst (1) (pc' := 315) at_314 rfl rfl ?_
                refine Wp.goto (pc' := 319) at_315 (by decide) ?_
                refine Wp.istore_17 (pc' := 321) at_319 rfl rfl ?_
                refine Wp.goto (pc' := 350) at_321 (by decide) ?_
                exact F350 n hn _ _ _ _ _ _ _ _ hp3
        refine Wp.aload (pc' := 238) at_236 rfl rfl rfl ?_
        refine Wp.callV_0 0 0 (pc' := 241) (cells' := 8) (slots' := 405)  (rm := rm6) (w45 hw) (w46 hw) (w48 hw) (w47 hw) (w3 hw) (w49 hw) (by decide) pd4 rfl at_238 rfl rfl rfl (by decide) (by decide) (by decide) (by decide) rfl rfl rfl ?_
        refine (con_skip hw _ d nb pos (o + n) q (own_tb len) (iO + iP) bs [(d, .inl (.byte, bs))] 0 rfl hpos hb1 s0 s1).mono ?_
        rintro _ _ ⟨rfl, rfl⟩
        rw [own_O_tb hlo]
        refine Wp.afterN ?_
        refine Wp.aload (pc' := 243) at_241 rfl rfl rfl ?_
        refine Wp.callV_0 0 0 (pc' := 246) (cells' := 8) (slots' := 405)  (rm := rm8) (w55 hw) (w56 hw) (w58 hw) (w57 hw) (w3 hw) (w59 hw) (by decide) pd3 rfl at_243 rfl rfl rfl (by decide) (by decide) (by decide) (by decide) rfl rfl rfl ?_
        refine (con_has hw _ _ _ _ _ _ _).mono ?_
        rintro _ _ ⟨rfl, rfl⟩
        rw [show own_b (decide ((pos + 1 + len).toInt < (o + n).toInt)) = 1 by rw [show decide ((pos + 1 + len).toInt < (o + n).toInt) = true by rw [decide_eq_true_eq]; omega]; rfl]
        refine Wp.afterS ?_
        refine Wp.istore_18 (pc' := 248) at_246 rfl rfl ?_
        refine Wp.iload (pc' := 250) at_248 rfl rfl ?_
        refine Wp.if_eq (pt := 272) (pf := 253) at_250 (by decide) rfl (fun hc250 => absurd hc250 (by decide)) (fun hc250 => ?_)
        refine Wp.iload (pc' := 255) at_253 rfl rfl ?_
        refine Wp.iload (pc' := 257) at_255 rfl rfl ?_
        refine Wp.if_le (pt := 264) (pf := 260) at_257 (by decide) rfl (fun hc257 => ?_) (fun hc257 => ?_)
        · exfalso; omega
        · refine Wp.iconst (1) (pc' := 261) at_260 rfl rfl ?_
          refine Wp.goto (pc' := 265) at_261 (by decide) ?_
          refine Wp.icmp_ne (pt := 272) (pf := 268) at_265 (by decide) rfl (fun hc265 => ?_) (fun hc265 => ?_)
          · exact absurd rfl hc265
          · refine Wp.iconst (1) (pc' := 269) at_268 rfl rfl ?_
            refine Wp.goto (pc' := 273) at_269 (by decide) ?_
            refine Wp.istore_17 (pc' := 275) at_273 rfl rfl ?_
            refine Wp.iload (pc' := 277) at_275 rfl rfl ?_
            refine Wp.if_le (pt := 385) (pf := 280) at_277 (by decide) rfl (fun hc277 => ?_) (fun hc277 => ?_)
            · exfalso; omega
            · exact F280
      · skip
        refine Wp.aload (pc' := 238) at_236 rfl rfl rfl ?_
        refine Wp.callV_0 0 0 (pc' := 241) (cells' := 8) (slots' := 405)  (rm := rm6) (w45 hw) (w46 hw) (w48 hw) (w47 hw) (w3 hw) (w49 hw) (by decide) pd4 rfl at_238 rfl rfl rfl (by decide) (by decide) (by decide) (by decide) rfl rfl rfl ?_
        refine (con_skip hw _ d nb pos (o + n) q (own_tb len) (iO + iP) bs [(d, .inl (.byte, bs))] 0 rfl hpos hb1 s0 s1).mono ?_
        rintro _ _ ⟨rfl, rfl⟩
        rw [own_O_tb hlo]
        refine Wp.afterN ?_
        refine Wp.aload (pc' := 243) at_241 rfl rfl rfl ?_
        refine Wp.callV_0 0 0 (pc' := 246) (cells' := 8) (slots' := 405)  (rm := rm8) (w55 hw) (w56 hw) (w58 hw) (w57 hw) (w3 hw) (w59 hw) (by decide) pd3 rfl at_243 rfl rfl rfl (by decide) (by decide) (by decide) (by decide) rfl rfl rfl ?_
        refine (con_has hw _ _ _ _ _ _ _).mono ?_
        rintro _ _ ⟨rfl, rfl⟩
        rw [show own_b (decide ((pos + 1 + len).toInt < (o + n).toInt)) = 0 by rw [show decide ((pos + 1 + len).toInt < (o + n).toInt) = false by rw [decide_eq_false_iff_not]; omega]; rfl]
        refine Wp.afterS ?_
        refine Wp.istore_18 (pc' := 248) at_246 rfl rfl ?_
        refine Wp.iload (pc' := 250) at_248 rfl rfl ?_
        refine Wp.if_eq (pt := 272) (pf := 253) at_250 (by decide) rfl (fun hc250 => absurd hc250 (by decide)) (fun hc250 => ?_)
        refine Wp.iload (pc' := 255) at_253 rfl rfl ?_
        refine Wp.iload (pc' := 257) at_255 rfl rfl ?_
        refine Wp.if_le (pt := 264) (pf := 260) at_257 (by decide) rfl (fun hc257 => ?_) (fun hc257 => ?_)
        · refine Wp.iconst (0) (pc' := 265) at_264 rfl rfl ?_
          refine Wp.icmp_ne (pt := 272) (pf := 268) at_265 (by decide) rfl (fun hc265 => ?_) (fun hc265 => ?_)
          · exact absurd rfl hc265
          · refine Wp.iconst (1) (pc' := 269) at_268 rfl rfl ?_
            refine Wp.goto (pc' := 273) at_269 (by decide) ?_
            refine Wp.istore_17 (pc' := 275) at_273 rfl rfl ?_
            refine Wp.iload (pc' := 277) at_275 rfl rfl ?_
            refine Wp.if_le (pt := 385) (pf := 280) at_277 (by decide) rfl (fun hc277 => ?_) (fun hc277 => ?_)
            · refine Wp.iload (pc' := 387) at_385 rfl rfl ?_
              refine Wp.zreturn rfl at_387 ?_
              subst hQ; rfl
            · exfalso; omega
        · exfalso; omega
    have F186 : ∀ (n : Int32), n.toInt = ((iP + 1 + iL + iE : Nat) : Int) → ∀ (d : Addr) (bs : List Value), (iP = 1 → bs[iO]? = some (.int (own_tb g))) → bs[iO + iP]? = some (.int (own_tb len)) → (0 < iE → bs[iO + (iP + 1 + iL)]? = some (.int (own_tb m))) →
        W0 l Z a0 n0 1 300 186 [.val (.int x1), .val (.int x2), .val (.int x3), .val (.int x4), .val (.int x5), .val (.int x6), .val (.int o), .val (.int len), .val (.int ext), .val (.int m), .val (.int g), .val (.int P), .val (.int B), .val (.int P), .val (.int n), .val (.ref d), .unset, .unset, .unset, .unset] [] [(d, .inl (.byte, bs))] Q := by
      intro n hn d bs hb0 hb1 hb2
      have hE1 : (o + n).toInt = ((iO + (iP + 1 + iL + iE) : Nat) : Int) := own_p ho hn (by omega)
      have s0 : 1 ≤ (o + n - o).toInt := by have h1 := c_isub (o + n) o; have h2 := rng32 (o + n - o); omega
      have hq1 : (o + 1).toInt = ((iO + 1 : Nat) : Int) := own_p ho h1 (by omega)
      rcases hP with ⟨rfl, rfl⟩ | ⟨rfl, rfl⟩
      · skip
        refine Wp.new_ (pc' := 189) (cells' := 2) (slots' := 305) fs_WireReader (w1 hw) (w2 hw) (w3 hw) (by decide) (fs_WireReader_ok hw) at_186 (by decide) (by decide) rfl rfl rfl (fun a186 => ?_)
        refine Wp.dup (pc' := 190) at_189 rfl rfl ?_
        refine Wp.aload (pc' := 192) at_190 rfl rfl rfl ?_
        refine Wp.iload (pc' := 194) at_192 rfl rfl ?_
        refine Wp.iload (pc' := 196) at_194 rfl rfl ?_
        refine Wp.callI_3 1 (pc' := 199) (cells' := 2) (slots' := 305)  (rm := rm1) rfl (w4 hw) (w5 hw) (w3 hw) (w6 hw) (by decide) pd5 rfl at_196 rfl rfl (by decide) (by decide) (by decide) (by decide) rfl rfl rfl ?_
        refine (con_init hw _ _ _ _ _).mono ?_
        rintro _ _ ⟨rfl, rfl⟩
        refine Wp.afterN ?_
        refine Wp.astore_16 (pc' := 201) at_199 rfl rfl rfl rfl ?_
        refine Wp.iconst (1) (pc' := 202) at_201 rfl rfl ?_
        refine Wp.istore_17 (pc' := 204) at_202 rfl rfl ?_
        refine Wp.iload (pc' := 206) at_204 rfl rfl ?_
        refine Wp.if_eq (pt := 236) (pf := 209) at_206 (by decide) rfl (fun hc206 => ?_) (fun hc206 => absurd hc206 (by decide))
        exact own_more (by decide) (by decide) (by decide) (by decide) (F236 n hn _ _ _ _ _ _ (by omega) hb1 hb2)
      · skip
        refine Wp.new_ (pc' := 189) (cells' := 2) (slots' := 305) fs_WireReader (w1 hw) (w2 hw) (w3 hw) (by decide) (fs_WireReader_ok hw) at_186 (by decide) (by decide) rfl rfl rfl (fun a186 => ?_)
        refine Wp.dup (pc' := 190) at_189 rfl rfl ?_
        refine Wp.aload (pc' := 192) at_190 rfl rfl rfl ?_
        refine Wp.iload (pc' := 194) at_192 rfl rfl ?_
        refine Wp.iload (pc' := 196) at_194 rfl rfl ?_
        refine Wp.callI_3 1 (pc' := 199) (cells' := 2) (slots' := 305)  (rm := rm1) rfl (w4 hw) (w5 hw) (w3 hw) (w6 hw) (by decide) pd5 rfl at_196 rfl rfl (by decide) (by decide) (by decide) (by decide) rfl rfl rfl ?_
        refine (con_init hw _ _ _ _ _).mono ?_
        rintro _ _ ⟨rfl, rfl⟩
        refine Wp.afterN ?_
        refine Wp.astore_16 (pc' := 201) at_199 rfl rfl rfl rfl ?_
        refine Wp.iconst (1) (pc' := 202) at_201 rfl rfl ?_
        refine Wp.istore_17 (pc' := 204) at_202 rfl rfl ?_
        refine Wp.iload (pc' := 206) at_204 rfl rfl ?_
        refine Wp.if_eq (pt := 236) (pf := 209) at_206 (by decide) rfl (fun hc206 => absurd hc206 (by decide)) (fun hc206 => ?_)
        refine Wp.aload (pc' := 211) at_209 rfl rfl rfl ?_
        refine Wp.callV_0 0 0 (pc' := 214) (cells' := 4) (slots' := 329)  (rm := rm2) (w18 hw) (w19 hw) (w21 hw) (w20 hw) (w3 hw) (w22 hw) (by decide) pd3 rfl at_211 rfl rfl rfl (by decide) (by decide) (by decide) (by decide) rfl rfl rfl ?_
        refine (con_bit hw _ d o (o + n) 0 (own_tb g) iO bs [(d, .inl (.byte, bs))] 0 rfl ho (hb0 rfl) s0).mono ?_
        rintro _ _ ⟨rfl, rfl⟩
        rw [own_O_tb hg, own_O_bit hg]
        refine Wp.afterS ?_
        refine Wp.iload (pc' := 216) at_214 rfl rfl ?_
        refine Wp.iconst (1) (pc' := 217) at_216 rfl rfl ?_
        refine Wp.iand (pc' := 218) at_217 rfl ?_
        refine Wp.if_eq (pt := 225) (pf := 221) at_218 (by decide) rfl (fun hc218 => ?_) (fun hc218 => ?_)
        · refine Wp.iconst (0) (pc' := 226) at_225 rfl rfl ?_
          refine Wp.icmp_ne (pt := 233) (pf := 229) at_226 (by decide) rfl (fun hc226 => ?_) (fun hc226 => ?_)
          · exfalso; simp [own_b, hc218] at hc226
          · refine Wp.iconst (1) (pc' := 230) at_229 rfl rfl ?_
            refine Wp.goto (pc' := 234) at_230 (by decide) ?_
            refine Wp.istore_17 (pc' := 236) at_234 rfl rfl ?_
            exact F236 n hn _ _ _ _ _ _ hq1 hb1 hb2
        · refine Wp.iconst (1) (pc' := 222) at_221 rfl rfl ?_
          refine Wp.goto (pc' := 226) at_222 (by decide) ?_
          refine Wp.icmp_ne (pt := 233) (pf := 229) at_226 (by decide) rfl (fun hc226 => ?_) (fun hc226 => ?_)
          · exfalso; simp [own_b, hc218] at hc226
          · refine Wp.iconst (1) (pc' := 230) at_229 rfl rfl ?_
            refine Wp.goto (pc' := 234) at_230 (by decide) ?_
            refine Wp.istore_17 (pc' := 236) at_234 rfl rfl ?_
            exact F236 n hn _ _ _ _ _ _ hq1 hb1 hb2
    rcases hP with ⟨rfl, rfl⟩ | ⟨rfl, rfl⟩
    · skip
      refine Wp.iload (pc' := 63) at_61 rfl rfl ?_
      refine Wp.if_eq (pt := 70) (pf := 66) at_63 (by decide) rfl (fun hc63 => ?_) (fun hc63 => absurd hc63 (by decide))
      refine Wp.iconst (0) (pc' := 71) at_70 rfl rfl ?_
      refine Wp.istore_13 (pc' := 73) at_71 rfl rfl ?_
      refine Wp.iload (pc' := 75) at_73 rfl rfl ?_
      refine Wp.iconst (1) (pc' := 76) at_75 rfl rfl ?_
      refine Wp.iadd (pc' := 77) at_76 rfl ?_
      refine Wp.iload (pc' := 79) at_77 rfl rfl ?_
      refine Wp.iadd (pc' := 80) at_79 rfl ?_
      refine Wp.iload (pc' := 82) at_80 rfl rfl ?_
      refine Wp.iadd (pc' := 83) at_82 rfl ?_
      refine Wp.topI (fun z => z.toInt = ((0 + 1 + iL + iE : Nat) : Int)) hn0 (fun n hn => ?_)
      refine Wp.istore_14 (pc' := 85) at_83 rfl rfl ?_
      refine Wp.sipush (300) (pc' := 88) at_85 rfl rfl ?_
      refine Wp.newarray 300 300 (List.replicate 300 (.int 0)) (pc' := 90) (cells' := 1) (slots' := 300) (ty := .byte) (w0 hw) at_88 rfl (by decide) (by decide) (by decide) (by decide) rfl rfl rfl rfl rfl (fun a88 => ?_)
      refine Wp.astore_15 (pc' := 92) at_90 rfl rfl rfl rfl ?_
      refine Wp.aload (pc' := 94) at_92 rfl rfl rfl ?_
      refine Wp.iload (pc' := 96) at_94 rfl rfl ?_
      refine Wp.iload (pc' := 98) at_96 rfl rfl ?_
      refine Wp.iadd (pc' := 99) at_98 rfl ?_
      refine Wp.bipush (90) (pc' := 101) at_99 rfl rfl ?_
      refine Wp.bastore_0 (iO + (0 + 1 + iL + iE)) (pc' := 102) at_101 (own_p ho hn (by omega)) (by simp only [List.length_set, List.length_replicate]; omega) rfl ?_
      refine Wp.iload (pc' := 104) at_102 rfl rfl ?_
      refine Wp.if_eq (pt := 115) (pf := 107) at_104 (by decide) rfl (fun hc104 => ?_) (fun hc104 => absurd hc104 (by decide))
      refine Wp.aload (pc' := 117) at_115 rfl rfl rfl ?_
      refine Wp.iload (pc' := 119) at_117 rfl rfl ?_
      refine Wp.iload (pc' := 121) at_119 rfl rfl ?_
      refine Wp.iadd (pc' := 122) at_121 rfl ?_
      refine Wp.iload (pc' := 124) at_122 rfl rfl ?_
      refine Wp.i2b (pc' := 125) at_124 rfl ?_
      refine Wp.bastore_0 (iO + 0) (pc' := 126) at_125 (own_p ho hP' (by omega)) (by simp only [List.length_set, List.length_replicate]; omega) rfl ?_
      refine Wp.iload (pc' := 128) at_126 rfl rfl ?_
      refine Wp.if_le (pt := 165) (pf := 131) at_128 (by decide) rfl (fun hc128 => ?_) (fun hc128 => ?_)
      · refine Wp.iload (pc' := 167) at_165 rfl rfl ?_
        refine Wp.if_le (pt := 186) (pf := 170) at_167 (by decide) rfl (fun hc167 => ?_) (fun hc167 => ?_)
        · exact F186 n hn _ _ (fun h => absurd h (by decide)) (by repeat (first | exact own_seq (by omega) (by simp only [List.length_set, List.length_replicate]; omega) | refine own_sne (by omega) ?_)) (fun hx => (by first | (exfalso; omega) | repeat (first | exact own_seq (by omega) (by simp only [List.length_set, List.length_replicate]; omega) | refine own_sne (by omega) ?_)))
        · refine Wp.aload (pc' := 172) at_170 rfl rfl rfl ?_
          refine Wp.iload (pc' := 174) at_172 rfl rfl ?_
          refine Wp.iload (pc' := 176) at_174 rfl rfl ?_
          refine Wp.iadd (pc' := 177) at_176 rfl ?_
          refine Wp.iconst (1) (pc' := 178) at_177 rfl rfl ?_
          refine Wp.iadd (pc' := 179) at_178 rfl ?_
          refine Wp.iload (pc' := 181) at_179 rfl rfl ?_
          refine Wp.iadd (pc' := 182) at_181 rfl ?_
          refine Wp.iload (pc' := 184) at_182 rfl rfl ?_
          refine Wp.i2b (pc' := 185) at_184 rfl ?_
          refine Wp.bastore_0 (iO + 0 + 1 + iL) (pc' := 186) at_185 (own_p (own_p (own_p ho hP' (by omega)) h1 (by omega)) hl (by omega)) (by simp only [List.length_set, List.length_replicate]; omega) rfl ?_
          exact F186 n hn _ _ (fun h => absurd h (by decide)) (by repeat (first | exact own_seq (by omega) (by simp only [List.length_set, List.length_replicate]; omega) | refine own_sne (by omega) ?_)) (fun hx => (by first | (exfalso; omega) | repeat (first | exact own_seq (by omega) (by simp only [List.length_set, List.length_replicate]; omega) | refine own_sne (by omega) ?_)))
      · refine Wp.aload (pc' := 133) at_131 rfl rfl rfl ?_
        refine Wp.iload (pc' := 135) at_133 rfl rfl ?_
        refine Wp.iload (pc' := 137) at_135 rfl rfl ?_
        refine Wp.iadd (pc' := 138) at_137 rfl ?_
        refine Wp.iconst (1) (pc' := 139) at_138 rfl rfl ?_
        refine Wp.iadd (pc' := 140) at_139 rfl ?_
        refine Wp.iload (pc' := 142) at_140 rfl rfl ?_
        refine Wp.sipush (255) (pc' := 145) at_142 rfl rfl ?_
        refine Wp.ixor (pc' := 146) at_145 rfl ?_
        refine Wp.i2b (pc' := 147) at_146 rfl ?_
        refine Wp.bastore_0 (iO + 0 + 1) (pc' := 148) at_147 (own_p (own_p ho hP' (by omega)) h1 (by omega)) (by simp only [List.length_set, List.length_replicate]; omega) rfl ?_
        refine Wp.aload (pc' := 150) at_148 rfl rfl rfl ?_
        refine Wp.iload (pc' := 152) at_150 rfl rfl ?_
        refine Wp.iload (pc' := 154) at_152 rfl rfl ?_
        refine Wp.iadd (pc' := 155) at_154 rfl ?_
        refine Wp.iload (pc' := 157) at_155 rfl rfl ?_
        refine Wp.iadd (pc' := 158) at_157 rfl ?_
        refine Wp.iload (pc' := 160) at_158 rfl rfl ?_
        refine Wp.bipush (85) (pc' := 162) at_160 rfl rfl ?_
        refine Wp.ixor (pc' := 163) at_162 rfl ?_
        refine Wp.i2b (pc' := 164) at_163 rfl ?_
        refine Wp.bastore_0 (iO + 0 + iL) (pc' := 165) at_164 (own_p (own_p ho hP' (by omega)) hl (by omega)) (by simp only [List.length_set, List.length_replicate]; omega) rfl ?_
        refine Wp.iload (pc' := 167) at_165 rfl rfl ?_
        refine Wp.if_le (pt := 186) (pf := 170) at_167 (by decide) rfl (fun hc167 => ?_) (fun hc167 => ?_)
        · exact F186 n hn _ _ (fun h => absurd h (by decide)) (by repeat (first | exact own_seq (by omega) (by simp only [List.length_set, List.length_replicate]; omega) | refine own_sne (by omega) ?_)) (fun hx => (by first | (exfalso; omega) | repeat (first | exact own_seq (by omega) (by simp only [List.length_set, List.length_replicate]; omega) | refine own_sne (by omega) ?_)))
        · refine Wp.aload (pc' := 172) at_170 rfl rfl rfl ?_
          refine Wp.iload (pc' := 174) at_172 rfl rfl ?_
          refine Wp.iload (pc' := 176) at_174 rfl rfl ?_
          refine Wp.iadd (pc' := 177) at_176 rfl ?_
          refine Wp.iconst (1) (pc' := 178) at_177 rfl rfl ?_
          refine Wp.iadd (pc' := 179) at_178 rfl ?_
          refine Wp.iload (pc' := 181) at_179 rfl rfl ?_
          refine Wp.iadd (pc' := 182) at_181 rfl ?_
          refine Wp.iload (pc' := 184) at_182 rfl rfl ?_
          refine Wp.i2b (pc' := 185) at_184 rfl ?_
          refine Wp.bastore_0 (iO + 0 + 1 + iL) (pc' := 186) at_185 (own_p (own_p (own_p ho hP' (by omega)) h1 (by omega)) hl (by omega)) (by simp only [List.length_set, List.length_replicate]; omega) rfl ?_
          exact F186 n hn _ _ (fun h => absurd h (by decide)) (by repeat (first | exact own_seq (by omega) (by simp only [List.length_set, List.length_replicate]; omega) | refine own_sne (by omega) ?_)) (fun hx => (by first | (exfalso; omega) | repeat (first | exact own_seq (by omega) (by simp only [List.length_set, List.length_replicate]; omega) | refine own_sne (by omega) ?_)))
    · skip
      refine Wp.iload (pc' := 63) at_61 rfl rfl ?_
      refine Wp.if_eq (pt := 70) (pf := 66) at_63 (by decide) rfl (fun hc63 => absurd hc63 (by decide)) (fun hc63 => ?_)
      refine Wp.iconst (1) (pc' := 67) at_66 rfl rfl ?_
      refine Wp.goto (pc' := 71) at_67 (by decide) ?_
      refine Wp.istore_13 (pc' := 73) at_71 rfl rfl ?_
      refine Wp.iload (pc' := 75) at_73 rfl rfl ?_
      refine Wp.iconst (1) (pc' := 76) at_75 rfl rfl ?_
      refine Wp.iadd (pc' := 77) at_76 rfl ?_
      refine Wp.iload (pc' := 79) at_77 rfl rfl ?_
      refine Wp.iadd (pc' := 80) at_79 rfl ?_
      refine Wp.iload (pc' := 82) at_80 rfl rfl ?_
      refine Wp.iadd (pc' := 83) at_82 rfl ?_
      refine Wp.topI (fun z => z.toInt = ((1 + 1 + iL + iE : Nat) : Int)) hn0 (fun n hn => ?_)
      refine Wp.istore_14 (pc' := 85) at_83 rfl rfl ?_
      refine Wp.sipush (300) (pc' := 88) at_85 rfl rfl ?_
      refine Wp.newarray 300 300 (List.replicate 300 (.int 0)) (pc' := 90) (cells' := 1) (slots' := 300) (ty := .byte) (w0 hw) at_88 rfl (by decide) (by decide) (by decide) (by decide) rfl rfl rfl rfl rfl (fun a88 => ?_)
      refine Wp.astore_15 (pc' := 92) at_90 rfl rfl rfl rfl ?_
      refine Wp.aload (pc' := 94) at_92 rfl rfl rfl ?_
      refine Wp.iload (pc' := 96) at_94 rfl rfl ?_
      refine Wp.iload (pc' := 98) at_96 rfl rfl ?_
      refine Wp.iadd (pc' := 99) at_98 rfl ?_
      refine Wp.bipush (90) (pc' := 101) at_99 rfl rfl ?_
      refine Wp.bastore_0 (iO + (1 + 1 + iL + iE)) (pc' := 102) at_101 (own_p ho hn (by omega)) (by simp only [List.length_set, List.length_replicate]; omega) rfl ?_
      refine Wp.iload (pc' := 104) at_102 rfl rfl ?_
      refine Wp.if_eq (pt := 115) (pf := 107) at_104 (by decide) rfl (fun hc104 => absurd hc104 (by decide)) (fun hc104 => ?_)
      refine Wp.aload (pc' := 109) at_107 rfl rfl rfl ?_
      refine Wp.iload (pc' := 111) at_109 rfl rfl ?_
      refine Wp.iload (pc' := 113) at_111 rfl rfl ?_
      refine Wp.i2b (pc' := 114) at_113 rfl ?_
      refine Wp.bastore_0 (iO) (pc' := 115) at_114 ho (by simp only [List.length_set, List.length_replicate]; omega) rfl ?_
      refine Wp.aload (pc' := 117) at_115 rfl rfl rfl ?_
      refine Wp.iload (pc' := 119) at_117 rfl rfl ?_
      refine Wp.iload (pc' := 121) at_119 rfl rfl ?_
      refine Wp.iadd (pc' := 122) at_121 rfl ?_
      refine Wp.iload (pc' := 124) at_122 rfl rfl ?_
      refine Wp.i2b (pc' := 125) at_124 rfl ?_
      refine Wp.bastore_0 (iO + 1) (pc' := 126) at_125 (own_p ho hP' (by omega)) (by simp only [List.length_set, List.length_replicate]; omega) rfl ?_
      refine Wp.iload (pc' := 128) at_126 rfl rfl ?_
      refine Wp.if_le (pt := 165) (pf := 131) at_128 (by decide) rfl (fun hc128 => ?_) (fun hc128 => ?_)
      · refine Wp.iload (pc' := 167) at_165 rfl rfl ?_
        refine Wp.if_le (pt := 186) (pf := 170) at_167 (by decide) rfl (fun hc167 => ?_) (fun hc167 => ?_)
        · exact F186 n hn _ _ (fun _ => (by repeat (first | exact own_seq (by omega) (by simp only [List.length_set, List.length_replicate]; omega) | refine own_sne (by omega) ?_))) (by repeat (first | exact own_seq (by omega) (by simp only [List.length_set, List.length_replicate]; omega) | refine own_sne (by omega) ?_)) (fun hx => (by first | (exfalso; omega) | repeat (first | exact own_seq (by omega) (by simp only [List.length_set, List.length_replicate]; omega) | refine own_sne (by omega) ?_)))
        · refine Wp.aload (pc' := 172) at_170 rfl rfl rfl ?_
          refine Wp.iload (pc' := 174) at_172 rfl rfl ?_
          refine Wp.iload (pc' := 176) at_174 rfl rfl ?_
          refine Wp.iadd (pc' := 177) at_176 rfl ?_
          refine Wp.iconst (1) (pc' := 178) at_177 rfl rfl ?_
          refine Wp.iadd (pc' := 179) at_178 rfl ?_
          refine Wp.iload (pc' := 181) at_179 rfl rfl ?_
          refine Wp.iadd (pc' := 182) at_181 rfl ?_
          refine Wp.iload (pc' := 184) at_182 rfl rfl ?_
          refine Wp.i2b (pc' := 185) at_184 rfl ?_
          refine Wp.bastore_0 (iO + 1 + 1 + iL) (pc' := 186) at_185 (own_p (own_p (own_p ho hP' (by omega)) h1 (by omega)) hl (by omega)) (by simp only [List.length_set, List.length_replicate]; omega) rfl ?_
          exact F186 n hn _ _ (fun _ => (by repeat (first | exact own_seq (by omega) (by simp only [List.length_set, List.length_replicate]; omega) | refine own_sne (by omega) ?_))) (by repeat (first | exact own_seq (by omega) (by simp only [List.length_set, List.length_replicate]; omega) | refine own_sne (by omega) ?_)) (fun hx => (by first | (exfalso; omega) | repeat (first | exact own_seq (by omega) (by simp only [List.length_set, List.length_replicate]; omega) | refine own_sne (by omega) ?_)))
      · refine Wp.aload (pc' := 133) at_131 rfl rfl rfl ?_
        refine Wp.iload (pc' := 135) at_133 rfl rfl ?_
        refine Wp.iload (pc' := 137) at_135 rfl rfl ?_
        refine Wp.iadd (pc' := 138) at_137 rfl ?_
        refine Wp.iconst (1) (pc' := 139) at_138 rfl rfl ?_
        refine Wp.iadd (pc' := 140) at_139 rfl ?_
        refine Wp.iload (pc' := 142) at_140 rfl rfl ?_
        refine Wp.sipush (255) (pc' := 145) at_142 rfl rfl ?_
        refine Wp.ixor (pc' := 146) at_145 rfl ?_
        refine Wp.i2b (pc' := 147) at_146 rfl ?_
        refine Wp.bastore_0 (iO + 1 + 1) (pc' := 148) at_147 (own_p (own_p ho hP' (by omega)) h1 (by omega)) (by simp only [List.length_set, List.length_replicate]; omega) rfl ?_
        refine Wp.aload (pc' := 150) at_148 rfl rfl rfl ?_
        refine Wp.iload (pc' := 152) at_150 rfl rfl ?_
        refine Wp.iload (pc' := 154) at_152 rfl rfl ?_
        refine Wp.iadd (pc' := 155) at_154 rfl ?_
        refine Wp.iload (pc' := 157) at_155 rfl rfl ?_
        refine Wp.iadd (pc' := 158) at_157 rfl ?_
        refine Wp.iload (pc' := 160) at_158 rfl rfl ?_
        refine Wp.bipush (85) (pc' := 162) at_160 rfl rfl ?_
        refine Wp.ixor (pc' := 163) at_162 rfl ?_
        refine Wp.i2b (pc' := 164) at_163 rfl ?_
        refine Wp.bastore_0 (iO + 1 + iL) (pc' := 165) at_164 (own_p (own_p ho hP' (by omega)) hl (by omega)) (by simp only [List.length_set, List.length_replicate]; omega) rfl ?_
        refine Wp.iload (pc' := 167) at_165 rfl rfl ?_
        refine Wp.if_le (pt := 186) (pf := 170) at_167 (by decide) rfl (fun hc167 => ?_) (fun hc167 => ?_)
        · exact F186 n hn _ _ (fun _ => (by repeat (first | exact own_seq (by omega) (by simp only [List.length_set, List.length_replicate]; omega) | refine own_sne (by omega) ?_))) (by repeat (first | exact own_seq (by omega) (by simp only [List.length_set, List.length_replicate]; omega) | refine own_sne (by omega) ?_)) (fun hx => (by first | (exfalso; omega) | repeat (first | exact own_seq (by omega) (by simp only [List.length_set, List.length_replicate]; omega) | refine own_sne (by omega) ?_)))
        · refine Wp.aload (pc' := 172) at_170 rfl rfl rfl ?_
          refine Wp.iload (pc' := 174) at_172 rfl rfl ?_
          refine Wp.iload (pc' := 176) at_174 rfl rfl ?_
          refine Wp.iadd (pc' := 177) at_176 rfl ?_
          refine Wp.iconst (1) (pc' := 178) at_177 rfl rfl ?_
          refine Wp.iadd (pc' := 179) at_178 rfl ?_
          refine Wp.iload (pc' := 181) at_179 rfl rfl ?_
          refine Wp.iadd (pc' := 182) at_181 rfl ?_
          refine Wp.iload (pc' := 184) at_182 rfl rfl ?_
          refine Wp.i2b (pc' := 185) at_184 rfl ?_
          refine Wp.bastore_0 (iO + 1 + 1 + iL) (pc' := 186) at_185 (own_p (own_p (own_p ho hP' (by omega)) h1 (by omega)) hl (by omega)) (by simp only [List.length_set, List.length_replicate]; omega) rfl ?_
          exact F186 n hn _ _ (fun _ => (by repeat (first | exact own_seq (by omega) (by simp only [List.length_set, List.length_replicate]; omega) | refine own_sne (by omega) ?_))) (by repeat (first | exact own_seq (by omega) (by simp only [List.length_set, List.length_replicate]; omega) | refine own_sne (by omega) ?_)) (fun hx => (by first | (exfalso; omega) | repeat (first | exact own_seq (by omega) (by simp only [List.length_set, List.length_replicate]; omega) | refine own_sne (by omega) ?_)))
  refine Wp.iloadN (pc' := 1) at_0 rfl rfl ?_
  refine Wp.bipush (31) (pc' := 3) at_1 rfl rfl ?_
  refine Wp.iand (pc' := 4) at_3 rfl ?_
  refine Wp.topI (fun z => 0 ≤ z.toInt ∧ z.toInt ≤ 31) (own_and31 _) (fun o ho => ?_)
  refine Wp.istore_6 (pc' := 6) at_4 rfl rfl ?_
  refine Wp.iloadN (pc' := 7) at_6 rfl rfl ?_
  refine Wp.sipush (255) (pc' := 10) at_7 rfl rfl ?_
  refine Wp.iand (pc' := 11) at_10 rfl ?_
  refine Wp.topI own_O (own_O_and _) (fun len hl => ?_)
  refine Wp.istore_7 (pc' := 13) at_11 rfl rfl ?_
  refine Wp.iloadN (pc' := 14) at_13 rfl rfl ?_
  refine Wp.iconst (3) (pc' := 15) at_14 rfl rfl ?_
  refine Wp.iand (pc' := 16) at_15 rfl ?_
  refine Wp.topI (fun z => 0 ≤ z.toInt ∧ z.toInt ≤ 3) (own_and3 _) (fun ext he => ?_)
  refine Wp.istore_8 (pc' := 18) at_16 rfl rfl ?_
  refine Wp.iloadN (pc' := 19) at_18 rfl rfl ?_
  refine Wp.sipush (255) (pc' := 22) at_19 rfl rfl ?_
  refine Wp.iand (pc' := 23) at_22 rfl ?_
  refine Wp.topI own_O (own_O_and _) (fun m hm => ?_)
  refine Wp.istore_9 (pc' := 25) at_23 rfl rfl ?_
  refine Wp.iload (pc' := 27) at_25 rfl rfl ?_
  refine Wp.sipush (255) (pc' := 30) at_27 rfl rfl ?_
  refine Wp.iand (pc' := 31) at_30 rfl ?_
  refine Wp.topI own_O (own_O_and _) (fun g hg => ?_)
  refine Wp.istore_10 (pc' := 33) at_31 rfl rfl ?_
  refine Wp.iload (pc' := 35) at_33 rfl rfl ?_
  refine Wp.iconst (1) (pc' := 36) at_35 rfl rfl ?_
  refine Wp.iand (pc' := 37) at_36 rfl ?_
  refine Wp.if_eq (pt := 44) (pf := 40) at_37 (by decide) rfl (fun hc37 => ?_) (fun hc37 => ?_)
  · refine Wp.iconst (0) (pc' := 45) at_44 rfl rfl ?_
    refine Wp.istore_11 (pc' := 47) at_45 rfl rfl ?_
    refine Wp.iload (pc' := 49) at_47 rfl rfl ?_
    refine Wp.iconst (2) (pc' := 50) at_49 rfl rfl ?_
    refine Wp.iand (pc' := 51) at_50 rfl ?_
    refine Wp.if_eq (pt := 58) (pf := 54) at_51 (by decide) rfl (fun hc51 => ?_) (fun hc51 => ?_)
    · refine Wp.iconst (0) (pc' := 59) at_58 rfl rfl ?_
      refine Wp.istore_12 (pc' := 61) at_59 rfl rfl ?_
      have hlr := own_O_rng hl
      first | exact K o len ext m g o.toInt.toNat len.toInt.toNat ext.toInt.toNat (by omega) (by omega) (by omega) (by omega) hl (by omega) (by omega) hm hg 0 _ 0 (Or.inl ⟨rfl, rfl⟩) (by first | exact Or.inl rfl | exact Or.inr rfl) | exact K o len ext m g o.toInt.toNat len.toInt.toNat ext.toInt.toNat (by omega) (by omega) (by omega) (by omega) hl (by omega) (by omega) hm hg 1 _ 1 (Or.inr ⟨rfl, rfl⟩) (by first | exact Or.inl rfl | exact Or.inr rfl)
    · refine Wp.iconst (1) (pc' := 55) at_54 rfl rfl ?_
      refine Wp.goto (pc' := 59) at_55 (by decide) ?_
      refine Wp.istore_12 (pc' := 61) at_59 rfl rfl ?_
      have hlr := own_O_rng hl
      first | exact K o len ext m g o.toInt.toNat len.toInt.toNat ext.toInt.toNat (by omega) (by omega) (by omega) (by omega) hl (by omega) (by omega) hm hg 0 _ 0 (Or.inl ⟨rfl, rfl⟩) (by first | exact Or.inl rfl | exact Or.inr rfl) | exact K o len ext m g o.toInt.toNat len.toInt.toNat ext.toInt.toNat (by omega) (by omega) (by omega) (by omega) hl (by omega) (by omega) hm hg 1 _ 1 (Or.inr ⟨rfl, rfl⟩) (by first | exact Or.inl rfl | exact Or.inr rfl)
  · refine Wp.iconst (1) (pc' := 41) at_40 rfl rfl ?_
    refine Wp.goto (pc' := 45) at_41 (by decide) ?_
    refine Wp.istore_11 (pc' := 47) at_45 rfl rfl ?_
    refine Wp.iload (pc' := 49) at_47 rfl rfl ?_
    refine Wp.iconst (2) (pc' := 50) at_49 rfl rfl ?_
    refine Wp.iand (pc' := 51) at_50 rfl ?_
    refine Wp.if_eq (pt := 58) (pf := 54) at_51 (by decide) rfl (fun hc51 => ?_) (fun hc51 => ?_)
    · refine Wp.iconst (0) (pc' := 59) at_58 rfl rfl ?_
      refine Wp.istore_12 (pc' := 61) at_59 rfl rfl ?_
      have hlr := own_O_rng hl
      first | exact K o len ext m g o.toInt.toNat len.toInt.toNat ext.toInt.toNat (by omega) (by omega) (by omega) (by omega) hl (by omega) (by omega) hm hg 0 _ 0 (Or.inl ⟨rfl, rfl⟩) (by first | exact Or.inl rfl | exact Or.inr rfl) | exact K o len ext m g o.toInt.toNat len.toInt.toNat ext.toInt.toNat (by omega) (by omega) (by omega) (by omega) hl (by omega) (by omega) hm hg 1 _ 1 (Or.inr ⟨rfl, rfl⟩) (by first | exact Or.inl rfl | exact Or.inr rfl)
    · refine Wp.iconst (1) (pc' := 55) at_54 rfl rfl ?_
      refine Wp.goto (pc' := 59) at_55 (by decide) ?_
      refine Wp.istore_12 (pc' := 61) at_59 rfl rfl ?_
      have hlr := own_O_rng hl
      first | exact K o len ext m g o.toInt.toNat len.toInt.toNat ext.toInt.toNat (by omega) (by omega) (by omega) (by omega) hl (by omega) (by omega) hm hg 0 _ 0 (Or.inl ⟨rfl, rfl⟩) (by first | exact Or.inl rfl | exact Or.inr rfl) | exact K o len ext m g o.toInt.toNat len.toInt.toNat ext.toInt.toNat (by omega) (by omega) (by omega) (by omega) hl (by omega) (by omega) hm hg 1 _ 1 (Or.inr ⟨rfl, rfl⟩) (by first | exact Or.inl rfl | exact Or.inr rfl)
set_option maxRecDepth 65536 in
theorem comes_1 {Post : Tables → Env → Array Value → State → Outcome → State → Prop} (hpost : ∀ tb e args s v u, (limb_1_1.after args s (.returned v) u = true ∧ limb_1_2.after args s (.returned v) u = true ∧ True) → ReturnedEndW s (.returned v) u (Jvm.fieldLocs frame_1_writes args s ++ Jvm.arrayLocs frame_1_arrays args s ++ Jvm.staticLocs frame_1_statics s) room_1.cells room_1.slots → Post tb e args s (.returned v) u) :
    ArmFor flags0 classFile x code maxLocals ret World_1 tables_1 room_1 Calls_1 rest_1 Pre_1 Post := by
  intro l hfl _ _ p e ha hc hk s m args below hf hA hF happ hP
  obtain ⟨hcalls, hrest, hpre⟩ := hP
  obtain ⟨-, -, -, hnamed, -, -, -, hat⟩ := (Spec.applies_iff hf).mp happ
  obtain ⟨hg, hn⟩ := and_e (Cond.before_iff.mp (show (Jvm.Cond.and given_1 narrow_1).before args s = true from hpre))
  obtain ⟨hcnt, g0⟩ := and_e hg
  obtain ⟨y0, y1, y2, y3, y4, y5, rfl⟩ : ∃ y0 y1 y2 y3 y4 y5 : Value, args = #[y0, y1, y2, y3, y4, y5] := by
    have hs : args.size = 6 := by simpa [Cond.value, given_1] using hcnt
    obtain ⟨L⟩ := args
    match L, hs with
    | [y0, y1, y2, y3, y4, y5], _ => exact ⟨y0, y1, y2, y3, y4, y5, rfl⟩
  have hw := fun d (hd : d ∈ tables_1) => atoms_spec (ws := Jvm.Cond.code x code maxLocals ret :: tables_1) hat d (List.mem_cons_of_mem _ hd)
  obtain ⟨g0a, g1⟩ := and_e g0
  obtain ⟨i0, e0⟩ := is_v g0a
  obtain rfl : y0 = .int i0 := Option.some.inj e0
  obtain ⟨g1a, g2⟩ := and_e g1
  obtain ⟨i1, e1⟩ := is_v g1a
  obtain rfl : y1 = .int i1 := Option.some.inj e1
  obtain ⟨g2a, g3⟩ := and_e g2
  obtain ⟨i2, e2⟩ := is_v g2a
  obtain rfl : y2 = .int i2 := Option.some.inj e2
  obtain ⟨g3a, g4⟩ := and_e g3
  obtain ⟨i3, e3⟩ := is_v g3a
  obtain rfl : y3 = .int i3 := Option.some.inj e3
  obtain ⟨g4a, g5⟩ := and_e g4
  obtain ⟨i4, e4⟩ := is_v g4a
  obtain rfl : y4 = .int i4 := Option.some.inj e4
  obtain ⟨i5, e5⟩ := is_v g5
  obtain rfl : y5 = .int i5 := Option.some.inj e5
  obtain ⟨n, o, h1, h2, h3, v, L, rfl, ⟨N, H', hR', rfl⟩, hq⟩ := law_con l s _ s.heap.size hw i0 i1 i2 i3 i4 i5 tables_1 s.heap ⟨Nat.le_refl _, List.nodup_nil, fun _ q => nomatch q⟩ p e ha hc hk s m _ below hf ((Spec.applies_iff_loose hf).mp happ).1 ⟨rfl, State.Warmed39.refl s, rfl⟩ trivial
  refine ⟨n, _, h1, h2, h3, hpost _ _ _ _ _ _ ⟨Cond.after_iff.mpr rfl, Cond.after_iff.mpr (eq_i res_at (Term.int_eval (1)) rfl), trivial⟩ ⟨hq.1, hq.2.1, hq.2.2.1, (hq.2.2.2.sift fun y hy => Or.inr (N y hy)).mono (by decide) (by decide)⟩⟩
theorem main_1_1 : Claimed_1_1 := comes_1 fun _ _ _ _ _ _ h hF => ⟨h.1, hF⟩
theorem main_1_2 : Claimed_1_2 := comes_1 fun _ _ _ _ _ _ h hF => ⟨h.2.1, hF⟩
end Jvm.Pilot.@@N@@
namespace Jvm.Pilot.@@N@@
open Jvm Jvm.ClassFile Sem Op Lib Jvm.Free Jvm.Stand Jvm.Pilot.@@N@@.Jvm.D
/-! MADE BY PROGRAM (witnessworld.py) out of the Statement's table words and the real class files: 14 classes; the members and pool entries that the words name. The judged class is class 1, her method 1. -/
namespace start1
open Jvm.ClassFile
def u (s : String) : CpInfo := .utf8 (stringToUtf16 s)
/-- a pool by its gaps: so many unusable entries, then the entry; so many at the end -/
def gap : Nat → List CpInfo → List CpInfo
  | 0, r => r
  | n + 1, r => .unusable :: gap n r
def poolList (es : List (Nat × CpInfo)) (last : Nat) : List CpInfo := es.foldr (fun e r => gap e.1 (e.2 :: r)) (gap last [])
def pool (es : List (Nat × CpInfo)) (last : Nat) : Array CpInfo := ⟨poolList es last⟩
def fileOf (pool : Array CpInfo) (this : Nat) (attrs : Array Attribute := #[]) (ms : Array MethodInfo := #[]) (fl : Nat := 33) (sup : Nat := 0) (ifs : Array Nat := #[]) (fds : Array FieldInfo := #[]) : ClassFile where
  minorVersion := 0
  majorVersion := 65
  constantPool := pool
  accessFlags := fl
  thisClass := this
  superClass := sup
  interfaces := ifs
  fields := fds
  methods := ms
  attributes := attrs
def plain (name : String) (sup : Option ClassId) : Class where
  name := name
  kind := .ordinary
  loader := none
  accessFlags := 33
  super := sup
  interfaces := #[]
  cf := none
  fields := #[]
  methods := #[]
  instanceTypes := #[]
  staticTypes := #[]
  resolved := #[]
  callSites := []
  init := .initialized
  statics := none
  mirror := none

def pool0 : Array CpInfo := pool [(5, u "<init>"), (0, u "()V"), (1, .class_ 10), (1, u "java/lang/Object")] 113

def k0c0 : Code := { maxStack := 0, maxLocals := 1, code := object_method_1_code, exceptionTable := #[], attributes := #[] }
def k0m0 : Method := { name := "<init>", desc := "()V", sig := { parameters := [], returnType := none }, accessFlags := 1, code := some k0c0 }
/-- java/lang/Object -/
def k0 : Class := { plain "java/lang/Object" none with
  accessFlags := 33
  interfaces := #[]
  cf := some (fileOf pool0 8 #[] #[{ accessFlags := 1, nameIndex := 5, descriptorIndex := 6, attributes := #[] }] 33 0 #[] #[])
  fields := #[]
  methods := #[k0m0]
  instanceTypes := #[]
  staticTypes := #[]
  resolved := Array.replicate 124 none
  statics := none }

def pool1 : Array CpInfo := pool [(2, .class_ 4), (1, u "java/lang/Object"), (0, u "<init>"), (0, u "()V"), (0, .class_ 8), (0, u "com/example/slim_broker/slimbroker/codec/WireReader"), (0, .methodref 7 10), (0, .nameAndType 5 11), (0, u "([BII)V"), (0, .methodref 7 13), (0, .nameAndType 14 15), (0, u "readBit"), (0, u "()Z"), (0, .methodref 7 17), (0, .nameAndType 18 6), (0, u "skipShortString"), (0, .methodref 7 20), (0, .nameAndType 21 15), (0, u "hasRemaining"), (0, .methodref 7 23), (0, .nameAndType 24 25), (0, u "readOctet"), (0, u "()I"), (0, .class_ 27), (0, u "com/example/slim_broker/slimbroker/codec/WireReaderSkipShortStringPinLaw"), (2, u "law"), (0, u "(IIIIII)Z")] 8

def k1m0 : Method := { name := "<init>", desc := "()V", sig := { parameters := [], returnType := none }, accessFlags := 2, code := none }
def k1c1 : Code := { maxStack := 5, maxLocals := 20, code := code, exceptionTable := #[], attributes := #[] }
def k1m1 : Method := { name := "law", desc := "(IIIIII)Z", sig := { parameters := [.int, .int, .int, .int, .int, .int], returnType := some .boolean }, accessFlags := 9, code := some k1c1 }
/-- com/example/slim_broker/slimbroker/codec/WireReaderSkipShortStringPinLaw -/
def k1 : Class := { plain "com/example/slim_broker/slimbroker/codec/WireReaderSkipShortStringPinLaw" (some 0) with
  accessFlags := 49
  interfaces := #[]
  cf := some (fileOf pool1 26 #[] #[{ accessFlags := 2, nameIndex := 5, descriptorIndex := 6, attributes := #[] }, { accessFlags := 9, nameIndex := 30, descriptorIndex := 31, attributes := #[] }] 49 2 #[] #[])
  fields := #[]
  methods := #[k1m0, k1m1]
  instanceTypes := #[]
  staticTypes := #[]
  resolved := Array.replicate 40 none
  statics := none }

def pool2 : Array CpInfo := pool [(2, .class_ 4), (1, u "com/example/slim_broker/slimbroker/codec/WireReader"), (0, u "<init>"), (0, u "([BII)V"), (0, .methodref 8 9), (0, .class_ 10), (0, .nameAndType 5 11), (0, u "java/lang/Object"), (0, u "()V"), (2, .fieldref 2 15), (0, .nameAndType 16 17), (0, u "nextBit"), (0, u "I"), (0, .fieldref 2 19), (0, .nameAndType 20 21), (0, u "data"), (0, u "[B"), (0, .fieldref 2 23), (0, .nameAndType 24 17), (0, u "position"), (0, .fieldref 2 26), (0, .nameAndType 27 17), (0, u "end"), (0, .string 29), (0, u "octet"), (0, .methodref 2 31), (0, .nameAndType 32 33), (0, u "readUnsigned"), (0, u "(ILjava/lang/String;)J"), (6, .methodref 2 41), (0, .nameAndType 42 43), (0, u "readOctet"), (0, u "()I"), (0, .fieldref 2 45), (0, .nameAndType 46 17), (0, u "bitOctet"), (0, .methodref 2 48), (0, .nameAndType 49 43), (0, u "readShortStringLength"), (85, u "hasRemaining"), (0, u "()Z"), (108, .methodref 2 246), (0, .nameAndType 247 248), (0, u "require"), (0, u "(JLjava/lang/String;)V"), (0, .string 250), (0, u "short string"), (4, u "MAX_NESTING"), (7, u "readBit"), (2, u "skipShortString")] 26

def k2c0 : Code := { maxStack := 3, maxLocals := 4, code := prog_4_method_2_code, exceptionTable := #[], attributes := #[] }
def k2m0 : Method := { name := "<init>", desc := "([BII)V", sig := { parameters := [(.array .byte), .int, .int], returnType := none }, accessFlags := 1, code := some k2c0 }
def k2c1 : Code := { maxStack := 2, maxLocals := 1, code := prog_4_method_3_code, exceptionTable := #[], attributes := #[] }
def k2m1 : Method := { name := "hasRemaining", desc := "()Z", sig := { parameters := [], returnType := some .boolean }, accessFlags := 1, code := some k2c1 }
def k2c2 : Code := { maxStack := 3, maxLocals := 1, code := prog_4_method_4_code, exceptionTable := #[], attributes := #[] }
def k2m2 : Method := { name := "readOctet", desc := "()I", sig := { parameters := [], returnType := some .int }, accessFlags := 1, code := some k2c2 }
def k2c3 : Code := { maxStack := 5, maxLocals := 1, code := prog_4_method_8_code, exceptionTable := #[], attributes := #[] }
def k2m3 : Method := { name := "readBit", desc := "()Z", sig := { parameters := [], returnType := some .boolean }, accessFlags := 1, code := some k2c3 }
def k2c4 : Code := { maxStack := 3, maxLocals := 2, code := prog_4_method_10_code, exceptionTable := #[], attributes := #[] }
def k2m4 : Method := { name := "skipShortString", desc := "()V", sig := { parameters := [], returnType := none }, accessFlags := 1, code := some k2c4 }
def k2c5 : Code := { maxStack := 7, maxLocals := 6, code := prog_4_method_18_code, exceptionTable := #[], attributes := #[] }
def k2m5 : Method := { name := "readUnsigned", desc := "(ILjava/lang/String;)J", sig := { parameters := [.int, (.object "java/lang/String")], returnType := some .long }, accessFlags := 2, code := some k2c5 }
def k2c6 : Code := { maxStack := 4, maxLocals := 2, code := prog_4_method_19_code, exceptionTable := #[], attributes := #[] }
def k2m6 : Method := { name := "readShortStringLength", desc := "()I", sig := { parameters := [], returnType := some .int }, accessFlags := 2, code := some k2c6 }
def k2c7 : Code := { maxStack := 4, maxLocals := 4, code := prog_4_method_21_code, exceptionTable := #[], attributes := #[] }
def k2m7 : Method := { name := "require", desc := "(JLjava/lang/String;)V", sig := { parameters := [.long, (.object "java/lang/String")], returnType := none }, accessFlags := 2, code := some k2c7 }
/-- com/example/slim_broker/slimbroker/codec/WireReader -/
def k2 : Class := { plain "com/example/slim_broker/slimbroker/codec/WireReader" (some 0) with
  accessFlags := 49
  interfaces := #[]
  cf := some (fileOf pool2 2 #[] #[{ accessFlags := 1, nameIndex := 5, descriptorIndex := 6, attributes := #[] }, { accessFlags := 1, nameIndex := 135, descriptorIndex := 136, attributes := #[] }, { accessFlags := 1, nameIndex := 42, descriptorIndex := 43, attributes := #[] }, { accessFlags := 1, nameIndex := 263, descriptorIndex := 136, attributes := #[] }, { accessFlags := 1, nameIndex := 266, descriptorIndex := 11, attributes := #[] }, { accessFlags := 2, nameIndex := 32, descriptorIndex := 33, attributes := #[] }, { accessFlags := 2, nameIndex := 49, descriptorIndex := 43, attributes := #[] }, { accessFlags := 2, nameIndex := 247, descriptorIndex := 248, attributes := #[] }] 49 8 #[] #[{ accessFlags := 25, nameIndex := 255, descriptorIndex := 17, attributes := #[] }, { accessFlags := 18, nameIndex := 20, descriptorIndex := 21, attributes := #[] }, { accessFlags := 18, nameIndex := 27, descriptorIndex := 17, attributes := #[] }, { accessFlags := 2, nameIndex := 24, descriptorIndex := 17, attributes := #[] }, { accessFlags := 2, nameIndex := 46, descriptorIndex := 17, attributes := #[] }, { accessFlags := 2, nameIndex := 16, descriptorIndex := 17, attributes := #[] }])
  fields := #[{ name := "MAX_NESTING", type := .int, accessFlags := 25, slot := 0, constantValue := 0 }, { name := "data", type := (.array .byte), accessFlags := 18, slot := 0, constantValue := 0 }, { name := "end", type := .int, accessFlags := 18, slot := 1, constantValue := 0 }, { name := "position", type := .int, accessFlags := 2, slot := 2, constantValue := 0 }, { name := "bitOctet", type := .int, accessFlags := 2, slot := 3, constantValue := 0 }, { name := "nextBit", type := .int, accessFlags := 2, slot := 4, constantValue := 0 }]
  methods := #[k2m0, k2m1, k2m2, k2m3, k2m4, k2m5, k2m6, k2m7]
  instanceTypes := #[(.array .byte), .int, .int, .int, .int]
  staticTypes := #[.int]
  resolved := Array.replicate 293 none
  statics := none }

def pool3 : Array CpInfo := pool [(1, .class_ 2), (0, u "java/io/Serializable"), (0, .class_ 4), (0, u "java/lang/Object")] 2

/-- java/io/Serializable -/
def k3 : Class := { plain "java/io/Serializable" (some 0) with
  accessFlags := 1537
  interfaces := #[]
  cf := some (fileOf pool3 1 #[] #[] 1537 3 #[] #[])
  fields := #[]
  methods := #[]
  instanceTypes := #[]
  staticTypes := #[]
  resolved := Array.replicate 7 none
  statics := none }

def pool4 : Array CpInfo := pool [(1, .class_ 2), (0, u "java/lang/Comparable"), (0, .class_ 4), (0, u "java/lang/Object")] 7

/-- java/lang/Comparable -/
def k4 : Class := { plain "java/lang/Comparable" (some 0) with
  accessFlags := 1537
  interfaces := #[]
  cf := some (fileOf pool4 1 #[] #[] 1537 3 #[] #[])
  fields := #[]
  methods := #[]
  instanceTypes := #[]
  staticTypes := #[]
  resolved := Array.replicate 12 none
  statics := none }

def pool5 : Array CpInfo := pool [(2, .class_ 4), (1, u "java/lang/CharSequence"), (42, .class_ 48), (0, u "java/lang/CharSequence$1CodePointIterator"), (10, .class_ 60), (0, u "java/lang/CharSequence$1CharIterator"), (5, .class_ 67), (0, u "java/lang/Object")] 63

/-- java/lang/CharSequence -/
def k5 : Class := { plain "java/lang/CharSequence" (some 0) with
  accessFlags := 1537
  interfaces := #[]
  cf := some (fileOf pool5 2 #[.nestMembers #[47, 59]] #[] 1537 66 #[] #[])
  fields := #[]
  methods := #[]
  instanceTypes := #[]
  staticTypes := #[]
  resolved := Array.replicate 131 none
  statics := none }

def pool6 : Array CpInfo := pool [(1, .class_ 2), (0, u "java/lang/constant/Constable"), (0, .class_ 4), (0, u "java/lang/Object")] 6

/-- java/lang/constant/Constable -/
def k6 : Class := { plain "java/lang/constant/Constable" (some 0) with
  accessFlags := 1537
  interfaces := #[]
  cf := some (fileOf pool6 1 #[] #[] 1537 3 #[] #[])
  fields := #[]
  methods := #[]
  instanceTypes := #[]
  staticTypes := #[]
  resolved := Array.replicate 11 none
  statics := none }

def pool7 : Array CpInfo := pool [(1, .class_ 2), (0, u "java/lang/constant/ConstantDesc"), (0, .class_ 4), (0, u "java/lang/Object")] 32

/-- java/lang/constant/ConstantDesc -/
def k7 : Class := { plain "java/lang/constant/ConstantDesc" (some 0) with
  accessFlags := 1537
  interfaces := #[]
  cf := some (fileOf pool7 1 #[] #[] 1537 3 #[] #[])
  fields := #[]
  methods := #[]
  instanceTypes := #[]
  staticTypes := #[]
  resolved := Array.replicate 37 none
  statics := none }

def pool8 : Array CpInfo := pool [(2, .class_ 4), (1, u "java/lang/Object"), (0, u "<init>"), (0, u "()V"), (3, .class_ 12), (1, u "java/lang/String"), (0, u "value"), (0, u "[B"), (2, u "coder"), (0, u "B"), (2, u "hash"), (0, u "I"), (2, u "hashIsZero"), (0, u "Z"), (13, u "COMPACT_STRINGS"), (534, .class_ 576), (0, u "java/lang/CharSequence"), (22, u "CASE_INSENSITIVE_ORDER"), (0, u "Ljava/util/Comparator;"), (500, u "serialPersistentFields"), (0, u "[Ljava/io/ObjectStreamField;"), (0, .class_ 1104), (0, u "java/lang/String$CaseInsensitiveComparator"), (1, .class_ 1107), (0, u "java/io/Serializable"), (0, .class_ 1109), (0, u "java/lang/Comparable"), (0, .class_ 1111), (0, u "java/lang/constant/Constable"), (0, .class_ 1113), (0, u "java/lang/constant/ConstantDesc"), (2, u "serialVersionUID"), (0, u "J"), (3, u "REPL"), (0, u "C"), (2, u "LATIN1"), (1, u "UTF16")] 323

def k8m0 : Method := { name := "<init>", desc := "()V", sig := { parameters := [], returnType := none }, accessFlags := 1, code := none }
/-- java/lang/String -/
def k8 : Class := { plain "java/lang/String" (some 0) with
  accessFlags := 49
  interfaces := #[3, 4, 5, 6, 7]
  cf := some (fileOf pool8 10 #[.nestMembers #[1103]] #[{ accessFlags := 1, nameIndex := 5, descriptorIndex := 6, attributes := #[] }] 49 2 #[1106, 1108, 575, 1110, 1112] #[{ accessFlags := 18, nameIndex := 13, descriptorIndex := 14, attributes := #[] }, { accessFlags := 18, nameIndex := 17, descriptorIndex := 18, attributes := #[] }, { accessFlags := 2, nameIndex := 21, descriptorIndex := 22, attributes := #[] }, { accessFlags := 2, nameIndex := 25, descriptorIndex := 26, attributes := #[] }, { accessFlags := 26, nameIndex := 1116, descriptorIndex := 1117, attributes := #[] }, { accessFlags := 24, nameIndex := 40, descriptorIndex := 26, attributes := #[] }, { accessFlags := 26, nameIndex := 1101, descriptorIndex := 1102, attributes := #[] }, { accessFlags := 26, nameIndex := 1121, descriptorIndex := 1122, attributes := #[] }, { accessFlags := 25, nameIndex := 599, descriptorIndex := 600, attributes := #[] }, { accessFlags := 24, nameIndex := 1125, descriptorIndex := 18, attributes := #[] }, { accessFlags := 24, nameIndex := 1127, descriptorIndex := 18, attributes := #[] }])
  fields := #[{ name := "value", type := (.array .byte), accessFlags := 18, slot := 0, constantValue := 0 }, { name := "coder", type := .byte, accessFlags := 18, slot := 1, constantValue := 0 }, { name := "hash", type := .int, accessFlags := 2, slot := 2, constantValue := 0 }, { name := "hashIsZero", type := .boolean, accessFlags := 2, slot := 3, constantValue := 0 }, { name := "serialVersionUID", type := .long, accessFlags := 26, slot := 0, constantValue := 0 }, { name := "COMPACT_STRINGS", type := .boolean, accessFlags := 24, slot := 1, constantValue := 0 }, { name := "serialPersistentFields", type := (.array (.object "java/io/ObjectStreamField")), accessFlags := 26, slot := 2, constantValue := 0 }, { name := "REPL", type := .char, accessFlags := 26, slot := 3, constantValue := 0 }, { name := "CASE_INSENSITIVE_ORDER", type := (.object "java/util/Comparator"), accessFlags := 25, slot := 4, constantValue := 0 }, { name := "LATIN1", type := .byte, accessFlags := 24, slot := 5, constantValue := 0 }, { name := "UTF16", type := .byte, accessFlags := 24, slot := 6, constantValue := 0 }]
  methods := #[k8m0]
  instanceTypes := #[(.array .byte), .byte, .int, .boolean]
  staticTypes := #[.long, .boolean, (.array (.object "java/io/ObjectStreamField")), .char, (.object "java/util/Comparator"), .byte, .byte]
  resolved := Array.replicate 1451 none
  statics := none }

def pool9 : Array CpInfo := pool [(1, u "java/lang/Cloneable"), (0, .class_ 1), (0, u "java/lang/Object"), (0, .class_ 3)] 3

/-- java/lang/Cloneable -/
def k9 : Class := { plain "java/lang/Cloneable" (some 0) with
  accessFlags := 1537
  interfaces := #[]
  cf := some (fileOf pool9 2 #[] #[] 1537 4 #[] #[])
  fields := #[]
  methods := #[]
  instanceTypes := #[]
  staticTypes := #[]
  resolved := Array.replicate 8 none
  statics := none }

/-- the primitive byte -/
def k10 : Class := { plain "byte" none with kind := .primitive 'B', accessFlags := 0x411 }
/-- [B -/
def k11 : Class := { plain "[B" (some 0) with kind := .array 10 .byte, interfaces := #[9, 3], accessFlags := 1041 }

/-- the primitive int -/
def k12 : Class := { plain "int" none with kind := .primitive 'I', accessFlags := 0x411 }
/-- [I -/
def k13 : Class := { plain "[I" (some 0) with kind := .array 12 .int, interfaces := #[9, 3], accessFlags := 1041 }

def heap : Heap := #[]
def classes : Array Class := #[k0, k1, k2, k3, k4, k5, k6, k7, k8, k9, k10, k11, k12, k13]
def interned : List (Array UInt16 × Addr) := []
def slotsUsed : Nat := 0
def theMethod : MethodId := ⟨1, 1⟩
def args0 : Array Value := #[.int 5, .int 5, .int 5, .int 5, .int 5, .int 5]
def aboutOver (below : List Frame) : State where
  vm := { classes := classes, interned := interned.toArray }
  heap := heap
  slotsUsed := slotsUsed
  threads := #[{ frames := .invoking theMethod args0 :: below }]
def below0 : List Frame := [.native { method := ⟨0, 0⟩, args := #[] }]
def about1 : State := aboutOver below0
def p0 : Program := .bare "" "" ""
def e0 : Env := launch0.env 0 0 0
theorem w_frames : about1.frames = Frame.invoking theMethod args0 :: below0 := rfl
set_option maxRecDepth 65536 in
theorem w_args : argsFit about1.vm theMethod args0 = true := by decide +kernel
set_option maxRecDepth 65536 in
theorem w_heap : heapFits about1 = true := by decide +kernel
set_option maxRecDepth 65536 in
theorem w_runnable : about1.curStatus? = some .runnable := by decide +kernel
set_option maxRecDepth 65536 in
theorem w_alone : about1.alone = true := by decide +kernel
set_option maxRecDepth 65536 in
theorem w_named : about1.methodNamed? x = some theMethod := by decide +kernel
set_option maxRecDepth 65536 in
theorem w_hears : about1.hears theMethod below0 = true := by decide +kernel
set_option maxRecDepth 65536 in
theorem w_ripe : about1.ripe theMethod args0 below0 = true := by decide +kernel
theorem w_running : about1.status = .running := rfl
set_option maxRecDepth 65536 in
theorem w_room : about1.hasRoom e0.platform room_1 = true :=
  launch0.hasRoom_least _ room_1 (by decide +kernel) (by decide +kernel) (by decide +kernel) (by decide +kernel) (by decide +kernel) (by decide +kernel)
theorem allAtoms_all (ts : List Jvm.Cond) (a : Array Jvm.Value) (st : Jvm.State) : (allAtoms ts).before a st = ts.all (fun c => c.before a st) := by
  induction ts with
  | nil => rfl
  | cons c t ih =>
    show (Jvm.Cond.and c (allAtoms t)).before a st = _
    rw [Jvm.Cond.before_and, ih, List.all_cons]
def words1 : List Jvm.Cond := Jvm.Cond.code x code maxLocals ret :: tables_1
/-- a 'code' word, met by the world's own term for the bytes: nothing is compared byte by byte -/
theorem code_word {y : MethodName} {bytes : ByteArray} {mx : Nat} {rt : Option FieldType} {a : Array Value} {s : State} {m : MethodId} {meth : Method} {c : Code} (h1 : s.methodNamed? y = some m) (h2 : s.vm.method? m = some meth) (h3 : meth.code = some c) (h4 : c.code = bytes)
    (h5 : (c.maxLocals == mx && c.exceptionTable.isEmpty && decide (c.maxStack ≤ mostOperands) && decide (meth.sig.returnType = rt) && !meth.locks && decide (parseMethodDescriptor y.desc = some meth.sig)) = true) : (Jvm.Cond.code y bytes mx rt).before a s = true := by
  simp only [Bool.and_eq_true, beq_iff_eq, Bool.not_eq_true', decide_eq_true_eq] at h5
  obtain ⟨⟨⟨⟨⟨g1, g2⟩, g3⟩, g4⟩, g5⟩, g6⟩ := h5
  simp [Cond.before, Cond.holds, Cond.value, h1, h2, h3, h4, g1, g2, g3, g4, g5, g6]
def isCode : Jvm.Cond → Bool
  | .code _ _ _ _ => true
  | _ => false
theorem all_split {L : List Jvm.Cond} {P : Jvm.Cond → Bool} (h1 : L.all (fun c => isCode c || P c) = true) (h2 : ∀ c ∈ L.filter isCode, P c = true) : L.all P = true := by
  refine List.all_eq_true.mpr fun c hc => ?_
  have h := List.all_eq_true.mp h1 c hc
  rcases Bool.eq_false_or_eq_true (isCode c) with hi | hi
  · exact h2 c (List.mem_filter.mpr ⟨hc, hi⟩)
  · simpa [hi] using h
set_option maxRecDepth 65536 in
theorem w_c0 : (Jvm.Cond.code x code maxLocals ret).before args0 about1 = true := code_word (m := ⟨1, 1⟩) (meth := k1m1) (c := k1c1) (by decide +kernel) rfl rfl rfl (by decide +kernel)
set_option maxRecDepth 65536 in
theorem w_c1 : (Jvm.Cond.code ({ cls := "com/example/slim_broker/slimbroker/codec/WireReader", name := "<init>", desc := "([BII)V" } : Jvm.MethodName) prog_4_method_2_code (4 : Nat) (Option.none : Option Jvm.ClassFile.FieldType)).before args0 about1 = true := code_word (m := ⟨2, 0⟩) (meth := k2m0) (c := k2c0) (by decide +kernel) rfl rfl rfl (by decide +kernel)
set_option maxRecDepth 65536 in
theorem w_c2 : (Jvm.Cond.code ({ cls := "java/lang/Object", name := "<init>", desc := "()V" } : Jvm.MethodName) object_method_1_code (1 : Nat) (Option.none : Option Jvm.ClassFile.FieldType)).before args0 about1 = true := code_word (m := ⟨0, 0⟩) (meth := k0m0) (c := k0c0) (by decide +kernel) rfl rfl rfl (by decide +kernel)
set_option maxRecDepth 65536 in
theorem w_c3 : (Jvm.Cond.code ({ cls := "com/example/slim_broker/slimbroker/codec/WireReader", name := "readBit", desc := "()Z" } : Jvm.MethodName) prog_4_method_8_code (1 : Nat) (Option.some Jvm.ClassFile.FieldType.boolean)).before args0 about1 = true := code_word (m := ⟨2, 3⟩) (meth := k2m3) (c := k2c3) (by decide +kernel) rfl rfl rfl (by decide +kernel)
set_option maxRecDepth 65536 in
theorem w_c4 : (Jvm.Cond.code ({ cls := "com/example/slim_broker/slimbroker/codec/WireReader", name := "readOctet", desc := "()I" } : Jvm.MethodName) prog_4_method_4_code (1 : Nat) (Option.some Jvm.ClassFile.FieldType.int)).before args0 about1 = true := code_word (m := ⟨2, 2⟩) (meth := k2m2) (c := k2c2) (by decide +kernel) rfl rfl rfl (by decide +kernel)
set_option maxRecDepth 65536 in
theorem w_c5 : (Jvm.Cond.code ({ cls := "com/example/slim_broker/slimbroker/codec/WireReader", name := "readUnsigned", desc := "(ILjava/lang/String;)J" } : Jvm.MethodName) prog_4_method_18_code (6 : Nat) (Option.some Jvm.ClassFile.FieldType.long)).before args0 about1 = true := code_word (m := ⟨2, 5⟩) (meth := k2m5) (c := k2c5) (by decide +kernel) rfl rfl rfl (by decide +kernel)
set_option maxRecDepth 65536 in
theorem w_c6 : (Jvm.Cond.code ({ cls := "com/example/slim_broker/slimbroker/codec/WireReader", name := "require", desc := "(JLjava/lang/String;)V" } : Jvm.MethodName) prog_4_method_21_code (4 : Nat) (Option.none : Option Jvm.ClassFile.FieldType)).before args0 about1 = true := code_word (m := ⟨2, 7⟩) (meth := k2m7) (c := k2c7) (by decide +kernel) rfl rfl rfl (by decide +kernel)
set_option maxRecDepth 65536 in
theorem w_c7 : (Jvm.Cond.code ({ cls := "com/example/slim_broker/slimbroker/codec/WireReader", name := "skipShortString", desc := "()V" } : Jvm.MethodName) prog_4_method_10_code (2 : Nat) (Option.none : Option Jvm.ClassFile.FieldType)).before args0 about1 = true := code_word (m := ⟨2, 4⟩) (meth := k2m4) (c := k2c4) (by decide +kernel) rfl rfl rfl (by decide +kernel)
set_option maxRecDepth 65536 in
theorem w_c8 : (Jvm.Cond.code ({ cls := "com/example/slim_broker/slimbroker/codec/WireReader", name := "readShortStringLength", desc := "()I" } : Jvm.MethodName) prog_4_method_19_code (2 : Nat) (Option.some Jvm.ClassFile.FieldType.int)).before args0 about1 = true := code_word (m := ⟨2, 6⟩) (meth := k2m6) (c := k2c6) (by decide +kernel) rfl rfl rfl (by decide +kernel)
set_option maxRecDepth 65536 in
theorem w_c9 : (Jvm.Cond.code ({ cls := "com/example/slim_broker/slimbroker/codec/WireReader", name := "hasRemaining", desc := "()Z" } : Jvm.MethodName) prog_4_method_3_code (1 : Nat) (Option.some Jvm.ClassFile.FieldType.boolean)).before args0 about1 = true := code_word (m := ⟨2, 1⟩) (meth := k2m1) (c := k2c1) (by decide +kernel) rfl rfl rfl (by decide +kernel)
def codes1 : List Jvm.Cond := [Jvm.Cond.code x code maxLocals ret, Jvm.Cond.code ({ cls := "com/example/slim_broker/slimbroker/codec/WireReader", name := "<init>", desc := "([BII)V" } : Jvm.MethodName) prog_4_method_2_code (4 : Nat) (Option.none : Option Jvm.ClassFile.FieldType), Jvm.Cond.code ({ cls := "java/lang/Object", name := "<init>", desc := "()V" } : Jvm.MethodName) object_method_1_code (1 : Nat) (Option.none : Option Jvm.ClassFile.FieldType), Jvm.Cond.code ({ cls := "com/example/slim_broker/slimbroker/codec/WireReader", name := "readBit", desc := "()Z" } : Jvm.MethodName) prog_4_method_8_code (1 : Nat) (Option.some Jvm.ClassFile.FieldType.boolean), Jvm.Cond.code ({ cls := "com/example/slim_broker/slimbroker/codec/WireReader", name := "readOctet", desc := "()I" } : Jvm.MethodName) prog_4_method_4_code (1 : Nat) (Option.some Jvm.ClassFile.FieldType.int), Jvm.Cond.code ({ cls := "com/example/slim_broker/slimbroker/codec/WireReader", name := "readUnsigned", desc := "(ILjava/lang/String;)J" } : Jvm.MethodName) prog_4_method_18_code (6 : Nat) (Option.some Jvm.ClassFile.FieldType.long), Jvm.Cond.code ({ cls := "com/example/slim_broker/slimbroker/codec/WireReader", name := "require", desc := "(JLjava/lang/String;)V" } : Jvm.MethodName) prog_4_method_21_code (4 : Nat) (Option.none : Option Jvm.ClassFile.FieldType), Jvm.Cond.code ({ cls := "com/example/slim_broker/slimbroker/codec/WireReader", name := "skipShortString", desc := "()V" } : Jvm.MethodName) prog_4_method_10_code (2 : Nat) (Option.none : Option Jvm.ClassFile.FieldType), Jvm.Cond.code ({ cls := "com/example/slim_broker/slimbroker/codec/WireReader", name := "readShortStringLength", desc := "()I" } : Jvm.MethodName) prog_4_method_19_code (2 : Nat) (Option.some Jvm.ClassFile.FieldType.int), Jvm.Cond.code ({ cls := "com/example/slim_broker/slimbroker/codec/WireReader", name := "hasRemaining", desc := "()Z" } : Jvm.MethodName) prog_4_method_3_code (1 : Nat) (Option.some Jvm.ClassFile.FieldType.boolean)]
set_option maxRecDepth 65536 in
theorem codes_eq : words1.filter isCode = codes1 := rfl
theorem w_codes : ∀ c ∈ words1.filter isCode, c.before args0 about1 = true := by
  rw [codes_eq]
  intro c hc
  simp only [codes1, List.mem_cons, List.not_mem_nil, or_false] at hc
  rcases hc with rfl | rfl | rfl | rfl | rfl | rfl | rfl | rfl | rfl | rfl
  · exact w_c0
  · exact w_c1
  · exact w_c2
  · exact w_c3
  · exact w_c4
  · exact w_c5
  · exact w_c6
  · exact w_c7
  · exact w_c8
  · exact w_c9
set_option maxRecDepth 65536 in
theorem w_t1 : (words1.take 24).all (fun c => isCode c || c.before args0 about1) = true := by decide +kernel
set_option maxRecDepth 65536 in
theorem w_t2 : ((words1.drop 24).take 24).all (fun c => isCode c || c.before args0 about1) = true := by decide +kernel
set_option maxRecDepth 65536 in
theorem w_t3 : ((words1.drop 24).drop 24).all (fun c => isCode c || c.before args0 about1) = true := by decide +kernel
theorem w_tables : (allAtoms (Jvm.Cond.code x code maxLocals ret :: tables_1)).before args0 about1 = true := by
  rw [allAtoms_all]
  show words1.all (fun c => c.before args0 about1) = true
  refine all_split ?_ w_codes
  rw [← List.take_append_drop 24 words1, List.all_append, w_t1, ← List.take_append_drop 24 (words1.drop 24), List.all_append, w_t2, w_t3]
  rfl
set_option maxRecDepth 65536 in
theorem w_case : (Jvm.Cond.and given_1 narrow_1).before args0 about1 = true := by decide +kernel
theorem w_applies : (headSpec (Jvm.Cond.code x code maxLocals ret :: tables_1) room_1).applies x e0.platform about1 = true :=
  (Spec.applies_iff w_frames).mpr ⟨w_running, w_runnable, w_alone, w_named, w_hears, w_ripe, w_room, w_tables⟩
theorem atStart : AtStart classFile x code maxLocals ret World_1 tables_1 room_1 Calls_1 rest_1 Pre_1 launch0 p0 e0 about1 theMethod args0 below0 :=
  ⟨lists_1, trivial, launch0.admits_env _ _ _, launch0.least_env, fairChoices_fair.cas, fairChoices_fair.clock, w_frames, w_args, w_heap, w_applies, trivial, trivial, w_case⟩
end start1
theorem witness_1 : WitnessClaimed_1 := ⟨start1.p0, start1.e0, start1.about1, start1.theMethod, start1.args0, start1.below0, start1.atStart⟩
end Jvm.Pilot.@@N@@
