import JvmDerived
import JvmDerived.Pilot.@@N@@Statement
import JvmDerived.Pilot.@@N@@Code
set_option linter.unusedVariables false
set_option linter.unusedSimpArgs false
namespace Jvm.RoadKit
open Sem ClassFile Op Lib Jvm.Stand Jvm.Free Jvm.LawKit
section New
variable {p : Program} {l : Launch} {e : Env} {R : Room} {s : State} {m : MethodId} {args : Array Value} {below : List Frame} {meth : Method} {c : Code} {T : State} {locs : List Loc} {cells slots : Nat}
theorem retI (X : Stand p l e R s m args below meth c T locs cells slots) (hx : p.tables.exec = Jvm.exec) {pc : Nat} {Ls : Array Slot} {z : Int32} {rest : List Value} (hret : meth.sig.returnType = some .int) (hd : decode c.code pc = .ok (.ireturn, 1)) {fs : List Frame}
    (hl : ∀ (f : JFrame) (acts : List Action), f.method = m → f.locked = none → f.entered = [] → (doReturn e (T.setTop f) acts (some (.int z))).1 = T.setFrames fs) : Steps p.tables e below (T.setTop (mkF m pc Ls (.int z :: rest))) (T.setFrames fs) := by
  have hm' : T.vm.method? m = some meth := X.method'
  have hn : narrow .int (.int z) = .int z := rfl
  show Steps p.tables e below (T.setTop { method := m, pc := pc, locals := Ls, stack := _ :: rest, locked := none }) _
  jvm_step X.here [X.here.top, hx, hd, hm', hret, hn]
  first | (intro acts; rw [hl _ acts rfl rfl rfl]) | rw [hl _ _ rfl rfl rfl]
  exact Steps.refl _
end New
end Jvm.RoadKit
namespace Jvm.Wp
open Sem ClassFile Op Lib Jvm.Free Jvm.Stand Jvm.LawKit Jvm.RoadKit

/-- a cell of the walk's own small heap: an array (its kind, its values) or an object (its class, its fields: name, descriptor, value) -/
abbrev MC : Type := Sum (FieldType × List Value) (String × List (String × String × Value))
abbrev MH : Type := List (Addr × MC)
def COk (Z : State) (a0 : Array Value) (h : Heap) (a : Addr) : MC → Prop
  | .inl (ty, vs) => ∃ c : Cell, Arr Z h a c ty ∧ c.slots = vs.toArray ∧ vs.length < 2 ^ 31
  | .inr (C, fs) => Exa Z h a C ∧ (fs.map (·.1)).Nodup ∧ ∀ x ∈ fs, Fld Z h a C x.1 x.2.1 x.2.2 ∧ Laid Z a0 C C x.1 x.2.1 ∧ ∃ t, parseFieldDescriptor x.2.1 = some t
def Rel (Z : State) (a0 : Array Value) (n0 : Nat) (H : MH) (h : Heap) : Prop := n0 ≤ h.size ∧ (H.map (·.1)).Nodup ∧ ∀ x ∈ H, n0 ≤ x.1 ∧ COk Z a0 h x.1 x.2

theorem idx_eq {j : Int32} {i : Nat} (hj : j.toInt = (i : Int)) : j.toNatClampNeg = i := by
  show j.toInt.toNat = i
  rw [hj]; simp
theorem idx_ok {j : Int32} {i n : Nat} (hj : j.toInt = (i : Int)) (hi : i < n) : ¬ (j < 0 ∨ n ≤ j.toNatClampNeg) := by
  rw [idx_eq hj, Int32.lt_iff_toInt_lt, hj]
  simp; omega
theorem COk.lt {Z : State} {a0 : Array Value} {h : Heap} {a : Addr} {c : MC} (k : COk Z a0 h a c) : a < h.size := by
  cases c with
  | inl q => obtain ⟨ty, vs⟩ := q; obtain ⟨c, A, -⟩ := k; exact A.lt
  | inr q => obtain ⟨C, fs⟩ := q; exact k.1.lt
theorem COk.ext {Z : State} {a0 : Array Value} {h h' : Heap} {a : Addr} {c : MC} (E : Ext h h') (k : COk Z a0 h a c) : COk Z a0 h' a c := by
  cases c with
  | inl q => obtain ⟨ty, vs⟩ := q; obtain ⟨c, A, r⟩ := k; exact ⟨c, A.ext E, r⟩
  | inr q => obtain ⟨C, fs⟩ := q; exact ⟨k.1.ext E, k.2.1, fun x hx => ⟨(k.2.2 x hx).1.ext E, (k.2.2 x hx).2⟩⟩
theorem COk.other {Z : State} {a0 : Array Value} {h h' : Heap} {a b : Addr} {sl : Nat} {v : Value} {c : MC} (W : Wr h h' b sl v) (hne : a ≠ b) (k : COk Z a0 h a c) : COk Z a0 h' a c := by
  cases c with
  | inl q => obtain ⟨ty, vs⟩ := q; obtain ⟨c, A, r⟩ := k; exact ⟨c, A.other W hne, r⟩
  | inr q => obtain ⟨C, fs⟩ := q; exact ⟨k.1.wr W, k.2.1, fun x hx => ⟨(k.2.2 x hx).1.other W (Or.inl hne), (k.2.2 x hx).2⟩⟩
theorem COk.setArr {Z : State} {a0 : Array Value} {h h' : Heap} {a : Addr} {ty : FieldType} {vs : List Value} {i : Nat} {v : Value} (W : Wr h h' a i v) (k : COk Z a0 h a (.inl (ty, vs))) : COk Z a0 h' a (.inl (ty, vs.set i v)) := by
  obtain ⟨c, A, e, r⟩ := k
  refine ⟨_, A.same W, ?_, by simpa using r⟩
  show c.slots.setIfInBounds i v = _
  rw [e]; simp
theorem COk.setFld {Z : State} {a0 : Array Value} {h h' : Heap} {a : Addr} {C n d : String} {pre post : List (String × String × Value)} {v w : Value} (W : Wr h h' a (Jvm.RoadKit.slotOf Z C n d) v) (k : COk Z a0 h a (.inr (C, pre ++ (n, d, w) :: post))) : COk Z a0 h' a (.inr (C, pre ++ (n, d, v) :: post)) := by
  obtain ⟨E, N, F⟩ := k
  have hme := F (n, d, w) (by simp)
  refine ⟨E.wr W, by simpa using N, fun x hx => ?_⟩
  have hsplit : x = (n, d, v) ∨ (x ∈ pre ++ (n, d, w) :: post ∧ x.1 ≠ n) := by
    simp only [List.map_append, List.map_cons] at N
    rw [List.nodup_append] at N
    obtain ⟨-, N2, N3⟩ := N
    rw [List.nodup_cons] at N2
    rcases List.mem_append.mp hx with h1 | h1
    · refine Or.inr ⟨List.mem_append.mpr (Or.inl h1), ?_⟩
      exact N3 x.1 (List.mem_map_of_mem h1) n (by simp)
    · rcases List.mem_cons.mp h1 with h2 | h2
      · exact Or.inl h2
      · refine Or.inr ⟨List.mem_append.mpr (Or.inr (List.mem_cons_of_mem _ h2)), fun q => N2.1 ?_⟩
        rw [← q]; exact List.mem_map_of_mem h2
  rcases hsplit with rfl | ⟨hm, hne⟩
  · exact ⟨hme.1.same W, hme.2⟩
  · have G := F x hm
    obtain ⟨t, ht⟩ := G.2.2
    obtain ⟨t', ht'⟩ := hme.2.2
    exact ⟨G.1.other W (Or.inr (slot_ne G.2.1 hme.2.1 hne ht ht')), G.2⟩
theorem Rel.ext {Z : State} {a0 : Array Value} {n0 : Nat} {H : MH} {h h' : Heap} (E : Ext h h') (r : Rel Z a0 n0 H h) : Rel Z a0 n0 H h' := ⟨Nat.le_trans r.1 E.1, r.2.1, fun x hx => ⟨(r.2.2 x hx).1, (r.2.2 x hx).2.ext E⟩⟩
theorem Rel.push {Z : State} {a0 : Array Value} {n0 : Nat} {H : MH} {h h' : Heap} {c : MC} (E : Ext h h') (r : Rel Z a0 n0 H h) (k : COk Z a0 h' h.size c) : Rel Z a0 n0 ((h.size, c) :: H) h' := by
  refine ⟨Nat.le_trans r.1 E.1, ?_, fun x hx => ?_⟩
  · rw [List.map_cons, List.nodup_cons]
    refine ⟨fun q => ?_, r.2.1⟩
    obtain ⟨x, hx, e⟩ := List.mem_map.mp q
    have h1 := (r.2.2 x hx).2.lt
    rw [e] at h1
    exact Nat.lt_irrefl _ h1
  · rcases List.mem_cons.mp hx with rfl | q
    · exact ⟨r.1, k⟩
    · exact ⟨(r.2.2 x q).1, (r.2.2 x q).2.ext E⟩
theorem Rel.set {Z : State} {a0 : Array Value} {n0 : Nat} {pre post : MH} {h h' : Heap} {a : Addr} {c c' : MC} {sl : Nat} {v : Value} (W : Wr h h' a sl v) (r : Rel Z a0 n0 (pre ++ (a, c) :: post) h) (k : COk Z a0 h a c → COk Z a0 h' a c') : Rel Z a0 n0 (pre ++ (a, c') :: post) h' := by
  obtain ⟨r1, N, F⟩ := r
  refine ⟨by rw [W.size]; exact r1, by simpa using N, fun x hx => ?_⟩
  have hme := F (a, c) (by simp)
  have hsplit : x = (a, c') ∨ (x ∈ pre ++ (a, c) :: post ∧ x.1 ≠ a) := by
    simp only [List.map_append, List.map_cons] at N
    rw [List.nodup_append] at N
    obtain ⟨-, N2, N3⟩ := N
    rw [List.nodup_cons] at N2
    rcases List.mem_append.mp hx with h1 | h1
    · refine Or.inr ⟨List.mem_append.mpr (Or.inl h1), ?_⟩
      exact N3 x.1 (List.mem_map_of_mem h1) a (by simp)
    · rcases List.mem_cons.mp h1 with h2 | h2
      · exact Or.inl h2
      · refine Or.inr ⟨List.mem_append.mpr (Or.inr (List.mem_cons_of_mem _ h2)), fun q => N2.1 ?_⟩
        rw [← q]; exact List.mem_map_of_mem h2
  rcases hsplit with rfl | ⟨hm, hne⟩
  · exact ⟨hme.1, k hme.2⟩
  · exact ⟨(F x hm).1, (F x hm).2.other W hne⟩
theorem Rel.at {Z : State} {a0 : Array Value} {n0 : Nat} {H : MH} {h : Heap} {k : Nat} {a : Addr} {c : MC} (r : Rel Z a0 n0 H h) (hk : H[k]? = some (a, c)) : n0 ≤ a ∧ COk Z a0 h a c := r.2.2 (a, c) (List.mem_of_getElem? hk)

/-- from pc on, with these locals, this stack, this small heap: the method returns, and Q holds of what it returns and of the small heap at the end -/
def WP (l : Launch) (Z : State) (a0 : Array Value) (n0 : Nat) (R : Room) (y : MethodName) (code : ByteArray) (mx : Nat) (ret : Option FieldType) (cells slots pc : Nat) (Ls : List Slot) (st : List Value) (H : MH) (Q : Option Value → MH → Prop) : Prop :=
  ∀ (p : Program) (e : Env) (s : State) (m : MethodId) (args : Array Value) (below : List Frame) (meth : Method) (c : Code) (T : State) (locs : List Loc),
    Stand p l e R s m args below meth c T locs cells slots → p.tables.exec = Jvm.exec → Z.Warmed39 s.vm → c.code = code → c.maxLocals = mx → s.vm.findClass y.cls = some m.cls → meth.name = y.name → meth.sig.returnType = ret → meth.locks = false →
    Fr n0 locs → Rel Z a0 n0 H T.heap → cells ≤ R.cells → slots ≤ R.slots →
    ∃ v H' L s₂, Steps p.tables e below (T.setTop (mkF m pc ⟨Ls⟩ st)) s₂ ∧ s₂.status = .running ∧ Ended s₂ below (.returned v) ∧ Fr n0 L ∧ Rel Z a0 n0 H' s₂.heap ∧ Q v H' ∧ s.WarmedH s₂.vm ∧ s.sameButNew ({ s₂ with vm := s.vm } : State) L R.cells R.slots
/-- a method's contract: called with these arguments over this small heap it returns, and Q holds -/
def Con (l : Launch) (Z : State) (a0 : Array Value) (n0 : Nat) (y : MethodName) (code : ByteArray) (mx : Nat) (ret : Option FieldType) (rm : Room) (as : Array Value) (H : MH) (Q : Option Value → MH → Prop) : Prop :=
  ∀ (ws : List Cond) (h0 : Heap), Rel Z a0 n0 H h0 → MetFree l y (head1 (Cond.code y code mx ret :: ws) rm) (fun a U => a = as ∧ Z.Warmed39 U.vm ∧ U.heap = h0) (fun _ _ _ _ _ => True)
    (fun _ U o U' => ∃ v L, o = .returned v ∧ (Fr n0 L ∧ ∃ H', Rel Z a0 n0 H' U'.heap ∧ Q v H') ∧ FrameEnd U o U' L rm.cells rm.slots)

variable {l : Launch} {Z : State} {a0 : Array Value} {n0 : Nat} {R : Room} {y : MethodName} {code : ByteArray} {mx : Nat} {ret : Option FieldType} {cells slots pc : Nat} {Ls : List Slot} {st : List Value} {H : MH} {Q : Option Value → MH → Prop}

def locsOf : List Value → List Slot
  | [] => []
  | v :: t => if v.category = 2 then .val v :: .second :: locsOf t else .val v :: locsOf t
theorem foldl_locs (l : List Value) : ∀ acc : Array Slot, l.foldl (fun acc v => if v.category = 2 then (acc.push (.val v)).push .second else acc.push (.val v)) acc = acc ++ (locsOf l).toArray := by
  induction l with
  | nil => intro acc; simp [locsOf]
  | cons v t ih =>
    intro acc
    rw [List.foldl_cons, ih, locsOf]
    split <;> simp
theorem efG (m : MethodId) (l : List Value) (mx : Nat) : entryFrame m l.toArray mx = mkF m 0 ⟨locsOf l ++ List.replicate (mx - (locsOf l).length) .unset⟩ [] := by
  have h : argsToLocals l.toArray mx = ⟨locsOf l ++ List.replicate (mx - (locsOf l).length) .unset⟩ := by
    unfold argsToLocals
    rw [show l.toArray.foldl (init := #[]) (fun acc v => if v.category = 2 then (acc.push (.val v)).push .second else acc.push (.val v)) = (locsOf l).toArray by rw [List.foldl_toArray, foldl_locs]; simp]
    apply Array.ext'
    simp
  simp only [entryFrame, mkF, h]
theorem Con.intro {rm : Room} {as : Array Value} (hpn : plainFor y = true) (hE : ∀ m, entryFrame m as mx = mkF m 0 ⟨Ls⟩ []) (h : WP l Z a0 n0 rm y code mx ret 0 0 0 Ls [] H Q) : Con l Z a0 n0 y code mx ret rm as H Q := by
  intro ws h0 hR
  refine MetFree.of_bodySF hpn hisR ?_
  intro p e s m args below meth c s₁ Bd hml0 hP hK
  obtain ⟨rfl, hZ, hh⟩ := hP
  have e0 : s₁.heap = h0 := by rw [← hh, Bd.state]; rfl
  obtain ⟨v, H', L, s2, k1, k2, k3, k4, k5, k6, k7, k8⟩ := h p e s m _ below meth c s₁ [] (Stand.of_body Bd) Bd.exec hZ Bd.bytes hml0 (findClass_of_methodNamed Bd.named) (name_of_methodNamed Bd.named Bd.method).1 Bd.returns Bd.notSynchronized (Fr.nil n0) (by rw [e0]; exact hR) (Nat.zero_le _) (Nat.zero_le _)
  exact ⟨s2, _, castTop (hE m) k1, k2, k3, v, L, rfl, ⟨k4, H', k5, k6⟩, ⟨_, rfl⟩, k7, k8⟩
theorem Con.mono {rm : Room} {as : Array Value} {Q' : Option Value → MH → Prop} (h : Con l Z a0 n0 y code mx ret rm as H Q) (k : ∀ v H', Q v H' → Q' v H') : Con l Z a0 n0 y code mx ret rm as H Q' := by
  intro ws h0 hR p e ha hc hk s m args below hf happ hP hK
  obtain ⟨n, o, q1, q2, q3, v, L, q4, ⟨q5, H', q6, q7⟩, q8⟩ := h ws h0 hR p e ha hc hk s m args below hf happ hP hK
  exact ⟨n, o, q1, q2, q3, v, L, q4, ⟨q5, H', q6, k _ _ q7⟩, q8⟩
theorem WP.mono {Q' : Option Value → MH → Prop} (h : WP l Z a0 n0 R y code mx ret cells slots pc Ls st H Q) (k : ∀ v H', Q v H' → Q' v H') : WP l Z a0 n0 R y code mx ret cells slots pc Ls st H Q' := by
  intro p e s m args below meth c T locs X hx hZ hc hm ho hn hr hl hF hR g1 g2
  obtain ⟨v, H', L, s2, k1, k2, k3, k4, k5, k6, k7⟩ := h p e s m args below meth c T locs X hx hZ hc hm ho hn hr hl hF hR g1 g2
  exact ⟨v, H', L, s2, k1, k2, k3, k4, k5, k _ _ k6, k7⟩

/-- a step that moves the frame alone -/
theorem pure {pc' : Nat} {Ls' : List Slot} {st' : List Value}
    (h : ∀ (p : Program) (e : Env) (m : MethodId) (below : List Frame) (c : Code) (T target : State), At T m c below → p.tables.exec = Jvm.exec → c.code = code → Steps p.tables e below (T.setTop (mkF m pc' ⟨Ls'⟩ st')) target → Steps p.tables e below (T.setTop (mkF m pc ⟨Ls⟩ st)) target)
    (k : WP l Z a0 n0 R y code mx ret cells slots pc' Ls' st' H Q) : WP l Z a0 n0 R y code mx ret cells slots pc Ls st H Q := by
  intro p e s m args below meth c T locs X hx hZ hc hm ho hn hr hl hF hR g1 g2
  obtain ⟨v, H', L, s2, k1, k2⟩ := k p e s m args below meth c T locs X hx hZ hc hm ho hn hr hl hF hR g1 g2
  exact ⟨v, H', L, s2, h p e m below c T s2 X.here hx hc k1, k2⟩
/-- a step that hands back a new state over the same heap -/
theorem stepT {pc' : Nat} {Ls' : List Slot} {st' : List Value}
    (h : ∀ (p : Program) (e : Env) (s : State) (m : MethodId) (args : Array Value) (below : List Frame) (meth : Method) (c : Code) (T : State) (locs : List Loc), Stand p l e R s m args below meth c T locs cells slots → p.tables.exec = Jvm.exec → Z.Warmed39 s.vm → c.code = code → c.maxLocals = mx → s.vm.findClass y.cls = some m.cls → Rel Z a0 n0 H T.heap →
      ∃ T', Stand p l e R s m args below meth c T' locs cells slots ∧ T'.heap = T.heap ∧ ∀ target, Steps p.tables e below (T'.setTop (mkF m pc' ⟨Ls'⟩ st')) target → Steps p.tables e below (T.setTop (mkF m pc ⟨Ls⟩ st)) target)
    (k : WP l Z a0 n0 R y code mx ret cells slots pc' Ls' st' H Q) : WP l Z a0 n0 R y code mx ret cells slots pc Ls st H Q := by
  intro p e s m args below meth c T locs X hx hZ hc hm ho hn hr hl hF hR g1 g2
  obtain ⟨T', X', e', st⟩ := h p e s m args below meth c T locs X hx hZ hc hm ho hR
  obtain ⟨v, H', L, s2, k1, k2⟩ := k p e s m args below meth c T' locs X' hx hZ hc hm ho hn hr hl hF (by rw [e']; exact hR) g1 g2
  exact ⟨v, H', L, s2, st _ k1, k2⟩
/-- a step that writes one place of the cell (a, cl) -/
theorem stepW {pc' : Nat} {Ls' : List Slot} {st' : List Value} {pre post : MH} {a : Addr} {cl cl' : MC}
    (h : ∀ (p : Program) (e : Env) (s : State) (m : MethodId) (args : Array Value) (below : List Frame) (meth : Method) (c : Code) (T : State) (locs : List Loc), Stand p l e R s m args below meth c T locs cells slots → p.tables.exec = Jvm.exec → Z.Warmed39 s.vm → c.code = code → c.maxLocals = mx → s.vm.findClass y.cls = some m.cls → meth.name = y.name → COk Z a0 T.heap a cl →
      ∃ T' h' sl v, Stand p l e R s m args below meth c T' (locs ++ [⟨a, sl⟩]) cells slots ∧ T'.heap = h' ∧ Wr T.heap h' a sl v ∧ (COk Z a0 T.heap a cl → COk Z a0 h' a cl') ∧ ∀ target, Steps p.tables e below (T'.setTop (mkF m pc' ⟨Ls'⟩ st')) target → Steps p.tables e below (T.setTop (mkF m pc ⟨Ls⟩ st)) target)
    (k : WP l Z a0 n0 R y code mx ret cells slots pc' Ls' st' (pre ++ (a, cl') :: post) Q) : WP l Z a0 n0 R y code mx ret cells slots pc Ls st (pre ++ (a, cl) :: post) Q := by
  intro p e s m args below meth c T locs X hx hZ hc hm ho hn hr hl hF hR g1 g2
  have hA := hR.at (k := pre.length) (a := a) (c := cl) (by simp)
  obtain ⟨T', h', sl, v, X', e', W, hco, st⟩ := h p e s m args below meth c T locs X hx hZ hc hm ho hn hA.2
  obtain ⟨v, H', L, s2, k1, k2⟩ := k p e s m args below meth c T' _ X' hx hZ hc hm ho hn hr hl (Fr.snoc X' hF hA.1) (by rw [e']; exact hR.set W hco) g1 g2
  exact ⟨v, H', L, s2, st _ k1, k2⟩

theorem iloadN {k : Fin 4} {v : Int32} {pc' : Nat} (hd : decode code pc = .ok (.iload_n k, 1)) (hl : Ls[k.val]? = some (.val (.int v))) (hp : pc + 1 = pc') (w : WP l Z a0 n0 R y code mx ret cells slots pc' Ls (.int v :: st) H Q) : WP l Z a0 n0 R y code mx ret cells slots pc Ls st H Q := by
  subst hp
  exact pure (fun p e m below c T t h hx hc hs => XS.iloadN h hx rfl (hb hc hd) (by simpa using hl) hs) w
theorem iload {k : Nat} {v : Int32} {pc' : Nat} (hd : decode code pc = .ok (.iload k, 2)) (hl : Ls[k]? = some (.val (.int v))) (hp : pc + 2 = pc') (w : WP l Z a0 n0 R y code mx ret cells slots pc' Ls (.int v :: st) H Q) : WP l Z a0 n0 R y code mx ret cells slots pc Ls st H Q := by
  subst hp
  exact pure (fun p e m below c T t h hx hc hs => XS.iload h hx rfl (hb hc hd) (by simpa using hl) hs) w
theorem lloadN {k : Fin 4} {v : Int64} {pc' : Nat} (hd : decode code pc = .ok (.lload_n k, 1)) (hl : Ls[k.val]? = some (.val (.long v))) (hp : pc + 1 = pc') (w : WP l Z a0 n0 R y code mx ret cells slots pc' Ls (.long v :: st) H Q) : WP l Z a0 n0 R y code mx ret cells slots pc Ls st H Q := by
  subst hp
  exact pure (fun p e m below c T t h hx hc hs => XS.lloadN h hx rfl (hb hc hd) (by simpa using hl) hs) w
theorem lload {k : Nat} {v : Int64} {pc' : Nat} (hd : decode code pc = .ok (.lload k, 2)) (hl : Ls[k]? = some (.val (.long v))) (hp : pc + 2 = pc') (w : WP l Z a0 n0 R y code mx ret cells slots pc' Ls (.long v :: st) H Q) : WP l Z a0 n0 R y code mx ret cells slots pc Ls st H Q := by
  subst hp
  exact pure (fun p e m below c T t h hx hc hs => XS.lload h hx rfl (hb hc hd) (by simpa using hl) hs) w
theorem aloadN {k : Fin 4} {v : Value} {pc' : Nat} (hd : decode code pc = .ok (.aload_n k, 1)) (hl : Ls[k.val]? = some (.val v)) (hv : v.isRef = true) (hp : pc + 1 = pc') (w : WP l Z a0 n0 R y code mx ret cells slots pc' Ls (v :: st) H Q) : WP l Z a0 n0 R y code mx ret cells slots pc Ls st H Q := by
  subst hp
  exact pure (fun p e m below c T t h hx hc hs => XS.aloadN h hx rfl (hb hc hd) (by simpa using hl) hv hs) w
theorem aload {k : Nat} {v : Value} {pc' : Nat} (hd : decode code pc = .ok (.aload k, 2)) (hl : Ls[k]? = some (.val v)) (hv : v.isRef = true) (hp : pc + 2 = pc') (w : WP l Z a0 n0 R y code mx ret cells slots pc' Ls (v :: st) H Q) : WP l Z a0 n0 R y code mx ret cells slots pc Ls st H Q := by
  subst hp
  exact pure (fun p e m below c T t h hx hc hs => XS.aload h hx rfl (hb hc hd) (by simpa using hl) hv hs) w
theorem iconst {i : Int} (n : Int32) {pc' : Nat} (hd : decode code pc = .ok (.iconst i, 1)) (hn : Int32.ofInt i = n) (hp : pc + 1 = pc') (w : WP l Z a0 n0 R y code mx ret cells slots pc' Ls (.int n :: st) H Q) : WP l Z a0 n0 R y code mx ret cells slots pc Ls st H Q := by
  subst hp hn
  exact pure (fun p e m below c T t h hx hc hs => XS.iconst h hx rfl (hb hc hd) hs) w
theorem bipush {i : Int} (n : Int32) {pc' : Nat} (hd : decode code pc = .ok (.bipush i, 2)) (hn : (Int8.ofInt i).toInt32 = n) (hp : pc + 2 = pc') (w : WP l Z a0 n0 R y code mx ret cells slots pc' Ls (.int n :: st) H Q) : WP l Z a0 n0 R y code mx ret cells slots pc Ls st H Q := by
  subst hp hn
  exact pure (fun p e m below c T t h hx hc hs => XS.bipush h hx rfl (hb hc hd) hs) w
theorem iadd {x z : Int32} {pc' : Nat} (hd : decode code pc = .ok (.iadd, 1)) (hp : pc + 1 = pc') (w : WP l Z a0 n0 R y code mx ret cells slots pc' Ls (.int (x + z) :: st) H Q) : WP l Z a0 n0 R y code mx ret cells slots pc Ls (.int z :: .int x :: st) H Q := by
  subst hp
  exact pure (fun p e m below c T t h hx hc hs => XS.iadd h hx rfl (hb hc hd) rfl hs) w
theorem isub {x z : Int32} {pc' : Nat} (hd : decode code pc = .ok (.isub, 1)) (hp : pc + 1 = pc') (w : WP l Z a0 n0 R y code mx ret cells slots pc' Ls (.int (x - z) :: st) H Q) : WP l Z a0 n0 R y code mx ret cells slots pc Ls (.int z :: .int x :: st) H Q := by
  subst hp
  exact pure (fun p e m below c T t h hx hc hs => XS.isub h hx rfl (hb hc hd) rfl hs) w
theorem imul {x z : Int32} {pc' : Nat} (hd : decode code pc = .ok (.imul, 1)) (hp : pc + 1 = pc') (w : WP l Z a0 n0 R y code mx ret cells slots pc' Ls (.int (x * z) :: st) H Q) : WP l Z a0 n0 R y code mx ret cells slots pc Ls (.int z :: .int x :: st) H Q := by
  subst hp
  exact pure (fun p e m below c T t h hx hc hs => XS.imul h hx rfl (hb hc hd) rfl hs) w
theorem iand {x z : Int32} {pc' : Nat} (hd : decode code pc = .ok (.iand, 1)) (hp : pc + 1 = pc') (w : WP l Z a0 n0 R y code mx ret cells slots pc' Ls (.int (x &&& z) :: st) H Q) : WP l Z a0 n0 R y code mx ret cells slots pc Ls (.int z :: .int x :: st) H Q := by
  subst hp
  exact pure (fun p e m below c T t h hx hc hs => XS.iand h hx rfl (hb hc hd) rfl hs) w
theorem ior {x z : Int32} {pc' : Nat} (hd : decode code pc = .ok (.ior, 1)) (hp : pc + 1 = pc') (w : WP l Z a0 n0 R y code mx ret cells slots pc' Ls (.int (x ||| z) :: st) H Q) : WP l Z a0 n0 R y code mx ret cells slots pc Ls (.int z :: .int x :: st) H Q := by
  subst hp
  exact pure (fun p e m below c T t h hx hc hs => XS.ior h hx rfl (hb hc hd) rfl hs) w
theorem ishl {x z : Int32} {pc' : Nat} (hd : decode code pc = .ok (.ishl, 1)) (hp : pc + 1 = pc') (w : WP l Z a0 n0 R y code mx ret cells slots pc' Ls (.int (x <<< (z &&& 31)) :: st) H Q) : WP l Z a0 n0 R y code mx ret cells slots pc Ls (.int z :: .int x :: st) H Q := by
  subst hp
  exact pure (fun p e m below c T t h hx hc hs => XS.ishl h hx rfl (hb hc hd) rfl hs) w
theorem ishr {x z : Int32} {pc' : Nat} (hd : decode code pc = .ok (.ishr, 1)) (hp : pc + 1 = pc') (w : WP l Z a0 n0 R y code mx ret cells slots pc' Ls (.int (x >>> (z &&& 31)) :: st) H Q) : WP l Z a0 n0 R y code mx ret cells slots pc Ls (.int z :: .int x :: st) H Q := by
  subst hp
  exact pure (fun p e m below c T t h hx hc hs => XS.ishr h hx rfl (hb hc hd) rfl hs) w
theorem iushr {x z : Int32} {pc' : Nat} (hd : decode code pc = .ok (.iushr, 1)) (hp : pc + 1 = pc') (w : WP l Z a0 n0 R y code mx ret cells slots pc' Ls (.int ((x.toUInt32 >>> (z &&& 31).toUInt32).toInt32) :: st) H Q) : WP l Z a0 n0 R y code mx ret cells slots pc Ls (.int z :: .int x :: st) H Q := by
  subst hp
  exact pure (fun p e m below c T t h hx hc hs => XS.iushr h hx rfl (hb hc hd) rfl hs) w
theorem lcmp {x z : Int64} {pc' : Nat} (hd : decode code pc = .ok (.lcmp, 1)) (hp : pc + 1 = pc') (w : WP l Z a0 n0 R y code mx ret cells slots pc' Ls (.int (lcmpW x z) :: st) H Q) : WP l Z a0 n0 R y code mx ret cells slots pc Ls (.long z :: .long x :: st) H Q := by
  subst hp
  exact pure (fun p e m below c T t h hx hc hs => XS.lcmp h hx rfl (hb hc hd) rfl hs) w
theorem dup {v : Value} {pc' : Nat} (hd : decode code pc = .ok (.dup, 1)) (hv : v.category = 1) (hp : pc + 1 = pc') (w : WP l Z a0 n0 R y code mx ret cells slots pc' Ls (v :: v :: st) H Q) : WP l Z a0 n0 R y code mx ret cells slots pc Ls (v :: st) H Q := by
  subst hp
  exact pure (fun p e m below c T t h hx hc hs => XS.dup h hx rfl (hb hc hd) rfl hv hs) w
theorem dupX1 {v u : Value} {pc' : Nat} (hd : decode code pc = .ok (.dup_x1, 1)) (hv : v.category = 1) (hu : u.category = 1) (hp : pc + 1 = pc') (w : WP l Z a0 n0 R y code mx ret cells slots pc' Ls (v :: u :: v :: st) H Q) : WP l Z a0 n0 R y code mx ret cells slots pc Ls (v :: u :: st) H Q := by
  subst hp
  exact pure (fun p e m below c T t h hx hc hs => XS.dupX1 h hx rfl (hb hc hd) rfl hv hu hs) w
theorem goto {o : Int} {pc' : Nat} (hd : decode code pc = .ok (.goto o, 3)) (hp : (pc : Int) + o = (pc' : Int)) (w : WP l Z a0 n0 R y code mx ret cells slots pc' Ls st H Q) : WP l Z a0 n0 R y code mx ret cells slots pc Ls st H Q :=
  pure (fun p e m below c T t h hx hc hs => XS.goto h hx rfl (pc0 := pc) (pc' := pc') rfl (hb hc hd) (by omega) (by omega) hs) w
theorem hI_lt {x z : Int32} : (if_icmp.holds .lt x z = true → x.toInt < z.toInt) ∧ (if_icmp.holds .lt x z = false → z.toInt ≤ x.toInt) := by
  constructor <;> intro hq <;> simp [if_icmp.holds, Int32.lt_iff_toInt_lt, Int32.le_iff_toInt_le] at hq ⊢ <;> first | omega | exact hq | simp_all
theorem icmp_lt {x z : Int32} {o : Int} {pt pf : Nat} (hd : decode code pc = .ok (.if_icmp .lt o, 3)) (hp : (pc : Int) + o = (pt : Int)) (hq : pc + 3 = pf) (wt : x.toInt < z.toInt → WP l Z a0 n0 R y code mx ret cells slots pt Ls st H Q) (wf : z.toInt ≤ x.toInt → WP l Z a0 n0 R y code mx ret cells slots pf Ls st H Q) : WP l Z a0 n0 R y code mx ret cells slots pc Ls (.int z :: .int x :: st) H Q := by
  subst hq
  cases hh : if_icmp.holds .lt x z
  · exact pure (fun p e m below c T t h hx hc hs => XS.icmpNo h hx rfl (hb hc hd) rfl hh hs) (wf (hI_lt.2 hh))
  · exact pure (fun p e m below c T t h hx hc hs => XS.icmpYes h hx rfl (pc0 := pc) (pc' := pt) rfl (hb hc hd) rfl hh (by omega) (by omega) hs) (wt (hI_lt.1 hh))
theorem hZ_lt {x : Int32} : (ifCond.holds .lt x = true → x.toInt < 0) ∧ (ifCond.holds .lt x = false → 0 ≤ x.toInt) := by
  rw [if0]
  exact hI_lt (z := 0)
theorem if_lt {x : Int32} {o : Int} {pt pf : Nat} (hd : decode code pc = .ok (.ifCond .lt o, 3)) (hp : (pc : Int) + o = (pt : Int)) (hq : pc + 3 = pf) (wt : x.toInt < 0 → WP l Z a0 n0 R y code mx ret cells slots pt Ls st H Q) (wf : 0 ≤ x.toInt → WP l Z a0 n0 R y code mx ret cells slots pf Ls st H Q) : WP l Z a0 n0 R y code mx ret cells slots pc Ls (.int x :: st) H Q := by
  subst hq
  cases hh : ifCond.holds .lt x
  · exact pure (fun p e m below c T t h hx hc hs => XS.ifNo h hx rfl (hb hc hd) rfl hh hs) (wf (hZ_lt.2 hh))
  · exact pure (fun p e m below c T t h hx hc hs => XS.ifYes h hx rfl (pc0 := pc) (pc' := pt) rfl (hb hc hd) rfl hh (by omega) (by omega) hs) (wt (hZ_lt.1 hh))
theorem lcmp_lt {x z : Int64} {o : Int} {pt pf p1 : Nat} (hd : decode code pc = .ok (.lcmp, 1)) (h1 : pc + 1 = p1) (he : decode code p1 = .ok (.ifCond .lt o, 3)) (hp : (p1 : Int) + o = (pt : Int)) (hq : p1 + 3 = pf) (wt : x.toInt < z.toInt → WP l Z a0 n0 R y code mx ret cells slots pt Ls st H Q) (wf : z.toInt ≤ x.toInt → WP l Z a0 n0 R y code mx ret cells slots pf Ls st H Q) : WP l Z a0 n0 R y code mx ret cells slots pc Ls (.long z :: .long x :: st) H Q :=
  lcmp hd h1 (if_lt he hp hq (fun q => wt ((by obtain ⟨k1, k2, k3⟩ := c_lcmp x z; omega))) fun q => wf ((by obtain ⟨k1, k2, k3⟩ := c_lcmp x z; omega)))
theorem hI_ge {x z : Int32} : (if_icmp.holds .ge x z = true → z.toInt ≤ x.toInt) ∧ (if_icmp.holds .ge x z = false → x.toInt < z.toInt) := by
  constructor <;> intro hq <;> simp [if_icmp.holds, Int32.lt_iff_toInt_lt, Int32.le_iff_toInt_le] at hq ⊢ <;> first | omega | exact hq | simp_all
theorem icmp_ge {x z : Int32} {o : Int} {pt pf : Nat} (hd : decode code pc = .ok (.if_icmp .ge o, 3)) (hp : (pc : Int) + o = (pt : Int)) (hq : pc + 3 = pf) (wt : z.toInt ≤ x.toInt → WP l Z a0 n0 R y code mx ret cells slots pt Ls st H Q) (wf : x.toInt < z.toInt → WP l Z a0 n0 R y code mx ret cells slots pf Ls st H Q) : WP l Z a0 n0 R y code mx ret cells slots pc Ls (.int z :: .int x :: st) H Q := by
  subst hq
  cases hh : if_icmp.holds .ge x z
  · exact pure (fun p e m below c T t h hx hc hs => XS.icmpNo h hx rfl (hb hc hd) rfl hh hs) (wf (hI_ge.2 hh))
  · exact pure (fun p e m below c T t h hx hc hs => XS.icmpYes h hx rfl (pc0 := pc) (pc' := pt) rfl (hb hc hd) rfl hh (by omega) (by omega) hs) (wt (hI_ge.1 hh))
theorem hZ_ge {x : Int32} : (ifCond.holds .ge x = true → 0 ≤ x.toInt) ∧ (ifCond.holds .ge x = false → x.toInt < 0) := by
  rw [if0]
  exact hI_ge (z := 0)
theorem if_ge {x : Int32} {o : Int} {pt pf : Nat} (hd : decode code pc = .ok (.ifCond .ge o, 3)) (hp : (pc : Int) + o = (pt : Int)) (hq : pc + 3 = pf) (wt : 0 ≤ x.toInt → WP l Z a0 n0 R y code mx ret cells slots pt Ls st H Q) (wf : x.toInt < 0 → WP l Z a0 n0 R y code mx ret cells slots pf Ls st H Q) : WP l Z a0 n0 R y code mx ret cells slots pc Ls (.int x :: st) H Q := by
  subst hq
  cases hh : ifCond.holds .ge x
  · exact pure (fun p e m below c T t h hx hc hs => XS.ifNo h hx rfl (hb hc hd) rfl hh hs) (wf (hZ_ge.2 hh))
  · exact pure (fun p e m below c T t h hx hc hs => XS.ifYes h hx rfl (pc0 := pc) (pc' := pt) rfl (hb hc hd) rfl hh (by omega) (by omega) hs) (wt (hZ_ge.1 hh))
theorem lcmp_ge {x z : Int64} {o : Int} {pt pf p1 : Nat} (hd : decode code pc = .ok (.lcmp, 1)) (h1 : pc + 1 = p1) (he : decode code p1 = .ok (.ifCond .ge o, 3)) (hp : (p1 : Int) + o = (pt : Int)) (hq : p1 + 3 = pf) (wt : z.toInt ≤ x.toInt → WP l Z a0 n0 R y code mx ret cells slots pt Ls st H Q) (wf : x.toInt < z.toInt → WP l Z a0 n0 R y code mx ret cells slots pf Ls st H Q) : WP l Z a0 n0 R y code mx ret cells slots pc Ls (.long z :: .long x :: st) H Q :=
  lcmp hd h1 (if_ge he hp hq (fun q => wt ((by obtain ⟨k1, k2, k3⟩ := c_lcmp x z; omega))) fun q => wf ((by obtain ⟨k1, k2, k3⟩ := c_lcmp x z; omega)))
theorem hI_gt {x z : Int32} : (if_icmp.holds .gt x z = true → z.toInt < x.toInt) ∧ (if_icmp.holds .gt x z = false → x.toInt ≤ z.toInt) := by
  constructor <;> intro hq <;> simp [if_icmp.holds, Int32.lt_iff_toInt_lt, Int32.le_iff_toInt_le] at hq ⊢ <;> first | omega | exact hq | simp_all
theorem hZ_gt {x : Int32} : (ifCond.holds .gt x = true → 0 < x.toInt) ∧ (ifCond.holds .gt x = false → x.toInt ≤ 0) := by
  rw [if0]
  exact hI_gt (z := 0)
theorem if_gt {x : Int32} {o : Int} {pt pf : Nat} (hd : decode code pc = .ok (.ifCond .gt o, 3)) (hp : (pc : Int) + o = (pt : Int)) (hq : pc + 3 = pf) (wt : 0 < x.toInt → WP l Z a0 n0 R y code mx ret cells slots pt Ls st H Q) (wf : x.toInt ≤ 0 → WP l Z a0 n0 R y code mx ret cells slots pf Ls st H Q) : WP l Z a0 n0 R y code mx ret cells slots pc Ls (.int x :: st) H Q := by
  subst hq
  cases hh : ifCond.holds .gt x
  · exact pure (fun p e m below c T t h hx hc hs => XS.ifNo h hx rfl (hb hc hd) rfl hh hs) (wf (hZ_gt.2 hh))
  · exact pure (fun p e m below c T t h hx hc hs => XS.ifYes h hx rfl (pc0 := pc) (pc' := pt) rfl (hb hc hd) rfl hh (by omega) (by omega) hs) (wt (hZ_gt.1 hh))
theorem lcmp_gt {x z : Int64} {o : Int} {pt pf p1 : Nat} (hd : decode code pc = .ok (.lcmp, 1)) (h1 : pc + 1 = p1) (he : decode code p1 = .ok (.ifCond .gt o, 3)) (hp : (p1 : Int) + o = (pt : Int)) (hq : p1 + 3 = pf) (wt : z.toInt < x.toInt → WP l Z a0 n0 R y code mx ret cells slots pt Ls st H Q) (wf : x.toInt ≤ z.toInt → WP l Z a0 n0 R y code mx ret cells slots pf Ls st H Q) : WP l Z a0 n0 R y code mx ret cells slots pc Ls (.long z :: .long x :: st) H Q :=
  lcmp hd h1 (if_gt he hp hq (fun q => wt ((by obtain ⟨k1, k2, k3⟩ := c_lcmp x z; omega))) fun q => wf ((by obtain ⟨k1, k2, k3⟩ := c_lcmp x z; omega)))
theorem hI_le {x z : Int32} : (if_icmp.holds .le x z = true → x.toInt ≤ z.toInt) ∧ (if_icmp.holds .le x z = false → z.toInt < x.toInt) := by
  constructor <;> intro hq <;> simp [if_icmp.holds, Int32.lt_iff_toInt_lt, Int32.le_iff_toInt_le] at hq ⊢ <;> first | omega | exact hq | simp_all
theorem icmp_le {x z : Int32} {o : Int} {pt pf : Nat} (hd : decode code pc = .ok (.if_icmp .le o, 3)) (hp : (pc : Int) + o = (pt : Int)) (hq : pc + 3 = pf) (wt : x.toInt ≤ z.toInt → WP l Z a0 n0 R y code mx ret cells slots pt Ls st H Q) (wf : z.toInt < x.toInt → WP l Z a0 n0 R y code mx ret cells slots pf Ls st H Q) : WP l Z a0 n0 R y code mx ret cells slots pc Ls (.int z :: .int x :: st) H Q := by
  subst hq
  cases hh : if_icmp.holds .le x z
  · exact pure (fun p e m below c T t h hx hc hs => XS.icmpNo h hx rfl (hb hc hd) rfl hh hs) (wf (hI_le.2 hh))
  · exact pure (fun p e m below c T t h hx hc hs => XS.icmpYes h hx rfl (pc0 := pc) (pc' := pt) rfl (hb hc hd) rfl hh (by omega) (by omega) hs) (wt (hI_le.1 hh))
theorem hZ_le {x : Int32} : (ifCond.holds .le x = true → x.toInt ≤ 0) ∧ (ifCond.holds .le x = false → 0 < x.toInt) := by
  rw [if0]
  exact hI_le (z := 0)
theorem if_le {x : Int32} {o : Int} {pt pf : Nat} (hd : decode code pc = .ok (.ifCond .le o, 3)) (hp : (pc : Int) + o = (pt : Int)) (hq : pc + 3 = pf) (wt : x.toInt ≤ 0 → WP l Z a0 n0 R y code mx ret cells slots pt Ls st H Q) (wf : 0 < x.toInt → WP l Z a0 n0 R y code mx ret cells slots pf Ls st H Q) : WP l Z a0 n0 R y code mx ret cells slots pc Ls (.int x :: st) H Q := by
  subst hq
  cases hh : ifCond.holds .le x
  · exact pure (fun p e m below c T t h hx hc hs => XS.ifNo h hx rfl (hb hc hd) rfl hh hs) (wf (hZ_le.2 hh))
  · exact pure (fun p e m below c T t h hx hc hs => XS.ifYes h hx rfl (pc0 := pc) (pc' := pt) rfl (hb hc hd) rfl hh (by omega) (by omega) hs) (wt (hZ_le.1 hh))
theorem hI_eq {x z : Int32} : (if_icmp.holds .eq x z = true → x = z) ∧ (if_icmp.holds .eq x z = false → ¬ x = z) := by
  constructor <;> intro hq <;> simp [if_icmp.holds, Int32.lt_iff_toInt_lt, Int32.le_iff_toInt_le] at hq ⊢ <;> first | omega | exact hq | simp_all
theorem icmp_eq {x z : Int32} {o : Int} {pt pf : Nat} (hd : decode code pc = .ok (.if_icmp .eq o, 3)) (hp : (pc : Int) + o = (pt : Int)) (hq : pc + 3 = pf) (wt : x = z → WP l Z a0 n0 R y code mx ret cells slots pt Ls st H Q) (wf : ¬ x = z → WP l Z a0 n0 R y code mx ret cells slots pf Ls st H Q) : WP l Z a0 n0 R y code mx ret cells slots pc Ls (.int z :: .int x :: st) H Q := by
  subst hq
  cases hh : if_icmp.holds .eq x z
  · exact pure (fun p e m below c T t h hx hc hs => XS.icmpNo h hx rfl (hb hc hd) rfl hh hs) (wf (hI_eq.2 hh))
  · exact pure (fun p e m below c T t h hx hc hs => XS.icmpYes h hx rfl (pc0 := pc) (pc' := pt) rfl (hb hc hd) rfl hh (by omega) (by omega) hs) (wt (hI_eq.1 hh))
theorem hZ_eq {x : Int32} : (ifCond.holds .eq x = true → x = 0) ∧ (ifCond.holds .eq x = false → ¬ x = 0) := by
  rw [if0]
  exact hI_eq (z := 0)
theorem if_eq {x : Int32} {o : Int} {pt pf : Nat} (hd : decode code pc = .ok (.ifCond .eq o, 3)) (hp : (pc : Int) + o = (pt : Int)) (hq : pc + 3 = pf) (wt : x = 0 → WP l Z a0 n0 R y code mx ret cells slots pt Ls st H Q) (wf : ¬ x = 0 → WP l Z a0 n0 R y code mx ret cells slots pf Ls st H Q) : WP l Z a0 n0 R y code mx ret cells slots pc Ls (.int x :: st) H Q := by
  subst hq
  cases hh : ifCond.holds .eq x
  · exact pure (fun p e m below c T t h hx hc hs => XS.ifNo h hx rfl (hb hc hd) rfl hh hs) (wf (hZ_eq.2 hh))
  · exact pure (fun p e m below c T t h hx hc hs => XS.ifYes h hx rfl (pc0 := pc) (pc' := pt) rfl (hb hc hd) rfl hh (by omega) (by omega) hs) (wt (hZ_eq.1 hh))
theorem lcmp_eq {x z : Int64} {o : Int} {pt pf p1 : Nat} (hd : decode code pc = .ok (.lcmp, 1)) (h1 : pc + 1 = p1) (he : decode code p1 = .ok (.ifCond .eq o, 3)) (hp : (p1 : Int) + o = (pt : Int)) (hq : p1 + 3 = pf) (wt : x = z → WP l Z a0 n0 R y code mx ret cells slots pt Ls st H Q) (wf : ¬ x = z → WP l Z a0 n0 R y code mx ret cells slots pf Ls st H Q) : WP l Z a0 n0 R y code mx ret cells slots pc Ls (.long z :: .long x :: st) H Q :=
  lcmp hd h1 (if_eq he hp hq (fun q => wt ((lw_eq x z).mp q)) fun q => wf (fun e => q ((lw_eq x z).mpr e)))
theorem hI_ne {x z : Int32} : (if_icmp.holds .ne x z = true → ¬ x = z) ∧ (if_icmp.holds .ne x z = false → x = z) := by
  constructor <;> intro hq <;> simp [if_icmp.holds, Int32.lt_iff_toInt_lt, Int32.le_iff_toInt_le] at hq ⊢ <;> first | omega | exact hq | simp_all
theorem icmp_ne {x z : Int32} {o : Int} {pt pf : Nat} (hd : decode code pc = .ok (.if_icmp .ne o, 3)) (hp : (pc : Int) + o = (pt : Int)) (hq : pc + 3 = pf) (wt : ¬ x = z → WP l Z a0 n0 R y code mx ret cells slots pt Ls st H Q) (wf : x = z → WP l Z a0 n0 R y code mx ret cells slots pf Ls st H Q) : WP l Z a0 n0 R y code mx ret cells slots pc Ls (.int z :: .int x :: st) H Q := by
  subst hq
  cases hh : if_icmp.holds .ne x z
  · exact pure (fun p e m below c T t h hx hc hs => XS.icmpNo h hx rfl (hb hc hd) rfl hh hs) (wf (hI_ne.2 hh))
  · exact pure (fun p e m below c T t h hx hc hs => XS.icmpYes h hx rfl (pc0 := pc) (pc' := pt) rfl (hb hc hd) rfl hh (by omega) (by omega) hs) (wt (hI_ne.1 hh))
def ok1 : Slot → Bool
  | .unset => true
  | .val v => v.category == 1
  | .second => false
def ok2 : Slot → Slot → Bool
  | .val (.long _), .second => true
  | a, b => ok1 a && ok1 b
theorem stl1 (pre : List Slot) {o : Slot} {t : List Slot} {v : Value} (ho : ok1 o = true) (hv : v.category = 1) : storeLocals ⟨pre ++ o :: t⟩ pre.length v = some ⟨pre ++ .val v :: t⟩ := by
  have hg : (⟨pre ++ o :: t⟩ : Array Slot)[pre.length]? = some o := by simp
  have hs : storeSelf (⟨pre ++ o :: t⟩ : Array Slot) pre.length v = some ⟨pre ++ .val v :: t⟩ := by
    simp [storeSelf, setAt, hv, Array.setIfInBounds]
  cases o with
  | unset => simp only [storeLocals, hg]; exact hs
  | second => cases ho
  | val w =>
    have hw : ¬ w.category = 2 := by simp only [ok1, beq_iff_eq] at ho; omega
    simp only [storeLocals, hg]
    show (if w.category = 2 then _ else _) = _
    rw [if_neg hw]; exact hs
theorem stl2 (pre : List Slot) {o o' : Slot} {t : List Slot} {x : Int64} (ho : ok2 o o' = true) : storeLocals ⟨pre ++ o :: o' :: t⟩ pre.length (.long x) = some ⟨pre ++ .val (.long x) :: .second :: t⟩ := by
  have hg : (⟨pre ++ o :: o' :: t⟩ : Array Slot)[pre.length]? = some o := by simp
  have hs : ∀ q : Slot, (∀ w, q = .val w → w.category = 1) → storeSelf (⟨pre ++ o :: q :: t⟩ : Array Slot) pre.length (.long x) = some ⟨pre ++ .val (.long x) :: .second :: t⟩ := by
    intro q hq
    have e1 : setAt (⟨pre ++ o :: q :: t⟩ : Array Slot) pre.length (.val (.long x)) = some ⟨pre ++ .val (.long x) :: q :: t⟩ := by simp [setAt, Array.setIfInBounds]
    have e2 : (⟨pre ++ .val (.long x) :: q :: t⟩ : Array Slot)[pre.length + 1]? = some q := by simp
    have e3 : setAt (⟨pre ++ .val (.long x) :: q :: t⟩ : Array Slot) (pre.length + 1) .second = some ⟨pre ++ .val (.long x) :: .second :: t⟩ := by
      simp [setAt, Array.setIfInBounds]
    cases q with
    | unset => simp only [storeSelf, e1]; simp [Value.category, e2, e3]
    | second => simp only [storeSelf, e1]; simp [Value.category, e2, e3]
    | val w =>
      have hw1 : w.category = 1 := hq w rfl
      cases w <;> first | (simp [Value.category] at hw1; done) | (simp only [storeSelf, e1]; simp [Value.category, e2, e3])
  have hl : ∀ w : Value, ok1 (.val w) = true → w.category = 1 := fun w h => by simpa [ok1] using h
  have main : ∀ {o o' : Slot}, ok1 o = true → ok1 o' = true → (∀ q : Slot, (∀ w, q = .val w → w.category = 1) → storeSelf (⟨pre ++ o :: q :: t⟩ : Array Slot) pre.length (.long x) = some ⟨pre ++ .val (.long x) :: .second :: t⟩) → storeLocals ⟨pre ++ o :: o' :: t⟩ pre.length (.long x) = some ⟨pre ++ .val (.long x) :: .second :: t⟩ := by
    intro o o' h1 h2 hs
    have hg : (⟨pre ++ o :: o' :: t⟩ : Array Slot)[pre.length]? = some o := by simp
    have h3 := hs o' fun w e => hl w (by rw [← e]; exact h2)
    cases o with
    | unset => simp only [storeLocals, hg]; exact h3
    | second => cases h1
    | val w =>
      have hw : ¬ w.category = 2 := by have := hl w h1; omega
      simp only [storeLocals, hg]
      show (if w.category = 2 then _ else _) = _
      rw [if_neg hw]; exact h3
  by_cases hb : ok1 o = true ∧ ok1 o' = true
  · exact main hb.1 hb.2 hs
  · have : (∃ z, o = .val (.long z)) ∧ o' = .second := by
      unfold ok2 at ho
      split at ho
      · exact ⟨⟨_, rfl⟩, rfl⟩
      · simp only [Bool.and_eq_true] at ho; exact absurd ho hb
    obtain ⟨⟨z, rfl⟩, rfl⟩ := this
    simp only [storeLocals, hg]
    have e4 : setAt (⟨pre ++ .val (.long z) :: .second :: t⟩ : Array Slot) (pre.length + 1) .unset = some ⟨pre ++ .val (.long z) :: .unset :: t⟩ := by
      simp [setAt, Array.setIfInBounds]
    simp only [Option.bind_eq_bind, Option.bind_some, Value.category, if_true, e4]
    exact hs .unset fun w e => by cases e
theorem istoreN_1 {s0 : Slot} {o : Slot} {t : List Slot} {x : Int32} {pc' : Nat} (hd : decode code pc = .ok (.istore_n 1, 1)) (ho : ok1 o = true) (hp : pc + 1 = pc') (w : WP l Z a0 n0 R y code mx ret cells slots pc' (s0 :: .val (.int x) :: t) st H Q) : WP l Z a0 n0 R y code mx ret cells slots pc (s0 :: o :: t) (.int x :: st) H Q := by
  subst hp
  exact pure (fun p e m below c T t h hx hc' hs => XS.istoreN h hx rfl (hb hc' hd) rfl (stl1 [s0] ho rfl) hs) w
theorem lstoreN_2 {s0 s1 : Slot} {o o' : Slot} {t : List Slot} {x : Int64} {pc' : Nat} (hd : decode code pc = .ok (.lstore_n 2, 1)) (ho : ok2 o o' = true) (hp : pc + 1 = pc') (w : WP l Z a0 n0 R y code mx ret cells slots pc' (s0 :: s1 :: .val (.long x) :: .second :: t) st H Q) : WP l Z a0 n0 R y code mx ret cells slots pc (s0 :: s1 :: o :: o' :: t) (.long x :: st) H Q := by
  subst hp
  exact pure (fun p e m below c T t h hx hc' hs => XS.lstoreN h hx rfl (hb hc' hd) rfl (stl2 [s0, s1] ho) hs) w
theorem istore_4 {s0 s1 s2 s3 : Slot} {o : Slot} {t : List Slot} {x : Int32} {pc' : Nat} (hd : decode code pc = .ok (.istore 4, 2)) (ho : ok1 o = true) (hp : pc + 2 = pc') (w : WP l Z a0 n0 R y code mx ret cells slots pc' (s0 :: s1 :: s2 :: s3 :: .val (.int x) :: t) st H Q) : WP l Z a0 n0 R y code mx ret cells slots pc (s0 :: s1 :: s2 :: s3 :: o :: t) (.int x :: st) H Q := by
  subst hp
  exact pure (fun p e m below c T t h hx hc' hs => XS.istore h hx rfl (hb hc' hd) rfl (stl1 [s0, s1, s2, s3] ho rfl) hs) w
theorem istore_5 {s0 s1 s2 s3 s4 : Slot} {o : Slot} {t : List Slot} {x : Int32} {pc' : Nat} (hd : decode code pc = .ok (.istore 5, 2)) (ho : ok1 o = true) (hp : pc + 2 = pc') (w : WP l Z a0 n0 R y code mx ret cells slots pc' (s0 :: s1 :: s2 :: s3 :: s4 :: .val (.int x) :: t) st H Q) : WP l Z a0 n0 R y code mx ret cells slots pc (s0 :: s1 :: s2 :: s3 :: s4 :: o :: t) (.int x :: st) H Q := by
  subst hp
  exact pure (fun p e m below c T t h hx hc' hs => XS.istore h hx rfl (hb hc' hd) rfl (stl1 [s0, s1, s2, s3, s4] ho rfl) hs) w
theorem istore_6 {s0 s1 s2 s3 s4 s5 : Slot} {o : Slot} {t : List Slot} {x : Int32} {pc' : Nat} (hd : decode code pc = .ok (.istore 6, 2)) (ho : ok1 o = true) (hp : pc + 2 = pc') (w : WP l Z a0 n0 R y code mx ret cells slots pc' (s0 :: s1 :: s2 :: s3 :: s4 :: s5 :: .val (.int x) :: t) st H Q) : WP l Z a0 n0 R y code mx ret cells slots pc (s0 :: s1 :: s2 :: s3 :: s4 :: s5 :: o :: t) (.int x :: st) H Q := by
  subst hp
  exact pure (fun p e m below c T t h hx hc' hs => XS.istore h hx rfl (hb hc' hd) rfl (stl1 [s0, s1, s2, s3, s4, s5] ho rfl) hs) w
theorem iinc_6 {s0 s1 s2 s3 s4 s5 : Slot} {t : List Slot} {x : Int32} {i : Int} (n : Int32) {pc' : Nat} (hd : decode code pc = .ok (.iinc 6 i, 3)) (hn : Int32.ofInt i = n) (hp : pc + 3 = pc') (w : WP l Z a0 n0 R y code mx ret cells slots pc' (s0 :: s1 :: s2 :: s3 :: s4 :: s5 :: .val (.int (x + n)) :: t) st H Q) : WP l Z a0 n0 R y code mx ret cells slots pc (s0 :: s1 :: s2 :: s3 :: s4 :: s5 :: .val (.int x) :: t) st H Q := by
  subst hp hn
  exact pure (fun p e m below c T t h hx hc' hs => XS.iinc h hx rfl (hb hc' hd) rfl (stl1 [s0, s1, s2, s3, s4, s5] rfl rfl) hs) w
theorem astore_11 {s0 s1 s2 s3 s4 s5 s6 s7 s8 s9 s10 : Slot} {o : Slot} {t : List Slot} {v : Value} {pc' : Nat} (hd : decode code pc = .ok (.astore 11, 2)) (hv : v.isRef = true) (hc : v.category = 1) (ho : ok1 o = true) (hp : pc + 2 = pc') (w : WP l Z a0 n0 R y code mx ret cells slots pc' (s0 :: s1 :: s2 :: s3 :: s4 :: s5 :: s6 :: s7 :: s8 :: s9 :: s10 :: .val (v) :: t) st H Q) : WP l Z a0 n0 R y code mx ret cells slots pc (s0 :: s1 :: s2 :: s3 :: s4 :: s5 :: s6 :: s7 :: s8 :: s9 :: s10 :: o :: t) (v :: st) H Q := by
  subst hp
  exact pure (fun p e m below c T t h hx hc' hs => XS.astore h hx rfl (hb hc' hd) rfl hv (stl1 [s0, s1, s2, s3, s4, s5, s6, s7, s8, s9, s10] ho hc) hs) w
theorem astore_12 {s0 s1 s2 s3 s4 s5 s6 s7 s8 s9 s10 s11 : Slot} {o : Slot} {t : List Slot} {v : Value} {pc' : Nat} (hd : decode code pc = .ok (.astore 12, 2)) (hv : v.isRef = true) (hc : v.category = 1) (ho : ok1 o = true) (hp : pc + 2 = pc') (w : WP l Z a0 n0 R y code mx ret cells slots pc' (s0 :: s1 :: s2 :: s3 :: s4 :: s5 :: s6 :: s7 :: s8 :: s9 :: s10 :: s11 :: .val (v) :: t) st H Q) : WP l Z a0 n0 R y code mx ret cells slots pc (s0 :: s1 :: s2 :: s3 :: s4 :: s5 :: s6 :: s7 :: s8 :: s9 :: s10 :: s11 :: o :: t) (v :: st) H Q := by
  subst hp
  exact pure (fun p e m below c T t h hx hc' hs => XS.astore h hx rfl (hb hc' hd) rfl hv (stl1 [s0, s1, s2, s3, s4, s5, s6, s7, s8, s9, s10, s11] ho hc) hs) w
theorem istore_13 {s0 s1 s2 s3 s4 s5 s6 s7 s8 s9 s10 s11 s12 : Slot} {o : Slot} {t : List Slot} {x : Int32} {pc' : Nat} (hd : decode code pc = .ok (.istore 13, 2)) (ho : ok1 o = true) (hp : pc + 2 = pc') (w : WP l Z a0 n0 R y code mx ret cells slots pc' (s0 :: s1 :: s2 :: s3 :: s4 :: s5 :: s6 :: s7 :: s8 :: s9 :: s10 :: s11 :: s12 :: .val (.int x) :: t) st H Q) : WP l Z a0 n0 R y code mx ret cells slots pc (s0 :: s1 :: s2 :: s3 :: s4 :: s5 :: s6 :: s7 :: s8 :: s9 :: s10 :: s11 :: s12 :: o :: t) (.int x :: st) H Q := by
  subst hp
  exact pure (fun p e m below c T t h hx hc' hs => XS.istore h hx rfl (hb hc' hd) rfl (stl1 [s0, s1, s2, s3, s4, s5, s6, s7, s8, s9, s10, s11, s12] ho rfl) hs) w
theorem lstore_14 {s0 s1 s2 s3 s4 s5 s6 s7 s8 s9 s10 s11 s12 s13 : Slot} {o o' : Slot} {t : List Slot} {x : Int64} {pc' : Nat} (hd : decode code pc = .ok (.lstore 14, 2)) (ho : ok2 o o' = true) (hp : pc + 2 = pc') (w : WP l Z a0 n0 R y code mx ret cells slots pc' (s0 :: s1 :: s2 :: s3 :: s4 :: s5 :: s6 :: s7 :: s8 :: s9 :: s10 :: s11 :: s12 :: s13 :: .val (.long x) :: .second :: t) st H Q) : WP l Z a0 n0 R y code mx ret cells slots pc (s0 :: s1 :: s2 :: s3 :: s4 :: s5 :: s6 :: s7 :: s8 :: s9 :: s10 :: s11 :: s12 :: s13 :: o :: o' :: t) (.long x :: st) H Q := by
  subst hp
  exact pure (fun p e m below c T t h hx hc' hs => XS.lstore h hx rfl (hb hc' hd) rfl (stl2 [s0, s1, s2, s3, s4, s5, s6, s7, s8, s9, s10, s11, s12, s13] ho) hs) w
theorem istore_16 {s0 s1 s2 s3 s4 s5 s6 s7 s8 s9 s10 s11 s12 s13 s14 s15 : Slot} {o : Slot} {t : List Slot} {x : Int32} {pc' : Nat} (hd : decode code pc = .ok (.istore 16, 2)) (ho : ok1 o = true) (hp : pc + 2 = pc') (w : WP l Z a0 n0 R y code mx ret cells slots pc' (s0 :: s1 :: s2 :: s3 :: s4 :: s5 :: s6 :: s7 :: s8 :: s9 :: s10 :: s11 :: s12 :: s13 :: s14 :: s15 :: .val (.int x) :: t) st H Q) : WP l Z a0 n0 R y code mx ret cells slots pc (s0 :: s1 :: s2 :: s3 :: s4 :: s5 :: s6 :: s7 :: s8 :: s9 :: s10 :: s11 :: s12 :: s13 :: s14 :: s15 :: o :: t) (.int x :: st) H Q := by
  subst hp
  exact pure (fun p e m below c T t h hx hc' hs => XS.istore h hx rfl (hb hc' hd) rfl (stl1 [s0, s1, s2, s3, s4, s5, s6, s7, s8, s9, s10, s11, s12, s13, s14, s15] ho rfl) hs) w
theorem lstore_17 {s0 s1 s2 s3 s4 s5 s6 s7 s8 s9 s10 s11 s12 s13 s14 s15 s16 : Slot} {o o' : Slot} {t : List Slot} {x : Int64} {pc' : Nat} (hd : decode code pc = .ok (.lstore 17, 2)) (ho : ok2 o o' = true) (hp : pc + 2 = pc') (w : WP l Z a0 n0 R y code mx ret cells slots pc' (s0 :: s1 :: s2 :: s3 :: s4 :: s5 :: s6 :: s7 :: s8 :: s9 :: s10 :: s11 :: s12 :: s13 :: s14 :: s15 :: s16 :: .val (.long x) :: .second :: t) st H Q) : WP l Z a0 n0 R y code mx ret cells slots pc (s0 :: s1 :: s2 :: s3 :: s4 :: s5 :: s6 :: s7 :: s8 :: s9 :: s10 :: s11 :: s12 :: s13 :: s14 :: s15 :: s16 :: o :: o' :: t) (.long x :: st) H Q := by
  subst hp
  exact pure (fun p e m below c T t h hx hc' hs => XS.lstore h hx rfl (hb hc' hd) rfl (stl2 [s0, s1, s2, s3, s4, s5, s6, s7, s8, s9, s10, s11, s12, s13, s14, s15, s16] ho) hs) w
theorem istore_19 {s0 s1 s2 s3 s4 s5 s6 s7 s8 s9 s10 s11 s12 s13 s14 s15 s16 s17 s18 : Slot} {o : Slot} {t : List Slot} {x : Int32} {pc' : Nat} (hd : decode code pc = .ok (.istore 19, 2)) (ho : ok1 o = true) (hp : pc + 2 = pc') (w : WP l Z a0 n0 R y code mx ret cells slots pc' (s0 :: s1 :: s2 :: s3 :: s4 :: s5 :: s6 :: s7 :: s8 :: s9 :: s10 :: s11 :: s12 :: s13 :: s14 :: s15 :: s16 :: s17 :: s18 :: .val (.int x) :: t) st H Q) : WP l Z a0 n0 R y code mx ret cells slots pc (s0 :: s1 :: s2 :: s3 :: s4 :: s5 :: s6 :: s7 :: s8 :: s9 :: s10 :: s11 :: s12 :: s13 :: s14 :: s15 :: s16 :: s17 :: s18 :: o :: t) (.int x :: st) H Q := by
  subst hp
  exact pure (fun p e m below c T t h hx hc' hs => XS.istore h hx rfl (hb hc' hd) rfl (stl1 [s0, s1, s2, s3, s4, s5, s6, s7, s8, s9, s10, s11, s12, s13, s14, s15, s16, s17, s18] ho rfl) hs) w
theorem lstore_20 {s0 s1 s2 s3 s4 s5 s6 s7 s8 s9 s10 s11 s12 s13 s14 s15 s16 s17 s18 s19 : Slot} {o o' : Slot} {t : List Slot} {x : Int64} {pc' : Nat} (hd : decode code pc = .ok (.lstore 20, 2)) (ho : ok2 o o' = true) (hp : pc + 2 = pc') (w : WP l Z a0 n0 R y code mx ret cells slots pc' (s0 :: s1 :: s2 :: s3 :: s4 :: s5 :: s6 :: s7 :: s8 :: s9 :: s10 :: s11 :: s12 :: s13 :: s14 :: s15 :: s16 :: s17 :: s18 :: s19 :: .val (.long x) :: .second :: t) st H Q) : WP l Z a0 n0 R y code mx ret cells slots pc (s0 :: s1 :: s2 :: s3 :: s4 :: s5 :: s6 :: s7 :: s8 :: s9 :: s10 :: s11 :: s12 :: s13 :: s14 :: s15 :: s16 :: s17 :: s18 :: s19 :: o :: o' :: t) (.long x :: st) H Q := by
  subst hp
  exact pure (fun p e m below c T t h hx hc' hs => XS.lstore h hx rfl (hb hc' hd) rfl (stl2 [s0, s1, s2, s3, s4, s5, s6, s7, s8, s9, s10, s11, s12, s13, s14, s15, s16, s17, s18, s19] ho) hs) w
theorem istore_22 {s0 s1 s2 s3 s4 s5 s6 s7 s8 s9 s10 s11 s12 s13 s14 s15 s16 s17 s18 s19 s20 s21 : Slot} {o : Slot} {t : List Slot} {x : Int32} {pc' : Nat} (hd : decode code pc = .ok (.istore 22, 2)) (ho : ok1 o = true) (hp : pc + 2 = pc') (w : WP l Z a0 n0 R y code mx ret cells slots pc' (s0 :: s1 :: s2 :: s3 :: s4 :: s5 :: s6 :: s7 :: s8 :: s9 :: s10 :: s11 :: s12 :: s13 :: s14 :: s15 :: s16 :: s17 :: s18 :: s19 :: s20 :: s21 :: .val (.int x) :: t) st H Q) : WP l Z a0 n0 R y code mx ret cells slots pc (s0 :: s1 :: s2 :: s3 :: s4 :: s5 :: s6 :: s7 :: s8 :: s9 :: s10 :: s11 :: s12 :: s13 :: s14 :: s15 :: s16 :: s17 :: s18 :: s19 :: s20 :: s21 :: o :: t) (.int x :: st) H Q := by
  subst hp
  exact pure (fun p e m below c T t h hx hc' hs => XS.istore h hx rfl (hb hc' hd) rfl (stl1 [s0, s1, s2, s3, s4, s5, s6, s7, s8, s9, s10, s11, s12, s13, s14, s15, s16, s17, s18, s19, s20, s21] ho rfl) hs) w
theorem lstore_23 {s0 s1 s2 s3 s4 s5 s6 s7 s8 s9 s10 s11 s12 s13 s14 s15 s16 s17 s18 s19 s20 s21 s22 : Slot} {o o' : Slot} {t : List Slot} {x : Int64} {pc' : Nat} (hd : decode code pc = .ok (.lstore 23, 2)) (ho : ok2 o o' = true) (hp : pc + 2 = pc') (w : WP l Z a0 n0 R y code mx ret cells slots pc' (s0 :: s1 :: s2 :: s3 :: s4 :: s5 :: s6 :: s7 :: s8 :: s9 :: s10 :: s11 :: s12 :: s13 :: s14 :: s15 :: s16 :: s17 :: s18 :: s19 :: s20 :: s21 :: s22 :: .val (.long x) :: .second :: t) st H Q) : WP l Z a0 n0 R y code mx ret cells slots pc (s0 :: s1 :: s2 :: s3 :: s4 :: s5 :: s6 :: s7 :: s8 :: s9 :: s10 :: s11 :: s12 :: s13 :: s14 :: s15 :: s16 :: s17 :: s18 :: s19 :: s20 :: s21 :: s22 :: o :: o' :: t) (.long x :: st) H Q := by
  subst hp
  exact pure (fun p e m below c T t h hx hc' hs => XS.lstore h hx rfl (hb hc' hd) rfl (stl2 [s0, s1, s2, s3, s4, s5, s6, s7, s8, s9, s10, s11, s12, s13, s14, s15, s16, s17, s18, s19, s20, s21, s22] ho) hs) w
theorem istore_25 {s0 s1 s2 s3 s4 s5 s6 s7 s8 s9 s10 s11 s12 s13 s14 s15 s16 s17 s18 s19 s20 s21 s22 s23 s24 : Slot} {o : Slot} {t : List Slot} {x : Int32} {pc' : Nat} (hd : decode code pc = .ok (.istore 25, 2)) (ho : ok1 o = true) (hp : pc + 2 = pc') (w : WP l Z a0 n0 R y code mx ret cells slots pc' (s0 :: s1 :: s2 :: s3 :: s4 :: s5 :: s6 :: s7 :: s8 :: s9 :: s10 :: s11 :: s12 :: s13 :: s14 :: s15 :: s16 :: s17 :: s18 :: s19 :: s20 :: s21 :: s22 :: s23 :: s24 :: .val (.int x) :: t) st H Q) : WP l Z a0 n0 R y code mx ret cells slots pc (s0 :: s1 :: s2 :: s3 :: s4 :: s5 :: s6 :: s7 :: s8 :: s9 :: s10 :: s11 :: s12 :: s13 :: s14 :: s15 :: s16 :: s17 :: s18 :: s19 :: s20 :: s21 :: s22 :: s23 :: s24 :: o :: t) (.int x :: st) H Q := by
  subst hp
  exact pure (fun p e m below c T t h hx hc' hs => XS.istore h hx rfl (hb hc' hd) rfl (stl1 [s0, s1, s2, s3, s4, s5, s6, s7, s8, s9, s10, s11, s12, s13, s14, s15, s16, s17, s18, s19, s20, s21, s22, s23, s24] ho rfl) hs) w
theorem lstore_26 {s0 s1 s2 s3 s4 s5 s6 s7 s8 s9 s10 s11 s12 s13 s14 s15 s16 s17 s18 s19 s20 s21 s22 s23 s24 s25 : Slot} {o o' : Slot} {t : List Slot} {x : Int64} {pc' : Nat} (hd : decode code pc = .ok (.lstore 26, 2)) (ho : ok2 o o' = true) (hp : pc + 2 = pc') (w : WP l Z a0 n0 R y code mx ret cells slots pc' (s0 :: s1 :: s2 :: s3 :: s4 :: s5 :: s6 :: s7 :: s8 :: s9 :: s10 :: s11 :: s12 :: s13 :: s14 :: s15 :: s16 :: s17 :: s18 :: s19 :: s20 :: s21 :: s22 :: s23 :: s24 :: s25 :: .val (.long x) :: .second :: t) st H Q) : WP l Z a0 n0 R y code mx ret cells slots pc (s0 :: s1 :: s2 :: s3 :: s4 :: s5 :: s6 :: s7 :: s8 :: s9 :: s10 :: s11 :: s12 :: s13 :: s14 :: s15 :: s16 :: s17 :: s18 :: s19 :: s20 :: s21 :: s22 :: s23 :: s24 :: s25 :: o :: o' :: t) (.long x :: st) H Q := by
  subst hp
  exact pure (fun p e m below c T t h hx hc' hs => XS.lstore h hx rfl (hb hc' hd) rfl (stl2 [s0, s1, s2, s3, s4, s5, s6, s7, s8, s9, s10, s11, s12, s13, s14, s15, s16, s17, s18, s19, s20, s21, s22, s23, s24, s25] ho) hs) w
theorem istore_28 {s0 s1 s2 s3 s4 s5 s6 s7 s8 s9 s10 s11 s12 s13 s14 s15 s16 s17 s18 s19 s20 s21 s22 s23 s24 s25 s26 s27 : Slot} {o : Slot} {t : List Slot} {x : Int32} {pc' : Nat} (hd : decode code pc = .ok (.istore 28, 2)) (ho : ok1 o = true) (hp : pc + 2 = pc') (w : WP l Z a0 n0 R y code mx ret cells slots pc' (s0 :: s1 :: s2 :: s3 :: s4 :: s5 :: s6 :: s7 :: s8 :: s9 :: s10 :: s11 :: s12 :: s13 :: s14 :: s15 :: s16 :: s17 :: s18 :: s19 :: s20 :: s21 :: s22 :: s23 :: s24 :: s25 :: s26 :: s27 :: .val (.int x) :: t) st H Q) : WP l Z a0 n0 R y code mx ret cells slots pc (s0 :: s1 :: s2 :: s3 :: s4 :: s5 :: s6 :: s7 :: s8 :: s9 :: s10 :: s11 :: s12 :: s13 :: s14 :: s15 :: s16 :: s17 :: s18 :: s19 :: s20 :: s21 :: s22 :: s23 :: s24 :: s25 :: s26 :: s27 :: o :: t) (.int x :: st) H Q := by
  subst hp
  exact pure (fun p e m below c T t h hx hc' hs => XS.istore h hx rfl (hb hc' hd) rfl (stl1 [s0, s1, s2, s3, s4, s5, s6, s7, s8, s9, s10, s11, s12, s13, s14, s15, s16, s17, s18, s19, s20, s21, s22, s23, s24, s25, s26, s27] ho rfl) hs) w
theorem getfield {i : Nat} {C n d : String} {a : Addr} {v : Value} {fs : List (String × String × Value)} {pc' : Nat} (k j : Nat) (hw : (Cond.fieldLink y.cls i C n d).before a0 Z = true) (hd : decode code pc = .ok (.getfield i, 3)) (hk : H[k]? = some (a, .inr (C, fs))) (hj : fs[j]? = some (n, d, v)) (hp : pc + 3 = pc') (w : WP l Z a0 n0 R y code mx ret cells slots pc' Ls (v :: st) H Q) : WP l Z a0 n0 R y code mx ret cells slots pc Ls (.ref a :: st) H Q := by
  subst hp
  exact stepT (fun p e s m args below meth c T locs X hx hZ hc hm ho hR => by
    have F := ((hR.at hk).2.2.2 _ (List.mem_of_getElem? hj)).1
    exact getF X hx hZ ho (host := "") (Or.inl hw) Via.refl rfl F (g := mkF m pc ⟨Ls⟩ (.ref a :: st)) rfl rfl (hb hc hd)) w
theorem arraylength {ty : FieldType} {a : Addr} {vs : List Value} {pc' : Nat} (k : Nat) (n : Int32) (hd : decode code pc = .ok (.arraylength, 1)) (hk : H[k]? = some (a, .inl (ty, vs))) (hn : Int32.ofNat vs.length = n) (hp : pc + 1 = pc') (w : WP l Z a0 n0 R y code mx ret cells slots pc' Ls (.int n :: st) H Q) : WP l Z a0 n0 R y code mx ret cells slots pc Ls (.ref a :: st) H Q := by
  subst hp hn
  exact stepT (fun p e s m args below meth c T locs X hx hZ hc hm ho hR => ⟨T, X, rfl, fun target hs => by
    obtain ⟨cl, A, q1, q2⟩ := (hR.at hk).2
    refine X.arraylength hx A.1 (State.isArrayOf_alike hZ.alike A.2.1) (g := mkF m pc ⟨Ls⟩ (.ref a :: st)) rfl rfl (hb hc hd) _ ?_
    rw [q1, List.size_toArray]; exact hs⟩) w
theorem iaload {a : Addr} {vs : List Value} {j : Int32} {v : Value} {pc' : Nat} (k i : Nat) (hd : decode code pc = .ok (.iaload, 1)) (hk : H[k]? = some (a, .inl (.int, vs))) (hj : j.toInt = (i : Int)) (hv : vs[i]? = some v) (hp : pc + 1 = pc') (w : WP l Z a0 n0 R y code mx ret cells slots pc' Ls (v :: st) H Q) : WP l Z a0 n0 R y code mx ret cells slots pc Ls (.int j :: .ref a :: st) H Q := by
  subst hp
  exact stepT (fun p e s m args below meth c T locs X hx hZ hc hm ho hR => ⟨T, X, rfl, fun target hs => by
    obtain ⟨cl, A, q1, q2⟩ := (hR.at hk).2
    have q3 : j.toNatClampNeg = i := idx_eq hj
    have q4 : cl.slots[j.toNatClampNeg]? = some v := by rw [q1, q3]; simpa using hv
    exact X.iaload hx A.1 (State.isArrayOf_alike hZ.alike A.2.1) A.2.2 (idx_ok hj (by rw [q1, List.size_toArray]; exact (List.getElem?_eq_some_iff.mp hv).1)) q4 (g := mkF m pc ⟨Ls⟩ (.int j :: .ref a :: st)) rfl rfl (hb hc hd) _ hs⟩) w
theorem laload {a : Addr} {vs : List Value} {j : Int32} {v : Value} {pc' : Nat} (k i : Nat) (hd : decode code pc = .ok (.laload, 1)) (hk : H[k]? = some (a, .inl (.long, vs))) (hj : j.toInt = (i : Int)) (hv : vs[i]? = some v) (hp : pc + 1 = pc') (w : WP l Z a0 n0 R y code mx ret cells slots pc' Ls (v :: st) H Q) : WP l Z a0 n0 R y code mx ret cells slots pc Ls (.int j :: .ref a :: st) H Q := by
  subst hp
  exact stepT (fun p e s m args below meth c T locs X hx hZ hc hm ho hR => ⟨T, X, rfl, fun target hs => by
    obtain ⟨cl, A, q1, q2⟩ := (hR.at hk).2
    have q3 : j.toNatClampNeg = i := idx_eq hj
    have q4 : cl.slots[j.toNatClampNeg]? = some v := by rw [q1, q3]; simpa using hv
    exact X.laload hx A.1 (State.isArrayOf_alike hZ.alike A.2.1) A.2.2 (idx_ok hj (by rw [q1, List.size_toArray]; exact (List.getElem?_eq_some_iff.mp hv).1)) q4 (g := mkF m pc ⟨Ls⟩ (.int j :: .ref a :: st)) rfl rfl (hb hc hd) _ hs⟩) w
theorem iastoreG (pre : MH) {post : MH} {a : Addr} {vs : List Value} {j : Int32} {x : Int32} {pc' : Nat} (i : Nat) (hd : decode code pc = .ok (.iastore, 1)) (hj : j.toInt = (i : Int)) (hi : i < vs.length) (hp : pc + 1 = pc') (w : WP l Z a0 n0 R y code mx ret cells slots pc' Ls st (pre ++ (a, .inl (.int, vs.set i (.int x))) :: post) Q) : WP l Z a0 n0 R y code mx ret cells slots pc Ls ((.int x) :: .int j :: .ref a :: st) (pre ++ (a, .inl (.int, vs)) :: post) Q := by
  subst hp
  exact stepW (pre := pre) (fun p e s m args below meth c T locs X hx hZ hc hm ho hn hR => by
    obtain ⟨cl, A, q1, q2⟩ := hR
    have q3 : j.toNatClampNeg = i := idx_eq hj
    obtain ⟨T', h', X', e', W, st⟩ := stI X hx hZ rfl A (x := x) (idx_ok hj (by rw [q1, List.size_toArray]; exact hi)) (g := mkF m pc ⟨Ls⟩ ((.int x) :: .int j :: .ref a :: st)) rfl rfl (hb hc hd)
    rw [q3] at W X'
    exact ⟨T', h', _, _, X', e', W, fun k => k.setArr W, st⟩) w
theorem iastore_0 {post : MH} {a : Addr} {vs : List Value} {j : Int32} {x : Int32} {pc' : Nat} (i : Nat) (hd : decode code pc = .ok (.iastore, 1)) (hj : j.toInt = (i : Int)) (hi : i < vs.length) (hp : pc + 1 = pc') (w : WP l Z a0 n0 R y code mx ret cells slots pc' Ls st ((a, .inl (.int, vs.set i (.int x))) :: post) Q) : WP l Z a0 n0 R y code mx ret cells slots pc Ls ((.int x) :: .int j :: .ref a :: st) ((a, .inl (.int, vs)) :: post) Q := iastoreG [] i hd hj hi hp w
theorem lastoreG (pre : MH) {post : MH} {a : Addr} {vs : List Value} {j : Int32} {x : Int64} {pc' : Nat} (i : Nat) (hd : decode code pc = .ok (.lastore, 1)) (hj : j.toInt = (i : Int)) (hi : i < vs.length) (hp : pc + 1 = pc') (w : WP l Z a0 n0 R y code mx ret cells slots pc' Ls st (pre ++ (a, .inl (.long, vs.set i (.long x))) :: post) Q) : WP l Z a0 n0 R y code mx ret cells slots pc Ls ((.long x) :: .int j :: .ref a :: st) (pre ++ (a, .inl (.long, vs)) :: post) Q := by
  subst hp
  exact stepW (pre := pre) (fun p e s m args below meth c T locs X hx hZ hc hm ho hn hR => by
    obtain ⟨cl, A, q1, q2⟩ := hR
    have q3 : j.toNatClampNeg = i := idx_eq hj
    obtain ⟨T', h', X', e', W, st⟩ := stJ X hx hZ rfl A (x := x) (idx_ok hj (by rw [q1, List.size_toArray]; exact hi)) (g := mkF m pc ⟨Ls⟩ ((.long x) :: .int j :: .ref a :: st)) rfl rfl (hb hc hd)
    rw [q3] at W X'
    exact ⟨T', h', _, _, X', e', W, fun k => k.setArr W, st⟩) w
theorem lastore_0 {post : MH} {a : Addr} {vs : List Value} {j : Int32} {x : Int64} {pc' : Nat} (i : Nat) (hd : decode code pc = .ok (.lastore, 1)) (hj : j.toInt = (i : Int)) (hi : i < vs.length) (hp : pc + 1 = pc') (w : WP l Z a0 n0 R y code mx ret cells slots pc' Ls st ((a, .inl (.long, vs.set i (.long x))) :: post) Q) : WP l Z a0 n0 R y code mx ret cells slots pc Ls ((.long x) :: .int j :: .ref a :: st) ((a, .inl (.long, vs)) :: post) Q := lastoreG [] i hd hj hi hp w
theorem lastore_1 {c0 : Addr × MC} {post : MH} {a : Addr} {vs : List Value} {j : Int32} {x : Int64} {pc' : Nat} (i : Nat) (hd : decode code pc = .ok (.lastore, 1)) (hj : j.toInt = (i : Int)) (hi : i < vs.length) (hp : pc + 1 = pc') (w : WP l Z a0 n0 R y code mx ret cells slots pc' Ls st (c0 :: (a, .inl (.long, vs.set i (.long x))) :: post) Q) : WP l Z a0 n0 R y code mx ret cells slots pc Ls ((.long x) :: .int j :: .ref a :: st) (c0 :: (a, .inl (.long, vs)) :: post) Q := lastoreG [c0] i hd hj hi hp w
theorem putfieldG (pre : MH) (fpre : List (String × String × Value)) {post : MH} {fpost : List (String × String × Value)} {i kk : Nat} {C n d : String} {a : Addr} {v u : Value} {ty : FieldType} {pc' : Nat} (hw : (Cond.fieldLink y.cls i C n d).before a0 Z = true) (hL : (Cond.lays C C n d).before a0 Z = true ∨ ((Cond.laysFinal C C n d).before a0 Z = true ∧ y.cls = C ∧ y.name = "<init>")) (hI : (Cond.instantiable C kk).before a0 Z = true) (hty : parseFieldDescriptor d = some ty) (hn : narrow ty v = v) (hf : fits ty v = true) (hd : decode code pc = .ok (.putfield i, 3)) (hp : pc + 3 = pc') (w : WP l Z a0 n0 R y code mx ret cells slots pc' Ls st (pre ++ (a, .inr (C, fpre ++ (n, d, v) :: fpost)) :: post) Q) : WP l Z a0 n0 R y code mx ret cells slots pc Ls (v :: .ref a :: st) (pre ++ (a, .inr (C, fpre ++ (n, d, u) :: fpost)) :: post) Q := by
  subst hp
  exact stepW (pre := pre) (fun p e s m args below meth c T locs X hx hZ hc hm ho hnm hR => by
    have F := (hR.2.2 (n, d, u) (by simp)).1
    obtain ⟨T', h', X', e', W, st⟩ := putF X hx hZ ho (host := "") (Or.inl hw) Via.refl rfl F hR.1 (hL.imp id fun q => ⟨q.1, q.2.1, hnm.trans q.2.2⟩) hI hty hn hf (g := mkF m pc ⟨Ls⟩ (v :: .ref a :: st)) rfl rfl (hb hc hd)
    exact ⟨T', h', _, _, X', e', W, fun k => k.setFld W, st⟩) w
theorem putfield_1_0 {c0 : Addr × MC} {post : MH} {fpost : List (String × String × Value)} {i kk : Nat} {C n d : String} {a : Addr} {v u : Value} {ty : FieldType} {pc' : Nat} (hw : (Cond.fieldLink y.cls i C n d).before a0 Z = true) (hL : (Cond.lays C C n d).before a0 Z = true ∨ ((Cond.laysFinal C C n d).before a0 Z = true ∧ y.cls = C ∧ y.name = "<init>")) (hI : (Cond.instantiable C kk).before a0 Z = true) (hty : parseFieldDescriptor d = some ty) (hn : narrow ty v = v) (hf : fits ty v = true) (hd : decode code pc = .ok (.putfield i, 3)) (hp : pc + 3 = pc') (w : WP l Z a0 n0 R y code mx ret cells slots pc' Ls st (c0 :: (a, .inr (C, (n, d, v) :: fpost)) :: post) Q) : WP l Z a0 n0 R y code mx ret cells slots pc Ls (v :: .ref a :: st) (c0 :: (a, .inr (C, (n, d, u) :: fpost)) :: post) Q := putfieldG [c0] [] hw hL hI hty hn hf hd hp w
theorem putfield_2_1 {c0 c1 : Addr × MC} {f0 : String × String × Value} {post : MH} {fpost : List (String × String × Value)} {i kk : Nat} {C n d : String} {a : Addr} {v u : Value} {ty : FieldType} {pc' : Nat} (hw : (Cond.fieldLink y.cls i C n d).before a0 Z = true) (hL : (Cond.lays C C n d).before a0 Z = true ∨ ((Cond.laysFinal C C n d).before a0 Z = true ∧ y.cls = C ∧ y.name = "<init>")) (hI : (Cond.instantiable C kk).before a0 Z = true) (hty : parseFieldDescriptor d = some ty) (hn : narrow ty v = v) (hf : fits ty v = true) (hd : decode code pc = .ok (.putfield i, 3)) (hp : pc + 3 = pc') (w : WP l Z a0 n0 R y code mx ret cells slots pc' Ls st (c0 :: c1 :: (a, .inr (C, f0 :: (n, d, v) :: fpost)) :: post) Q) : WP l Z a0 n0 R y code mx ret cells slots pc Ls (v :: .ref a :: st) (c0 :: c1 :: (a, .inr (C, f0 :: (n, d, u) :: fpost)) :: post) Q := putfieldG [c0, c1] [f0] hw hL hI hty hn hf hd hp w
theorem putfield_2_2 {c0 c1 : Addr × MC} {f0 f1 : String × String × Value} {post : MH} {fpost : List (String × String × Value)} {i kk : Nat} {C n d : String} {a : Addr} {v u : Value} {ty : FieldType} {pc' : Nat} (hw : (Cond.fieldLink y.cls i C n d).before a0 Z = true) (hL : (Cond.lays C C n d).before a0 Z = true ∨ ((Cond.laysFinal C C n d).before a0 Z = true ∧ y.cls = C ∧ y.name = "<init>")) (hI : (Cond.instantiable C kk).before a0 Z = true) (hty : parseFieldDescriptor d = some ty) (hn : narrow ty v = v) (hf : fits ty v = true) (hd : decode code pc = .ok (.putfield i, 3)) (hp : pc + 3 = pc') (w : WP l Z a0 n0 R y code mx ret cells slots pc' Ls st (c0 :: c1 :: (a, .inr (C, f0 :: f1 :: (n, d, v) :: fpost)) :: post) Q) : WP l Z a0 n0 R y code mx ret cells slots pc Ls (v :: .ref a :: st) (c0 :: c1 :: (a, .inr (C, f0 :: f1 :: (n, d, u) :: fpost)) :: post) Q := putfieldG [c0, c1] [f0, f1] hw hL hI hty hn hf hd hp w
theorem putfield_2_3 {c0 c1 : Addr × MC} {f0 f1 f2 : String × String × Value} {post : MH} {fpost : List (String × String × Value)} {i kk : Nat} {C n d : String} {a : Addr} {v u : Value} {ty : FieldType} {pc' : Nat} (hw : (Cond.fieldLink y.cls i C n d).before a0 Z = true) (hL : (Cond.lays C C n d).before a0 Z = true ∨ ((Cond.laysFinal C C n d).before a0 Z = true ∧ y.cls = C ∧ y.name = "<init>")) (hI : (Cond.instantiable C kk).before a0 Z = true) (hty : parseFieldDescriptor d = some ty) (hn : narrow ty v = v) (hf : fits ty v = true) (hd : decode code pc = .ok (.putfield i, 3)) (hp : pc + 3 = pc') (w : WP l Z a0 n0 R y code mx ret cells slots pc' Ls st (c0 :: c1 :: (a, .inr (C, f0 :: f1 :: f2 :: (n, d, v) :: fpost)) :: post) Q) : WP l Z a0 n0 R y code mx ret cells slots pc Ls (v :: .ref a :: st) (c0 :: c1 :: (a, .inr (C, f0 :: f1 :: f2 :: (n, d, u) :: fpost)) :: post) Q := putfieldG [c0, c1] [f0, f1, f2] hw hL hI hty hn hf hd hp w
theorem newarray {aty : ArrayType} {n : Int32} {pc' : Nat} {ty : FieldType} (i cap : Nat) (vs : List Value) (hw : (Cond.arrayClass ty).before a0 Z = true) (hd : decode code pc = .ok (.newarray aty, 2)) (hn : n.toInt = (i : Int)) (hcap : i ≤ cap) (hbig : cap * 8 ≤ 536870912) (hc : cells + 1 ≤ R.cells) (hl : slots + cap ≤ R.slots) (hvs : List.replicate i (defaultValue ty) = vs) (hp : pc + 2 = pc') (hty : newarray.typeOf aty = ty) {cells' slots' : Nat} (hc' : cells + 1 = cells') (hs' : slots + cap = slots') (w : ∀ a : Addr, WP l Z a0 n0 R y code mx ret cells' slots' pc' Ls (.ref a :: st) ((a, .inl (ty, vs)) :: H) Q) : WP l Z a0 n0 R y code mx ret cells slots pc Ls (.int n :: st) H Q := by
  subst hp hvs hty hc' hs'
  intro p e s m args below meth c T locs X hx hZ hcode hm ho hnm hr hlk hF hR g1 g2
  have q3 : n.toNatClampNeg = i := idx_eq hn
  obtain ⟨T', h', cA, X', e', E, A, st⟩ := newP X hx hZ hw rfl (g := mkF m pc ⟨Ls⟩ (.int n :: st)) rfl (hb hcode hd) rfl (fun q => by rw [Int32.lt_iff_toInt_lt, hn] at q; simp at q; omega) (cap := cap) (by rw [q3]; exact hcap) hbig hc hl
  have hlt : i < 2 ^ 31 := by have := n.toInt_lt; rw [hn] at this; omega
  obtain ⟨v, H', L, s2, k1, k2⟩ := w _ p e s m args below meth c T' locs X' hx hZ hcode hm ho hnm hr hlk hF (by rw [e']; exact hR.push E ⟨_, A, by simp [newA, q3], by simpa using hlt⟩) hc hl
  exact ⟨v, H', L, s2, st _ k1, k2⟩
theorem new_ {i k : Nat} {C : String} {pc' : Nat} (fs : List (String × String × Value)) (hw : (Cond.classLink y.cls i C).before a0 Z = true) (hI : (Cond.instantiable C k).before a0 Z = true) (hz : (Cond.initialized C).before a0 Z = true) (hN : (fs.map (·.1)).Nodup) (hfs : ∀ x ∈ fs, Laid Z a0 C C x.1 x.2.1 ∧ ∃ t, parseFieldDescriptor x.2.1 = some t ∧ defaultValue t = x.2.2) (hd : decode code pc = .ok (.new i, 3)) (hc : cells + 1 ≤ R.cells) (hl : slots + k ≤ R.slots) (hp : pc + 3 = pc') {cells' slots' : Nat} (hc' : cells + 1 = cells') (hs' : slots + k = slots') (w : ∀ a : Addr, WP l Z a0 n0 R y code mx ret cells' slots' pc' Ls (.ref a :: st) ((a, .inr (C, fs)) :: H) Q) : WP l Z a0 n0 R y code mx ret cells slots pc Ls st H Q := by
  subst hp hc' hs'
  intro p e s m args below meth c T locs X hx hZ hcode hm ho hnm hr hlk hF hR g1 g2
  obtain ⟨T', h', X', e', E, A, D, -, st⟩ := newO X hx hZ ho hw hI hz rfl (g := mkF m pc ⟨Ls⟩ st) rfl (hb hcode hd) hc hl
  obtain ⟨v, H', L, s2, k1, k2⟩ := w _ p e s m args below meth c T' locs X' hx hZ hcode hm ho hnm hr hlk hF (by
    rw [e']
    refine hR.push E ⟨A, hN, fun x hx => ?_⟩
    obtain ⟨q1, t, q2, q3⟩ := hfs x hx
    exact ⟨q3 ▸ D q1 q2, q1, t, q2⟩) hc hl
  exact ⟨v, H', L, s2, st _ k1, k2⟩
theorem initObj {i : Nat} {a : Addr} {pc' : Nat} (W : Nat) (w1 : (Cond.methodLink y.cls i Lib.objectInit).before a0 Z = true) (w2 : (Cond.instanceMethod Lib.objectInit).before a0 Z = true) (w3 : (Cond.code Lib.objectInit ⟨#[0xb1]⟩ 1 none).before a0 Z = true) (hd : decode code pc = .ok (.invokespecial i, 3)) (hs : Ls.length = mx) (hf : 1 ≤ R.frames) (hW : (st.map fun v => v.category).sum = W) (hl : W + 12 ≤ R.locals) (hp : pc + 3 = pc') (w : WP l Z a0 n0 R y code mx ret cells slots pc' Ls st H Q) : WP l Z a0 n0 R y code mx ret cells slots pc Ls (.ref a :: st) H Q := by
  subst hp
  exact stepT (fun p e s m args below meth c T locs X hx hZ hc hm ho hR => initO X hx hZ ho w1 w2 w3 rfl (g := mkF m pc ⟨Ls⟩ (.ref a :: st)) rfl (by rw [hm]; simpa using hs) rfl (hb hc hd) hf (W := W) (by show 2 * 0 + _ ≤ _; omega) hl) w
theorem topI {z : Int32} (P : Int32 → Prop) (h : P z) (w : ∀ z' : Int32, P z' → WP l Z a0 n0 R y code mx ret cells slots pc Ls (.int z' :: st) H Q) : WP l Z a0 n0 R y code mx ret cells slots pc Ls (.int z :: st) H Q := w z h
theorem leaveW {v : Option Value} {st : List Value} (hv : ret = none → v = none) (q : Q v H)
    (h : ∀ (p : Program) (e : Env) (s : State) (m : MethodId) (args : Array Value) (below : List Frame) (meth : Method) (c : Code) (T : State) (locs : List Loc) (fs : List Frame), Stand p l e R s m args below meth c T locs cells slots → p.tables.exec = Jvm.exec → c.code = code → meth.sig.returnType = ret → (∀ (f : JFrame) (acts : List Action), f.method = m → f.locked = none → f.entered = [] → (doReturn e (T.setTop f) acts v).1 = T.setFrames fs) → Steps p.tables e below (T.setTop (mkF m pc ⟨Ls⟩ st)) (T.setFrames fs)) : WP l Z a0 n0 R y code mx ret cells slots pc Ls st H Q := by
  intro p e s m args below meth c T locs X hx hZ hc hm ho hn hr hl hF hR g1 g2
  obtain ⟨fs, hrr, hrun, hended, hW, hsame⟩ := X.leave (v := v) (fun k => hv (by rw [← hr]; exact k)) hl
  exact ⟨v, H, locs, _, h p e s m args below meth c T locs fs X hx hc hr hrr, hrun, hended, hF, hR, q, hW, hsame.mono g1 g2⟩
theorem ireturn {z : Int32} (hret : ret = some .int) (hd : decode code pc = .ok (.ireturn, 1)) (q : Q (some (.int z)) H) : WP l Z a0 n0 R y code mx ret cells slots pc Ls (.int z :: st) H Q :=
  leaveW (fun k => by rw [hret] at k; cases k) q fun p e s m args below meth c T locs fs X hx hc hr hrr => retI X hx (hr.trans hret) (hb hc hd) hrr
theorem zreturn {z : Int32} (hret : ret = some .boolean) (hd : decode code pc = .ok (.ireturn, 1)) (q : Q (some (.int (z &&& 1))) H) : WP l Z a0 n0 R y code mx ret cells slots pc Ls (.int z :: st) H Q :=
  leaveW (fun k => by rw [hret] at k; cases k) q fun p e s m args below meth c T locs fs X hx hc hr hrr => retN X hx (t := .boolean) (hr.trans hret) (by simp) (hb hc hd) hrr
theorem lreturn {z : Int64} (hret : ret = some .long) (hd : decode code pc = .ok (.lreturn, 1)) (q : Q (some (.long z)) H) : WP l Z a0 n0 R y code mx ret cells slots pc Ls (.long z :: st) H Q :=
  leaveW (fun k => by rw [hret] at k; cases k) q fun p e s m args below meth c T locs fs X hx hc hr hrr => retOut X hx (hr.trans hret) rfl (Or.inr (Or.inl ⟨rfl, rfl, _, rfl⟩)) (hb hc hd) hrr
theorem return_ (hret : ret = none) (hd : decode code pc = .ok (.return_, 1)) (q : Q none H) : WP l Z a0 n0 R y code mx ret cells slots pc Ls [] H Q :=
  leaveW (fun _ => rfl) q fun p e s m args below meth c T locs fs X hx hc hr hrr => X.returnOut hx (hr.trans hret) (hb hc hd) hrr
/-- what a call by a contract leaves -/
def After (l : Launch) (Z : State) (a0 : Array Value) (n0 : Nat) (R : Room) (y : MethodName) (code : ByteArray) (mx : Nat) (ret : Option FieldType) (cells slots pc : Nat) (Ls : List Slot) (st : List Value) (Q : Option Value → MH → Prop) : Option Value → MH → Prop
  | some r, H' => WP l Z a0 n0 R y code mx ret cells slots pc Ls (r :: st) H' Q
  | none, H' => WP l Z a0 n0 R y code mx ret cells slots pc Ls st H' Q
theorem After.to {v : Option Value} {H' : MH} (h : After l Z a0 n0 R y code mx ret cells slots pc Ls st Q v H') : WP l Z a0 n0 R y code mx ret cells slots pc Ls (v.toList ++ st) H' Q := by
  cases v <;> exact h
theorem callSG {z : MethodName} {zc : ByteArray} {zm : Nat} {zr : Option FieldType} {ps : List FieldType} {i : Nat} {rm : Room} {pc' : Nat} (W : Nat) (argsL : List Value) {rest : List Value} (w1 : (Cond.methodLink y.cls i z).before a0 Z = true) (w2 : (Cond.static z).before a0 Z = true) (w3 : (Cond.initialized z.cls).before a0 Z = true) (w4 : (Cond.code z zc zm zr).before a0 Z = true) (hy : z.cls ≠ "java/lang/invoke/MethodHandle" ∧ z.cls ≠ "java/lang/invoke/VarHandle") (hds : parseMethodDescriptor z.desc = some ⟨ps, zr⟩) (hlen : argsL.length = ps.length) (hd : decode code pc = .ok (.invokestatic i, 3)) (hs : Ls.length = mx) (hW : (rest.map fun v => v.category).sum = W) (hf : rm.frames + 1 ≤ R.frames) (hl : W + (zm + 11) + rm.locals ≤ R.locals) (hc : cells + rm.cells ≤ R.cells) (hsl : slots + rm.slots ≤ R.slots) (hp : pc + 3 = pc') {cells' slots' : Nat} (hc' : cells + rm.cells = cells') (hs' : slots + rm.slots = slots') (hst : st = argsL.reverse ++ rest)
    (k : Con l Z a0 n0 z zc zm zr rm argsL.toArray H (After l Z a0 n0 R y code mx ret cells' slots' pc' Ls rest Q)) : WP l Z a0 n0 R y code mx ret cells slots pc Ls st H Q := by
  subst hp hst hc' hs'
  intro p e s m args below meth c T locs X hx hZ hcode hm ho hnm hr hlk hF hR g1 g2
  obtain ⟨v, vm, ⟨T', L', k', n'⟩, -, X', ⟨Lc, ⟨q1, H', q2, q3⟩, e1, e2, e3⟩, st'⟩ := Jvm.LawKit.callS X hx (y := z) ho (mvT hZ w1) (mvT hZ w2) (mvT hZ w3) (mvT hZ w4) hy (backOf (W := W) (h := T.heap) (Q := fun v h L => Fr n0 L ∧ ∃ H', Rel Z a0 n0 H' h ∧ After l Z a0 n0 R y code mx ret (cells + rm.cells) (slots + rm.slots) (pc + 3) Ls rest Q v H') (k [] T.heap hR) hZ w4 w3 hf hl) (g := mkF m pc ⟨Ls⟩ (argsL.reverse ++ rest)) rfl (by rw [hm]; simpa using hs) (argsL := argsL) (rest := rest) (lenOf hds hlen) rfl (by show 2 * 0 + _ ≤ _; omega) (hb hcode hd) (fun _ _ => ⟨rfl, rfl, hc, hsl⟩)
  dsimp only [Pt.U, Pt.locs, Pt.cells, Pt.slots] at X' e1 e2 e3 st'
  subst e1 e2 e3
  obtain ⟨v2, H2, L2, s2, k1, k2⟩ := (After.to q3) p e s m args below meth c T' _ X' hx hZ hcode hm ho hnm hr hlk (Fr.app hF q1) q2 hc hsl
  exact ⟨v2, H2, L2, s2, st' _ k1, k2⟩
theorem callIG {z : MethodName} {zc : ByteArray} {zm : Nat} {ps : List FieldType} {i : Nat} {rm : Room} {pc' : Nat} {a : Addr} (W : Nat) (argsL : List Value) {rest : List Value} (hzn : z.name = "<init>") (w1 : (Cond.methodLink y.cls i z).before a0 Z = true) (w2 : (Cond.instanceMethod z).before a0 Z = true) (w3 : (Cond.initialized z.cls).before a0 Z = true) (w4 : (Cond.code z zc zm none).before a0 Z = true) (hy : z.cls ≠ "java/lang/invoke/MethodHandle" ∧ z.cls ≠ "java/lang/invoke/VarHandle") (hds : parseMethodDescriptor z.desc = some ⟨ps, none⟩) (hlen : argsL.length = ps.length) (hd : decode code pc = .ok (.invokespecial i, 3)) (hs : Ls.length = mx) (hW : (rest.map fun v => v.category).sum = W) (hf : rm.frames + 1 ≤ R.frames) (hl : W + (zm + 11) + rm.locals ≤ R.locals) (hc : cells + rm.cells ≤ R.cells) (hsl : slots + rm.slots ≤ R.slots) (hp : pc + 3 = pc') {cells' slots' : Nat} (hc' : cells + rm.cells = cells') (hs' : slots + rm.slots = slots') (hst : st = argsL.reverse ++ .ref a :: rest)
    (k : Con l Z a0 n0 z zc zm none rm (.ref a :: argsL).toArray H (After l Z a0 n0 R y code mx ret cells' slots' pc' Ls rest Q)) : WP l Z a0 n0 R y code mx ret cells slots pc Ls st H Q := by
  subst hp hst hc' hs'
  intro p e s m args below meth c T locs X hx hZ hcode hm ho hnm hr hlk hF hR g1 g2
  obtain ⟨v, vm, ⟨T', L', k', n'⟩, -, X', ⟨Lc, ⟨q1, H', q2, q3⟩, e1, e2, e3⟩, st'⟩ := X.specialBack hx (y := z) hzn ho (mvT hZ w1) (mvT hZ w2) (mvT hZ w4) hy (backOf (W := W) (h := T.heap) (Q := fun v h L => Fr n0 L ∧ ∃ H', Rel Z a0 n0 H' h ∧ After l Z a0 n0 R y code mx ret (cells + rm.cells) (slots + rm.slots) (pc + 3) Ls rest Q v H') (k [] T.heap hR) hZ w4 w3 hf hl) (g := mkF m pc ⟨Ls⟩ (argsL.reverse ++ .ref a :: rest)) rfl (by rw [hm]; simpa using hs) (Steps.refl _) (a := a) (argsL := argsL) (rest := rest) (lenOf hds hlen) rfl (by show 2 * 0 + _ ≤ _; omega) (hb hcode hd) (fun _ _ => ⟨rfl, rfl, hc, hsl⟩)
  dsimp only [Pt.U, Pt.locs, Pt.cells, Pt.slots] at X' e1 e2 e3 st'
  subst e1 e2 e3
  obtain ⟨v2, H2, L2, s2, k1, k2⟩ := (After.to q3) p e s m args below meth c T' _ X' hx hZ hcode hm ho hnm hr hlk (Fr.app hF q1) q2 hc hsl
  exact ⟨v2, H2, L2, s2, st'.trans k1, k2⟩
theorem callVG {z : MethodName} {zc : ByteArray} {zm : Nat} {zr : Option FieldType} {ps : List FieldType} {i : Nat} {rm : Room} {pc' : Nat} {a : Addr} {fs : List (String × String × Value)} (kk W : Nat) (argsL : List Value) {rest : List Value} (w1 : (Cond.methodLink y.cls i z).before a0 Z = true) (wd : (Cond.declares z).before a0 Z = true) (ws : (Cond.selects z.cls z z).before a0 Z = true) (w2 : (Cond.instanceMethod z).before a0 Z = true) (w3 : (Cond.initialized z.cls).before a0 Z = true) (w4 : (Cond.code z zc zm zr).before a0 Z = true) (hy : z.cls ≠ "java/lang/invoke/MethodHandle" ∧ z.cls ≠ "java/lang/invoke/VarHandle") (hds : parseMethodDescriptor z.desc = some ⟨ps, zr⟩) (hlen : argsL.length = ps.length) (hd : decode code pc = .ok (.invokevirtual i, 3)) (hk : H[kk]? = some (a, .inr (z.cls, fs))) (hs : Ls.length = mx) (hW : (rest.map fun v => v.category).sum = W) (hf : rm.frames + 1 ≤ R.frames) (hl : W + (zm + 11) + rm.locals ≤ R.locals) (hc : cells + rm.cells ≤ R.cells) (hsl : slots + rm.slots ≤ R.slots) (hp : pc + 3 = pc') {cells' slots' : Nat} (hc' : cells + rm.cells = cells') (hs' : slots + rm.slots = slots') (hst : st = argsL.reverse ++ .ref a :: rest)
    (k : Con l Z a0 n0 z zc zm zr rm (.ref a :: argsL).toArray H (After l Z a0 n0 R y code mx ret cells' slots' pc' Ls rest Q)) : WP l Z a0 n0 R y code mx ret cells slots pc Ls st H Q := by
  subst hp hst hc' hs'
  intro p e s m args below meth c T locs X hx hZ hcode hm ho hnm hr hlk hF hR g1 g2
  obtain ⟨cq, kq, qa, qb, qc⟩ := isOf hZ (T := T) rfl (hR.at hk).2.1
  obtain ⟨v, vm, ⟨T', L', k', n'⟩, -, X', ⟨Lc, ⟨q1, H', q2, q3⟩, e1, e2, e3⟩, st'⟩ := X.virtualBack hx (y := z) (z := z) ho (mvT hZ w1) (mvT hZ wd) (notFace_of_selects (args := #[]) (mvT hZ ws)) (mvT hZ ws) (mvT hZ w2) hy (backOf (W := W) (h := T.heap) (Q := fun v h L => Fr n0 L ∧ ∃ H', Rel Z a0 n0 H' h ∧ After l Z a0 n0 R y code mx ret (cells + rm.cells) (slots + rm.slots) (pc + 3) Ls rest Q v H') (k [] T.heap hR) hZ w4 w3 hf hl) qa qc (g := mkF m pc ⟨Ls⟩ (argsL.reverse ++ .ref a :: rest)) rfl (by rw [hm]; simpa using hs) (Steps.refl _) (argsL := argsL) (rest := rest) (lenOf hds hlen) rfl (by show 2 * 0 + _ ≤ _; omega) (hb hcode hd) (fun _ _ => ⟨rfl, rfl, hc, hsl⟩)
  dsimp only [Pt.U, Pt.locs, Pt.cells, Pt.slots] at X' e1 e2 e3 st'
  subst e1 e2 e3
  obtain ⟨v2, H2, L2, s2, k1, k2⟩ := (After.to q3) p e s m args below meth c T' _ X' hx hZ hcode hm ho hnm hr hlk (Fr.app hF q1) q2 hc hsl
  exact ⟨v2, H2, L2, s2, st'.trans k1, k2⟩
theorem afterS {r : Value} {H' : MH} (h : WP l Z a0 n0 R y code mx ret cells slots pc Ls (r :: st) H' Q) : After l Z a0 n0 R y code mx ret cells slots pc Ls st Q (some r) H' := h
theorem afterN {H' : MH} (h : WP l Z a0 n0 R y code mx ret cells slots pc Ls st H' Q) : After l Z a0 n0 R y code mx ret cells slots pc Ls st Q none H' := h
theorem callI_0 {z : MethodName} {zc : ByteArray} {zm : Nat} {ps : List FieldType} {i : Nat} {rm : Room} {pc' : Nat} {a : Addr} (W : Nat) {rest : List Value} (hzn : z.name = "<init>") (w1 : (Cond.methodLink y.cls i z).before a0 Z = true) (w2 : (Cond.instanceMethod z).before a0 Z = true) (w3 : (Cond.initialized z.cls).before a0 Z = true) (w4 : (Cond.code z zc zm none).before a0 Z = true) (hy : z.cls ≠ "java/lang/invoke/MethodHandle" ∧ z.cls ≠ "java/lang/invoke/VarHandle") (hds : parseMethodDescriptor z.desc = some ⟨ps, none⟩) (hlen : 0 = ps.length) (hd : decode code pc = .ok (.invokespecial i, 3)) (hs : Ls.length = mx) (hW : (rest.map fun v => v.category).sum = W) (hf : rm.frames + 1 ≤ R.frames) (hl : W + (zm + 11) + rm.locals ≤ R.locals) (hc : cells + rm.cells ≤ R.cells) (hsl : slots + rm.slots ≤ R.slots) (hp : pc + 3 = pc') {cells' slots' : Nat} (hc' : cells + rm.cells = cells') (hs' : slots + rm.slots = slots') (k : Con l Z a0 n0 z zc zm none rm #[.ref a] H (After l Z a0 n0 R y code mx ret cells' slots' pc' Ls rest Q)) : WP l Z a0 n0 R y code mx ret cells slots pc Ls (.ref a :: rest) H Q := callIG W [] hzn w1 w2 w3 w4 hy hds hlen hd hs hW hf hl hc hsl hp hc' hs' rfl k
theorem callV_0 {z : MethodName} {zc : ByteArray} {zm : Nat} {zr : Option FieldType} {ps : List FieldType} {i : Nat} {rm : Room} {pc' : Nat} {a : Addr} {fs : List (String × String × Value)} (kk W : Nat) {rest : List Value} (w1 : (Cond.methodLink y.cls i z).before a0 Z = true) (wd : (Cond.declares z).before a0 Z = true) (ws : (Cond.selects z.cls z z).before a0 Z = true) (w2 : (Cond.instanceMethod z).before a0 Z = true) (w3 : (Cond.initialized z.cls).before a0 Z = true) (w4 : (Cond.code z zc zm zr).before a0 Z = true) (hy : z.cls ≠ "java/lang/invoke/MethodHandle" ∧ z.cls ≠ "java/lang/invoke/VarHandle") (hds : parseMethodDescriptor z.desc = some ⟨ps, zr⟩) (hlen : 0 = ps.length) (hd : decode code pc = .ok (.invokevirtual i, 3)) (hk : H[kk]? = some (a, .inr (z.cls, fs))) (hs : Ls.length = mx) (hW : (rest.map fun v => v.category).sum = W) (hf : rm.frames + 1 ≤ R.frames) (hl : W + (zm + 11) + rm.locals ≤ R.locals) (hc : cells + rm.cells ≤ R.cells) (hsl : slots + rm.slots ≤ R.slots) (hp : pc + 3 = pc') {cells' slots' : Nat} (hc' : cells + rm.cells = cells') (hs' : slots + rm.slots = slots') (k : Con l Z a0 n0 z zc zm zr rm #[.ref a] H (After l Z a0 n0 R y code mx ret cells' slots' pc' Ls rest Q)) : WP l Z a0 n0 R y code mx ret cells slots pc Ls (.ref a :: rest) H Q := callVG kk W [] w1 wd ws w2 w3 w4 hy hds hlen hd hk hs hW hf hl hc hsl hp hc' hs' rfl k
theorem callV_2 {z : MethodName} {zc : ByteArray} {zm : Nat} {zr : Option FieldType} {ps : List FieldType} {i : Nat} {rm : Room} {pc' : Nat} {a : Addr} {fs : List (String × String × Value)} (kk W : Nat) {v0 v1 : Value} {rest : List Value} (w1 : (Cond.methodLink y.cls i z).before a0 Z = true) (wd : (Cond.declares z).before a0 Z = true) (ws : (Cond.selects z.cls z z).before a0 Z = true) (w2 : (Cond.instanceMethod z).before a0 Z = true) (w3 : (Cond.initialized z.cls).before a0 Z = true) (w4 : (Cond.code z zc zm zr).before a0 Z = true) (hy : z.cls ≠ "java/lang/invoke/MethodHandle" ∧ z.cls ≠ "java/lang/invoke/VarHandle") (hds : parseMethodDescriptor z.desc = some ⟨ps, zr⟩) (hlen : 2 = ps.length) (hd : decode code pc = .ok (.invokevirtual i, 3)) (hk : H[kk]? = some (a, .inr (z.cls, fs))) (hs : Ls.length = mx) (hW : (rest.map fun v => v.category).sum = W) (hf : rm.frames + 1 ≤ R.frames) (hl : W + (zm + 11) + rm.locals ≤ R.locals) (hc : cells + rm.cells ≤ R.cells) (hsl : slots + rm.slots ≤ R.slots) (hp : pc + 3 = pc') {cells' slots' : Nat} (hc' : cells + rm.cells = cells') (hs' : slots + rm.slots = slots') (k : Con l Z a0 n0 z zc zm zr rm #[.ref a, v0, v1] H (After l Z a0 n0 R y code mx ret cells' slots' pc' Ls rest Q)) : WP l Z a0 n0 R y code mx ret cells slots pc Ls (v1 :: v0 :: .ref a :: rest) H Q := callVG kk W [v0, v1] w1 wd ws w2 w3 w4 hy hds hlen hd hk hs hW hf hl hc hsl hp hc' hs' rfl k
theorem callS_5 {z : MethodName} {zc : ByteArray} {zm : Nat} {zr : Option FieldType} {ps : List FieldType} {i : Nat} {rm : Room} {pc' : Nat} (W : Nat) {v0 v1 v2 v3 v4 : Value} {rest : List Value} (w1 : (Cond.methodLink y.cls i z).before a0 Z = true) (w2 : (Cond.static z).before a0 Z = true) (w3 : (Cond.initialized z.cls).before a0 Z = true) (w4 : (Cond.code z zc zm zr).before a0 Z = true) (hy : z.cls ≠ "java/lang/invoke/MethodHandle" ∧ z.cls ≠ "java/lang/invoke/VarHandle") (hds : parseMethodDescriptor z.desc = some ⟨ps, zr⟩) (hlen : 5 = ps.length) (hd : decode code pc = .ok (.invokestatic i, 3)) (hs : Ls.length = mx) (hW : (rest.map fun v => v.category).sum = W) (hf : rm.frames + 1 ≤ R.frames) (hl : W + (zm + 11) + rm.locals ≤ R.locals) (hc : cells + rm.cells ≤ R.cells) (hsl : slots + rm.slots ≤ R.slots) (hp : pc + 3 = pc') {cells' slots' : Nat} (hc' : cells + rm.cells = cells') (hs' : slots + rm.slots = slots') (k : Con l Z a0 n0 z zc zm zr rm #[v0, v1, v2, v3, v4] H (After l Z a0 n0 R y code mx ret cells' slots' pc' Ls rest Q)) : WP l Z a0 n0 R y code mx ret cells slots pc Ls (v4 :: v3 :: v2 :: v1 :: v0 :: rest) H Q := callSG W [v0, v1, v2, v3, v4] w1 w2 w3 w4 hy hds hlen hd hs hW hf hl hc hsl hp hc' hs' rfl k
end Jvm.Wp
namespace Jvm.Pilot.@@N@@
open Jvm Jvm.ClassFile Sem Op Lib Jvm.Free Jvm.Stand Jvm.LawKit Jvm.RoadKit Bundle Jvm.Pilot.@@N@@.Jvm.D
set_option maxHeartbeats 8000000
abbrev Hw (Z : State) (a0 : Array Value) : Prop := ∀ d ∈ tables_1, d.before a0 Z = true
theorem w0 {Z : State} {a0 : Array Value} (hw : Hw Z a0) : (Jvm.Cond.arrayClass Jvm.ClassFile.FieldType.long).before a0 Z = true := hw _ (List.mem_of_getElem? (i := 0) rfl)
theorem w1 {Z : State} {a0 : Array Value} (hw : Hw Z a0) : (Jvm.Cond.classLink "com/example/planter/planter/heuristic/FactQueuePopPinLaw" (7 : Nat) "com/example/planter/planter/heuristic/FactQueue").before a0 Z = true := hw _ (List.mem_of_getElem? (i := 1) rfl)
theorem w2 {Z : State} {a0 : Array Value} (hw : Hw Z a0) : (Jvm.Cond.instantiable "com/example/planter/planter/heuristic/FactQueue" (4 : Nat)).before a0 Z = true := hw _ (List.mem_of_getElem? (i := 2) rfl)
theorem w3 {Z : State} {a0 : Array Value} (hw : Hw Z a0) : (Jvm.Cond.initialized "com/example/planter/planter/heuristic/FactQueue").before a0 Z = true := hw _ (List.mem_of_getElem? (i := 3) rfl)
theorem w4 {Z : State} {a0 : Array Value} (hw : Hw Z a0) : (Jvm.Cond.methodLink "com/example/planter/planter/heuristic/FactQueuePopPinLaw" (9 : Nat) ({ cls := "com/example/planter/planter/heuristic/FactQueue", name := "<init>", desc := "()V" } : Jvm.MethodName)).before a0 Z = true := hw _ (List.mem_of_getElem? (i := 4) rfl)
theorem w5 {Z : State} {a0 : Array Value} (hw : Hw Z a0) : (Jvm.Cond.instanceMethod ({ cls := "com/example/planter/planter/heuristic/FactQueue", name := "<init>", desc := "()V" } : Jvm.MethodName)).before a0 Z = true := hw _ (List.mem_of_getElem? (i := 5) rfl)
theorem w6 {Z : State} {a0 : Array Value} (hw : Hw Z a0) : (Jvm.Cond.code ({ cls := "com/example/planter/planter/heuristic/FactQueue", name := "<init>", desc := "()V" } : Jvm.MethodName) prog_41_method_1_code (1 : Nat) (Option.none : Option Jvm.ClassFile.FieldType)).before a0 Z = true := hw _ (List.mem_of_getElem? (i := 6) rfl)
theorem w7 {Z : State} {a0 : Array Value} (hw : Hw Z a0) : (Jvm.Cond.methodLink "com/example/planter/planter/heuristic/FactQueue" (1 : Nat) ({ cls := "java/lang/Object", name := "<init>", desc := "()V" } : Jvm.MethodName)).before a0 Z = true := hw _ (List.mem_of_getElem? (i := 7) rfl)
theorem w8 {Z : State} {a0 : Array Value} (hw : Hw Z a0) : (Jvm.Cond.instanceMethod ({ cls := "java/lang/Object", name := "<init>", desc := "()V" } : Jvm.MethodName)).before a0 Z = true := hw _ (List.mem_of_getElem? (i := 8) rfl)
theorem w9 {Z : State} {a0 : Array Value} (hw : Hw Z a0) : (Jvm.Cond.code ({ cls := "java/lang/Object", name := "<init>", desc := "()V" } : Jvm.MethodName) object_method_1_code (1 : Nat) (Option.none : Option Jvm.ClassFile.FieldType)).before a0 Z = true := hw _ (List.mem_of_getElem? (i := 9) rfl)
theorem w10 {Z : State} {a0 : Array Value} (hw : Hw Z a0) : (Jvm.Cond.fieldLink "com/example/planter/planter/heuristic/FactQueue" (7 : Nat) "com/example/planter/planter/heuristic/FactQueue" "costs" "[J").before a0 Z = true := hw _ (List.mem_of_getElem? (i := 10) rfl)
theorem w11 {Z : State} {a0 : Array Value} (hw : Hw Z a0) : (Jvm.Cond.lays "com/example/planter/planter/heuristic/FactQueue" "com/example/planter/planter/heuristic/FactQueue" "costs" "[J").before a0 Z = true := hw _ (List.mem_of_getElem? (i := 11) rfl)
theorem w12 {Z : State} {a0 : Array Value} (hw : Hw Z a0) : (Jvm.Cond.arrayClass Jvm.ClassFile.FieldType.int).before a0 Z = true := hw _ (List.mem_of_getElem? (i := 12) rfl)
theorem w13 {Z : State} {a0 : Array Value} (hw : Hw Z a0) : (Jvm.Cond.fieldLink "com/example/planter/planter/heuristic/FactQueue" (13 : Nat) "com/example/planter/planter/heuristic/FactQueue" "facts" "[I").before a0 Z = true := hw _ (List.mem_of_getElem? (i := 13) rfl)
theorem w14 {Z : State} {a0 : Array Value} (hw : Hw Z a0) : (Jvm.Cond.lays "com/example/planter/planter/heuristic/FactQueue" "com/example/planter/planter/heuristic/FactQueue" "facts" "[I").before a0 Z = true := hw _ (List.mem_of_getElem? (i := 14) rfl)
theorem w15 {Z : State} {a0 : Array Value} (hw : Hw Z a0) : (Jvm.Cond.methodLink "com/example/planter/planter/heuristic/FactQueuePopPinLaw" (10 : Nat) ({ cls := "com/example/planter/planter/heuristic/FactQueue", name := "push", desc := "(JI)V" } : Jvm.MethodName)).before a0 Z = true := hw _ (List.mem_of_getElem? (i := 15) rfl)
theorem w16 {Z : State} {a0 : Array Value} (hw : Hw Z a0) : (Jvm.Cond.declares ({ cls := "com/example/planter/planter/heuristic/FactQueue", name := "push", desc := "(JI)V" } : Jvm.MethodName)).before a0 Z = true := hw _ (List.mem_of_getElem? (i := 16) rfl)
theorem w17 {Z : State} {a0 : Array Value} (hw : Hw Z a0) : (Jvm.Cond.instanceMethod ({ cls := "com/example/planter/planter/heuristic/FactQueue", name := "push", desc := "(JI)V" } : Jvm.MethodName)).before a0 Z = true := hw _ (List.mem_of_getElem? (i := 17) rfl)
theorem w18 {Z : State} {a0 : Array Value} (hw : Hw Z a0) : (Jvm.Cond.selects "com/example/planter/planter/heuristic/FactQueue" ({ cls := "com/example/planter/planter/heuristic/FactQueue", name := "push", desc := "(JI)V" } : Jvm.MethodName) ({ cls := "com/example/planter/planter/heuristic/FactQueue", name := "push", desc := "(JI)V" } : Jvm.MethodName)).before a0 Z = true := hw _ (List.mem_of_getElem? (i := 18) rfl)
theorem w19 {Z : State} {a0 : Array Value} (hw : Hw Z a0) : (Jvm.Cond.code ({ cls := "com/example/planter/planter/heuristic/FactQueue", name := "push", desc := "(JI)V" } : Jvm.MethodName) prog_41_method_4_code (6 : Nat) (Option.none : Option Jvm.ClassFile.FieldType)).before a0 Z = true := hw _ (List.mem_of_getElem? (i := 19) rfl)
theorem w20 {Z : State} {a0 : Array Value} (hw : Hw Z a0) : (Jvm.Cond.fieldLink "com/example/planter/planter/heuristic/FactQueue" (17 : Nat) "com/example/planter/planter/heuristic/FactQueue" "size" "I").before a0 Z = true := hw _ (List.mem_of_getElem? (i := 20) rfl)
theorem w21 {Z : State} {a0 : Array Value} (hw : Hw Z a0) : (Jvm.Cond.lays "com/example/planter/planter/heuristic/FactQueue" "com/example/planter/planter/heuristic/FactQueue" "size" "I").before a0 Z = true := hw _ (List.mem_of_getElem? (i := 21) rfl)
theorem w22 {Z : State} {a0 : Array Value} (hw : Hw Z a0) : (Jvm.Cond.methodLink "com/example/planter/planter/heuristic/FactQueuePopPinLaw" (14 : Nat) ({ cls := "com/example/planter/planter/heuristic/FactQueue", name := "pop", desc := "()I" } : Jvm.MethodName)).before a0 Z = true := hw _ (List.mem_of_getElem? (i := 22) rfl)
theorem w23 {Z : State} {a0 : Array Value} (hw : Hw Z a0) : (Jvm.Cond.declares ({ cls := "com/example/planter/planter/heuristic/FactQueue", name := "pop", desc := "()I" } : Jvm.MethodName)).before a0 Z = true := hw _ (List.mem_of_getElem? (i := 23) rfl)
theorem w24 {Z : State} {a0 : Array Value} (hw : Hw Z a0) : (Jvm.Cond.instanceMethod ({ cls := "com/example/planter/planter/heuristic/FactQueue", name := "pop", desc := "()I" } : Jvm.MethodName)).before a0 Z = true := hw _ (List.mem_of_getElem? (i := 24) rfl)
theorem w25 {Z : State} {a0 : Array Value} (hw : Hw Z a0) : (Jvm.Cond.selects "com/example/planter/planter/heuristic/FactQueue" ({ cls := "com/example/planter/planter/heuristic/FactQueue", name := "pop", desc := "()I" } : Jvm.MethodName) ({ cls := "com/example/planter/planter/heuristic/FactQueue", name := "pop", desc := "()I" } : Jvm.MethodName)).before a0 Z = true := hw _ (List.mem_of_getElem? (i := 25) rfl)
theorem w26 {Z : State} {a0 : Array Value} (hw : Hw Z a0) : (Jvm.Cond.code ({ cls := "com/example/planter/planter/heuristic/FactQueue", name := "pop", desc := "()I" } : Jvm.MethodName) prog_41_method_5_code (7 : Nat) (Option.some Jvm.ClassFile.FieldType.int)).before a0 Z = true := hw _ (List.mem_of_getElem? (i := 26) rfl)
theorem w27 {Z : State} {a0 : Array Value} (hw : Hw Z a0) : (Jvm.Cond.fieldLink "com/example/planter/planter/heuristic/FactQueue" (30 : Nat) "com/example/planter/planter/heuristic/FactQueue" "poppedCost" "J").before a0 Z = true := hw _ (List.mem_of_getElem? (i := 27) rfl)
theorem w28 {Z : State} {a0 : Array Value} (hw : Hw Z a0) : (Jvm.Cond.lays "com/example/planter/planter/heuristic/FactQueue" "com/example/planter/planter/heuristic/FactQueue" "poppedCost" "J").before a0 Z = true := hw _ (List.mem_of_getElem? (i := 28) rfl)
theorem w29 {Z : State} {a0 : Array Value} (hw : Hw Z a0) : (Jvm.Cond.methodLink "com/example/planter/planter/heuristic/FactQueuePopPinLaw" (18 : Nat) ({ cls := "com/example/planter/planter/heuristic/FactQueue", name := "poppedCost", desc := "()J" } : Jvm.MethodName)).before a0 Z = true := hw _ (List.mem_of_getElem? (i := 29) rfl)
theorem w30 {Z : State} {a0 : Array Value} (hw : Hw Z a0) : (Jvm.Cond.declares ({ cls := "com/example/planter/planter/heuristic/FactQueue", name := "poppedCost", desc := "()J" } : Jvm.MethodName)).before a0 Z = true := hw _ (List.mem_of_getElem? (i := 30) rfl)
theorem w31 {Z : State} {a0 : Array Value} (hw : Hw Z a0) : (Jvm.Cond.instanceMethod ({ cls := "com/example/planter/planter/heuristic/FactQueue", name := "poppedCost", desc := "()J" } : Jvm.MethodName)).before a0 Z = true := hw _ (List.mem_of_getElem? (i := 31) rfl)
theorem w32 {Z : State} {a0 : Array Value} (hw : Hw Z a0) : (Jvm.Cond.selects "com/example/planter/planter/heuristic/FactQueue" ({ cls := "com/example/planter/planter/heuristic/FactQueue", name := "poppedCost", desc := "()J" } : Jvm.MethodName) ({ cls := "com/example/planter/planter/heuristic/FactQueue", name := "poppedCost", desc := "()J" } : Jvm.MethodName)).before a0 Z = true := hw _ (List.mem_of_getElem? (i := 32) rfl)
theorem w33 {Z : State} {a0 : Array Value} (hw : Hw Z a0) : (Jvm.Cond.code ({ cls := "com/example/planter/planter/heuristic/FactQueue", name := "poppedCost", desc := "()J" } : Jvm.MethodName) prog_41_method_6_code (1 : Nat) (Option.some Jvm.ClassFile.FieldType.long)).before a0 Z = true := hw _ (List.mem_of_getElem? (i := 33) rfl)
theorem w34 {Z : State} {a0 : Array Value} (hw : Hw Z a0) : (Jvm.Cond.methodLink "com/example/planter/planter/heuristic/FactQueuePopPinLaw" (22 : Nat) ({ cls := "com/example/planter/planter/heuristic/FactQueuePopPinLaw", name := "step", desc := "(IIIJ[J)I" } : Jvm.MethodName)).before a0 Z = true := hw _ (List.mem_of_getElem? (i := 34) rfl)
theorem w35 {Z : State} {a0 : Array Value} (hw : Hw Z a0) : (Jvm.Cond.static ({ cls := "com/example/planter/planter/heuristic/FactQueuePopPinLaw", name := "step", desc := "(IIIJ[J)I" } : Jvm.MethodName)).before a0 Z = true := hw _ (List.mem_of_getElem? (i := 35) rfl)
theorem w36 {Z : State} {a0 : Array Value} (hw : Hw Z a0) : (Jvm.Cond.initialized "com/example/planter/planter/heuristic/FactQueuePopPinLaw").before a0 Z = true := hw _ (List.mem_of_getElem? (i := 36) rfl)
theorem w37 {Z : State} {a0 : Array Value} (hw : Hw Z a0) : (Jvm.Cond.code ({ cls := "com/example/planter/planter/heuristic/FactQueuePopPinLaw", name := "step", desc := "(IIIJ[J)I" } : Jvm.MethodName) method_2_code (7 : Nat) (Option.some Jvm.ClassFile.FieldType.int)).before a0 Z = true := hw _ (List.mem_of_getElem? (i := 37) rfl)
theorem d1_0 : decode prog_41_method_1_code 0 = .ok (.aload_n 0, 1) := by decide +kernel
theorem d1_1 : decode prog_41_method_1_code 1 = .ok (.invokespecial 1, 3) := by decide +kernel
theorem d1_4 : decode prog_41_method_1_code 4 = .ok (.aload_n 0, 1) := by decide +kernel
theorem d1_5 : decode prog_41_method_1_code 5 = .ok (.bipush 64, 2) := by decide +kernel
theorem d1_7 : decode prog_41_method_1_code 7 = .ok (.newarray .long, 2) := by decide +kernel
theorem d1_9 : decode prog_41_method_1_code 9 = .ok (.putfield 7, 3) := by decide +kernel
theorem d1_12 : decode prog_41_method_1_code 12 = .ok (.aload_n 0, 1) := by decide +kernel
theorem d1_13 : decode prog_41_method_1_code 13 = .ok (.bipush 64, 2) := by decide +kernel
theorem d1_15 : decode prog_41_method_1_code 15 = .ok (.newarray .int, 2) := by decide +kernel
theorem d1_17 : decode prog_41_method_1_code 17 = .ok (.putfield 13, 3) := by decide +kernel
theorem d1_20 : decode prog_41_method_1_code 20 = .ok (.return_, 1) := by decide +kernel
theorem d2_0 : decode prog_41_method_4_code 0 = .ok (.aload_n 0, 1) := by decide +kernel
theorem d2_1 : decode prog_41_method_4_code 1 = .ok (.getfield 17, 3) := by decide +kernel
theorem d2_4 : decode prog_41_method_4_code 4 = .ok (.aload_n 0, 1) := by decide +kernel
theorem d2_5 : decode prog_41_method_4_code 5 = .ok (.getfield 7, 3) := by decide +kernel
theorem d2_8 : decode prog_41_method_4_code 8 = .ok (.arraylength, 1) := by decide +kernel
theorem d2_9 : decode prog_41_method_4_code 9 = .ok (.if_icmp .ne 37, 3) := by decide +kernel
theorem d2_46 : decode prog_41_method_4_code 46 = .ok (.aload_n 0, 1) := by decide +kernel
theorem d2_47 : decode prog_41_method_4_code 47 = .ok (.dup, 1) := by decide +kernel
theorem d2_48 : decode prog_41_method_4_code 48 = .ok (.getfield 17, 3) := by decide +kernel
theorem d2_51 : decode prog_41_method_4_code 51 = .ok (.dup_x1, 1) := by decide +kernel
theorem d2_52 : decode prog_41_method_4_code 52 = .ok (.iconst 1, 1) := by decide +kernel
theorem d2_53 : decode prog_41_method_4_code 53 = .ok (.iadd, 1) := by decide +kernel
theorem d2_54 : decode prog_41_method_4_code 54 = .ok (.putfield 17, 3) := by decide +kernel
theorem d2_57 : decode prog_41_method_4_code 57 = .ok (.istore 4, 2) := by decide +kernel
theorem d2_59 : decode prog_41_method_4_code 59 = .ok (.iload 4, 2) := by decide +kernel
theorem d2_61 : decode prog_41_method_4_code 61 = .ok (.ifCond .le 61, 3) := by decide +kernel
theorem d2_64 : decode prog_41_method_4_code 64 = .ok (.iload 4, 2) := by decide +kernel
theorem d2_66 : decode prog_41_method_4_code 66 = .ok (.iconst 1, 1) := by decide +kernel
theorem d2_67 : decode prog_41_method_4_code 67 = .ok (.isub, 1) := by decide +kernel
theorem d2_68 : decode prog_41_method_4_code 68 = .ok (.iconst 1, 1) := by decide +kernel
theorem d2_69 : decode prog_41_method_4_code 69 = .ok (.iushr, 1) := by decide +kernel
theorem d2_70 : decode prog_41_method_4_code 70 = .ok (.istore 5, 2) := by decide +kernel
theorem d2_72 : decode prog_41_method_4_code 72 = .ok (.aload_n 0, 1) := by decide +kernel
theorem d2_73 : decode prog_41_method_4_code 73 = .ok (.getfield 7, 3) := by decide +kernel
theorem d2_76 : decode prog_41_method_4_code 76 = .ok (.iload 5, 2) := by decide +kernel
theorem d2_78 : decode prog_41_method_4_code 78 = .ok (.laload, 1) := by decide +kernel
theorem d2_79 : decode prog_41_method_4_code 79 = .ok (.lload_n 1, 1) := by decide +kernel
theorem d2_80 : decode prog_41_method_4_code 80 = .ok (.lcmp, 1) := by decide +kernel
theorem d2_81 : decode prog_41_method_4_code 81 = .ok (.ifCond .gt 6, 3) := by decide +kernel
theorem d2_84 : decode prog_41_method_4_code 84 = .ok (.goto 38, 3) := by decide +kernel
theorem d2_87 : decode prog_41_method_4_code 87 = .ok (.aload_n 0, 1) := by decide +kernel
theorem d2_88 : decode prog_41_method_4_code 88 = .ok (.getfield 7, 3) := by decide +kernel
theorem d2_91 : decode prog_41_method_4_code 91 = .ok (.iload 4, 2) := by decide +kernel
theorem d2_93 : decode prog_41_method_4_code 93 = .ok (.aload_n 0, 1) := by decide +kernel
theorem d2_94 : decode prog_41_method_4_code 94 = .ok (.getfield 7, 3) := by decide +kernel
theorem d2_97 : decode prog_41_method_4_code 97 = .ok (.iload 5, 2) := by decide +kernel
theorem d2_99 : decode prog_41_method_4_code 99 = .ok (.laload, 1) := by decide +kernel
theorem d2_100 : decode prog_41_method_4_code 100 = .ok (.lastore, 1) := by decide +kernel
theorem d2_101 : decode prog_41_method_4_code 101 = .ok (.aload_n 0, 1) := by decide +kernel
theorem d2_102 : decode prog_41_method_4_code 102 = .ok (.getfield 13, 3) := by decide +kernel
theorem d2_105 : decode prog_41_method_4_code 105 = .ok (.iload 4, 2) := by decide +kernel
theorem d2_107 : decode prog_41_method_4_code 107 = .ok (.aload_n 0, 1) := by decide +kernel
theorem d2_108 : decode prog_41_method_4_code 108 = .ok (.getfield 13, 3) := by decide +kernel
theorem d2_111 : decode prog_41_method_4_code 111 = .ok (.iload 5, 2) := by decide +kernel
theorem d2_113 : decode prog_41_method_4_code 113 = .ok (.iaload, 1) := by decide +kernel
theorem d2_114 : decode prog_41_method_4_code 114 = .ok (.iastore, 1) := by decide +kernel
theorem d2_115 : decode prog_41_method_4_code 115 = .ok (.iload 5, 2) := by decide +kernel
theorem d2_117 : decode prog_41_method_4_code 117 = .ok (.istore 4, 2) := by decide +kernel
theorem d2_119 : decode prog_41_method_4_code 119 = .ok (.goto (-60), 3) := by decide +kernel
theorem d2_122 : decode prog_41_method_4_code 122 = .ok (.aload_n 0, 1) := by decide +kernel
theorem d2_123 : decode prog_41_method_4_code 123 = .ok (.getfield 7, 3) := by decide +kernel
theorem d2_126 : decode prog_41_method_4_code 126 = .ok (.iload 4, 2) := by decide +kernel
theorem d2_128 : decode prog_41_method_4_code 128 = .ok (.lload_n 1, 1) := by decide +kernel
theorem d2_129 : decode prog_41_method_4_code 129 = .ok (.lastore, 1) := by decide +kernel
theorem d2_130 : decode prog_41_method_4_code 130 = .ok (.aload_n 0, 1) := by decide +kernel
theorem d2_131 : decode prog_41_method_4_code 131 = .ok (.getfield 13, 3) := by decide +kernel
theorem d2_134 : decode prog_41_method_4_code 134 = .ok (.iload 4, 2) := by decide +kernel
theorem d2_136 : decode prog_41_method_4_code 136 = .ok (.iload_n 3, 1) := by decide +kernel
theorem d2_137 : decode prog_41_method_4_code 137 = .ok (.iastore, 1) := by decide +kernel
theorem d2_138 : decode prog_41_method_4_code 138 = .ok (.return_, 1) := by decide +kernel
theorem d3_0 : decode prog_41_method_5_code 0 = .ok (.aload_n 0, 1) := by decide +kernel
theorem d3_1 : decode prog_41_method_5_code 1 = .ok (.getfield 13, 3) := by decide +kernel
theorem d3_4 : decode prog_41_method_5_code 4 = .ok (.iconst 0, 1) := by decide +kernel
theorem d3_5 : decode prog_41_method_5_code 5 = .ok (.iaload, 1) := by decide +kernel
theorem d3_6 : decode prog_41_method_5_code 6 = .ok (.istore_n 1, 1) := by decide +kernel
theorem d3_7 : decode prog_41_method_5_code 7 = .ok (.aload_n 0, 1) := by decide +kernel
theorem d3_8 : decode prog_41_method_5_code 8 = .ok (.aload_n 0, 1) := by decide +kernel
theorem d3_9 : decode prog_41_method_5_code 9 = .ok (.getfield 7, 3) := by decide +kernel
theorem d3_12 : decode prog_41_method_5_code 12 = .ok (.iconst 0, 1) := by decide +kernel
theorem d3_13 : decode prog_41_method_5_code 13 = .ok (.laload, 1) := by decide +kernel
theorem d3_14 : decode prog_41_method_5_code 14 = .ok (.putfield 30, 3) := by decide +kernel
theorem d3_17 : decode prog_41_method_5_code 17 = .ok (.aload_n 0, 1) := by decide +kernel
theorem d3_18 : decode prog_41_method_5_code 18 = .ok (.dup, 1) := by decide +kernel
theorem d3_19 : decode prog_41_method_5_code 19 = .ok (.getfield 17, 3) := by decide +kernel
theorem d3_22 : decode prog_41_method_5_code 22 = .ok (.iconst 1, 1) := by decide +kernel
theorem d3_23 : decode prog_41_method_5_code 23 = .ok (.isub, 1) := by decide +kernel
theorem d3_24 : decode prog_41_method_5_code 24 = .ok (.putfield 17, 3) := by decide +kernel
theorem d3_27 : decode prog_41_method_5_code 27 = .ok (.aload_n 0, 1) := by decide +kernel
theorem d3_28 : decode prog_41_method_5_code 28 = .ok (.getfield 7, 3) := by decide +kernel
theorem d3_31 : decode prog_41_method_5_code 31 = .ok (.aload_n 0, 1) := by decide +kernel
theorem d3_32 : decode prog_41_method_5_code 32 = .ok (.getfield 17, 3) := by decide +kernel
theorem d3_35 : decode prog_41_method_5_code 35 = .ok (.laload, 1) := by decide +kernel
theorem d3_36 : decode prog_41_method_5_code 36 = .ok (.lstore_n 2, 1) := by decide +kernel
theorem d3_37 : decode prog_41_method_5_code 37 = .ok (.aload_n 0, 1) := by decide +kernel
theorem d3_38 : decode prog_41_method_5_code 38 = .ok (.getfield 13, 3) := by decide +kernel
theorem d3_41 : decode prog_41_method_5_code 41 = .ok (.aload_n 0, 1) := by decide +kernel
theorem d3_42 : decode prog_41_method_5_code 42 = .ok (.getfield 17, 3) := by decide +kernel
theorem d3_45 : decode prog_41_method_5_code 45 = .ok (.iaload, 1) := by decide +kernel
theorem d3_46 : decode prog_41_method_5_code 46 = .ok (.istore 4, 2) := by decide +kernel
theorem d3_48 : decode prog_41_method_5_code 48 = .ok (.iconst 0, 1) := by decide +kernel
theorem d3_49 : decode prog_41_method_5_code 49 = .ok (.istore 5, 2) := by decide +kernel
theorem d3_51 : decode prog_41_method_5_code 51 = .ok (.iconst 2, 1) := by decide +kernel
theorem d3_52 : decode prog_41_method_5_code 52 = .ok (.iload 5, 2) := by decide +kernel
theorem d3_54 : decode prog_41_method_5_code 54 = .ok (.imul, 1) := by decide +kernel
theorem d3_55 : decode prog_41_method_5_code 55 = .ok (.iconst 1, 1) := by decide +kernel
theorem d3_56 : decode prog_41_method_5_code 56 = .ok (.iadd, 1) := by decide +kernel
theorem d3_57 : decode prog_41_method_5_code 57 = .ok (.istore 6, 2) := by decide +kernel
theorem d3_59 : decode prog_41_method_5_code 59 = .ok (.iload 6, 2) := by decide +kernel
theorem d3_61 : decode prog_41_method_5_code 61 = .ok (.aload_n 0, 1) := by decide +kernel
theorem d3_62 : decode prog_41_method_5_code 62 = .ok (.getfield 17, 3) := by decide +kernel
theorem d3_65 : decode prog_41_method_5_code 65 = .ok (.if_icmp .lt 6, 3) := by decide +kernel
theorem d3_68 : decode prog_41_method_5_code 68 = .ok (.goto 87, 3) := by decide +kernel
theorem d3_71 : decode prog_41_method_5_code 71 = .ok (.iload 6, 2) := by decide +kernel
theorem d3_73 : decode prog_41_method_5_code 73 = .ok (.iconst 1, 1) := by decide +kernel
theorem d3_74 : decode prog_41_method_5_code 74 = .ok (.iadd, 1) := by decide +kernel
theorem d3_75 : decode prog_41_method_5_code 75 = .ok (.aload_n 0, 1) := by decide +kernel
theorem d3_76 : decode prog_41_method_5_code 76 = .ok (.getfield 17, 3) := by decide +kernel
theorem d3_79 : decode prog_41_method_5_code 79 = .ok (.if_icmp .ge 26, 3) := by decide +kernel
theorem d3_82 : decode prog_41_method_5_code 82 = .ok (.aload_n 0, 1) := by decide +kernel
theorem d3_83 : decode prog_41_method_5_code 83 = .ok (.getfield 7, 3) := by decide +kernel
theorem d3_86 : decode prog_41_method_5_code 86 = .ok (.iload 6, 2) := by decide +kernel
theorem d3_88 : decode prog_41_method_5_code 88 = .ok (.iconst 1, 1) := by decide +kernel
theorem d3_89 : decode prog_41_method_5_code 89 = .ok (.iadd, 1) := by decide +kernel
theorem d3_90 : decode prog_41_method_5_code 90 = .ok (.laload, 1) := by decide +kernel
theorem d3_91 : decode prog_41_method_5_code 91 = .ok (.aload_n 0, 1) := by decide +kernel
theorem d3_92 : decode prog_41_method_5_code 92 = .ok (.getfield 7, 3) := by decide +kernel
theorem d3_95 : decode prog_41_method_5_code 95 = .ok (.iload 6, 2) := by decide +kernel
theorem d3_97 : decode prog_41_method_5_code 97 = .ok (.laload, 1) := by decide +kernel
theorem d3_98 : decode prog_41_method_5_code 98 = .ok (.lcmp, 1) := by decide +kernel
theorem d3_99 : decode prog_41_method_5_code 99 = .ok (.ifCond .ge 6, 3) := by decide +kernel
theorem d3_102 : decode prog_41_method_5_code 102 = .ok (.iinc 6 1, 3) := by decide +kernel
theorem d3_105 : decode prog_41_method_5_code 105 = .ok (.aload_n 0, 1) := by decide +kernel
theorem d3_106 : decode prog_41_method_5_code 106 = .ok (.getfield 7, 3) := by decide +kernel
theorem d3_109 : decode prog_41_method_5_code 109 = .ok (.iload 6, 2) := by decide +kernel
theorem d3_111 : decode prog_41_method_5_code 111 = .ok (.laload, 1) := by decide +kernel
theorem d3_112 : decode prog_41_method_5_code 112 = .ok (.lload_n 2, 1) := by decide +kernel
theorem d3_113 : decode prog_41_method_5_code 113 = .ok (.lcmp, 1) := by decide +kernel
theorem d3_114 : decode prog_41_method_5_code 114 = .ok (.ifCond .lt 6, 3) := by decide +kernel
theorem d3_117 : decode prog_41_method_5_code 117 = .ok (.goto 38, 3) := by decide +kernel
theorem d3_120 : decode prog_41_method_5_code 120 = .ok (.aload_n 0, 1) := by decide +kernel
theorem d3_121 : decode prog_41_method_5_code 121 = .ok (.getfield 7, 3) := by decide +kernel
theorem d3_124 : decode prog_41_method_5_code 124 = .ok (.iload 5, 2) := by decide +kernel
theorem d3_126 : decode prog_41_method_5_code 126 = .ok (.aload_n 0, 1) := by decide +kernel
theorem d3_127 : decode prog_41_method_5_code 127 = .ok (.getfield 7, 3) := by decide +kernel
theorem d3_130 : decode prog_41_method_5_code 130 = .ok (.iload 6, 2) := by decide +kernel
theorem d3_132 : decode prog_41_method_5_code 132 = .ok (.laload, 1) := by decide +kernel
theorem d3_133 : decode prog_41_method_5_code 133 = .ok (.lastore, 1) := by decide +kernel
theorem d3_134 : decode prog_41_method_5_code 134 = .ok (.aload_n 0, 1) := by decide +kernel
theorem d3_135 : decode prog_41_method_5_code 135 = .ok (.getfield 13, 3) := by decide +kernel
theorem d3_138 : decode prog_41_method_5_code 138 = .ok (.iload 5, 2) := by decide +kernel
theorem d3_140 : decode prog_41_method_5_code 140 = .ok (.aload_n 0, 1) := by decide +kernel
theorem d3_141 : decode prog_41_method_5_code 141 = .ok (.getfield 13, 3) := by decide +kernel
theorem d3_144 : decode prog_41_method_5_code 144 = .ok (.iload 6, 2) := by decide +kernel
theorem d3_146 : decode prog_41_method_5_code 146 = .ok (.iaload, 1) := by decide +kernel
theorem d3_147 : decode prog_41_method_5_code 147 = .ok (.iastore, 1) := by decide +kernel
theorem d3_148 : decode prog_41_method_5_code 148 = .ok (.iload 6, 2) := by decide +kernel
theorem d3_150 : decode prog_41_method_5_code 150 = .ok (.istore 5, 2) := by decide +kernel
theorem d3_152 : decode prog_41_method_5_code 152 = .ok (.goto (-101), 3) := by decide +kernel
theorem d3_155 : decode prog_41_method_5_code 155 = .ok (.aload_n 0, 1) := by decide +kernel
theorem d3_156 : decode prog_41_method_5_code 156 = .ok (.getfield 7, 3) := by decide +kernel
theorem d3_159 : decode prog_41_method_5_code 159 = .ok (.iload 5, 2) := by decide +kernel
theorem d3_161 : decode prog_41_method_5_code 161 = .ok (.lload_n 2, 1) := by decide +kernel
theorem d3_162 : decode prog_41_method_5_code 162 = .ok (.lastore, 1) := by decide +kernel
theorem d3_163 : decode prog_41_method_5_code 163 = .ok (.aload_n 0, 1) := by decide +kernel
theorem d3_164 : decode prog_41_method_5_code 164 = .ok (.getfield 13, 3) := by decide +kernel
theorem d3_167 : decode prog_41_method_5_code 167 = .ok (.iload 5, 2) := by decide +kernel
theorem d3_169 : decode prog_41_method_5_code 169 = .ok (.iload 4, 2) := by decide +kernel
theorem d3_171 : decode prog_41_method_5_code 171 = .ok (.iastore, 1) := by decide +kernel
theorem d3_172 : decode prog_41_method_5_code 172 = .ok (.iload_n 1, 1) := by decide +kernel
theorem d3_173 : decode prog_41_method_5_code 173 = .ok (.ireturn, 1) := by decide +kernel
theorem d4_0 : decode prog_41_method_6_code 0 = .ok (.aload_n 0, 1) := by decide +kernel
theorem d4_1 : decode prog_41_method_6_code 1 = .ok (.getfield 30, 3) := by decide +kernel
theorem d4_4 : decode prog_41_method_6_code 4 = .ok (.lreturn, 1) := by decide +kernel
theorem d5_0 : decode method_2_code 0 = .ok (.iload_n 0, 1) := by decide +kernel
theorem d5_1 : decode method_2_code 1 = .ok (.ifCond .ge 5, 3) := by decide +kernel
theorem d5_6 : decode method_2_code 6 = .ok (.iload_n 1, 1) := by decide +kernel
theorem d5_7 : decode method_2_code 7 = .ok (.iload_n 2, 1) := by decide +kernel
theorem d5_8 : decode method_2_code 8 = .ok (.isub, 1) := by decide +kernel
theorem d5_9 : decode method_2_code 9 = .ok (.istore 6, 2) := by decide +kernel
theorem d5_11 : decode method_2_code 11 = .ok (.iload 6, 2) := by decide +kernel
theorem d5_13 : decode method_2_code 13 = .ok (.ifCond .lt 9, 3) := by decide +kernel
theorem d5_16 : decode method_2_code 16 = .ok (.iload 6, 2) := by decide +kernel
theorem d5_18 : decode method_2_code 18 = .ok (.iconst 4, 1) := by decide +kernel
theorem d5_19 : decode method_2_code 19 = .ok (.if_icmp .le 5, 3) := by decide +kernel
theorem d5_24 : decode method_2_code 24 = .ok (.iload_n 0, 1) := by decide +kernel
theorem d5_25 : decode method_2_code 25 = .ok (.iload 6, 2) := by decide +kernel
theorem d5_27 : decode method_2_code 27 = .ok (.ishr, 1) := by decide +kernel
theorem d5_28 : decode method_2_code 28 = .ok (.iconst 1, 1) := by decide +kernel
theorem d5_29 : decode method_2_code 29 = .ok (.iand, 1) := by decide +kernel
theorem d5_30 : decode method_2_code 30 = .ok (.ifCond .eq 5, 3) := by decide +kernel
theorem d5_35 : decode method_2_code 35 = .ok (.lload_n 3, 1) := by decide +kernel
theorem d5_36 : decode method_2_code 36 = .ok (.aload 5, 2) := by decide +kernel
theorem d5_38 : decode method_2_code 38 = .ok (.iload 6, 2) := by decide +kernel
theorem d5_40 : decode method_2_code 40 = .ok (.laload, 1) := by decide +kernel
theorem d5_41 : decode method_2_code 41 = .ok (.lcmp, 1) := by decide +kernel
theorem d5_42 : decode method_2_code 42 = .ok (.ifCond .eq 5, 3) := by decide +kernel
theorem d5_47 : decode method_2_code 47 = .ok (.iload_n 0, 1) := by decide +kernel
theorem d5_48 : decode method_2_code 48 = .ok (.iconst 1, 1) := by decide +kernel
theorem d5_49 : decode method_2_code 49 = .ok (.iload 6, 2) := by decide +kernel
theorem d5_51 : decode method_2_code 51 = .ok (.ishl, 1) := by decide +kernel
theorem d5_52 : decode method_2_code 52 = .ok (.ior, 1) := by decide +kernel
theorem d5_53 : decode method_2_code 53 = .ok (.ireturn, 1) := by decide +kernel
theorem pd0 : parseMethodDescriptor "()V" = some ⟨[], none⟩ := by decide +kernel
theorem pd1 : parseMethodDescriptor "(JI)V" = some ⟨[.long, .int], none⟩ := by decide +kernel
theorem pd2 : parseMethodDescriptor "()I" = some ⟨[], some .int⟩ := by decide +kernel
theorem pd3 : parseMethodDescriptor "()J" = some ⟨[], some .long⟩ := by decide +kernel
theorem pd4 : parseMethodDescriptor "(IIIJ[J)I" = some ⟨[.int, .int, .int, .long, (.array .long)], some .int⟩ := by decide +kernel
abbrev nm0 : MethodName := x
abbrev rm0 : Room := room_1
abbrev C0 (l : Launch) (Z : State) (a0 : Array Value) (n0 : Nat) := Wp.Con l Z a0 n0 nm0 code maxLocals ret rm0
abbrev W0 (l : Launch) (Z : State) (a0 : Array Value) (n0 : Nat) := Wp.WP l Z a0 n0 rm0 nm0 code maxLocals ret
theorem pn0 : plainFor nm0 = true := by first | exact plainFor_of_name (by first | (simp [plainName, overriddenIn, nm0, x]; done) | decide +kernel) | decide +kernel
theorem ef0 (m : MethodId) (x0 : Int64) (x1 : Int64) (x2 : Int64) (x3 : Int64) (x4 : Int64) (x5 : Int32) : entryFrame m #[(.long x0), (.long x1), (.long x2), (.long x3), (.long x4), (.int x5)] maxLocals = mkF m 0 ⟨[.val (.long x0), .second, .val (.long x1), .second, .val (.long x2), .second, .val (.long x3), .second, .val (.long x4), .second, .val (.int x5), .unset, .unset, .unset, .unset, .unset, .unset, .unset, .unset, .unset, .unset, .unset, .unset, .unset, .unset, .unset, .unset, .unset, .unset]⟩ [] := by first | exact (Wp.efG m [(.long x0), (.long x1), (.long x2), (.long x3), (.long x4), (.int x5)] maxLocals).trans rfl | (simp [entryFrame, mkF, argsToLocals, Value.category, maxLocals]; done)
abbrev nm1 : MethodName := ⟨"com/example/planter/planter/heuristic/FactQueue", "<init>", "()V"⟩
abbrev rm1 : Room := { frames := 1, cells := 2, slots := 128, locals := 12 }
abbrev C1 (l : Launch) (Z : State) (a0 : Array Value) (n0 : Nat) := Wp.Con l Z a0 n0 nm1 prog_41_method_1_code 1 none rm1
abbrev W1 (l : Launch) (Z : State) (a0 : Array Value) (n0 : Nat) := Wp.WP l Z a0 n0 rm1 nm1 prog_41_method_1_code 1 none
theorem pn1 : plainFor nm1 = true := by first | exact plainFor_of_name (by first | (simp [plainName, overriddenIn, nm1, x]; done) | decide +kernel) | decide +kernel
theorem ef1 (m : MethodId) (r : Addr) : entryFrame m #[(.ref r)] 1 = mkF m 0 ⟨[.val (.ref r)]⟩ [] := by first | exact (Wp.efG m [(.ref r)] 1).trans rfl | (simp [entryFrame, mkF, argsToLocals, Value.category]; done)
abbrev nm2 : MethodName := ⟨"com/example/planter/planter/heuristic/FactQueue", "push", "(JI)V"⟩
abbrev rm2 : Room := { frames := 0, cells := 0, slots := 0, locals := 0 }
abbrev C2 (l : Launch) (Z : State) (a0 : Array Value) (n0 : Nat) := Wp.Con l Z a0 n0 nm2 prog_41_method_4_code 6 none rm2
abbrev W2 (l : Launch) (Z : State) (a0 : Array Value) (n0 : Nat) := Wp.WP l Z a0 n0 rm2 nm2 prog_41_method_4_code 6 none
theorem pn2 : plainFor nm2 = true := by first | exact plainFor_of_name (by first | (simp [plainName, overriddenIn, nm2, x]; done) | decide +kernel) | decide +kernel
theorem ef2 (m : MethodId) (r : Addr) (x0 : Int64) (x1 : Int32) : entryFrame m #[(.ref r), (.long x0), (.int x1)] 6 = mkF m 0 ⟨[.val (.ref r), .val (.long x0), .second, .val (.int x1), .unset, .unset]⟩ [] := by first | exact (Wp.efG m [(.ref r), (.long x0), (.int x1)] 6).trans rfl | (simp [entryFrame, mkF, argsToLocals, Value.category]; done)
abbrev nm3 : MethodName := ⟨"com/example/planter/planter/heuristic/FactQueue", "pop", "()I"⟩
abbrev rm3 : Room := { frames := 0, cells := 0, slots := 0, locals := 0 }
abbrev C3 (l : Launch) (Z : State) (a0 : Array Value) (n0 : Nat) := Wp.Con l Z a0 n0 nm3 prog_41_method_5_code 7 (some .int) rm3
abbrev W3 (l : Launch) (Z : State) (a0 : Array Value) (n0 : Nat) := Wp.WP l Z a0 n0 rm3 nm3 prog_41_method_5_code 7 (some .int)
theorem pn3 : plainFor nm3 = true := by first | exact plainFor_of_name (by first | (simp [plainName, overriddenIn, nm3, x]; done) | decide +kernel) | decide +kernel
theorem ef3 (m : MethodId) (r : Addr) : entryFrame m #[(.ref r)] 7 = mkF m 0 ⟨[.val (.ref r), .unset, .unset, .unset, .unset, .unset, .unset]⟩ [] := by first | exact (Wp.efG m [(.ref r)] 7).trans rfl | (simp [entryFrame, mkF, argsToLocals, Value.category]; done)
abbrev nm4 : MethodName := ⟨"com/example/planter/planter/heuristic/FactQueue", "poppedCost", "()J"⟩
abbrev rm4 : Room := { frames := 0, cells := 0, slots := 0, locals := 0 }
abbrev C4 (l : Launch) (Z : State) (a0 : Array Value) (n0 : Nat) := Wp.Con l Z a0 n0 nm4 prog_41_method_6_code 1 (some .long) rm4
abbrev W4 (l : Launch) (Z : State) (a0 : Array Value) (n0 : Nat) := Wp.WP l Z a0 n0 rm4 nm4 prog_41_method_6_code 1 (some .long)
theorem pn4 : plainFor nm4 = true := by first | exact plainFor_of_name (by first | (simp [plainName, overriddenIn, nm4, x]; done) | decide +kernel) | decide +kernel
theorem ef4 (m : MethodId) (r : Addr) : entryFrame m #[(.ref r)] 1 = mkF m 0 ⟨[.val (.ref r)]⟩ [] := by first | exact (Wp.efG m [(.ref r)] 1).trans rfl | (simp [entryFrame, mkF, argsToLocals, Value.category]; done)
abbrev nm5 : MethodName := ⟨"com/example/planter/planter/heuristic/FactQueuePopPinLaw", "step", "(IIIJ[J)I"⟩
abbrev rm5 : Room := { frames := 0, cells := 0, slots := 0, locals := 0 }
abbrev C5 (l : Launch) (Z : State) (a0 : Array Value) (n0 : Nat) := Wp.Con l Z a0 n0 nm5 method_2_code 7 (some .int) rm5
abbrev W5 (l : Launch) (Z : State) (a0 : Array Value) (n0 : Nat) := Wp.WP l Z a0 n0 rm5 nm5 method_2_code 7 (some .int)
theorem pn5 : plainFor nm5 = true := by first | exact plainFor_of_name (by first | (simp [plainName, overriddenIn, nm5, x]; done) | decide +kernel) | decide +kernel
theorem ef5 (m : MethodId) (x0 : Int32) (x1 : Int32) (x2 : Int32) (x3 : Int64) (x4 : Addr) : entryFrame m #[(.int x0), (.int x1), (.int x2), (.long x3), (.ref x4)] 7 = mkF m 0 ⟨[.val (.int x0), .val (.int x1), .val (.int x2), .val (.long x3), .second, .val (.ref x4), .unset]⟩ [] := by first | exact (Wp.efG m [(.int x0), (.int x1), (.int x2), (.long x3), (.ref x4)] 7).trans rfl | (simp [entryFrame, mkF, argsToLocals, Value.category]; done)
def fs_FactQueue : List (String × String × Value) := [("costs", "[J", .null), ("facts", "[I", .null), ("size", "I", .int 0), ("poppedCost", "J", .long 0)]
theorem fs_FactQueue_ok {Z : State} {a0 : Array Value} (hw : Hw Z a0) : ∀ x ∈ fs_FactQueue, Laid Z a0 "com/example/planter/planter/heuristic/FactQueue" "com/example/planter/planter/heuristic/FactQueue" x.1 x.2.1 ∧ ∃ t, parseFieldDescriptor x.2.1 = some t ∧ defaultValue t = x.2.2 := by
  intro x hx
  simp only [fs_FactQueue, List.mem_cons, List.not_mem_nil, or_false] at hx
  rcases hx with rfl | rfl | rfl | rfl
  · exact ⟨Or.inl (w11 hw), (.array .long), by decide, rfl⟩
  · exact ⟨Or.inl (w14 hw), (.array .int), by decide, rfl⟩
  · exact ⟨Or.inl (w21 hw), .int, by decide, rfl⟩
  · exact ⟨Or.inl (w28 hw), .long, by decide, rfl⟩
set_option maxRecDepth 65536
def own_b (p : Bool) : Int32 := if p then 1 else 0
theorem own_b1 {p : Bool} (h : p = true) : (some (Value.int (1 &&& 1)) : Option Value) = some (.int (own_b p)) := by subst h; rfl
theorem own_b0 {p : Bool} (h : p = false) : (some (Value.int (0 &&& 1)) : Option Value) = some (.int (own_b p)) := by subst h; rfl

theorem own_inc {i : Int32} {k : Nat} (h : i.toInt = (k : Int)) (hk : k < 2147483647) : (i + 1).toInt = ((k + 1 : Nat) : Int) := by
  have h1 := c_iadd i 1
  have h2 := rng32 (i + 1)
  have h3 : (1 : Int32).toInt = 1 := rfl
  omega

def own_rank (ks : List Int) (x : Int) : Nat := (ks.filter fun k => decide (k < x)).length
theorem own_rank_cons (k : Int) (t : List Int) (x : Int) : own_rank (k :: t) x = (if k < x then 1 else 0) + own_rank t x := by
  unfold own_rank
  by_cases h : k < x
  · simp [List.filter_cons, h]; omega
  · simp [List.filter_cons, h]
theorem own_rank_mono (ks : List Int) {x y : Int} (h : x ≤ y) : own_rank ks x ≤ own_rank ks y := by
  induction ks with
  | nil => exact Nat.le_refl _
  | cons k t ih => rw [own_rank_cons, own_rank_cons]; split <;> split <;> omega
theorem own_rank_lt (ks : List Int) {x y : Int} (h : x < y) (hx : x ∈ ks) : own_rank ks x < own_rank ks y := by
  induction ks with
  | nil => cases hx
  | cons k t ih =>
    have hm := own_rank_mono t (Int.le_of_lt h)
    rw [own_rank_cons, own_rank_cons]
    rcases List.mem_cons.mp hx with rfl | h2
    · rw [if_neg (by omega), if_pos h]; omega
    · have := ih h2
      split <;> split <;> omega
theorem own_rank_len (ks : List Int) {x : Int} (hx : x ∈ ks) : own_rank ks x < ks.length := by
  induction ks with
  | nil => cases hx
  | cons k t ih =>
    have hle : own_rank t x ≤ t.length := List.length_filter_le _ _
    rw [own_rank_cons, List.length_cons]
    rcases List.mem_cons.mp hx with rfl | h2
    · rw [if_neg (by omega)]; omega
    · have := ih h2
      split <;> omega
theorem own_rank_iff (ks : List Int) {x y : Int} (hy : y ∈ ks) : x ≤ y ↔ own_rank ks x ≤ own_rank ks y := by
  constructor
  · exact own_rank_mono ks
  · intro h
    by_cases q : x ≤ y
    · exact q
    · have := own_rank_lt ks (show y < x by omega) hy; omega
/-- the order of N keys by their ranks -/
def own_rk (N : Nat) (r : List Nat) (i j : Nat) : Bool := if Nat.blt i N && Nat.blt j N then Nat.ble (r.getD i 0) (r.getD j 0) else true
def own_le (ks : List Int64) (i j : Nat) : Bool := if Nat.blt i ks.length && Nat.blt j ks.length then decide ((ks.getD i 0).toInt ≤ (ks.getD j 0).toInt) else true
theorem own_le_t {ks : List Int64} {i j : Nat} (hi : i < ks.length) (hj : j < ks.length) (h : (ks.getD i 0).toInt ≤ (ks.getD j 0).toInt) : own_le ks i j = true := by
  unfold own_le
  rw [if_pos (by simp [Nat.blt_eq, hi, hj])]; exact decide_eq_true h
theorem own_le_f {ks : List Int64} {i j : Nat} (hi : i < ks.length) (hj : j < ks.length) (h : ¬ (ks.getD i 0).toInt ≤ (ks.getD j 0).toInt) : ¬ own_le ks i j = true := by
  unfold own_le
  rw [if_pos (by simp [Nat.blt_eq, hi, hj]), decide_eq_false h]; decide
theorem own_ranked (ks : List Int64) : own_le ks = own_rk ks.length (ks.map fun k => own_rank (ks.map Int64.toInt) k.toInt) := by
  funext i j
  unfold own_le own_rk
  split
  · rename_i h
    simp only [Bool.and_eq_true, Nat.blt_eq] at h
    have e1 : (ks.map fun k => own_rank (ks.map Int64.toInt) k.toInt).getD i 0 = own_rank (ks.map Int64.toInt) (ks.getD i 0).toInt := by simp [List.getElem?_eq_getElem h.1]
    have e2 : (ks.map fun k => own_rank (ks.map Int64.toInt) k.toInt).getD j 0 = own_rank (ks.map Int64.toInt) (ks.getD j 0).toInt := by simp [List.getElem?_eq_getElem h.2]
    rw [e1, e2]
    have hm : (ks.getD j 0).toInt ∈ ks.map Int64.toInt := List.mem_map_of_mem (by simp [List.getElem?_eq_getElem h.2])
    have := own_rank_iff (ks.map Int64.toInt) (x := (ks.getD i 0).toInt) hm
    rw [Bool.eq_iff_iff, decide_eq_true_iff, Nat.ble_eq]
    exact this
  · rfl
theorem own_rank_fin (ks : List Int64) (k : Int64) (h : k ∈ ks) : own_rank (ks.map Int64.toInt) k.toInt < ks.length := by
  have := own_rank_len (ks.map Int64.toInt) (x := k.toInt) (List.mem_map_of_mem h)
  simpa using this
theorem own_ranked' (W : List Int) (ks : List Int64) (hW : ∀ k ∈ ks, k.toInt ∈ W) : own_le ks = own_rk ks.length (ks.map fun k => own_rank W k.toInt) := by
  funext i j
  unfold own_le own_rk
  split
  · rename_i h
    simp only [Bool.and_eq_true, Nat.blt_eq] at h
    have e1 : (ks.map fun k => own_rank W k.toInt).getD i 0 = own_rank W (ks.getD i 0).toInt := by simp [List.getElem?_eq_getElem h.1]
    have e2 : (ks.map fun k => own_rank W k.toInt).getD j 0 = own_rank W (ks.getD j 0).toInt := by simp [List.getElem?_eq_getElem h.2]
    rw [e1, e2]
    have hm : (ks.getD j 0).toInt ∈ W := hW _ (by simp [List.getElem?_eq_getElem h.2])
    have := own_rank_iff W (x := (ks.getD i 0).toInt) hm
    rw [Bool.eq_iff_iff, decide_eq_true_iff, Nat.ble_eq]
    exact this
  · rfl
/-- each rank is the number of the smaller ranks -/
def own_cn (r : List Nat) : Bool := r.all fun x => (r.filter fun y => Nat.blt y x).length == x
theorem own_cn_of (W : List Int) : own_cn (W.map (own_rank W)) = true := by
  unfold own_cn
  rw [List.all_eq_true]
  intro x hx
  obtain ⟨w, hw, rfl⟩ := List.mem_map.mp hx
  rw [beq_iff_eq, List.filter_map, List.length_map]
  show _ = (W.filter fun k => decide (k < w)).length
  congr 1
  apply List.filter_congr
  intro k hk
  show Nat.blt (own_rank W k) (own_rank W w) = decide (k < w)
  have := own_rank_iff W (x := w) hk
  rw [Bool.eq_iff_iff, Nat.blt_eq, decide_eq_true_iff]
  omega

def own_fup (le : Nat → Nat → Bool) (v : Nat) : Nat → Nat → List Nat → Option (List Nat)
  | 0, _, _ => none
  | f + 1, i, hs =>
    if i = 0 then (if 0 < hs.length then some (hs.set 0 v) else none)
    else match hs[(i - 1) / 2]? with
      | none => none
      | some w => if w < 5 ∧ v < 5 ∧ i < hs.length then (if le w v then some (hs.set i v) else own_fup le v f ((i - 1) / 2) (hs.set i w)) else none
def own_fpush (le : Nat → Nat → Bool) (v : Nat) (o : Option (Nat × List Nat)) : Option (Nat × List Nat) :=
  match o with
  | none => none
  | some (n, hs) => if n < 60 ∧ hs.length = 64 then (match own_fup le v 7 n hs with | none => none | some hs' => some (n + 1, hs')) else none
def own_fchild (le : Nat → Nat → Bool) (n c : Nat) (hs : List Nat) : Option (Nat × Nat) :=
  match hs[c]? with
  | none => none
  | some c0 =>
    if c0 < 5 then
      (if c + 1 < n then
        match hs[c + 1]? with
        | none => none
        | some c1 => if c1 < 5 then (if le c0 c1 then some (c, c0) else some (c + 1, c1)) else none
      else some (c, c0))
    else none
def own_fdn (le : Nat → Nat → Bool) (n v : Nat) : Nat → Nat → List Nat → Option (List Nat)
  | 0, _, _ => none
  | f + 1, at_, hs =>
    if v < 5 ∧ at_ < hs.length then
      (if n ≤ 2 * at_ + 1 then some (hs.set at_ v)
       else match own_fchild le n (2 * at_ + 1) hs with
        | none => none
        | some (c, w) => if le v w then some (hs.set at_ v) else own_fdn le n v f c (hs.set at_ w))
    else none
def own_fpop (le : Nat → Nat → Bool) (o : Option (List Nat × (Nat × List Nat))) : Option (List Nat × (Nat × List Nat)) :=
  match o with
  | none => none
  | some (ps, (n, hs)) =>
    if 0 < n ∧ n < 60 ∧ hs.length = 64 then
      (match hs[0]?, hs[n - 1]? with
       | some v0, some la => if v0 < 5 then (match own_fdn le (n - 1) la 7 0 hs with | none => none | some hs' => some (v0 :: ps, (n - 1, hs'))) else none
       | _, _ => none)
    else none
def own_f0 : Option (Nat × List Nat) := some (0, List.replicate 64 5)
def own_frun (le : Nat → Nat → Bool) : Option (List Nat × (Nat × List Nat)) :=
  own_fpop le (own_fpop le (own_fpop le (own_fpop le (own_fpop le ((own_fpush le 4 (own_fpush le 3 (own_fpush le 2 (own_fpush le 1 (own_fpush le 0 own_f0))))).map fun s => ([], s))))))
def own_fchk (le : Nat → Nat → Bool) : Bool :=
  match own_frun le with
  | some ([p4, p3, p2, p1, p0], _) => Nat.blt p0 5 && Nat.blt p1 5 && Nat.blt p2 5 && Nat.blt p3 5 && Nat.blt p4 5 && p0 != p1 && p0 != p2 && p0 != p3 && p0 != p4 && p1 != p2 && p1 != p3 && p1 != p4 && p2 != p3 && p2 != p4 && p3 != p4 && le p0 p1 && le p1 p2 && le p2 p3 && le p3 p4
  | _ => false
def own_ftst (r : List Nat) : Bool := if own_cn r then own_fchk (own_rk 5 r) else true
theorem own_all5 : ∀ r0 r1 r2 r3 r4 : Fin 5, own_ftst [r0.1, r1.1, r2.1, r3.1, r4.1] = true := by decide +kernel
def own_cv (ks : List Int64) (hs : List Nat) : List Value := hs.map fun i => .long (ks.getD i 0)
def own_fc (base : Int32) (i : Nat) : Int32 := if i < 5 then base + Int32.ofNat i else 0
def own_fv (base : Int32) (hs : List Nat) : List Value := hs.map fun i => .int (own_fc base i)
theorem own_N {k : Nat} (h : k < 1000) : (Int32.ofNat k).toInt = (k : Int) := Int32.toInt_ofNat_of_lt (by omega)
theorem own_cv_set (ks : List Int64) (hs : List Nat) (i v : Nat) : (own_cv ks hs).set i (.long (ks.getD v 0)) = own_cv ks (hs.set i v) := by simp [own_cv, List.map_set]
theorem own_fv_set (base : Int32) (hs : List Nat) (i v : Nat) : (own_fv base hs).set i (.int (own_fc base v)) = own_fv base (hs.set i v) := by simp [own_fv, List.map_set]
theorem own_cv_get {ks : List Int64} {hs : List Nat} {i v : Nat} (h : hs[i]? = some v) : (own_cv ks hs)[i]? = some (.long (ks.getD v 0)) := by simp [own_cv, h]
theorem own_fv_get {base : Int32} {hs : List Nat} {i v : Nat} (h : hs[i]? = some v) : (own_fv base hs)[i]? = some (.int (own_fc base v)) := by simp [own_fv, h]
theorem own_cv_len (ks : List Int64) (hs : List Nat) : (own_cv ks hs).length = hs.length := by simp [own_cv]
theorem own_fv_len (base : Int32) (hs : List Nat) : (own_fv base hs).length = hs.length := by simp [own_fv]
theorem own_succ {k : Nat} (h : k < 999) : Int32.ofNat k + 1 = Int32.ofNat (k + 1) := Int32.toInt_inj.mp (by rw [own_inc (own_N (by omega)) (by omega), own_N (by omega)])
theorem own_pred {k : Nat} (h : k < 1000) (h0 : 0 < k) : Int32.ofNat k - 1 = Int32.ofNat (k - 1) := by
  apply Int32.toInt_inj.mp
  have e1 := c_isub (Int32.ofNat k) 1
  have r1 := rng32 (Int32.ofNat k - 1)
  have e0 := own_N h
  have e2 : (1 : Int32).toInt = 1 := rfl
  rw [own_N (by omega)]; omega
theorem own_halfU {k : Nat} (h : k < 1000) (h0 : 0 < k) : ((Int32.ofNat k - 1).toUInt32 >>> ((1 : Int32) &&& 31).toUInt32).toInt32 = Int32.ofNat ((k - 1) / 2) := by
  rw [own_pred h h0]
  apply Int32.toInt_inj.mp
  rw [c_iushr (Int32.ofNat (k - 1)) 1 1 (by decide) (by decide), own_N (by omega), own_N (by omega)]
  omega
theorem own_child2 {k : Nat} (h : k < 100) : (2 : Int32) * Int32.ofNat k + 1 = Int32.ofNat (2 * k + 1) := by
  apply Int32.toInt_inj.mp
  have e1 := c_imul 2 (Int32.ofNat k)
  have r1 := rng32 (2 * Int32.ofNat k)
  have e2 := c_iadd (2 * Int32.ofNat k) 1
  have r2 := rng32 (2 * Int32.ofNat k + 1)
  have e3 : (1 : Int32).toInt = 1 := rfl
  have e4 : (2 : Int32).toInt = 2 := rfl
  rw [own_N (by omega), e4] at e1
  rw [own_N (by omega)]
  omega
theorem con2 {l : Launch} {Z : State} {a0 : Array Value} {n0 : Nat} (hw : Hw Z a0) (aF aC q : Addr) (ks : List Int64) (hks : ks.length = 5) (base : Int32) (T : Wp.MH) (pc : Int64) (n v : Nat) (hv : v < 5) (n' : Nat) (hs hs' : List Nat) (hr : own_fpush (own_le ks) v (some (n, hs)) = some (n', hs')) :
    C2 l Z a0 n0 #[.ref q, .long (ks.getD v 0), .int (own_fc base v)] ((aF, .inl (.int, own_fv base hs)) :: (aC, .inl (.long, own_cv ks hs)) :: (q, .inr ("com/example/planter/planter/heuristic/FactQueue", [("costs", "[J", .ref aC), ("facts", "[I", .ref aF), ("size", "I", .int (Int32.ofNat n)), ("poppedCost", "J", .long pc)])) :: T) (fun r H' => r = none ∧ H' = ((aF, .inl (.int, own_fv base hs')) :: (aC, .inl (.long, own_cv ks hs')) :: (q, .inr ("com/example/planter/planter/heuristic/FactQueue", [("costs", "[J", .ref aC), ("facts", "[I", .ref aF), ("size", "I", .int (Int32.ofNat n')), ("poppedCost", "J", .long pc)])) :: T)) := by
  refine Wp.Con.intro pn2 (fun m => ef2 m q _ _) ?_
  generalize hQ : (fun (r : Option Value) (H' : Wp.MH) => r = none ∧ H' = ((aF, .inl (.int, own_fv base hs')) :: (aC, .inl (.long, own_cv ks hs')) :: (q, .inr ("com/example/planter/planter/heuristic/FactQueue", [("costs", "[J", .ref aC), ("facts", "[I", .ref aF), ("size", "I", .int (Int32.ofNat n')), ("poppedCost", "J", .long pc)])) :: T)) = Q
  unfold own_fpush at hr
  simp only at hr
  split at hr
  · rename_i hb
    split at hr
    · cases hr
    rename_i hs2 hup
    cases hr
    have h64 : Int32.ofNat (own_cv ks hs).length = 64 := by rw [own_cv_len, hb.2]; rfl
    have eN := own_N (show n < 1000 by omega)
    have K : ∀ (f i : Nat) (hs : List Nat) (o : Slot), Wp.ok1 o = true → hs.length = 64 → i < 64 → own_fup (own_le ks) v f i hs = some hs' →
        W2 l Z a0 n0 0 0 59 [.val (.ref q), .val (.long (ks.getD v 0)), .second, .val (.int (own_fc base v)), .val (.int (Int32.ofNat i)), o] [] ((aF, .inl (.int, own_fv base hs)) :: (aC, .inl (.long, own_cv ks hs)) :: (q, .inr ("com/example/planter/planter/heuristic/FactQueue", [("costs", "[J", .ref aC), ("facts", "[I", .ref aF), ("size", "I", .int (Int32.ofNat (n + 1))), ("poppedCost", "J", .long pc)])) :: T) Q := by
      intro f
      induction f with
      | zero => intro i hs o ho h1 h2 hr; cases hr
      | succ f ih =>
        intro i hs o ho h1 h2 hr
        unfold own_fup at hr
        have eI := own_N (show i < 1000 by omega)
        split at hr
        · rename_i h0
          subst h0
          rw [if_pos (by omega)] at hr
          cases hr
          refine Wp.iload (pc' := 61) d2_59 rfl rfl ?_
          refine Wp.if_le (pt := 122) (pf := 64) d2_61 (by decide) rfl (fun hc61 => ?_) (fun hc61 => ?_)
          · refine Wp.aloadN (pc' := 123) d2_122 rfl rfl rfl ?_
            refine Wp.getfield 2 0 (pc' := 126) (w10 hw) d2_123 rfl rfl rfl ?_
            refine Wp.iload (pc' := 128) d2_126 rfl rfl ?_
            refine Wp.lloadN (pc' := 129) d2_128 rfl rfl ?_
            refine Wp.lastore_1 0 (pc' := 130) d2_129 rfl (by rw [own_cv_len]; omega) rfl ?_
            rw [own_cv_set]
            refine Wp.aloadN (pc' := 131) d2_130 rfl rfl rfl ?_
            refine Wp.getfield 2 1 (pc' := 134) (w13 hw) d2_131 rfl rfl rfl ?_
            refine Wp.iload (pc' := 136) d2_134 rfl rfl ?_
            refine Wp.iloadN (pc' := 137) d2_136 rfl rfl ?_
            refine Wp.iastore_0 0 (pc' := 138) d2_137 rfl (by rw [own_fv_len]; omega) rfl ?_
            rw [own_fv_set]
            refine Wp.return_ rfl d2_138 ?_
            subst hQ; exact ⟨rfl, rfl⟩
          · exact absurd hc61 (by decide)
        · rename_i h0
          split at hr
          · cases hr
          rename_i w hw'
          split at hr
          · rename_i hbb
            refine Wp.iload (pc' := 61) d2_59 rfl rfl ?_
            refine Wp.if_le (pt := 122) (pf := 64) d2_61 (by decide) rfl (fun hc61 => ?_) (fun hc61 => ?_)
            · exfalso; omega
            · refine Wp.iload (pc' := 66) d2_64 rfl rfl ?_
              refine Wp.iconst (1) (pc' := 67) d2_66 rfl rfl ?_
              refine Wp.isub (pc' := 68) d2_67 rfl ?_
              refine Wp.iconst (1) (pc' := 69) d2_68 rfl rfl ?_
              refine Wp.iushr (pc' := 70) d2_69 rfl ?_
              rw [own_halfU (k := i) (by omega) (by omega)]
              refine Wp.istore_5 (pc' := 72) d2_70 ho rfl ?_
              refine Wp.aloadN (pc' := 73) d2_72 rfl rfl rfl ?_
              refine Wp.getfield 2 0 (pc' := 76) (w10 hw) d2_73 rfl rfl rfl ?_
              refine Wp.iload (pc' := 78) d2_76 rfl rfl ?_
              refine Wp.laload 1 ((i - 1) / 2) (pc' := 79) d2_78 rfl (own_N (by omega)) (own_cv_get hw') rfl ?_
              refine Wp.lloadN (pc' := 80) d2_79 rfl rfl ?_
              refine Wp.lcmp_gt (pt := 87) (pf := 84) d2_80 rfl d2_81 (by decide) rfl (fun hc81 => ?_) (fun hc81 => ?_)
              · rw [if_neg (own_le_f (ks := ks) (i := w) (j := v) (by omega) (by omega) (by omega))] at hr
                refine Wp.aloadN (pc' := 88) d2_87 rfl rfl rfl ?_
                refine Wp.getfield 2 0 (pc' := 91) (w10 hw) d2_88 rfl rfl rfl ?_
                refine Wp.iload (pc' := 93) d2_91 rfl rfl ?_
                refine Wp.aloadN (pc' := 94) d2_93 rfl rfl rfl ?_
                refine Wp.getfield 2 0 (pc' := 97) (w10 hw) d2_94 rfl rfl rfl ?_
                refine Wp.iload (pc' := 99) d2_97 rfl rfl ?_
                refine Wp.laload 1 ((i - 1) / 2) (pc' := 100) d2_99 rfl (own_N (by omega)) (own_cv_get hw') rfl ?_
                refine Wp.lastore_1 i (pc' := 101) d2_100 eI (by rw [own_cv_len]; omega) rfl ?_
                rw [own_cv_set]
                refine Wp.aloadN (pc' := 102) d2_101 rfl rfl rfl ?_
                refine Wp.getfield 2 1 (pc' := 105) (w13 hw) d2_102 rfl rfl rfl ?_
                refine Wp.iload (pc' := 107) d2_105 rfl rfl ?_
                refine Wp.aloadN (pc' := 108) d2_107 rfl rfl rfl ?_
                refine Wp.getfield 2 1 (pc' := 111) (w13 hw) d2_108 rfl rfl rfl ?_
                refine Wp.iload (pc' := 113) d2_111 rfl rfl ?_
                refine Wp.iaload 0 ((i - 1) / 2) (pc' := 114) d2_113 rfl (own_N (by omega)) (own_fv_get hw') rfl ?_
                refine Wp.iastore_0 i (pc' := 115) d2_114 eI (by rw [own_fv_len]; omega) rfl ?_
                rw [own_fv_set]
                refine Wp.iload (pc' := 117) d2_115 rfl rfl ?_
                refine Wp.istore_4 (pc' := 119) d2_117 rfl rfl ?_
                refine Wp.goto (pc' := 59) d2_119 (by decide) ?_
                exact ih _ _ _ rfl (by simpa using h1) (by omega) hr
              · rw [if_pos (own_le_t (ks := ks) (i := w) (j := v) (by omega) (by omega) hc81)] at hr
                cases hr
                refine Wp.goto (pc' := 122) d2_84 (by decide) ?_
                refine Wp.aloadN (pc' := 123) d2_122 rfl rfl rfl ?_
                refine Wp.getfield 2 0 (pc' := 126) (w10 hw) d2_123 rfl rfl rfl ?_
                refine Wp.iload (pc' := 128) d2_126 rfl rfl ?_
                refine Wp.lloadN (pc' := 129) d2_128 rfl rfl ?_
                refine Wp.lastore_1 i (pc' := 130) d2_129 eI (by rw [own_cv_len]; omega) rfl ?_
                rw [own_cv_set]
                refine Wp.aloadN (pc' := 131) d2_130 rfl rfl rfl ?_
                refine Wp.getfield 2 1 (pc' := 134) (w13 hw) d2_131 rfl rfl rfl ?_
                refine Wp.iload (pc' := 136) d2_134 rfl rfl ?_
                refine Wp.iloadN (pc' := 137) d2_136 rfl rfl ?_
                refine Wp.iastore_0 i (pc' := 138) d2_137 eI (by rw [own_fv_len]; omega) rfl ?_
                rw [own_fv_set]
                refine Wp.return_ rfl d2_138 ?_
                subst hQ; exact ⟨rfl, rfl⟩
          · cases hr
    refine Wp.aloadN (pc' := 1) d2_0 rfl rfl rfl ?_
    refine Wp.getfield 2 2 (pc' := 4) (w20 hw) d2_1 rfl rfl rfl ?_
    refine Wp.aloadN (pc' := 5) d2_4 rfl rfl rfl ?_
    refine Wp.getfield 2 0 (pc' := 8) (w10 hw) d2_5 rfl rfl rfl ?_
    refine Wp.arraylength 1 64 (pc' := 9) d2_8 rfl h64 rfl ?_
    refine Wp.icmp_ne (pt := 46) (pf := 12) d2_9 (by decide) rfl (fun hc9 => ?_) (fun hc9 => ?_)
    · refine Wp.aloadN (pc' := 47) d2_46 rfl rfl rfl ?_
      refine Wp.dup (pc' := 48) d2_47 rfl rfl ?_
      refine Wp.getfield 2 2 (pc' := 51) (w20 hw) d2_48 rfl rfl rfl ?_
      refine Wp.dupX1 (pc' := 52) d2_51 rfl rfl rfl ?_
      refine Wp.iconst (1) (pc' := 53) d2_52 rfl rfl ?_
      refine Wp.iadd (pc' := 54) d2_53 rfl ?_
      refine Wp.putfield_2_2 (pc' := 57) (ty := .int) (w20 hw) (Or.inl (w21 hw)) (w2 hw) (by decide) rfl rfl d2_54 rfl ?_
      rw [own_succ (k := n) (by omega)]
      refine Wp.istore_4 (pc' := 59) d2_57 rfl rfl ?_
      exact K 7 n hs _ rfl hb.2 (by omega) hup
    · exfalso; rw [hc9] at eN; have : (64 : Int32).toInt = 64 := rfl; omega
  · cases hr
theorem con3 {l : Launch} {Z : State} {a0 : Array Value} {n0 : Nat} (hw : Hw Z a0) (aF aC q : Addr) (ks : List Int64) (hks : ks.length = 5) (base : Int32) (T : Wp.MH) (pc : Int64) (n v0 : Nat) (n' : Nat) (hs hs' : List Nat) (la : Nat) (hb : 0 < n ∧ n < 60 ∧ hs.length = 64) (hv0 : hs[0]? = some v0) (hla : hs[n - 1]? = some la) (hdn : own_fdn (own_le ks) (n - 1) la 7 0 hs = some hs') (hn' : n' = n - 1) :
    C3 l Z a0 n0 #[.ref q] ((aF, .inl (.int, own_fv base hs)) :: (aC, .inl (.long, own_cv ks hs)) :: (q, .inr ("com/example/planter/planter/heuristic/FactQueue", [("costs", "[J", .ref aC), ("facts", "[I", .ref aF), ("size", "I", .int (Int32.ofNat n)), ("poppedCost", "J", .long pc)])) :: T) (fun r H' => r = some (.int (own_fc base v0)) ∧ H' = ((aF, .inl (.int, own_fv base hs')) :: (aC, .inl (.long, own_cv ks hs')) :: (q, .inr ("com/example/planter/planter/heuristic/FactQueue", [("costs", "[J", .ref aC), ("facts", "[I", .ref aF), ("size", "I", .int (Int32.ofNat n')), ("poppedCost", "J", .long (ks.getD v0 0))])) :: T)) := by
  refine Wp.Con.intro pn3 (fun m => ef3 m q) ?_
  subst hn'
  generalize hQ : (fun (r : Option Value) (H' : Wp.MH) => r = some (.int (own_fc base v0)) ∧ H' = ((aF, .inl (.int, own_fv base hs')) :: (aC, .inl (.long, own_cv ks hs')) :: (q, .inr ("com/example/planter/planter/heuristic/FactQueue", [("costs", "[J", .ref aC), ("facts", "[I", .ref aF), ("size", "I", .int (Int32.ofNat (n - 1))), ("poppedCost", "J", .long (ks.getD v0 0))])) :: T)) = Q
  have eP := own_pred (show n < 1000 by omega) hb.1
  have eN := own_N (show n - 1 < 1000 by omega)
  have K : ∀ (f at_ : Nat) (hs : List Nat) (o : Slot), Wp.ok1 o = true → hs.length = 64 → own_fdn (own_le ks) (n - 1) la f at_ hs = some hs' →
      W3 l Z a0 n0 0 0 51 [.val (.ref q), .val (.int (own_fc base v0)), .val (.long (ks.getD la 0)), .second, .val (.int (own_fc base la)), .val (.int (Int32.ofNat at_)), o] [] ((aF, .inl (.int, own_fv base hs)) :: (aC, .inl (.long, own_cv ks hs)) :: (q, .inr ("com/example/planter/planter/heuristic/FactQueue", [("costs", "[J", .ref aC), ("facts", "[I", .ref aF), ("size", "I", .int (Int32.ofNat (n - 1))), ("poppedCost", "J", .long (ks.getD v0 0))])) :: T) Q := by
    intro f
    induction f with
    | zero => intro at_ hs o ho h1 hr; cases hr
    | succ f ih =>
      intro at_ hs o ho h1 hr
      unfold own_fdn at hr
      split at hr
      · rename_i hbb
        have eA := own_N (show at_ < 1000 by omega)
        have eC := own_child2 (show at_ < 100 by omega)
        have eC1 := own_N (show 2 * at_ + 1 < 1000 by omega)
        have eC3 := own_succ (show 2 * at_ + 1 < 999 by omega)
        have eC4 := own_N (show 2 * at_ + 1 + 1 < 1000 by omega)
        split at hr
        · rename_i hle
          cases hr
          refine Wp.iconst (2) (pc' := 52) d3_51 rfl rfl ?_
          refine Wp.iload (pc' := 54) d3_52 rfl rfl ?_
          refine Wp.imul (pc' := 55) d3_54 rfl ?_
          refine Wp.iconst (1) (pc' := 56) d3_55 rfl rfl ?_
          refine Wp.iadd (pc' := 57) d3_56 rfl ?_
          rw [eC]
          refine Wp.istore_6 (pc' := 59) d3_57 ho rfl ?_
          refine Wp.iload (pc' := 61) d3_59 rfl rfl ?_
          refine Wp.aloadN (pc' := 62) d3_61 rfl rfl rfl ?_
          refine Wp.getfield 2 2 (pc' := 65) (w20 hw) d3_62 rfl rfl rfl ?_
          refine Wp.icmp_lt (pt := 71) (pf := 68) d3_65 (by decide) rfl (fun hc65 => ?_) (fun hc65 => ?_)
          · exfalso; omega
          · refine Wp.goto (pc' := 155) d3_68 (by decide) ?_
            refine Wp.aloadN (pc' := 156) d3_155 rfl rfl rfl ?_
            refine Wp.getfield 2 0 (pc' := 159) (w10 hw) d3_156 rfl rfl rfl ?_
            refine Wp.iload (pc' := 161) d3_159 rfl rfl ?_
            refine Wp.lloadN (pc' := 162) d3_161 rfl rfl ?_
            refine Wp.lastore_1 at_ (pc' := 163) d3_162 eA (by rw [own_cv_len]; omega) rfl ?_
            rw [own_cv_set]
            refine Wp.aloadN (pc' := 164) d3_163 rfl rfl rfl ?_
            refine Wp.getfield 2 1 (pc' := 167) (w13 hw) d3_164 rfl rfl rfl ?_
            refine Wp.iload (pc' := 169) d3_167 rfl rfl ?_
            refine Wp.iload (pc' := 171) d3_169 rfl rfl ?_
            refine Wp.iastore_0 at_ (pc' := 172) d3_171 eA (by rw [own_fv_len]; omega) rfl ?_
            rw [own_fv_set]
            refine Wp.iloadN (pc' := 173) d3_172 rfl rfl ?_
            refine Wp.ireturn rfl d3_173 ?_
            subst hQ; exact ⟨rfl, rfl⟩
        · rename_i hlt
          split at hr
          · cases hr
          rename_i c w hcw
          have K105 : ∀ ch : Int32, ch = Int32.ofNat c → hs[c]? = some w → w < 5 → W3 l Z a0 n0 0 0 105 [.val (.ref q), .val (.int (own_fc base v0)), .val (.long (ks.getD la 0)), .second, .val (.int (own_fc base la)), .val (.int (Int32.ofNat at_)), .val (.int ch)] [] ((aF, .inl (.int, own_fv base hs)) :: (aC, .inl (.long, own_cv ks hs)) :: (q, .inr ("com/example/planter/planter/heuristic/FactQueue", [("costs", "[J", .ref aC), ("facts", "[I", .ref aF), ("size", "I", .int (Int32.ofNat (n - 1))), ("poppedCost", "J", .long (ks.getD v0 0))])) :: T) Q := by
            intro ch hch hcw' hw5
            subst hch
            have hcl : c < hs.length := (List.getElem?_eq_some_iff.mp hcw').1
            refine Wp.aloadN (pc' := 106) d3_105 rfl rfl rfl ?_
            refine Wp.getfield 2 0 (pc' := 109) (w10 hw) d3_106 rfl rfl rfl ?_
            refine Wp.iload (pc' := 111) d3_109 rfl rfl ?_
            refine Wp.laload 1 c (pc' := 112) d3_111 rfl (own_N (by omega)) (own_cv_get hcw') rfl ?_
            refine Wp.lloadN (pc' := 113) d3_112 rfl rfl ?_
            refine Wp.lcmp_lt (pt := 120) (pf := 117) d3_113 rfl d3_114 (by decide) rfl (fun hc114 => ?_) (fun hc114 => ?_)
            · rw [if_neg (own_le_f (ks := ks) (i := la) (j := w) (by omega) (by omega) (by omega))] at hr
              refine Wp.aloadN (pc' := 121) d3_120 rfl rfl rfl ?_
              refine Wp.getfield 2 0 (pc' := 124) (w10 hw) d3_121 rfl rfl rfl ?_
              refine Wp.iload (pc' := 126) d3_124 rfl rfl ?_
              refine Wp.aloadN (pc' := 127) d3_126 rfl rfl rfl ?_
              refine Wp.getfield 2 0 (pc' := 130) (w10 hw) d3_127 rfl rfl rfl ?_
              refine Wp.iload (pc' := 132) d3_130 rfl rfl ?_
              refine Wp.laload 1 c (pc' := 133) d3_132 rfl (own_N (by omega)) (own_cv_get hcw') rfl ?_
              refine Wp.lastore_1 at_ (pc' := 134) d3_133 eA (by rw [own_cv_len]; omega) rfl ?_
              rw [own_cv_set]
              refine Wp.aloadN (pc' := 135) d3_134 rfl rfl rfl ?_
              refine Wp.getfield 2 1 (pc' := 138) (w13 hw) d3_135 rfl rfl rfl ?_
              refine Wp.iload (pc' := 140) d3_138 rfl rfl ?_
              refine Wp.aloadN (pc' := 141) d3_140 rfl rfl rfl ?_
              refine Wp.getfield 2 1 (pc' := 144) (w13 hw) d3_141 rfl rfl rfl ?_
              refine Wp.iload (pc' := 146) d3_144 rfl rfl ?_
              refine Wp.iaload 0 c (pc' := 147) d3_146 rfl (own_N (by omega)) (own_fv_get hcw') rfl ?_
              refine Wp.iastore_0 at_ (pc' := 148) d3_147 eA (by rw [own_fv_len]; omega) rfl ?_
              rw [own_fv_set]
              refine Wp.iload (pc' := 150) d3_148 rfl rfl ?_
              refine Wp.istore_5 (pc' := 152) d3_150 rfl rfl ?_
              refine Wp.goto (pc' := 51) d3_152 (by decide) ?_
              exact ih _ _ _ rfl (by simpa using h1) hr
            · rw [if_pos (own_le_t (ks := ks) (i := la) (j := w) (by omega) (by omega) hc114)] at hr
              cases hr
              refine Wp.goto (pc' := 155) d3_117 (by decide) ?_
              refine Wp.aloadN (pc' := 156) d3_155 rfl rfl rfl ?_
              refine Wp.getfield 2 0 (pc' := 159) (w10 hw) d3_156 rfl rfl rfl ?_
              refine Wp.iload (pc' := 161) d3_159 rfl rfl ?_
              refine Wp.lloadN (pc' := 162) d3_161 rfl rfl ?_
              refine Wp.lastore_1 at_ (pc' := 163) d3_162 eA (by rw [own_cv_len]; omega) rfl ?_
              rw [own_cv_set]
              refine Wp.aloadN (pc' := 164) d3_163 rfl rfl rfl ?_
              refine Wp.getfield 2 1 (pc' := 167) (w13 hw) d3_164 rfl rfl rfl ?_
              refine Wp.iload (pc' := 169) d3_167 rfl rfl ?_
              refine Wp.iload (pc' := 171) d3_169 rfl rfl ?_
              refine Wp.iastore_0 at_ (pc' := 172) d3_171 eA (by rw [own_fv_len]; omega) rfl ?_
              rw [own_fv_set]
              refine Wp.iloadN (pc' := 173) d3_172 rfl rfl ?_
              refine Wp.ireturn rfl d3_173 ?_
              subst hQ; exact ⟨rfl, rfl⟩
          clear hr ih
          unfold own_fchild at hcw
          split at hcw
          · cases hcw
          rename_i c0 hc0
          have hc0l : 2 * at_ + 1 < hs.length := (List.getElem?_eq_some_iff.mp hc0).1
          split at hcw
          · rename_i hc05
            split at hcw
            · rename_i hlt2
              split at hcw
              · cases hcw
              rename_i c1 hc1
              split at hcw
              · rename_i hc15
                refine Wp.iconst (2) (pc' := 52) d3_51 rfl rfl ?_
                refine Wp.iload (pc' := 54) d3_52 rfl rfl ?_
                refine Wp.imul (pc' := 55) d3_54 rfl ?_
                refine Wp.iconst (1) (pc' := 56) d3_55 rfl rfl ?_
                refine Wp.iadd (pc' := 57) d3_56 rfl ?_
                rw [eC]
                refine Wp.istore_6 (pc' := 59) d3_57 ho rfl ?_
                refine Wp.iload (pc' := 61) d3_59 rfl rfl ?_
                refine Wp.aloadN (pc' := 62) d3_61 rfl rfl rfl ?_
                refine Wp.getfield 2 2 (pc' := 65) (w20 hw) d3_62 rfl rfl rfl ?_
                refine Wp.icmp_lt (pt := 71) (pf := 68) d3_65 (by decide) rfl (fun hc65 => ?_) (fun hc65 => ?_)
                · refine Wp.iload (pc' := 73) d3_71 rfl rfl ?_
                  refine Wp.iconst (1) (pc' := 74) d3_73 rfl rfl ?_
                  refine Wp.iadd (pc' := 75) d3_74 rfl ?_
                  rw [eC3]
                  refine Wp.aloadN (pc' := 76) d3_75 rfl rfl rfl ?_
                  refine Wp.getfield 2 2 (pc' := 79) (w20 hw) d3_76 rfl rfl rfl ?_
                  refine Wp.icmp_ge (pt := 105) (pf := 82) d3_79 (by decide) rfl (fun hc79 => ?_) (fun hc79 => ?_)
                  · exfalso; omega
                  · refine Wp.aloadN (pc' := 83) d3_82 rfl rfl rfl ?_
                    refine Wp.getfield 2 0 (pc' := 86) (w10 hw) d3_83 rfl rfl rfl ?_
                    refine Wp.iload (pc' := 88) d3_86 rfl rfl ?_
                    refine Wp.iconst (1) (pc' := 89) d3_88 rfl rfl ?_
                    refine Wp.iadd (pc' := 90) d3_89 rfl ?_
                    rw [eC3]
                    refine Wp.laload 1 (2 * at_ + 1 + 1) (pc' := 91) d3_90 rfl eC4 (own_cv_get hc1) rfl ?_
                    refine Wp.aloadN (pc' := 92) d3_91 rfl rfl rfl ?_
                    refine Wp.getfield 2 0 (pc' := 95) (w10 hw) d3_92 rfl rfl rfl ?_
                    refine Wp.iload (pc' := 97) d3_95 rfl rfl ?_
                    refine Wp.laload 1 (2 * at_ + 1) (pc' := 98) d3_97 rfl eC1 (own_cv_get hc0) rfl ?_
                    refine Wp.lcmp_ge (pt := 105) (pf := 102) d3_98 rfl d3_99 (by decide) rfl (fun hc99 => ?_) (fun hc99 => ?_)
                    · first | (rw [if_pos (own_le_t (ks := ks) (i := c0) (j := c1) (by omega) (by omega) (by omega))] at hcw; cases hcw; exact K105 _ rfl hc0 hc05) | (cases hcw; exact K105 _ eC3 hc1 hc15)
                    · rw [if_neg (own_le_f (ks := ks) (i := c0) (j := c1) (by omega) (by omega) (by omega))] at hcw
                      refine Wp.iinc_6 (1) (pc' := 105) d3_102 rfl rfl ?_
                      first | (rw [if_pos (own_le_t (ks := ks) (i := c0) (j := c1) (by omega) (by omega) (by omega))] at hcw; cases hcw; exact K105 _ rfl hc0 hc05) | (cases hcw; exact K105 _ eC3 hc1 hc15)
                · exfalso; omega
              · cases hcw
            · rename_i hlt2
              cases hcw
              refine Wp.iconst (2) (pc' := 52) d3_51 rfl rfl ?_
              refine Wp.iload (pc' := 54) d3_52 rfl rfl ?_
              refine Wp.imul (pc' := 55) d3_54 rfl ?_
              refine Wp.iconst (1) (pc' := 56) d3_55 rfl rfl ?_
              refine Wp.iadd (pc' := 57) d3_56 rfl ?_
              rw [eC]
              refine Wp.istore_6 (pc' := 59) d3_57 ho rfl ?_
              refine Wp.iload (pc' := 61) d3_59 rfl rfl ?_
              refine Wp.aloadN (pc' := 62) d3_61 rfl rfl rfl ?_
              refine Wp.getfield 2 2 (pc' := 65) (w20 hw) d3_62 rfl rfl rfl ?_
              refine Wp.icmp_lt (pt := 71) (pf := 68) d3_65 (by decide) rfl (fun hc65 => ?_) (fun hc65 => ?_)
              · refine Wp.iload (pc' := 73) d3_71 rfl rfl ?_
                refine Wp.iconst (1) (pc' := 74) d3_73 rfl rfl ?_
                refine Wp.iadd (pc' := 75) d3_74 rfl ?_
                rw [eC3]
                refine Wp.aloadN (pc' := 76) d3_75 rfl rfl rfl ?_
                refine Wp.getfield 2 2 (pc' := 79) (w20 hw) d3_76 rfl rfl rfl ?_
                refine Wp.icmp_ge (pt := 105) (pf := 82) d3_79 (by decide) rfl (fun hc79 => ?_) (fun hc79 => ?_)
                · exact K105 _ rfl hc0 hc05
                · exfalso; omega
              · exfalso; omega
          · cases hcw
      · cases hr
  refine Wp.aloadN (pc' := 1) d3_0 rfl rfl rfl ?_
  refine Wp.getfield 2 1 (pc' := 4) (w13 hw) d3_1 rfl rfl rfl ?_
  refine Wp.iconst (0) (pc' := 5) d3_4 rfl rfl ?_
  refine Wp.iaload 0 0 (pc' := 6) d3_5 rfl rfl (own_fv_get hv0) rfl ?_
  refine Wp.istoreN_1 (pc' := 7) d3_6 rfl rfl ?_
  refine Wp.aloadN (pc' := 8) d3_7 rfl rfl rfl ?_
  refine Wp.aloadN (pc' := 9) d3_8 rfl rfl rfl ?_
  refine Wp.getfield 2 0 (pc' := 12) (w10 hw) d3_9 rfl rfl rfl ?_
  refine Wp.iconst (0) (pc' := 13) d3_12 rfl rfl ?_
  refine Wp.laload 1 0 (pc' := 14) d3_13 rfl rfl (own_cv_get hv0) rfl ?_
  refine Wp.putfield_2_3 (pc' := 17) (ty := .long) (w27 hw) (Or.inl (w28 hw)) (w2 hw) (by decide) rfl rfl d3_14 rfl ?_
  refine Wp.aloadN (pc' := 18) d3_17 rfl rfl rfl ?_
  refine Wp.dup (pc' := 19) d3_18 rfl rfl ?_
  refine Wp.getfield 2 2 (pc' := 22) (w20 hw) d3_19 rfl rfl rfl ?_
  refine Wp.iconst (1) (pc' := 23) d3_22 rfl rfl ?_
  refine Wp.isub (pc' := 24) d3_23 rfl ?_
  refine Wp.putfield_2_2 (pc' := 27) (ty := .int) (w20 hw) (Or.inl (w21 hw)) (w2 hw) (by decide) rfl rfl d3_24 rfl ?_
  rw [eP]
  refine Wp.aloadN (pc' := 28) d3_27 rfl rfl rfl ?_
  refine Wp.getfield 2 0 (pc' := 31) (w10 hw) d3_28 rfl rfl rfl ?_
  refine Wp.aloadN (pc' := 32) d3_31 rfl rfl rfl ?_
  refine Wp.getfield 2 2 (pc' := 35) (w20 hw) d3_32 rfl rfl rfl ?_
  refine Wp.laload 1 (n - 1) (pc' := 36) d3_35 rfl eN (own_cv_get hla) rfl ?_
  refine Wp.lstoreN_2 (pc' := 37) d3_36 rfl rfl ?_
  refine Wp.aloadN (pc' := 38) d3_37 rfl rfl rfl ?_
  refine Wp.getfield 2 1 (pc' := 41) (w13 hw) d3_38 rfl rfl rfl ?_
  refine Wp.aloadN (pc' := 42) d3_41 rfl rfl rfl ?_
  refine Wp.getfield 2 2 (pc' := 45) (w20 hw) d3_42 rfl rfl rfl ?_
  refine Wp.iaload 0 (n - 1) (pc' := 46) d3_45 rfl eN (own_fv_get hla) rfl ?_
  refine Wp.istore_4 (pc' := 48) d3_46 rfl rfl ?_
  refine Wp.iconst (0) (pc' := 49) d3_48 rfl rfl ?_
  refine Wp.istore_5 (pc' := 51) d3_49 rfl rfl ?_
  exact K 7 0 hs _ rfl hb.2.2 hdn
theorem con4 {l : Launch} {Z : State} {a0 : Array Value} {n0 : Nat} (hw : Hw Z a0) (aF aC q : Addr) (ks : List Int64) (hks : ks.length = 5) (base : Int32) (T : Wp.MH) (pc : Int64) (n : Nat) (hs : List Nat) :
    C4 l Z a0 n0 #[.ref q] ((aF, .inl (.int, own_fv base hs)) :: (aC, .inl (.long, own_cv ks hs)) :: (q, .inr ("com/example/planter/planter/heuristic/FactQueue", [("costs", "[J", .ref aC), ("facts", "[I", .ref aF), ("size", "I", .int (Int32.ofNat n)), ("poppedCost", "J", .long pc)])) :: T) (fun r H' => r = some (.long pc) ∧ H' = ((aF, .inl (.int, own_fv base hs)) :: (aC, .inl (.long, own_cv ks hs)) :: (q, .inr ("com/example/planter/planter/heuristic/FactQueue", [("costs", "[J", .ref aC), ("facts", "[I", .ref aF), ("size", "I", .int (Int32.ofNat n)), ("poppedCost", "J", .long pc)])) :: T)) := by
  refine Wp.Con.intro pn4 (fun m => ef4 m q) ?_
  refine Wp.aloadN (pc' := 1) d4_0 rfl rfl rfl ?_
  refine Wp.getfield 2 3 (pc' := 4) (w27 hw) d4_1 rfl rfl rfl ?_
  refine Wp.lreturn rfl d4_4 ?_
  exact ⟨rfl, rfl⟩
theorem con1 {l : Launch} {Z : State} {a0 : Array Value} {n0 : Nat} (hw : Hw Z a0) (q : Addr) (ks : List Int64) (hks : ks.length = 5) (base : Int32) (T : Wp.MH) :
    C1 l Z a0 n0 #[.ref q] ((q, .inr ("com/example/planter/planter/heuristic/FactQueue", fs_FactQueue)) :: T) (fun r H' => r = none ∧ ∃ aF aC : Addr, H' = ((aF, .inl (.int, own_fv base (List.replicate 64 5))) :: (aC, .inl (.long, own_cv ks (List.replicate 64 5))) :: (q, .inr ("com/example/planter/planter/heuristic/FactQueue", [("costs", "[J", .ref aC), ("facts", "[I", .ref aF), ("size", "I", .int (Int32.ofNat 0)), ("poppedCost", "J", .long 0)])) :: T)) := by
  refine Wp.Con.intro pn1 (fun m => ef1 m q) ?_
  unfold fs_FactQueue
  have e1 : own_cv ks (List.replicate 64 5) = List.replicate 64 (.long 0) := by simp [own_cv, hks]
  have e2 : own_fv base (List.replicate 64 5) = List.replicate 64 (.int 0) := by simp [own_fv, own_fc]
  refine Wp.aloadN (pc' := 1) d1_0 rfl rfl rfl ?_
  refine Wp.initObj 0 (pc' := 4) (w7 hw) (w8 hw) (w9 hw) d1_1 rfl (by decide) rfl (by decide) rfl ?_
  refine Wp.aloadN (pc' := 5) d1_4 rfl rfl rfl ?_
  refine Wp.bipush (64) (pc' := 7) d1_5 rfl rfl ?_
  refine Wp.newarray 64 64 (List.replicate 64 (.long 0)) (pc' := 9) (cells' := 1) (slots' := 64) (ty := .long) (w0 hw) d1_7 rfl (by decide) (by decide) (by decide) (by decide) rfl rfl rfl rfl rfl (fun a7 => ?_)
  refine Wp.putfield_1_0 (pc' := 12) (ty := (.array .long)) (w10 hw) (Or.inl (w11 hw)) (w2 hw) (by decide) rfl rfl d1_9 rfl ?_
  refine Wp.aloadN (pc' := 13) d1_12 rfl rfl rfl ?_
  refine Wp.bipush (64) (pc' := 15) d1_13 rfl rfl ?_
  refine Wp.newarray 64 64 (List.replicate 64 (.int 0)) (pc' := 17) (cells' := 2) (slots' := 128) (ty := .int) (w12 hw) d1_15 rfl (by decide) (by decide) (by decide) (by decide) rfl rfl rfl rfl rfl (fun a15 => ?_)
  refine Wp.putfield_2_1 (pc' := 20) (ty := (.array .int)) (w13 hw) (Or.inl (w14 hw)) (w2 hw) (by decide) rfl rfl d1_17 rfl ?_
  refine Wp.return_ rfl d1_20 ?_
  refine ⟨rfl, a15, a7, ?_⟩; rw [e1, e2]; rfl
def own_sb (s : Int32) (p : Nat) : Int32 := s ||| ((1 : Int32) <<< (Int32.ofNat p &&& 31))
def own_sok (s : Int32) (p : Nat) : Prop := (s >>> (Int32.ofNat p &&& 31)) &&& 1 = 0 ∧ 0 ≤ s.toInt
theorem own_seen5 : ∀ p0 p1 p2 p3 p4 : Fin 5, (p0.1 ≠ p1.1 ∧ p0.1 ≠ p2.1 ∧ p0.1 ≠ p3.1 ∧ p0.1 ≠ p4.1 ∧ p1.1 ≠ p2.1 ∧ p1.1 ≠ p3.1 ∧ p1.1 ≠ p4.1 ∧ p2.1 ≠ p3.1 ∧ p2.1 ≠ p4.1 ∧ p3.1 ≠ p4.1) →
    own_sok 0 p0.1 ∧ own_sok (own_sb 0 p0.1) p1.1 ∧ own_sok (own_sb (own_sb 0 p0.1) p1.1) p2.1 ∧ own_sok (own_sb (own_sb (own_sb 0 p0.1) p1.1) p2.1) p3.1 ∧ own_sok (own_sb (own_sb (own_sb (own_sb 0 p0.1) p1.1) p2.1) p3.1) p4.1 ∧ own_sb (own_sb (own_sb (own_sb (own_sb 0 p0.1) p1.1) p2.1) p3.1) p4.1 = 31 := by
  unfold own_sok; decide +kernel
theorem con5 {l : Launch} {Z : State} {a0 : Array Value} {n0 : Nat} (hw : Hw Z a0) (s base : Int32) (p : Nat) (hp : p < 5) (hs : own_sok s p) (ks : List Int64) (hks : ks.length = 5) (a : Addr) (H : Wp.MH) (hk : H[3]? = some (a, .inl (.long, ks.map Value.long))) :
    C5 l Z a0 n0 #[.int s, .int (own_fc base p), .int base, .long (ks.getD p 0), .ref a] H (fun r H' => r = some (.int (own_sb s p)) ∧ H' = H) := by
  refine Wp.Con.intro pn5 (fun m => ef5 m _ _ _ _ a) ?_
  have e1 : own_fc base p - base = Int32.ofNat p := by
    unfold own_fc; rw [if_pos hp, Int32.add_comm, Int32.add_sub_cancel]
  have eP := own_N (show p < 1000 by omega)
  refine Wp.iloadN (pc' := 1) d5_0 rfl rfl ?_
  refine Wp.if_ge (pt := 6) (pf := 4) d5_1 (by decide) rfl (fun hc1 => ?_) (fun hc1 => ?_)
  · refine Wp.iloadN (pc' := 7) d5_6 rfl rfl ?_
    refine Wp.iloadN (pc' := 8) d5_7 rfl rfl ?_
    refine Wp.isub (pc' := 9) d5_8 rfl ?_
    rw [e1]
    refine Wp.istore_6 (pc' := 11) d5_9 rfl rfl ?_
    refine Wp.iload (pc' := 13) d5_11 rfl rfl ?_
    refine Wp.if_lt (pt := 22) (pf := 16) d5_13 (by decide) rfl (fun hc13 => ?_) (fun hc13 => ?_)
    · exfalso; omega
    · refine Wp.iload (pc' := 18) d5_16 rfl rfl ?_
      refine Wp.iconst (4) (pc' := 19) d5_18 rfl rfl ?_
      refine Wp.icmp_le (pt := 24) (pf := 22) d5_19 (by decide) rfl (fun hc19 => ?_) (fun hc19 => ?_)
      · refine Wp.iloadN (pc' := 25) d5_24 rfl rfl ?_
        refine Wp.iload (pc' := 27) d5_25 rfl rfl ?_
        refine Wp.ishr (pc' := 28) d5_27 rfl ?_
        refine Wp.iconst (1) (pc' := 29) d5_28 rfl rfl ?_
        refine Wp.iand (pc' := 30) d5_29 rfl ?_
        refine Wp.if_eq (pt := 35) (pf := 33) d5_30 (by decide) rfl (fun hc30 => ?_) (fun hc30 => ?_)
        · refine Wp.lloadN (pc' := 36) d5_35 rfl rfl ?_
          refine Wp.aload (pc' := 38) d5_36 rfl rfl rfl ?_
          refine Wp.iload (pc' := 40) d5_38 rfl rfl ?_
          refine Wp.laload 3 p (v := .long (ks.getD p 0)) (pc' := 41) d5_40 hk eP (by simp [List.getElem?_eq_getElem (show p < ks.length by omega)]) rfl ?_
          refine Wp.lcmp_eq (pt := 47) (pf := 45) d5_41 rfl d5_42 (by decide) rfl (fun hc42 => ?_) (fun hc42 => ?_)
          · refine Wp.iloadN (pc' := 48) d5_47 rfl rfl ?_
            refine Wp.iconst (1) (pc' := 49) d5_48 rfl rfl ?_
            refine Wp.iload (pc' := 51) d5_49 rfl rfl ?_
            refine Wp.ishl (pc' := 52) d5_51 rfl ?_
            refine Wp.ior (pc' := 53) d5_52 rfl ?_
            refine Wp.ireturn rfl d5_53 ?_
            exact ⟨rfl, rfl⟩
          · exact absurd rfl hc42
        · exact absurd hs.1 hc30
      · exfalso; simp only [Int32.reduceToInt] at hc19; omega
  · exfalso; have := hs.2; omega
theorem own_push_spec {le : Nat → Nat → Bool} {v : Nat} {o : Option (Nat × List Nat)} {s' : Nat × List Nat} (h : own_fpush le v o = some s') : ∃ n hs, o = some (n, hs) ∧ own_fpush le v (some (n, hs)) = some s' := by
  cases o with
  | none => cases h
  | some s => obtain ⟨n, hs⟩ := s; exact ⟨n, hs, rfl, h⟩
theorem own_pop_spec {le : Nat → Nat → Bool} {o : Option (List Nat × (Nat × List Nat))} {p : Nat} {ps : List Nat} {n' : Nat} {hs' : List Nat} (h : own_fpop le o = some (p :: ps, (n', hs'))) : ∃ n hs la, o = some (ps, (n, hs)) ∧ (0 < n ∧ n < 60 ∧ hs.length = 64) ∧ hs[0]? = some p ∧ hs[n - 1]? = some la ∧ own_fdn le (n - 1) la 7 0 hs = some hs' ∧ n' = n - 1 := by
  cases o with
  | none => cases h
  | some s =>
    obtain ⟨ps0, n, hs⟩ := s
    unfold own_fpop at h
    simp only at h
    split at h
    · rename_i hb
      split at h
      · rename_i v0 la h0 hl
        split at h
        · split at h
          · cases h
          · rename_i hs2 hd
            cases h
            exact ⟨n, hs, la, rfl, hb, h0, hl, hd, rfl⟩
        · cases h
      · cases h
    · cases h
theorem own_chk_all (k0 k1 k2 k3 k4 : Int64) : own_fchk (own_le [k0, k1, k2, k3, k4]) = true := by
  rw [own_ranked]
  have hf := fun k h => own_rank_fin [k0, k1, k2, k3, k4] k h
  have hall := own_all5 ⟨_, hf k0 (by simp)⟩ ⟨_, hf k1 (by simp)⟩ ⟨_, hf k2 (by simp)⟩ ⟨_, hf k3 (by simp)⟩ ⟨_, hf k4 (by simp)⟩
  unfold own_ftst at hall
  rw [if_pos (by
    have := own_cn_of ([k0, k1, k2, k3, k4].map Int64.toInt)
    rw [List.map_map] at this
    exact this)] at hall
  exact hall
theorem own_le_c {ks : List Int64} {i j : Nat} (hi : i < ks.length) (hj : j < ks.length) (h : own_le ks i j = true) : (ks.getD i 0).toInt ≤ (ks.getD j 0).toInt := by
  by_cases q : (ks.getD i 0).toInt ≤ (ks.getD j 0).toInt
  · exact q
  · exact absurd h (own_le_f hi hj q)
theorem law_con (l : Launch) (Z : State) (a0 : Array Value) (n0 : Nat) (hw : Hw Z a0) (k0 k1 k2 k3 k4 : Int64) (base : Int32) :
    C0 l Z a0 n0 #[.long k0, .long k1, .long k2, .long k3, .long k4, .int base] [] (fun v _ => v = some (.int 1)) := by
  refine Wp.Con.intro pn0 (fun m => ef0 m k0 k1 k2 k3 k4 base) ?_
  have hchk := own_chk_all k0 k1 k2 k3 k4
  unfold own_fchk at hchk
  split at hchk
  · rename_i p4 p3 p2 p1 p0 sE hrun
    obtain ⟨mE, hsE⟩ := sE
    unfold own_frun at hrun
    obtain ⟨m9, hs9, la9, e9, ya9, b9, c9, d9, f9⟩ := own_pop_spec hrun
    obtain ⟨m8, hs8, la8, e8, ya8, b8, c8, d8, f8⟩ := own_pop_spec e9
    obtain ⟨m7, hs7, la7, e7, ya7, b7, c7, d7, f7⟩ := own_pop_spec e8
    obtain ⟨m6, hs6, la6, e6, ya6, b6, c6, d6, f6⟩ := own_pop_spec e7
    obtain ⟨m5, hs5, la5, e5, ya5, b5, c5, d5, f5⟩ := own_pop_spec e6
    obtain ⟨s5, e5a, e5b⟩ := Option.map_eq_some_iff.mp e5
    cases e5b
    obtain ⟨m4, hs4, e4, u4⟩ := own_push_spec e5a
    obtain ⟨m3, hs3, e3, u3⟩ := own_push_spec e4
    obtain ⟨m2, hs2, e2, u2⟩ := own_push_spec e3
    obtain ⟨m1, hs1, e1, u1⟩ := own_push_spec e2
    obtain ⟨m0, hs0, e0, u0⟩ := own_push_spec e1
    unfold own_f0 at e0
    obtain ⟨rfl, rfl⟩ : m0 = 0 ∧ hs0 = List.replicate 64 5 := by
      have q := Option.some.inj e0
      exact ⟨(congrArg Prod.fst q).symm, (congrArg Prod.snd q).symm⟩
    clear e0 e1 e2 e3 e4 e5 e5a e6 e7 e8 e9 hrun
    simp only [Bool.and_eq_true, Nat.blt_eq, bne_iff_ne] at hchk
    obtain ⟨⟨⟨⟨⟨⟨⟨⟨⟨⟨⟨⟨⟨⟨⟨⟨⟨⟨q0, q1⟩, q2⟩, q3⟩, q4⟩, d01⟩, d02⟩, d03⟩, d04⟩, d12⟩, d13⟩, d14⟩, d23⟩, d24⟩, d34⟩, l01⟩, l12⟩, l23⟩, l34⟩ := hchk
    obtain ⟨t0, t1, t2, t3, t4, t31⟩ := own_seen5 ⟨p0, q0⟩ ⟨p1, q1⟩ ⟨p2, q2⟩ ⟨p3, q3⟩ ⟨p4, q4⟩ ⟨d01, d02, d03, d04, d12, d13, d14, d23, d24, d34⟩
    have hle := fun i j (hi : i < 5) (hj : j < 5) (h : own_le [k0, k1, k2, k3, k4] i j = true) => own_le_c (ks := [k0, k1, k2, k3, k4]) (by simpa using hi) (by simpa using hj) h
    refine Wp.iconst (5) (pc' := 1) at_0 rfl rfl ?_
    refine Wp.newarray 5 5 [.long 0, .long 0, .long 0, .long 0, .long 0] (pc' := 3) (cells' := 1) (slots' := 5) (ty := .long) (w0 hw) at_1 rfl (by decide) (by decide) (by decide) (by decide) rfl rfl rfl rfl rfl (fun a1 => ?_)
    refine Wp.dup (pc' := 4) at_3 rfl rfl ?_
    refine Wp.iconst (0) (pc' := 5) at_4 rfl rfl ?_
    refine Wp.lloadN (pc' := 6) at_5 rfl rfl ?_
    refine Wp.lastore_0 0 (pc' := 7) at_6 rfl (by simp) rfl ?_
    try simp only [List.set_cons_zero, List.set_cons_succ]
    refine Wp.dup (pc' := 8) at_7 rfl rfl ?_
    refine Wp.iconst (1) (pc' := 9) at_8 rfl rfl ?_
    refine Wp.lloadN (pc' := 10) at_9 rfl rfl ?_
    refine Wp.lastore_0 1 (pc' := 11) at_10 rfl (by simp) rfl ?_
    try simp only [List.set_cons_zero, List.set_cons_succ]
    refine Wp.dup (pc' := 12) at_11 rfl rfl ?_
    refine Wp.iconst (2) (pc' := 13) at_12 rfl rfl ?_
    refine Wp.lload (pc' := 15) at_13 rfl rfl ?_
    refine Wp.lastore_0 2 (pc' := 16) at_15 rfl (by simp) rfl ?_
    try simp only [List.set_cons_zero, List.set_cons_succ]
    refine Wp.dup (pc' := 17) at_16 rfl rfl ?_
    refine Wp.iconst (3) (pc' := 18) at_17 rfl rfl ?_
    refine Wp.lload (pc' := 20) at_18 rfl rfl ?_
    refine Wp.lastore_0 3 (pc' := 21) at_20 rfl (by simp) rfl ?_
    try simp only [List.set_cons_zero, List.set_cons_succ]
    refine Wp.dup (pc' := 22) at_21 rfl rfl ?_
    refine Wp.iconst (4) (pc' := 23) at_22 rfl rfl ?_
    refine Wp.lload (pc' := 25) at_23 rfl rfl ?_
    refine Wp.lastore_0 4 (pc' := 26) at_25 rfl (by simp) rfl ?_
    try simp only [List.set_cons_zero, List.set_cons_succ]
    refine Wp.astore_11 (pc' := 28) at_26 rfl rfl rfl rfl ?_
    refine Wp.new_ (pc' := 31) (cells' := 2) (slots' := 9) fs_FactQueue (w1 hw) (w2 hw) (w3 hw) (by decide) (fs_FactQueue_ok hw) at_28 (by decide) (by decide) rfl rfl rfl (fun a28 => ?_)
    refine Wp.dup (pc' := 32) at_31 rfl rfl ?_
    refine Wp.callI_0 1 (pc' := 35) (cells' := 4) (slots' := 137)  (rm := rm1) rfl (w4 hw) (w5 hw) (w3 hw) (w6 hw) (by decide) pd0 rfl at_32 rfl rfl (by decide) (by decide) (by decide) (by decide) rfl rfl rfl ?_
    refine (con1 hw _ [k0, k1, k2, k3, k4] rfl base _).mono ?_
    rintro _ _ ⟨rfl, aF, aC, rfl⟩
    refine Wp.afterN ?_
    refine Wp.astore_12 (pc' := 37) at_35 rfl rfl rfl rfl ?_
    refine Wp.aload (pc' := 39) at_37 rfl rfl rfl ?_
    refine Wp.lloadN (pc' := 40) at_39 rfl rfl ?_
    refine Wp.iload (pc' := 42) at_40 rfl rfl ?_
    refine Wp.topI (fun z => z = own_fc base 0) (by simp [own_fc]) (fun z hz => ?_)
    subst hz
    refine Wp.callV_2 2 0 (pc' := 45) (cells' := 4) (slots' := 137)  (rm := rm2) (w15 hw) (w16 hw) (w18 hw) (w17 hw) (w3 hw) (w19 hw) (by decide) pd1 rfl at_42 rfl rfl rfl (by decide) (by decide) (by decide) (by decide) rfl rfl rfl ?_
    refine (con2 hw aF aC _ [k0, k1, k2, k3, k4] rfl base _ _ _ 0 (by decide) _ _ _ u0).mono ?_
    rintro _ _ ⟨rfl, rfl⟩
    refine Wp.afterN ?_
    refine Wp.aload (pc' := 47) at_45 rfl rfl rfl ?_
    refine Wp.lloadN (pc' := 48) at_47 rfl rfl ?_
    refine Wp.iload (pc' := 50) at_48 rfl rfl ?_
    refine Wp.iconst (1) (pc' := 51) at_50 rfl rfl ?_
    refine Wp.iadd (pc' := 52) at_51 rfl ?_
    refine Wp.callV_2 2 0 (pc' := 55) (cells' := 4) (slots' := 137)  (rm := rm2) (w15 hw) (w16 hw) (w18 hw) (w17 hw) (w3 hw) (w19 hw) (by decide) pd1 rfl at_52 rfl rfl rfl (by decide) (by decide) (by decide) (by decide) rfl rfl rfl ?_
    refine (con2 hw aF aC _ [k0, k1, k2, k3, k4] rfl base _ _ _ 1 (by decide) _ _ _ u1).mono ?_
    rintro _ _ ⟨rfl, rfl⟩
    refine Wp.afterN ?_
    refine Wp.aload (pc' := 57) at_55 rfl rfl rfl ?_
    refine Wp.lload (pc' := 59) at_57 rfl rfl ?_
    refine Wp.iload (pc' := 61) at_59 rfl rfl ?_
    refine Wp.iconst (2) (pc' := 62) at_61 rfl rfl ?_
    refine Wp.iadd (pc' := 63) at_62 rfl ?_
    refine Wp.callV_2 2 0 (pc' := 66) (cells' := 4) (slots' := 137)  (rm := rm2) (w15 hw) (w16 hw) (w18 hw) (w17 hw) (w3 hw) (w19 hw) (by decide) pd1 rfl at_63 rfl rfl rfl (by decide) (by decide) (by decide) (by decide) rfl rfl rfl ?_
    refine (con2 hw aF aC _ [k0, k1, k2, k3, k4] rfl base _ _ _ 2 (by decide) _ _ _ u2).mono ?_
    rintro _ _ ⟨rfl, rfl⟩
    refine Wp.afterN ?_
    refine Wp.aload (pc' := 68) at_66 rfl rfl rfl ?_
    refine Wp.lload (pc' := 70) at_68 rfl rfl ?_
    refine Wp.iload (pc' := 72) at_70 rfl rfl ?_
    refine Wp.iconst (3) (pc' := 73) at_72 rfl rfl ?_
    refine Wp.iadd (pc' := 74) at_73 rfl ?_
    refine Wp.callV_2 2 0 (pc' := 77) (cells' := 4) (slots' := 137)  (rm := rm2) (w15 hw) (w16 hw) (w18 hw) (w17 hw) (w3 hw) (w19 hw) (by decide) pd1 rfl at_74 rfl rfl rfl (by decide) (by decide) (by decide) (by decide) rfl rfl rfl ?_
    refine (con2 hw aF aC _ [k0, k1, k2, k3, k4] rfl base _ _ _ 3 (by decide) _ _ _ u3).mono ?_
    rintro _ _ ⟨rfl, rfl⟩
    refine Wp.afterN ?_
    refine Wp.aload (pc' := 79) at_77 rfl rfl rfl ?_
    refine Wp.lload (pc' := 81) at_79 rfl rfl ?_
    refine Wp.iload (pc' := 83) at_81 rfl rfl ?_
    refine Wp.iconst (4) (pc' := 84) at_83 rfl rfl ?_
    refine Wp.iadd (pc' := 85) at_84 rfl ?_
    refine Wp.callV_2 2 0 (pc' := 88) (cells' := 4) (slots' := 137)  (rm := rm2) (w15 hw) (w16 hw) (w18 hw) (w17 hw) (w3 hw) (w19 hw) (by decide) pd1 rfl at_85 rfl rfl rfl (by decide) (by decide) (by decide) (by decide) rfl rfl rfl ?_
    refine (con2 hw aF aC _ [k0, k1, k2, k3, k4] rfl base _ _ _ 4 (by decide) _ _ _ u4).mono ?_
    rintro _ _ ⟨rfl, rfl⟩
    refine Wp.afterN ?_
    refine Wp.aload (pc' := 90) at_88 rfl rfl rfl ?_
    refine Wp.callV_0 2 0 (pc' := 93) (cells' := 4) (slots' := 137)  (rm := rm3) (w22 hw) (w23 hw) (w25 hw) (w24 hw) (w3 hw) (w26 hw) (by decide) pd2 rfl at_90 rfl rfl rfl (by decide) (by decide) (by decide) (by decide) rfl rfl rfl ?_
    refine (con3 hw aF aC _ [k0, k1, k2, k3, k4] rfl base _ _ _ p0 _ _ _ la5 ya5 b5 c5 d5 f5).mono ?_
    rintro _ _ ⟨rfl, rfl⟩
    refine Wp.afterS ?_
    refine Wp.istore_13 (pc' := 95) at_93 rfl rfl ?_
    refine Wp.aload (pc' := 97) at_95 rfl rfl rfl ?_
    refine Wp.callV_0 2 0 (pc' := 100) (cells' := 4) (slots' := 137)  (rm := rm4) (w29 hw) (w30 hw) (w32 hw) (w31 hw) (w3 hw) (w33 hw) (by decide) pd3 rfl at_97 rfl rfl rfl (by decide) (by decide) (by decide) (by decide) rfl rfl rfl ?_
    refine (con4 hw aF aC _ [k0, k1, k2, k3, k4] rfl base _ _ _ _).mono ?_
    rintro _ _ ⟨rfl, rfl⟩
    refine Wp.afterS ?_
    refine Wp.lstore_14 (pc' := 102) at_100 rfl rfl ?_
    refine Wp.aload (pc' := 104) at_102 rfl rfl rfl ?_
    refine Wp.callV_0 2 0 (pc' := 107) (cells' := 4) (slots' := 137)  (rm := rm3) (w22 hw) (w23 hw) (w25 hw) (w24 hw) (w3 hw) (w26 hw) (by decide) pd2 rfl at_104 rfl rfl rfl (by decide) (by decide) (by decide) (by decide) rfl rfl rfl ?_
    refine (con3 hw aF aC _ [k0, k1, k2, k3, k4] rfl base _ _ _ p1 _ _ _ la6 ya6 b6 c6 d6 f6).mono ?_
    rintro _ _ ⟨rfl, rfl⟩
    refine Wp.afterS ?_
    refine Wp.istore_16 (pc' := 109) at_107 rfl rfl ?_
    refine Wp.aload (pc' := 111) at_109 rfl rfl rfl ?_
    refine Wp.callV_0 2 0 (pc' := 114) (cells' := 4) (slots' := 137)  (rm := rm4) (w29 hw) (w30 hw) (w32 hw) (w31 hw) (w3 hw) (w33 hw) (by decide) pd3 rfl at_111 rfl rfl rfl (by decide) (by decide) (by decide) (by decide) rfl rfl rfl ?_
    refine (con4 hw aF aC _ [k0, k1, k2, k3, k4] rfl base _ _ _ _).mono ?_
    rintro _ _ ⟨rfl, rfl⟩
    refine Wp.afterS ?_
    refine Wp.lstore_17 (pc' := 116) at_114 rfl rfl ?_
    refine Wp.aload (pc' := 118) at_116 rfl rfl rfl ?_
    refine Wp.callV_0 2 0 (pc' := 121) (cells' := 4) (slots' := 137)  (rm := rm3) (w22 hw) (w23 hw) (w25 hw) (w24 hw) (w3 hw) (w26 hw) (by decide) pd2 rfl at_118 rfl rfl rfl (by decide) (by decide) (by decide) (by decide) rfl rfl rfl ?_
    refine (con3 hw aF aC _ [k0, k1, k2, k3, k4] rfl base _ _ _ p2 _ _ _ la7 ya7 b7 c7 d7 f7).mono ?_
    rintro _ _ ⟨rfl, rfl⟩
    refine Wp.afterS ?_
    refine Wp.istore_19 (pc' := 123) at_121 rfl rfl ?_
    refine Wp.aload (pc' := 125) at_123 rfl rfl rfl ?_
    refine Wp.callV_0 2 0 (pc' := 128) (cells' := 4) (slots' := 137)  (rm := rm4) (w29 hw) (w30 hw) (w32 hw) (w31 hw) (w3 hw) (w33 hw) (by decide) pd3 rfl at_125 rfl rfl rfl (by decide) (by decide) (by decide) (by decide) rfl rfl rfl ?_
    refine (con4 hw aF aC _ [k0, k1, k2, k3, k4] rfl base _ _ _ _).mono ?_
    rintro _ _ ⟨rfl, rfl⟩
    refine Wp.afterS ?_
    refine Wp.lstore_20 (pc' := 130) at_128 rfl rfl ?_
    refine Wp.aload (pc' := 132) at_130 rfl rfl rfl ?_
    refine Wp.callV_0 2 0 (pc' := 135) (cells' := 4) (slots' := 137)  (rm := rm3) (w22 hw) (w23 hw) (w25 hw) (w24 hw) (w3 hw) (w26 hw) (by decide) pd2 rfl at_132 rfl rfl rfl (by decide) (by decide) (by decide) (by decide) rfl rfl rfl ?_
    refine (con3 hw aF aC _ [k0, k1, k2, k3, k4] rfl base _ _ _ p3 _ _ _ la8 ya8 b8 c8 d8 f8).mono ?_
    rintro _ _ ⟨rfl, rfl⟩
    refine Wp.afterS ?_
    refine Wp.istore_22 (pc' := 137) at_135 rfl rfl ?_
    refine Wp.aload (pc' := 139) at_137 rfl rfl rfl ?_
    refine Wp.callV_0 2 0 (pc' := 142) (cells' := 4) (slots' := 137)  (rm := rm4) (w29 hw) (w30 hw) (w32 hw) (w31 hw) (w3 hw) (w33 hw) (by decide) pd3 rfl at_139 rfl rfl rfl (by decide) (by decide) (by decide) (by decide) rfl rfl rfl ?_
    refine (con4 hw aF aC _ [k0, k1, k2, k3, k4] rfl base _ _ _ _).mono ?_
    rintro _ _ ⟨rfl, rfl⟩
    refine Wp.afterS ?_
    refine Wp.lstore_23 (pc' := 144) at_142 rfl rfl ?_
    refine Wp.aload (pc' := 146) at_144 rfl rfl rfl ?_
    refine Wp.callV_0 2 0 (pc' := 149) (cells' := 4) (slots' := 137)  (rm := rm3) (w22 hw) (w23 hw) (w25 hw) (w24 hw) (w3 hw) (w26 hw) (by decide) pd2 rfl at_146 rfl rfl rfl (by decide) (by decide) (by decide) (by decide) rfl rfl rfl ?_
    refine (con3 hw aF aC _ [k0, k1, k2, k3, k4] rfl base _ _ _ p4 _ _ _ la9 ya9 b9 c9 d9 f9).mono ?_
    rintro _ _ ⟨rfl, rfl⟩
    refine Wp.afterS ?_
    refine Wp.istore_25 (pc' := 151) at_149 rfl rfl ?_
    refine Wp.aload (pc' := 153) at_151 rfl rfl rfl ?_
    refine Wp.callV_0 2 0 (pc' := 156) (cells' := 4) (slots' := 137)  (rm := rm4) (w29 hw) (w30 hw) (w32 hw) (w31 hw) (w3 hw) (w33 hw) (by decide) pd3 rfl at_153 rfl rfl rfl (by decide) (by decide) (by decide) (by decide) rfl rfl rfl ?_
    refine (con4 hw aF aC _ [k0, k1, k2, k3, k4] rfl base _ _ _ _).mono ?_
    rintro _ _ ⟨rfl, rfl⟩
    refine Wp.afterS ?_
    refine Wp.lstore_26 (pc' := 158) at_156 rfl rfl ?_
    refine Wp.iconst (0) (pc' := 159) at_158 rfl rfl ?_
    refine Wp.istore_28 (pc' := 161) at_159 rfl rfl ?_
    refine Wp.iload (pc' := 163) at_161 rfl rfl ?_
    refine Wp.iload (pc' := 165) at_163 rfl rfl ?_
    refine Wp.iload (pc' := 167) at_165 rfl rfl ?_
    refine Wp.lload (pc' := 169) at_167 rfl rfl ?_
    refine Wp.aload (pc' := 171) at_169 rfl rfl rfl ?_
    refine Wp.callS_5 0 (pc' := 174) (cells' := 4) (slots' := 137)  (rm := rm5) (w34 hw) (w35 hw) (w36 hw) (w37 hw) (by decide) pd4 rfl at_171 rfl rfl (by decide) (by decide) (by decide) (by decide) rfl rfl rfl ?_
    refine (con5 hw _ base p0 q0 t0 [k0, k1, k2, k3, k4] rfl _ _ rfl).mono ?_
    rintro _ _ ⟨rfl, rfl⟩
    refine Wp.afterS ?_
    refine Wp.istore_28 (pc' := 176) at_174 rfl rfl ?_
    refine Wp.iload (pc' := 178) at_176 rfl rfl ?_
    refine Wp.iload (pc' := 180) at_178 rfl rfl ?_
    refine Wp.iload (pc' := 182) at_180 rfl rfl ?_
    refine Wp.lload (pc' := 184) at_182 rfl rfl ?_
    refine Wp.aload (pc' := 186) at_184 rfl rfl rfl ?_
    refine Wp.callS_5 0 (pc' := 189) (cells' := 4) (slots' := 137)  (rm := rm5) (w34 hw) (w35 hw) (w36 hw) (w37 hw) (by decide) pd4 rfl at_186 rfl rfl (by decide) (by decide) (by decide) (by decide) rfl rfl rfl ?_
    refine (con5 hw _ base p1 q1 t1 [k0, k1, k2, k3, k4] rfl _ _ rfl).mono ?_
    rintro _ _ ⟨rfl, rfl⟩
    refine Wp.afterS ?_
    refine Wp.istore_28 (pc' := 191) at_189 rfl rfl ?_
    refine Wp.iload (pc' := 193) at_191 rfl rfl ?_
    refine Wp.iload (pc' := 195) at_193 rfl rfl ?_
    refine Wp.iload (pc' := 197) at_195 rfl rfl ?_
    refine Wp.lload (pc' := 199) at_197 rfl rfl ?_
    refine Wp.aload (pc' := 201) at_199 rfl rfl rfl ?_
    refine Wp.callS_5 0 (pc' := 204) (cells' := 4) (slots' := 137)  (rm := rm5) (w34 hw) (w35 hw) (w36 hw) (w37 hw) (by decide) pd4 rfl at_201 rfl rfl (by decide) (by decide) (by decide) (by decide) rfl rfl rfl ?_
    refine (con5 hw _ base p2 q2 t2 [k0, k1, k2, k3, k4] rfl _ _ rfl).mono ?_
    rintro _ _ ⟨rfl, rfl⟩
    refine Wp.afterS ?_
    refine Wp.istore_28 (pc' := 206) at_204 rfl rfl ?_
    refine Wp.iload (pc' := 208) at_206 rfl rfl ?_
    refine Wp.iload (pc' := 210) at_208 rfl rfl ?_
    refine Wp.iload (pc' := 212) at_210 rfl rfl ?_
    refine Wp.lload (pc' := 214) at_212 rfl rfl ?_
    refine Wp.aload (pc' := 216) at_214 rfl rfl rfl ?_
    refine Wp.callS_5 0 (pc' := 219) (cells' := 4) (slots' := 137)  (rm := rm5) (w34 hw) (w35 hw) (w36 hw) (w37 hw) (by decide) pd4 rfl at_216 rfl rfl (by decide) (by decide) (by decide) (by decide) rfl rfl rfl ?_
    refine (con5 hw _ base p3 q3 t3 [k0, k1, k2, k3, k4] rfl _ _ rfl).mono ?_
    rintro _ _ ⟨rfl, rfl⟩
    refine Wp.afterS ?_
    refine Wp.istore_28 (pc' := 221) at_219 rfl rfl ?_
    refine Wp.iload (pc' := 223) at_221 rfl rfl ?_
    refine Wp.iload (pc' := 225) at_223 rfl rfl ?_
    refine Wp.iload (pc' := 227) at_225 rfl rfl ?_
    refine Wp.lload (pc' := 229) at_227 rfl rfl ?_
    refine Wp.aload (pc' := 231) at_229 rfl rfl rfl ?_
    refine Wp.callS_5 0 (pc' := 234) (cells' := 4) (slots' := 137)  (rm := rm5) (w34 hw) (w35 hw) (w36 hw) (w37 hw) (by decide) pd4 rfl at_231 rfl rfl (by decide) (by decide) (by decide) (by decide) rfl rfl rfl ?_
    refine (con5 hw _ base p4 q4 t4 [k0, k1, k2, k3, k4] rfl _ _ rfl).mono ?_
    rintro _ _ ⟨rfl, rfl⟩
    refine Wp.afterS ?_
    refine Wp.istore_28 (pc' := 236) at_234 rfl rfl ?_
    refine Wp.iload (pc' := 238) at_236 rfl rfl ?_
    refine Wp.bipush (31) (pc' := 240) at_238 rfl rfl ?_
    refine Wp.icmp_eq (pt := 245) (pf := 243) at_240 (by decide) rfl (fun hc240 => ?_) (fun hc240 => ?_)
    · refine Wp.lload (pc' := 247) at_245 rfl rfl ?_
      refine Wp.lload (pc' := 249) at_247 rfl rfl ?_
      refine Wp.lcmp_gt (pt := 281) (pf := 253) at_249 rfl at_250 (by decide) rfl (fun hc250 => ?_) (fun hc250 => ?_)
      · exfalso; have := hle p0 p1 q0 q1 l01; omega
      · refine Wp.lload (pc' := 255) at_253 rfl rfl ?_
        refine Wp.lload (pc' := 257) at_255 rfl rfl ?_
        refine Wp.lcmp_gt (pt := 281) (pf := 261) at_257 rfl at_258 (by decide) rfl (fun hc258 => ?_) (fun hc258 => ?_)
        · exfalso; have := hle p1 p2 q1 q2 l12; omega
        · refine Wp.lload (pc' := 263) at_261 rfl rfl ?_
          refine Wp.lload (pc' := 265) at_263 rfl rfl ?_
          refine Wp.lcmp_gt (pt := 281) (pf := 269) at_265 rfl at_266 (by decide) rfl (fun hc266 => ?_) (fun hc266 => ?_)
          · exfalso; have := hle p2 p3 q2 q3 l23; omega
          · refine Wp.lload (pc' := 271) at_269 rfl rfl ?_
            refine Wp.lload (pc' := 273) at_271 rfl rfl ?_
            refine Wp.lcmp_gt (pt := 281) (pf := 277) at_273 rfl at_274 (by decide) rfl (fun hc274 => ?_) (fun hc274 => ?_)
            · exfalso; have := hle p3 p4 q3 q4 l34; omega
            · refine Wp.iconst (1) (pc' := 278) at_277 rfl rfl ?_
              refine Wp.goto (pc' := 282) at_278 (by decide) ?_
              refine Wp.zreturn rfl at_282 ?_
              rfl
    · exact absurd t31 hc240
  · cases hchk
set_option maxRecDepth 65536 in
theorem comes_1 {Post : Tables → Env → Array Value → State → Outcome → State → Prop} (hpost : ∀ tb e args s v u, (limb_1_1.after args s (.returned v) u = true ∧ limb_1_2.after args s (.returned v) u = true ∧ True) → FrameEnd s (.returned v) u (Jvm.fieldLocs frame_1_writes args s ++ Jvm.arrayLocs frame_1_arrays args s ++ Jvm.staticLocs frame_1_statics s) room_1.cells room_1.slots → Post tb e args s (.returned v) u) :
    ArmFor flags0 classFile x code maxLocals ret World_1 tables_1 room_1 Calls_1 rest_1 Pre_1 Post := by
  intro l hfl _ _ p e ha hc hk s m args below hf hA hF happ hP
  obtain ⟨hcalls, hrest, hpre⟩ := hP
  obtain ⟨-, -, -, hnamed, -, -, -, hat⟩ := (Spec.applies_iff hf).mp happ
  obtain ⟨hg, hn⟩ := and_e (Cond.before_iff.mp (show (Jvm.Cond.and given_1 narrow_1).before args s = true from hpre))
  obtain ⟨hcnt, g0⟩ := and_e hg
  obtain ⟨y0, y1, y2, y3, y4, y5, rfl⟩ : ∃ y0 y1 y2 y3 y4 y5 : Value, args = #[y0, y1, y2, y3, y4, y5] := by
    have hs : args.size = 6 := by simpa [Cond.value, given_1] using hcnt
    obtain ⟨L⟩ := args
    match L, hs with
    | [y0, y1, y2, y3, y4, y5], _ => exact ⟨y0, y1, y2, y3, y4, y5, rfl⟩
  have hw := fun d (hd : d ∈ tables_1) => atoms_spec (ws := Jvm.Cond.code x code maxLocals ret :: tables_1) hat d (List.mem_cons_of_mem _ hd)
  obtain ⟨g0a, g1⟩ := and_e g0
  obtain ⟨i0, e0⟩ := isL_v g0a
  obtain rfl : y0 = .long i0 := Option.some.inj e0
  obtain ⟨g1a, g2⟩ := and_e g1
  obtain ⟨i1, e1⟩ := isL_v g1a
  obtain rfl : y1 = .long i1 := Option.some.inj e1
  obtain ⟨g2a, g3⟩ := and_e g2
  obtain ⟨i2, e2⟩ := isL_v g2a
  obtain rfl : y2 = .long i2 := Option.some.inj e2
  obtain ⟨g3a, g4⟩ := and_e g3
  obtain ⟨i3, e3⟩ := isL_v g3a
  obtain rfl : y3 = .long i3 := Option.some.inj e3
  obtain ⟨g4a, g5⟩ := and_e g4
  obtain ⟨i4, e4⟩ := isL_v g4a
  obtain rfl : y4 = .long i4 := Option.some.inj e4
  obtain ⟨i5, e5⟩ := is_v g5
  obtain rfl : y5 = .int i5 := Option.some.inj e5
  obtain ⟨n, o, h1, h2, h3, v, L, rfl, ⟨N, H', hR', rfl⟩, hq⟩ := law_con l s _ s.heap.size hw i0 i1 i2 i3 i4 i5 tables_1 s.heap ⟨Nat.le_refl _, List.nodup_nil, fun _ q => nomatch q⟩ p e ha hc hk s m _ below hf ((Spec.applies_iff_loose hf).mp happ).1 ⟨rfl, State.Warmed39.refl s, rfl⟩ trivial
  refine ⟨n, _, h1, h2, h3, hpost _ _ _ _ _ _ ⟨Cond.after_iff.mpr rfl, Cond.after_iff.mpr (eq_i res_at (Term.int_eval (1)) rfl), trivial⟩ ⟨hq.1, hq.2.1, (hq.2.2.sift fun y hy => Or.inr (N y hy)).mono (by decide) (by decide)⟩⟩
theorem main_1_1 : Claimed_1_1 := comes_1 fun _ _ _ _ _ _ h hF => ⟨h.1, hF⟩
theorem main_1_2 : Claimed_1_2 := comes_1 fun _ _ _ _ _ _ h hF => ⟨h.2.1, hF⟩
end Jvm.Pilot.@@N@@
namespace Jvm.Pilot.@@N@@
open Jvm Jvm.ClassFile Sem Op Lib Jvm.Free Jvm.Stand Jvm.Pilot.@@N@@.Jvm.D
/-! MADE BY PROGRAM (witnessworld.py) out of the Statement's table words and the real class files: 11 classes; the members and pool entries that the words name. The judged class is class 1, her method 2. -/
namespace start1
open Jvm.ClassFile
def u (s : String) : CpInfo := .utf8 (stringToUtf16 s)
/-- a pool by its gaps: so many unusable entries, then the entry; so many at the end -/
def gap : Nat → List CpInfo → List CpInfo
  | 0, r => r
  | n + 1, r => .unusable :: gap n r
def poolList (es : List (Nat × CpInfo)) (last : Nat) : List CpInfo := es.foldr (fun e r => gap e.1 (e.2 :: r)) (gap last [])
def pool (es : List (Nat × CpInfo)) (last : Nat) : Array CpInfo := ⟨poolList es last⟩
def fileOf (pool : Array CpInfo) (this : Nat) (attrs : Array Attribute := #[]) (ms : Array MethodInfo := #[]) (fl : Nat := 33) (sup : Nat := 0) (ifs : Array Nat := #[]) (fds : Array FieldInfo := #[]) : ClassFile where
  minorVersion := 0
  majorVersion := 65
  constantPool := pool
  accessFlags := fl
  thisClass := this
  superClass := sup
  interfaces := ifs
  fields := fds
  methods := ms
  attributes := attrs
def plain (name : String) (sup : Option ClassId) : Class where
  name := name
  kind := .ordinary
  loader := none
  accessFlags := 33
  super := sup
  interfaces := #[]
  cf := none
  fields := #[]
  methods := #[]
  instanceTypes := #[]
  staticTypes := #[]
  resolved := #[]
  callSites := []
  init := .initialized
  statics := none
  mirror := none

def pool0 : Array CpInfo := pool [(5, u "<init>"), (0, u "()V"), (1, .class_ 10), (1, u "java/lang/Object")] 113

def k0c0 : Code := { maxStack := 0, maxLocals := 1, code := object_method_1_code, exceptionTable := #[], attributes := #[] }
def k0m0 : Method := { name := "<init>", desc := "()V", sig := { parameters := [], returnType := none }, accessFlags := 1, code := some k0c0 }
/-- java/lang/Object -/
def k0 : Class := { plain "java/lang/Object" none with
  accessFlags := 33
  interfaces := #[]
  cf := some (fileOf pool0 8 #[] #[{ accessFlags := 1, nameIndex := 5, descriptorIndex := 6, attributes := #[] }] 33 0 #[] #[])
  fields := #[]
  methods := #[k0m0]
  instanceTypes := #[]
  staticTypes := #[]
  resolved := Array.replicate 124 none
  statics := none }

def pool1 : Array CpInfo := pool [(2, .class_ 4), (0, .nameAndType 5 6), (0, u "java/lang/Object"), (0, u "<init>"), (0, u "()V"), (0, .class_ 8), (0, u "com/example/planter/planter/heuristic/FactQueue"), (0, .methodref 7 3), (0, .methodref 7 11), (0, .nameAndType 12 13), (0, u "push"), (0, u "(JI)V"), (0, .methodref 7 15), (0, .nameAndType 16 17), (0, u "pop"), (0, u "()I"), (0, .methodref 7 19), (0, .nameAndType 20 21), (0, u "poppedCost"), (0, u "()J"), (0, .methodref 23 24), (0, .class_ 25), (0, .nameAndType 26 27), (0, u "com/example/planter/planter/heuristic/FactQueuePopPinLaw"), (0, u "step"), (0, u "(IIIJ[J)I"), (3, u "law"), (0, u "(JJJJJI)Z")] 4

def k1m0 : Method := { name := "<init>", desc := "()V", sig := { parameters := [], returnType := none }, accessFlags := 2, code := none }
def k1c1 : Code := { maxStack := 4, maxLocals := 7, code := method_2_code, exceptionTable := #[], attributes := #[] }
def k1m1 : Method := { name := "step", desc := "(IIIJ[J)I", sig := { parameters := [.int, .int, .int, .long, (.array .long)], returnType := some .int }, accessFlags := 10, code := some k1c1 }
def k1c2 : Code := { maxStack := 6, maxLocals := 29, code := code, exceptionTable := #[], attributes := #[] }
def k1m2 : Method := { name := "law", desc := "(JJJJJI)Z", sig := { parameters := [.long, .long, .long, .long, .long, .int], returnType := some .boolean }, accessFlags := 9, code := some k1c2 }
/-- com/example/planter/planter/heuristic/FactQueuePopPinLaw -/
def k1 : Class := { plain "com/example/planter/planter/heuristic/FactQueuePopPinLaw" (some 0) with
  accessFlags := 49
  interfaces := #[]
  cf := some (fileOf pool1 23 #[] #[{ accessFlags := 2, nameIndex := 5, descriptorIndex := 6, attributes := #[] }, { accessFlags := 10, nameIndex := 26, descriptorIndex := 27, attributes := #[] }, { accessFlags := 9, nameIndex := 31, descriptorIndex := 32, attributes := #[] }] 49 2 #[] #[])
  fields := #[]
  methods := #[k1m0, k1m1, k1m2]
  instanceTypes := #[]
  staticTypes := #[]
  resolved := Array.replicate 37 none
  statics := none }

def pool2 : Array CpInfo := pool [(1, .methodref 2 3), (0, .class_ 4), (0, .nameAndType 5 6), (0, u "java/lang/Object"), (0, u "<init>"), (0, u "()V"), (0, .fieldref 8 9), (0, .class_ 10), (0, .nameAndType 11 12), (0, u "com/example/planter/planter/heuristic/FactQueue"), (0, u "costs"), (0, u "[J"), (0, .fieldref 8 14), (0, .nameAndType 15 16), (0, u "facts"), (0, u "[I"), (0, .fieldref 8 18), (0, .nameAndType 19 20), (0, u "size"), (0, u "I"), (9, .fieldref 8 31), (0, .nameAndType 32 33), (0, u "poppedCost"), (0, u "J"), (6, u "push"), (0, u "(JI)V"), (0, u "pop"), (0, u "()I"), (0, u "()J")] 2

def k2c0 : Code := { maxStack := 2, maxLocals := 1, code := prog_41_method_1_code, exceptionTable := #[], attributes := #[] }
def k2m0 : Method := { name := "<init>", desc := "()V", sig := { parameters := [], returnType := none }, accessFlags := 0, code := some k2c0 }
def k2c1 : Code := { maxStack := 4, maxLocals := 6, code := prog_41_method_4_code, exceptionTable := #[], attributes := #[] }
def k2m1 : Method := { name := "push", desc := "(JI)V", sig := { parameters := [.long, .int], returnType := none }, accessFlags := 0, code := some k2c1 }
def k2c2 : Code := { maxStack := 4, maxLocals := 7, code := prog_41_method_5_code, exceptionTable := #[], attributes := #[] }
def k2m2 : Method := { name := "pop", desc := "()I", sig := { parameters := [], returnType := some .int }, accessFlags := 0, code := some k2c2 }
def k2c3 : Code := { maxStack := 2, maxLocals := 1, code := prog_41_method_6_code, exceptionTable := #[], attributes := #[] }
def k2m3 : Method := { name := "poppedCost", desc := "()J", sig := { parameters := [], returnType := some .long }, accessFlags := 0, code := some k2c3 }
/-- com/example/planter/planter/heuristic/FactQueue -/
def k2 : Class := { plain "com/example/planter/planter/heuristic/FactQueue" (some 0) with
  accessFlags := 48
  interfaces := #[]
  cf := some (fileOf pool2 8 #[] #[{ accessFlags := 0, nameIndex := 5, descriptorIndex := 6, attributes := #[] }, { accessFlags := 0, nameIndex := 40, descriptorIndex := 41, attributes := #[] }, { accessFlags := 0, nameIndex := 42, descriptorIndex := 43, attributes := #[] }, { accessFlags := 0, nameIndex := 32, descriptorIndex := 44, attributes := #[] }] 48 2 #[] #[{ accessFlags := 2, nameIndex := 11, descriptorIndex := 12, attributes := #[] }, { accessFlags := 2, nameIndex := 15, descriptorIndex := 16, attributes := #[] }, { accessFlags := 2, nameIndex := 19, descriptorIndex := 20, attributes := #[] }, { accessFlags := 2, nameIndex := 32, descriptorIndex := 33, attributes := #[] }])
  fields := #[{ name := "costs", type := (.array .long), accessFlags := 2, slot := 0, constantValue := 0 }, { name := "facts", type := (.array .int), accessFlags := 2, slot := 1, constantValue := 0 }, { name := "size", type := .int, accessFlags := 2, slot := 2, constantValue := 0 }, { name := "poppedCost", type := .long, accessFlags := 2, slot := 3, constantValue := 0 }]
  methods := #[k2m0, k2m1, k2m2, k2m3]
  instanceTypes := #[(.array .long), (.array .int), .int, .long]
  staticTypes := #[]
  resolved := Array.replicate 47 none
  statics := none }

def pool3 : Array CpInfo := pool [(1, u "java/lang/Cloneable"), (0, .class_ 1), (0, u "java/lang/Object"), (0, .class_ 3)] 3

/-- java/lang/Cloneable -/
def k3 : Class := { plain "java/lang/Cloneable" (some 0) with
  accessFlags := 1537
  interfaces := #[]
  cf := some (fileOf pool3 2 #[] #[] 1537 4 #[] #[])
  fields := #[]
  methods := #[]
  instanceTypes := #[]
  staticTypes := #[]
  resolved := Array.replicate 8 none
  statics := none }

def pool4 : Array CpInfo := pool [(1, u "java/io/Serializable"), (0, .class_ 1), (0, u "java/lang/Object"), (0, .class_ 3)] 3

/-- java/io/Serializable -/
def k4 : Class := { plain "java/io/Serializable" (some 0) with
  accessFlags := 1537
  interfaces := #[]
  cf := some (fileOf pool4 2 #[] #[] 1537 4 #[] #[])
  fields := #[]
  methods := #[]
  instanceTypes := #[]
  staticTypes := #[]
  resolved := Array.replicate 8 none
  statics := none }

/-- the primitive byte -/
def k5 : Class := { plain "byte" none with kind := .primitive 'B', accessFlags := 0x411 }
/-- [B -/
def k6 : Class := { plain "[B" (some 0) with kind := .array 5 .byte, interfaces := #[3, 4], accessFlags := 1041 }

/-- the primitive int -/
def k7 : Class := { plain "int" none with kind := .primitive 'I', accessFlags := 0x411 }
/-- [I -/
def k8 : Class := { plain "[I" (some 0) with kind := .array 7 .int, interfaces := #[3, 4], accessFlags := 1041 }

/-- the primitive long -/
def k9 : Class := { plain "long" none with kind := .primitive 'J', accessFlags := 0x411 }
/-- [J -/
def k10 : Class := { plain "[J" (some 0) with kind := .array 9 .long, interfaces := #[3, 4], accessFlags := 1041 }

def heap : Heap := #[]
def classes : Array Class := #[k0, k1, k2, k3, k4, k5, k6, k7, k8, k9, k10]
def interned : List (Array UInt16 × Addr) := []
def slotsUsed : Nat := 0
def theMethod : MethodId := ⟨1, 2⟩
def args0 : Array Value := #[.long 5, .long 5, .long 5, .long 5, .long 5, .int 5]
def aboutOver (below : List Frame) : State where
  vm := { classes := classes, interned := interned.toArray }
  heap := heap
  slotsUsed := slotsUsed
  threads := #[{ frames := .invoking theMethod args0 :: below }]
def below0 : List Frame := [.native { method := ⟨0, 0⟩, args := #[] }]
def about1 : State := aboutOver below0
def p0 : Program := .bare "" "" ""
def e0 : Env := launch0.env 0 0 0
theorem w_frames : about1.frames = Frame.invoking theMethod args0 :: below0 := rfl
set_option maxRecDepth 65536 in
theorem w_args : argsFit about1.vm theMethod args0 = true := by decide +kernel
set_option maxRecDepth 65536 in
theorem w_heap : heapFits about1 = true := by decide +kernel
set_option maxRecDepth 65536 in
theorem w_runnable : about1.curStatus? = some .runnable := by decide +kernel
set_option maxRecDepth 65536 in
theorem w_alone : about1.alone = true := by decide +kernel
set_option maxRecDepth 65536 in
theorem w_named : about1.methodNamed? x = some theMethod := by decide +kernel
set_option maxRecDepth 65536 in
theorem w_hears : about1.hears theMethod below0 = true := by decide +kernel
set_option maxRecDepth 65536 in
theorem w_ripe : about1.ripe theMethod args0 below0 = true := by decide +kernel
theorem w_running : about1.status = .running := rfl
set_option maxRecDepth 65536 in
theorem w_room : about1.hasRoom e0.platform room_1 = true :=
  launch0.hasRoom_least _ room_1 (by decide +kernel) (by decide +kernel) (by decide +kernel) (by decide +kernel) (by decide +kernel) (by decide +kernel)
theorem allAtoms_all (ts : List Jvm.Cond) (a : Array Jvm.Value) (st : Jvm.State) : (allAtoms ts).before a st = ts.all (fun c => c.before a st) := by
  induction ts with
  | nil => rfl
  | cons c t ih =>
    show (Jvm.Cond.and c (allAtoms t)).before a st = _
    rw [Jvm.Cond.before_and, ih, List.all_cons]
def words1 : List Jvm.Cond := Jvm.Cond.code x code maxLocals ret :: tables_1
/-- a 'code' word, met by the world's own term for the bytes: nothing is compared byte by byte -/
theorem code_word {y : MethodName} {bytes : ByteArray} {mx : Nat} {rt : Option FieldType} {a : Array Value} {s : State} {m : MethodId} {meth : Method} {c : Code} (h1 : s.methodNamed? y = some m) (h2 : s.vm.method? m = some meth) (h3 : meth.code = some c) (h4 : c.code = bytes)
    (h5 : (c.maxLocals == mx && c.exceptionTable.isEmpty && decide (c.maxStack ≤ mostOperands) && decide (meth.sig.returnType = rt) && !meth.locks && decide (parseMethodDescriptor y.desc = some meth.sig)) = true) : (Jvm.Cond.code y bytes mx rt).before a s = true := by
  simp only [Bool.and_eq_true, beq_iff_eq, Bool.not_eq_true', decide_eq_true_eq] at h5
  obtain ⟨⟨⟨⟨⟨g1, g2⟩, g3⟩, g4⟩, g5⟩, g6⟩ := h5
  simp [Cond.before, Cond.holds, Cond.value, h1, h2, h3, h4, g1, g2, g3, g4, g5, g6]
def isCode : Jvm.Cond → Bool
  | .code _ _ _ _ => true
  | _ => false
theorem all_split {L : List Jvm.Cond} {P : Jvm.Cond → Bool} (h1 : L.all (fun c => isCode c || P c) = true) (h2 : ∀ c ∈ L.filter isCode, P c = true) : L.all P = true := by
  refine List.all_eq_true.mpr fun c hc => ?_
  have h := List.all_eq_true.mp h1 c hc
  rcases Bool.eq_false_or_eq_true (isCode c) with hi | hi
  · exact h2 c (List.mem_filter.mpr ⟨hc, hi⟩)
  · simpa [hi] using h
set_option maxRecDepth 65536 in
theorem w_c0 : (Jvm.Cond.code x code maxLocals ret).before args0 about1 = true := code_word (m := ⟨1, 2⟩) (meth := k1m2) (c := k1c2) (by decide +kernel) rfl rfl rfl (by decide +kernel)
set_option maxRecDepth 65536 in
theorem w_c1 : (Jvm.Cond.code ({ cls := "com/example/planter/planter/heuristic/FactQueue", name := "<init>", desc := "()V" } : Jvm.MethodName) prog_41_method_1_code (1 : Nat) (Option.none : Option Jvm.ClassFile.FieldType)).before args0 about1 = true := code_word (m := ⟨2, 0⟩) (meth := k2m0) (c := k2c0) (by decide +kernel) rfl rfl rfl (by decide +kernel)
set_option maxRecDepth 65536 in
theorem w_c2 : (Jvm.Cond.code ({ cls := "java/lang/Object", name := "<init>", desc := "()V" } : Jvm.MethodName) object_method_1_code (1 : Nat) (Option.none : Option Jvm.ClassFile.FieldType)).before args0 about1 = true := code_word (m := ⟨0, 0⟩) (meth := k0m0) (c := k0c0) (by decide +kernel) rfl rfl rfl (by decide +kernel)
set_option maxRecDepth 65536 in
theorem w_c3 : (Jvm.Cond.code ({ cls := "com/example/planter/planter/heuristic/FactQueue", name := "push", desc := "(JI)V" } : Jvm.MethodName) prog_41_method_4_code (6 : Nat) (Option.none : Option Jvm.ClassFile.FieldType)).before args0 about1 = true := code_word (m := ⟨2, 1⟩) (meth := k2m1) (c := k2c1) (by decide +kernel) rfl rfl rfl (by decide +kernel)
set_option maxRecDepth 65536 in
theorem w_c4 : (Jvm.Cond.code ({ cls := "com/example/planter/planter/heuristic/FactQueue", name := "pop", desc := "()I" } : Jvm.MethodName) prog_41_method_5_code (7 : Nat) (Option.some Jvm.ClassFile.FieldType.int)).before args0 about1 = true := code_word (m := ⟨2, 2⟩) (meth := k2m2) (c := k2c2) (by decide +kernel) rfl rfl rfl (by decide +kernel)
set_option maxRecDepth 65536 in
theorem w_c5 : (Jvm.Cond.code ({ cls := "com/example/planter/planter/heuristic/FactQueue", name := "poppedCost", desc := "()J" } : Jvm.MethodName) prog_41_method_6_code (1 : Nat) (Option.some Jvm.ClassFile.FieldType.long)).before args0 about1 = true := code_word (m := ⟨2, 3⟩) (meth := k2m3) (c := k2c3) (by decide +kernel) rfl rfl rfl (by decide +kernel)
set_option maxRecDepth 65536 in
theorem w_c6 : (Jvm.Cond.code ({ cls := "com/example/planter/planter/heuristic/FactQueuePopPinLaw", name := "step", desc := "(IIIJ[J)I" } : Jvm.MethodName) method_2_code (7 : Nat) (Option.some Jvm.ClassFile.FieldType.int)).before args0 about1 = true := code_word (m := ⟨1, 1⟩) (meth := k1m1) (c := k1c1) (by decide +kernel) rfl rfl rfl (by decide +kernel)
def codes1 : List Jvm.Cond := [Jvm.Cond.code x code maxLocals ret, Jvm.Cond.code ({ cls := "com/example/planter/planter/heuristic/FactQueue", name := "<init>", desc := "()V" } : Jvm.MethodName) prog_41_method_1_code (1 : Nat) (Option.none : Option Jvm.ClassFile.FieldType), Jvm.Cond.code ({ cls := "java/lang/Object", name := "<init>", desc := "()V" } : Jvm.MethodName) object_method_1_code (1 : Nat) (Option.none : Option Jvm.ClassFile.FieldType), Jvm.Cond.code ({ cls := "com/example/planter/planter/heuristic/FactQueue", name := "push", desc := "(JI)V" } : Jvm.MethodName) prog_41_method_4_code (6 : Nat) (Option.none : Option Jvm.ClassFile.FieldType), Jvm.Cond.code ({ cls := "com/example/planter/planter/heuristic/FactQueue", name := "pop", desc := "()I" } : Jvm.MethodName) prog_41_method_5_code (7 : Nat) (Option.some Jvm.ClassFile.FieldType.int), Jvm.Cond.code ({ cls := "com/example/planter/planter/heuristic/FactQueue", name := "poppedCost", desc := "()J" } : Jvm.MethodName) prog_41_method_6_code (1 : Nat) (Option.some Jvm.ClassFile.FieldType.long), Jvm.Cond.code ({ cls := "com/example/planter/planter/heuristic/FactQueuePopPinLaw", name := "step", desc := "(IIIJ[J)I" } : Jvm.MethodName) method_2_code (7 : Nat) (Option.some Jvm.ClassFile.FieldType.int)]
set_option maxRecDepth 65536 in
theorem codes_eq : words1.filter isCode = codes1 := rfl
theorem w_codes : ∀ c ∈ words1.filter isCode, c.before args0 about1 = true := by
  rw [codes_eq]
  intro c hc
  simp only [codes1, List.mem_cons, List.not_mem_nil, or_false] at hc
  rcases hc with rfl | rfl | rfl | rfl | rfl | rfl | rfl
  · exact w_c0
  · exact w_c1
  · exact w_c2
  · exact w_c3
  · exact w_c4
  · exact w_c5
  · exact w_c6
set_option maxRecDepth 65536 in
theorem w_t1 : (words1.take 24).all (fun c => isCode c || c.before args0 about1) = true := by decide +kernel
set_option maxRecDepth 65536 in
theorem w_t2 : (words1.drop 24).all (fun c => isCode c || c.before args0 about1) = true := by decide +kernel
theorem w_tables : (allAtoms (Jvm.Cond.code x code maxLocals ret :: tables_1)).before args0 about1 = true := by
  rw [allAtoms_all]
  show words1.all (fun c => c.before args0 about1) = true
  refine all_split ?_ w_codes
  rw [← List.take_append_drop 24 words1, List.all_append, w_t1, w_t2]
  rfl
set_option maxRecDepth 65536 in
theorem w_case : (Jvm.Cond.and given_1 narrow_1).before args0 about1 = true := by decide +kernel
theorem w_applies : (headSpec (Jvm.Cond.code x code maxLocals ret :: tables_1) room_1).applies x e0.platform about1 = true :=
  (Spec.applies_iff w_frames).mpr ⟨w_running, w_runnable, w_alone, w_named, w_hears, w_ripe, w_room, w_tables⟩
theorem atStart : AtStart classFile x code maxLocals ret World_1 tables_1 room_1 Calls_1 rest_1 Pre_1 launch0 p0 e0 about1 theMethod args0 below0 :=
  ⟨lists_1, trivial, launch0.admits_env _ _ _, launch0.least_env, fairChoices_fair.cas, fairChoices_fair.clock, w_frames, w_args, w_heap, w_applies, trivial, trivial, w_case⟩
end start1
theorem witness_1 : WitnessClaimed_1 := ⟨start1.p0, start1.e0, start1.about1, start1.theMethod, start1.args0, start1.below0, start1.atStart⟩
end Jvm.Pilot.@@N@@
