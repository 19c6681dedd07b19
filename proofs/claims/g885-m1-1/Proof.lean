import JvmDerived
import JvmDerived.Pilot.@@N@@Statement
import JvmDerived.Pilot.@@N@@Code
set_option linter.unusedVariables false
set_option linter.unusedSimpArgs false
namespace Jvm.RoadKit
open Sem ClassFile Op Lib Jvm.Stand Jvm.Free Jvm.LawKit
section New
variable {p : Program} {l : Launch} {e : Env} {R : Room} {s : State} {m : MethodId} {args : Array Value} {below : List Frame} {meth : Method} {c : Code} {T : State} {locs : List Loc} {cells slots : Nat}
theorem retI (X : Stand p l e R s m args below meth c T locs cells slots) (hx : p.tables.exec = Jvm.exec) {pc : Nat} {Ls : Array Slot} {z : Int32} {rest : List Value} (hret : meth.sig.returnType = some .int) (hd : decode c.code pc = .ok (.ireturn, 1)) {fs : List Frame}
    (hl : ∀ (f : JFrame) (acts : List Action), f.method = m → f.locked = none → f.entered = [] → (doReturn e (T.setTop f) acts (some (.int z))).1 = T.setFrames fs) : Steps p.tables e below (T.setTop (mkF m pc Ls (.int z :: rest))) (T.setFrames fs) := by
  have hm' : T.vm.method? m = some meth := X.method'
  have hn : narrow .int (.int z) = .int z := rfl
  show Steps p.tables e below (T.setTop { method := m, pc := pc, locals := Ls, stack := _ :: rest, locked := none }) _
  jvm_step X.here [X.here.top, hx, hd, hm', hret, hn]
  first | (intro acts; rw [hl _ acts rfl rfl rfl]) | rw [hl _ _ rfl rfl rfl]
  exact Steps.refl _
end New
end Jvm.RoadKit
namespace Jvm.Wp
open Sem ClassFile Op Lib Jvm.Free Jvm.Stand Jvm.LawKit Jvm.RoadKit

/-- a cell of the walk's own small heap: an array (its kind, its values) or an object (its class, its fields: name, descriptor, value) -/
abbrev MC : Type := Sum (FieldType × List Value) (String × List (String × String × Value))
abbrev MH : Type := List (Addr × MC)
def COk (Z : State) (a0 : Array Value) (h : Heap) (a : Addr) : MC → Prop
  | .inl (ty, vs) => ∃ c : Cell, Arr Z h a c ty ∧ c.slots = vs.toArray ∧ vs.length < 2 ^ 31
  | .inr (C, fs) => Exa Z h a C ∧ (fs.map (·.1)).Nodup ∧ ∀ x ∈ fs, Fld Z h a C x.1 x.2.1 x.2.2 ∧ Laid Z a0 C C x.1 x.2.1 ∧ ∃ t, parseFieldDescriptor x.2.1 = some t
def Rel (Z : State) (a0 : Array Value) (n0 : Nat) (H : MH) (h : Heap) : Prop := n0 ≤ h.size ∧ (H.map (·.1)).Nodup ∧ ∀ x ∈ H, n0 ≤ x.1 ∧ COk Z a0 h x.1 x.2

theorem idx_eq {j : Int32} {i : Nat} (hj : j.toInt = (i : Int)) : j.toNatClampNeg = i := by
  show j.toInt.toNat = i
  rw [hj]; simp
theorem idx_ok {j : Int32} {i n : Nat} (hj : j.toInt = (i : Int)) (hi : i < n) : ¬ (j < 0 ∨ n ≤ j.toNatClampNeg) := by
  rw [idx_eq hj, Int32.lt_iff_toInt_lt, hj]
  simp; omega
theorem COk.lt {Z : State} {a0 : Array Value} {h : Heap} {a : Addr} {c : MC} (k : COk Z a0 h a c) : a < h.size := by
  cases c with
  | inl q => obtain ⟨ty, vs⟩ := q; obtain ⟨c, A, -⟩ := k; exact A.lt
  | inr q => obtain ⟨C, fs⟩ := q; exact k.1.lt
theorem COk.ext {Z : State} {a0 : Array Value} {h h' : Heap} {a : Addr} {c : MC} (E : Ext h h') (k : COk Z a0 h a c) : COk Z a0 h' a c := by
  cases c with
  | inl q => obtain ⟨ty, vs⟩ := q; obtain ⟨c, A, r⟩ := k; exact ⟨c, A.ext E, r⟩
  | inr q => obtain ⟨C, fs⟩ := q; exact ⟨k.1.ext E, k.2.1, fun x hx => ⟨(k.2.2 x hx).1.ext E, (k.2.2 x hx).2⟩⟩
theorem COk.other {Z : State} {a0 : Array Value} {h h' : Heap} {a b : Addr} {sl : Nat} {v : Value} {c : MC} (W : Wr h h' b sl v) (hne : a ≠ b) (k : COk Z a0 h a c) : COk Z a0 h' a c := by
  cases c with
  | inl q => obtain ⟨ty, vs⟩ := q; obtain ⟨c, A, r⟩ := k; exact ⟨c, A.other W hne, r⟩
  | inr q => obtain ⟨C, fs⟩ := q; exact ⟨k.1.wr W, k.2.1, fun x hx => ⟨(k.2.2 x hx).1.other W (Or.inl hne), (k.2.2 x hx).2⟩⟩
theorem COk.setArr {Z : State} {a0 : Array Value} {h h' : Heap} {a : Addr} {ty : FieldType} {vs : List Value} {i : Nat} {v : Value} (W : Wr h h' a i v) (k : COk Z a0 h a (.inl (ty, vs))) : COk Z a0 h' a (.inl (ty, vs.set i v)) := by
  obtain ⟨c, A, e, r⟩ := k
  refine ⟨_, A.same W, ?_, by simpa using r⟩
  show c.slots.setIfInBounds i v = _
  rw [e]; simp
theorem COk.setFld {Z : State} {a0 : Array Value} {h h' : Heap} {a : Addr} {C n d : String} {pre post : List (String × String × Value)} {v w : Value} (W : Wr h h' a (Jvm.RoadKit.slotOf Z C n d) v) (k : COk Z a0 h a (.inr (C, pre ++ (n, d, w) :: post))) : COk Z a0 h' a (.inr (C, pre ++ (n, d, v) :: post)) := by
  obtain ⟨E, N, F⟩ := k
  have hme := F (n, d, w) (by simp)
  refine ⟨E.wr W, by simpa using N, fun x hx => ?_⟩
  have hsplit : x = (n, d, v) ∨ (x ∈ pre ++ (n, d, w) :: post ∧ x.1 ≠ n) := by
    simp only [List.map_append, List.map_cons] at N
    rw [List.nodup_append] at N
    obtain ⟨-, N2, N3⟩ := N
    rw [List.nodup_cons] at N2
    rcases List.mem_append.mp hx with h1 | h1
    · refine Or.inr ⟨List.mem_append.mpr (Or.inl h1), ?_⟩
      exact N3 x.1 (List.mem_map_of_mem h1) n (by simp)
    · rcases List.mem_cons.mp h1 with h2 | h2
      · exact Or.inl h2
      · refine Or.inr ⟨List.mem_append.mpr (Or.inr (List.mem_cons_of_mem _ h2)), fun q => N2.1 ?_⟩
        rw [← q]; exact List.mem_map_of_mem h2
  rcases hsplit with rfl | ⟨hm, hne⟩
  · exact ⟨hme.1.same W, hme.2⟩
  · have G := F x hm
    obtain ⟨t, ht⟩ := G.2.2
    obtain ⟨t', ht'⟩ := hme.2.2
    exact ⟨G.1.other W (Or.inr (slot_ne G.2.1 hme.2.1 hne ht ht')), G.2⟩
theorem Rel.ext {Z : State} {a0 : Array Value} {n0 : Nat} {H : MH} {h h' : Heap} (E : Ext h h') (r : Rel Z a0 n0 H h) : Rel Z a0 n0 H h' := ⟨Nat.le_trans r.1 E.1, r.2.1, fun x hx => ⟨(r.2.2 x hx).1, (r.2.2 x hx).2.ext E⟩⟩
theorem Rel.push {Z : State} {a0 : Array Value} {n0 : Nat} {H : MH} {h h' : Heap} {c : MC} (E : Ext h h') (r : Rel Z a0 n0 H h) (k : COk Z a0 h' h.size c) : Rel Z a0 n0 ((h.size, c) :: H) h' := by
  refine ⟨Nat.le_trans r.1 E.1, ?_, fun x hx => ?_⟩
  · rw [List.map_cons, List.nodup_cons]
    refine ⟨fun q => ?_, r.2.1⟩
    obtain ⟨x, hx, e⟩ := List.mem_map.mp q
    have h1 := (r.2.2 x hx).2.lt
    rw [e] at h1
    exact Nat.lt_irrefl _ h1
  · rcases List.mem_cons.mp hx with rfl | q
    · exact ⟨r.1, k⟩
    · exact ⟨(r.2.2 x q).1, (r.2.2 x q).2.ext E⟩
theorem Rel.set {Z : State} {a0 : Array Value} {n0 : Nat} {pre post : MH} {h h' : Heap} {a : Addr} {c c' : MC} {sl : Nat} {v : Value} (W : Wr h h' a sl v) (r : Rel Z a0 n0 (pre ++ (a, c) :: post) h) (k : COk Z a0 h a c → COk Z a0 h' a c') : Rel Z a0 n0 (pre ++ (a, c') :: post) h' := by
  obtain ⟨r1, N, F⟩ := r
  refine ⟨by rw [W.size]; exact r1, by simpa using N, fun x hx => ?_⟩
  have hme := F (a, c) (by simp)
  have hsplit : x = (a, c') ∨ (x ∈ pre ++ (a, c) :: post ∧ x.1 ≠ a) := by
    simp only [List.map_append, List.map_cons] at N
    rw [List.nodup_append] at N
    obtain ⟨-, N2, N3⟩ := N
    rw [List.nodup_cons] at N2
    rcases List.mem_append.mp hx with h1 | h1
    · refine Or.inr ⟨List.mem_append.mpr (Or.inl h1), ?_⟩
      exact N3 x.1 (List.mem_map_of_mem h1) a (by simp)
    · rcases List.mem_cons.mp h1 with h2 | h2
      · exact Or.inl h2
      · refine Or.inr ⟨List.mem_append.mpr (Or.inr (List.mem_cons_of_mem _ h2)), fun q => N2.1 ?_⟩
        rw [← q]; exact List.mem_map_of_mem h2
  rcases hsplit with rfl | ⟨hm, hne⟩
  · exact ⟨hme.1, k hme.2⟩
  · exact ⟨(F x hm).1, (F x hm).2.other W hne⟩
theorem Rel.at {Z : State} {a0 : Array Value} {n0 : Nat} {H : MH} {h : Heap} {k : Nat} {a : Addr} {c : MC} (r : Rel Z a0 n0 H h) (hk : H[k]? = some (a, c)) : n0 ≤ a ∧ COk Z a0 h a c := r.2.2 (a, c) (List.mem_of_getElem? hk)

/-- from pc on, with these locals, this stack, this small heap: the method returns, and Q holds of what it returns and of the small heap at the end -/
def WP (l : Launch) (Z : State) (a0 : Array Value) (n0 : Nat) (R : Room) (y : MethodName) (code : ByteArray) (mx : Nat) (ret : Option FieldType) (cells slots pc : Nat) (Ls : List Slot) (st : List Value) (H : MH) (Q : Option Value → MH → Prop) : Prop :=
  ∀ (p : Program) (e : Env) (s : State) (m : MethodId) (args : Array Value) (below : List Frame) (meth : Method) (c : Code) (T : State) (locs : List Loc),
    Stand p l e R s m args below meth c T locs cells slots → p.tables.exec = Jvm.exec → Z.Warmed39 s.vm → c.code = code → c.maxLocals = mx → s.vm.findClass y.cls = some m.cls → meth.name = y.name → meth.sig.returnType = ret → meth.locks = false →
    Fr n0 locs → Rel Z a0 n0 H T.heap → cells ≤ R.cells → slots ≤ R.slots →
    ∃ v H' L s₂, Steps p.tables e below (T.setTop (mkF m pc ⟨Ls⟩ st)) s₂ ∧ s₂.status = .running ∧ Ended s₂ below (.returned v) ∧ Fr n0 L ∧ Rel Z a0 n0 H' s₂.heap ∧ Q v H' ∧ s.WarmedH s₂.vm ∧ s.sameButNew ({ s₂ with vm := s.vm } : State) L R.cells R.slots
/-- a method's contract: called with these arguments over this small heap it returns, and Q holds -/
def Con (l : Launch) (Z : State) (a0 : Array Value) (n0 : Nat) (y : MethodName) (code : ByteArray) (mx : Nat) (ret : Option FieldType) (rm : Room) (as : Array Value) (H : MH) (Q : Option Value → MH → Prop) : Prop :=
  ∀ (ws : List Cond) (h0 : Heap), Rel Z a0 n0 H h0 → MetFree l y (head1 (Cond.code y code mx ret :: ws) rm) (fun a U => a = as ∧ Z.Warmed39 U.vm ∧ U.heap = h0) (fun _ _ _ _ _ => True)
    (fun _ U o U' => ∃ v L, o = .returned v ∧ (Fr n0 L ∧ ∃ H', Rel Z a0 n0 H' U'.heap ∧ Q v H') ∧ FrameEnd U o U' L rm.cells rm.slots)

variable {l : Launch} {Z : State} {a0 : Array Value} {n0 : Nat} {R : Room} {y : MethodName} {code : ByteArray} {mx : Nat} {ret : Option FieldType} {cells slots pc : Nat} {Ls : List Slot} {st : List Value} {H : MH} {Q : Option Value → MH → Prop}

def locsOf : List Value → List Slot
  | [] => []
  | v :: t => if v.category = 2 then .val v :: .second :: locsOf t else .val v :: locsOf t
theorem foldl_locs (l : List Value) : ∀ acc : Array Slot, l.foldl (fun acc v => if v.category = 2 then (acc.push (.val v)).push .second else acc.push (.val v)) acc = acc ++ (locsOf l).toArray := by
  induction l with
  | nil => intro acc; simp [locsOf]
  | cons v t ih =>
    intro acc
    rw [List.foldl_cons, ih, locsOf]
    split <;> simp
theorem efG (m : MethodId) (l : List Value) (mx : Nat) : entryFrame m l.toArray mx = mkF m 0 ⟨locsOf l ++ List.replicate (mx - (locsOf l).length) .unset⟩ [] := by
  have h : argsToLocals l.toArray mx = ⟨locsOf l ++ List.replicate (mx - (locsOf l).length) .unset⟩ := by
    unfold argsToLocals
    rw [show l.toArray.foldl (init := #[]) (fun acc v => if v.category = 2 then (acc.push (.val v)).push .second else acc.push (.val v)) = (locsOf l).toArray by rw [List.foldl_toArray, foldl_locs]; simp]
    apply Array.ext'
    simp
  simp only [entryFrame, mkF, h]
theorem Con.intro {rm : Room} {as : Array Value} (hpn : plainFor y = true) (hE : ∀ m, entryFrame m as mx = mkF m 0 ⟨Ls⟩ []) (h : WP l Z a0 n0 rm y code mx ret 0 0 0 Ls [] H Q) : Con l Z a0 n0 y code mx ret rm as H Q := by
  intro ws h0 hR
  refine MetFree.of_bodySF hpn hisR ?_
  intro p e s m args below meth c s₁ Bd hml0 hP hK
  obtain ⟨rfl, hZ, hh⟩ := hP
  have e0 : s₁.heap = h0 := by rw [← hh, Bd.state]; rfl
  obtain ⟨v, H', L, s2, k1, k2, k3, k4, k5, k6, k7, k8⟩ := h p e s m _ below meth c s₁ [] (Stand.of_body Bd) Bd.exec hZ Bd.bytes hml0 (findClass_of_methodNamed Bd.named) (name_of_methodNamed Bd.named Bd.method).1 Bd.returns Bd.notSynchronized (Fr.nil n0) (by rw [e0]; exact hR) (Nat.zero_le _) (Nat.zero_le _)
  exact ⟨s2, _, castTop (hE m) k1, k2, k3, v, L, rfl, ⟨k4, H', k5, k6⟩, ⟨_, rfl⟩, k7, k8⟩
theorem Con.mono {rm : Room} {as : Array Value} {Q' : Option Value → MH → Prop} (h : Con l Z a0 n0 y code mx ret rm as H Q) (k : ∀ v H', Q v H' → Q' v H') : Con l Z a0 n0 y code mx ret rm as H Q' := by
  intro ws h0 hR p e ha hc hk s m args below hf happ hP hK
  obtain ⟨n, o, q1, q2, q3, v, L, q4, ⟨q5, H', q6, q7⟩, q8⟩ := h ws h0 hR p e ha hc hk s m args below hf happ hP hK
  exact ⟨n, o, q1, q2, q3, v, L, q4, ⟨q5, H', q6, k _ _ q7⟩, q8⟩
theorem WP.mono {Q' : Option Value → MH → Prop} (h : WP l Z a0 n0 R y code mx ret cells slots pc Ls st H Q) (k : ∀ v H', Q v H' → Q' v H') : WP l Z a0 n0 R y code mx ret cells slots pc Ls st H Q' := by
  intro p e s m args below meth c T locs X hx hZ hc hm ho hn hr hl hF hR g1 g2
  obtain ⟨v, H', L, s2, k1, k2, k3, k4, k5, k6, k7⟩ := h p e s m args below meth c T locs X hx hZ hc hm ho hn hr hl hF hR g1 g2
  exact ⟨v, H', L, s2, k1, k2, k3, k4, k5, k _ _ k6, k7⟩

/-- a step that moves the frame alone -/
theorem pure {pc' : Nat} {Ls' : List Slot} {st' : List Value}
    (h : ∀ (p : Program) (e : Env) (m : MethodId) (below : List Frame) (c : Code) (T target : State), At T m c below → p.tables.exec = Jvm.exec → c.code = code → Steps p.tables e below (T.setTop (mkF m pc' ⟨Ls'⟩ st')) target → Steps p.tables e below (T.setTop (mkF m pc ⟨Ls⟩ st)) target)
    (k : WP l Z a0 n0 R y code mx ret cells slots pc' Ls' st' H Q) : WP l Z a0 n0 R y code mx ret cells slots pc Ls st H Q := by
  intro p e s m args below meth c T locs X hx hZ hc hm ho hn hr hl hF hR g1 g2
  obtain ⟨v, H', L, s2, k1, k2⟩ := k p e s m args below meth c T locs X hx hZ hc hm ho hn hr hl hF hR g1 g2
  exact ⟨v, H', L, s2, h p e m below c T s2 X.here hx hc k1, k2⟩
/-- a step that hands back a new state over the same heap -/
theorem stepT {pc' : Nat} {Ls' : List Slot} {st' : List Value}
    (h : ∀ (p : Program) (e : Env) (s : State) (m : MethodId) (args : Array Value) (below : List Frame) (meth : Method) (c : Code) (T : State) (locs : List Loc), Stand p l e R s m args below meth c T locs cells slots → p.tables.exec = Jvm.exec → Z.Warmed39 s.vm → c.code = code → c.maxLocals = mx → s.vm.findClass y.cls = some m.cls → Rel Z a0 n0 H T.heap →
      ∃ T', Stand p l e R s m args below meth c T' locs cells slots ∧ T'.heap = T.heap ∧ ∀ target, Steps p.tables e below (T'.setTop (mkF m pc' ⟨Ls'⟩ st')) target → Steps p.tables e below (T.setTop (mkF m pc ⟨Ls⟩ st)) target)
    (k : WP l Z a0 n0 R y code mx ret cells slots pc' Ls' st' H Q) : WP l Z a0 n0 R y code mx ret cells slots pc Ls st H Q := by
  intro p e s m args below meth c T locs X hx hZ hc hm ho hn hr hl hF hR g1 g2
  obtain ⟨T', X', e', st⟩ := h p e s m args below meth c T locs X hx hZ hc hm ho hR
  obtain ⟨v, H', L, s2, k1, k2⟩ := k p e s m args below meth c T' locs X' hx hZ hc hm ho hn hr hl hF (by rw [e']; exact hR) g1 g2
  exact ⟨v, H', L, s2, st _ k1, k2⟩
/-- a step that writes one place of the cell (a, cl) -/
theorem stepW {pc' : Nat} {Ls' : List Slot} {st' : List Value} {pre post : MH} {a : Addr} {cl cl' : MC}
    (h : ∀ (p : Program) (e : Env) (s : State) (m : MethodId) (args : Array Value) (below : List Frame) (meth : Method) (c : Code) (T : State) (locs : List Loc), Stand p l e R s m args below meth c T locs cells slots → p.tables.exec = Jvm.exec → Z.Warmed39 s.vm → c.code = code → c.maxLocals = mx → s.vm.findClass y.cls = some m.cls → meth.name = y.name → COk Z a0 T.heap a cl →
      ∃ T' h' sl v, Stand p l e R s m args below meth c T' (locs ++ [⟨a, sl⟩]) cells slots ∧ T'.heap = h' ∧ Wr T.heap h' a sl v ∧ (COk Z a0 T.heap a cl → COk Z a0 h' a cl') ∧ ∀ target, Steps p.tables e below (T'.setTop (mkF m pc' ⟨Ls'⟩ st')) target → Steps p.tables e below (T.setTop (mkF m pc ⟨Ls⟩ st)) target)
    (k : WP l Z a0 n0 R y code mx ret cells slots pc' Ls' st' (pre ++ (a, cl') :: post) Q) : WP l Z a0 n0 R y code mx ret cells slots pc Ls st (pre ++ (a, cl) :: post) Q := by
  intro p e s m args below meth c T locs X hx hZ hc hm ho hn hr hl hF hR g1 g2
  have hA := hR.at (k := pre.length) (a := a) (c := cl) (by simp)
  obtain ⟨T', h', sl, v, X', e', W, hco, st⟩ := h p e s m args below meth c T locs X hx hZ hc hm ho hn hA.2
  obtain ⟨v, H', L, s2, k1, k2⟩ := k p e s m args below meth c T' _ X' hx hZ hc hm ho hn hr hl (Fr.snoc X' hF hA.1) (by rw [e']; exact hR.set W hco) g1 g2
  exact ⟨v, H', L, s2, st _ k1, k2⟩

theorem iloadN {k : Fin 4} {v : Int32} {pc' : Nat} (hd : decode code pc = .ok (.iload_n k, 1)) (hl : Ls[k.val]? = some (.val (.int v))) (hp : pc + 1 = pc') (w : WP l Z a0 n0 R y code mx ret cells slots pc' Ls (.int v :: st) H Q) : WP l Z a0 n0 R y code mx ret cells slots pc Ls st H Q := by
  subst hp
  exact pure (fun p e m below c T t h hx hc hs => XS.iloadN h hx rfl (hb hc hd) (by simpa using hl) hs) w
theorem iload {k : Nat} {v : Int32} {pc' : Nat} (hd : decode code pc = .ok (.iload k, 2)) (hl : Ls[k]? = some (.val (.int v))) (hp : pc + 2 = pc') (w : WP l Z a0 n0 R y code mx ret cells slots pc' Ls (.int v :: st) H Q) : WP l Z a0 n0 R y code mx ret cells slots pc Ls st H Q := by
  subst hp
  exact pure (fun p e m below c T t h hx hc hs => XS.iload h hx rfl (hb hc hd) (by simpa using hl) hs) w
theorem lloadN {k : Fin 4} {v : Int64} {pc' : Nat} (hd : decode code pc = .ok (.lload_n k, 1)) (hl : Ls[k.val]? = some (.val (.long v))) (hp : pc + 1 = pc') (w : WP l Z a0 n0 R y code mx ret cells slots pc' Ls (.long v :: st) H Q) : WP l Z a0 n0 R y code mx ret cells slots pc Ls st H Q := by
  subst hp
  exact pure (fun p e m below c T t h hx hc hs => XS.lloadN h hx rfl (hb hc hd) (by simpa using hl) hs) w
theorem lload {k : Nat} {v : Int64} {pc' : Nat} (hd : decode code pc = .ok (.lload k, 2)) (hl : Ls[k]? = some (.val (.long v))) (hp : pc + 2 = pc') (w : WP l Z a0 n0 R y code mx ret cells slots pc' Ls (.long v :: st) H Q) : WP l Z a0 n0 R y code mx ret cells slots pc Ls st H Q := by
  subst hp
  exact pure (fun p e m below c T t h hx hc hs => XS.lload h hx rfl (hb hc hd) (by simpa using hl) hs) w
theorem aloadN {k : Fin 4} {v : Value} {pc' : Nat} (hd : decode code pc = .ok (.aload_n k, 1)) (hl : Ls[k.val]? = some (.val v)) (hv : v.isRef = true) (hp : pc + 1 = pc') (w : WP l Z a0 n0 R y code mx ret cells slots pc' Ls (v :: st) H Q) : WP l Z a0 n0 R y code mx ret cells slots pc Ls st H Q := by
  subst hp
  exact pure (fun p e m below c T t h hx hc hs => XS.aloadN h hx rfl (hb hc hd) (by simpa using hl) hv hs) w
theorem aload {k : Nat} {v : Value} {pc' : Nat} (hd : decode code pc = .ok (.aload k, 2)) (hl : Ls[k]? = some (.val v)) (hv : v.isRef = true) (hp : pc + 2 = pc') (w : WP l Z a0 n0 R y code mx ret cells slots pc' Ls (v :: st) H Q) : WP l Z a0 n0 R y code mx ret cells slots pc Ls st H Q := by
  subst hp
  exact pure (fun p e m below c T t h hx hc hs => XS.aload h hx rfl (hb hc hd) (by simpa using hl) hv hs) w
theorem iconst {i : Int} (n : Int32) {pc' : Nat} (hd : decode code pc = .ok (.iconst i, 1)) (hn : Int32.ofInt i = n) (hp : pc + 1 = pc') (w : WP l Z a0 n0 R y code mx ret cells slots pc' Ls (.int n :: st) H Q) : WP l Z a0 n0 R y code mx ret cells slots pc Ls st H Q := by
  subst hp hn
  exact pure (fun p e m below c T t h hx hc hs => XS.iconst h hx rfl (hb hc hd) hs) w
theorem bipush {i : Int} (n : Int32) {pc' : Nat} (hd : decode code pc = .ok (.bipush i, 2)) (hn : (Int8.ofInt i).toInt32 = n) (hp : pc + 2 = pc') (w : WP l Z a0 n0 R y code mx ret cells slots pc' Ls (.int n :: st) H Q) : WP l Z a0 n0 R y code mx ret cells slots pc Ls st H Q := by
  subst hp hn
  exact pure (fun p e m below c T t h hx hc hs => XS.bipush h hx rfl (hb hc hd) hs) w
theorem iadd {x z : Int32} {pc' : Nat} (hd : decode code pc = .ok (.iadd, 1)) (hp : pc + 1 = pc') (w : WP l Z a0 n0 R y code mx ret cells slots pc' Ls (.int (x + z) :: st) H Q) : WP l Z a0 n0 R y code mx ret cells slots pc Ls (.int z :: .int x :: st) H Q := by
  subst hp
  exact pure (fun p e m below c T t h hx hc hs => XS.iadd h hx rfl (hb hc hd) rfl hs) w
theorem isub {x z : Int32} {pc' : Nat} (hd : decode code pc = .ok (.isub, 1)) (hp : pc + 1 = pc') (w : WP l Z a0 n0 R y code mx ret cells slots pc' Ls (.int (x - z) :: st) H Q) : WP l Z a0 n0 R y code mx ret cells slots pc Ls (.int z :: .int x :: st) H Q := by
  subst hp
  exact pure (fun p e m below c T t h hx hc hs => XS.isub h hx rfl (hb hc hd) rfl hs) w
theorem imul {x z : Int32} {pc' : Nat} (hd : decode code pc = .ok (.imul, 1)) (hp : pc + 1 = pc') (w : WP l Z a0 n0 R y code mx ret cells slots pc' Ls (.int (x * z) :: st) H Q) : WP l Z a0 n0 R y code mx ret cells slots pc Ls (.int z :: .int x :: st) H Q := by
  subst hp
  exact pure (fun p e m below c T t h hx hc hs => XS.imul h hx rfl (hb hc hd) rfl hs) w
theorem iand {x z : Int32} {pc' : Nat} (hd : decode code pc = .ok (.iand, 1)) (hp : pc + 1 = pc') (w : WP l Z a0 n0 R y code mx ret cells slots pc' Ls (.int (x &&& z) :: st) H Q) : WP l Z a0 n0 R y code mx ret cells slots pc Ls (.int z :: .int x :: st) H Q := by
  subst hp
  exact pure (fun p e m below c T t h hx hc hs => XS.iand h hx rfl (hb hc hd) rfl hs) w
theorem iushr {x z : Int32} {pc' : Nat} (hd : decode code pc = .ok (.iushr, 1)) (hp : pc + 1 = pc') (w : WP l Z a0 n0 R y code mx ret cells slots pc' Ls (.int ((x.toUInt32 >>> (z &&& 31).toUInt32).toInt32) :: st) H Q) : WP l Z a0 n0 R y code mx ret cells slots pc Ls (.int z :: .int x :: st) H Q := by
  subst hp
  exact pure (fun p e m below c T t h hx hc hs => XS.iushr h hx rfl (hb hc hd) rfl hs) w
theorem idiv {x z : Int32} {pc' : Nat} (hd : decode code pc = .ok (.idiv, 1)) (hz : z ≠ 0) (hp : pc + 1 = pc') (w : WP l Z a0 n0 R y code mx ret cells slots pc' Ls (.int (x / z) :: st) H Q) : WP l Z a0 n0 R y code mx ret cells slots pc Ls (.int z :: .int x :: st) H Q := by
  subst hp
  exact pure (fun p e m below c T t h hx hc hs => XS.idiv h hx rfl (hb hc hd) rfl hz hs) w
theorem irem {x z : Int32} {pc' : Nat} (hd : decode code pc = .ok (.irem, 1)) (hz : z ≠ 0) (hp : pc + 1 = pc') (w : WP l Z a0 n0 R y code mx ret cells slots pc' Ls (.int (x % z) :: st) H Q) : WP l Z a0 n0 R y code mx ret cells slots pc Ls (.int z :: .int x :: st) H Q := by
  subst hp
  exact pure (fun p e m below c T t h hx hc hs => XS.irem h hx rfl (hb hc hd) rfl hz (by rw [irem_eq_mod]; exact hs)) w
theorem lcmp {x z : Int64} {pc' : Nat} (hd : decode code pc = .ok (.lcmp, 1)) (hp : pc + 1 = pc') (w : WP l Z a0 n0 R y code mx ret cells slots pc' Ls (.int (lcmpW x z) :: st) H Q) : WP l Z a0 n0 R y code mx ret cells slots pc Ls (.long z :: .long x :: st) H Q := by
  subst hp
  exact pure (fun p e m below c T t h hx hc hs => XS.lcmp h hx rfl (hb hc hd) rfl hs) w
theorem dup {v : Value} {pc' : Nat} (hd : decode code pc = .ok (.dup, 1)) (hv : v.category = 1) (hp : pc + 1 = pc') (w : WP l Z a0 n0 R y code mx ret cells slots pc' Ls (v :: v :: st) H Q) : WP l Z a0 n0 R y code mx ret cells slots pc Ls (v :: st) H Q := by
  subst hp
  exact pure (fun p e m below c T t h hx hc hs => XS.dup h hx rfl (hb hc hd) rfl hv hs) w
theorem dupX1 {v u : Value} {pc' : Nat} (hd : decode code pc = .ok (.dup_x1, 1)) (hv : v.category = 1) (hu : u.category = 1) (hp : pc + 1 = pc') (w : WP l Z a0 n0 R y code mx ret cells slots pc' Ls (v :: u :: v :: st) H Q) : WP l Z a0 n0 R y code mx ret cells slots pc Ls (v :: u :: st) H Q := by
  subst hp
  exact pure (fun p e m below c T t h hx hc hs => XS.dupX1 h hx rfl (hb hc hd) rfl hv hu hs) w
theorem goto {o : Int} {pc' : Nat} (hd : decode code pc = .ok (.goto o, 3)) (hp : (pc : Int) + o = (pc' : Int)) (w : WP l Z a0 n0 R y code mx ret cells slots pc' Ls st H Q) : WP l Z a0 n0 R y code mx ret cells slots pc Ls st H Q :=
  pure (fun p e m below c T t h hx hc hs => XS.goto h hx rfl (pc0 := pc) (pc' := pc') rfl (hb hc hd) (by omega) (by omega) hs) w
theorem hI_lt {x z : Int32} : (if_icmp.holds .lt x z = true → x.toInt < z.toInt) ∧ (if_icmp.holds .lt x z = false → z.toInt ≤ x.toInt) := by
  constructor <;> intro hq <;> simp [if_icmp.holds, Int32.lt_iff_toInt_lt, Int32.le_iff_toInt_le] at hq ⊢ <;> first | omega | exact hq | simp_all
theorem icmp_lt {x z : Int32} {o : Int} {pt pf : Nat} (hd : decode code pc = .ok (.if_icmp .lt o, 3)) (hp : (pc : Int) + o = (pt : Int)) (hq : pc + 3 = pf) (wt : x.toInt < z.toInt → WP l Z a0 n0 R y code mx ret cells slots pt Ls st H Q) (wf : z.toInt ≤ x.toInt → WP l Z a0 n0 R y code mx ret cells slots pf Ls st H Q) : WP l Z a0 n0 R y code mx ret cells slots pc Ls (.int z :: .int x :: st) H Q := by
  subst hq
  cases hh : if_icmp.holds .lt x z
  · exact pure (fun p e m below c T t h hx hc hs => XS.icmpNo h hx rfl (hb hc hd) rfl hh hs) (wf (hI_lt.2 hh))
  · exact pure (fun p e m below c T t h hx hc hs => XS.icmpYes h hx rfl (pc0 := pc) (pc' := pt) rfl (hb hc hd) rfl hh (by omega) (by omega) hs) (wt (hI_lt.1 hh))
theorem hZ_lt {x : Int32} : (ifCond.holds .lt x = true → x.toInt < 0) ∧ (ifCond.holds .lt x = false → 0 ≤ x.toInt) := by
  rw [if0]
  exact hI_lt (z := 0)
theorem if_lt {x : Int32} {o : Int} {pt pf : Nat} (hd : decode code pc = .ok (.ifCond .lt o, 3)) (hp : (pc : Int) + o = (pt : Int)) (hq : pc + 3 = pf) (wt : x.toInt < 0 → WP l Z a0 n0 R y code mx ret cells slots pt Ls st H Q) (wf : 0 ≤ x.toInt → WP l Z a0 n0 R y code mx ret cells slots pf Ls st H Q) : WP l Z a0 n0 R y code mx ret cells slots pc Ls (.int x :: st) H Q := by
  subst hq
  cases hh : ifCond.holds .lt x
  · exact pure (fun p e m below c T t h hx hc hs => XS.ifNo h hx rfl (hb hc hd) rfl hh hs) (wf (hZ_lt.2 hh))
  · exact pure (fun p e m below c T t h hx hc hs => XS.ifYes h hx rfl (pc0 := pc) (pc' := pt) rfl (hb hc hd) rfl hh (by omega) (by omega) hs) (wt (hZ_lt.1 hh))
theorem hI_ge {x z : Int32} : (if_icmp.holds .ge x z = true → z.toInt ≤ x.toInt) ∧ (if_icmp.holds .ge x z = false → x.toInt < z.toInt) := by
  constructor <;> intro hq <;> simp [if_icmp.holds, Int32.lt_iff_toInt_lt, Int32.le_iff_toInt_le] at hq ⊢ <;> first | omega | exact hq | simp_all
theorem icmp_ge {x z : Int32} {o : Int} {pt pf : Nat} (hd : decode code pc = .ok (.if_icmp .ge o, 3)) (hp : (pc : Int) + o = (pt : Int)) (hq : pc + 3 = pf) (wt : z.toInt ≤ x.toInt → WP l Z a0 n0 R y code mx ret cells slots pt Ls st H Q) (wf : x.toInt < z.toInt → WP l Z a0 n0 R y code mx ret cells slots pf Ls st H Q) : WP l Z a0 n0 R y code mx ret cells slots pc Ls (.int z :: .int x :: st) H Q := by
  subst hq
  cases hh : if_icmp.holds .ge x z
  · exact pure (fun p e m below c T t h hx hc hs => XS.icmpNo h hx rfl (hb hc hd) rfl hh hs) (wf (hI_ge.2 hh))
  · exact pure (fun p e m below c T t h hx hc hs => XS.icmpYes h hx rfl (pc0 := pc) (pc' := pt) rfl (hb hc hd) rfl hh (by omega) (by omega) hs) (wt (hI_ge.1 hh))
theorem hZ_ge {x : Int32} : (ifCond.holds .ge x = true → 0 ≤ x.toInt) ∧ (ifCond.holds .ge x = false → x.toInt < 0) := by
  rw [if0]
  exact hI_ge (z := 0)
theorem if_ge {x : Int32} {o : Int} {pt pf : Nat} (hd : decode code pc = .ok (.ifCond .ge o, 3)) (hp : (pc : Int) + o = (pt : Int)) (hq : pc + 3 = pf) (wt : 0 ≤ x.toInt → WP l Z a0 n0 R y code mx ret cells slots pt Ls st H Q) (wf : x.toInt < 0 → WP l Z a0 n0 R y code mx ret cells slots pf Ls st H Q) : WP l Z a0 n0 R y code mx ret cells slots pc Ls (.int x :: st) H Q := by
  subst hq
  cases hh : ifCond.holds .ge x
  · exact pure (fun p e m below c T t h hx hc hs => XS.ifNo h hx rfl (hb hc hd) rfl hh hs) (wf (hZ_ge.2 hh))
  · exact pure (fun p e m below c T t h hx hc hs => XS.ifYes h hx rfl (pc0 := pc) (pc' := pt) rfl (hb hc hd) rfl hh (by omega) (by omega) hs) (wt (hZ_ge.1 hh))
theorem lcmp_ge {x z : Int64} {o : Int} {pt pf p1 : Nat} (hd : decode code pc = .ok (.lcmp, 1)) (h1 : pc + 1 = p1) (he : decode code p1 = .ok (.ifCond .ge o, 3)) (hp : (p1 : Int) + o = (pt : Int)) (hq : p1 + 3 = pf) (wt : z.toInt ≤ x.toInt → WP l Z a0 n0 R y code mx ret cells slots pt Ls st H Q) (wf : x.toInt < z.toInt → WP l Z a0 n0 R y code mx ret cells slots pf Ls st H Q) : WP l Z a0 n0 R y code mx ret cells slots pc Ls (.long z :: .long x :: st) H Q :=
  lcmp hd h1 (if_ge he hp hq (fun q => wt ((by obtain ⟨k1, k2, k3⟩ := c_lcmp x z; omega))) fun q => wf ((by obtain ⟨k1, k2, k3⟩ := c_lcmp x z; omega)))
theorem hI_gt {x z : Int32} : (if_icmp.holds .gt x z = true → z.toInt < x.toInt) ∧ (if_icmp.holds .gt x z = false → x.toInt ≤ z.toInt) := by
  constructor <;> intro hq <;> simp [if_icmp.holds, Int32.lt_iff_toInt_lt, Int32.le_iff_toInt_le] at hq ⊢ <;> first | omega | exact hq | simp_all
theorem icmp_gt {x z : Int32} {o : Int} {pt pf : Nat} (hd : decode code pc = .ok (.if_icmp .gt o, 3)) (hp : (pc : Int) + o = (pt : Int)) (hq : pc + 3 = pf) (wt : z.toInt < x.toInt → WP l Z a0 n0 R y code mx ret cells slots pt Ls st H Q) (wf : x.toInt ≤ z.toInt → WP l Z a0 n0 R y code mx ret cells slots pf Ls st H Q) : WP l Z a0 n0 R y code mx ret cells slots pc Ls (.int z :: .int x :: st) H Q := by
  subst hq
  cases hh : if_icmp.holds .gt x z
  · exact pure (fun p e m below c T t h hx hc hs => XS.icmpNo h hx rfl (hb hc hd) rfl hh hs) (wf (hI_gt.2 hh))
  · exact pure (fun p e m below c T t h hx hc hs => XS.icmpYes h hx rfl (pc0 := pc) (pc' := pt) rfl (hb hc hd) rfl hh (by omega) (by omega) hs) (wt (hI_gt.1 hh))
theorem hZ_gt {x : Int32} : (ifCond.holds .gt x = true → 0 < x.toInt) ∧ (ifCond.holds .gt x = false → x.toInt ≤ 0) := by
  rw [if0]
  exact hI_gt (z := 0)
theorem if_gt {x : Int32} {o : Int} {pt pf : Nat} (hd : decode code pc = .ok (.ifCond .gt o, 3)) (hp : (pc : Int) + o = (pt : Int)) (hq : pc + 3 = pf) (wt : 0 < x.toInt → WP l Z a0 n0 R y code mx ret cells slots pt Ls st H Q) (wf : x.toInt ≤ 0 → WP l Z a0 n0 R y code mx ret cells slots pf Ls st H Q) : WP l Z a0 n0 R y code mx ret cells slots pc Ls (.int x :: st) H Q := by
  subst hq
  cases hh : ifCond.holds .gt x
  · exact pure (fun p e m below c T t h hx hc hs => XS.ifNo h hx rfl (hb hc hd) rfl hh hs) (wf (hZ_gt.2 hh))
  · exact pure (fun p e m below c T t h hx hc hs => XS.ifYes h hx rfl (pc0 := pc) (pc' := pt) rfl (hb hc hd) rfl hh (by omega) (by omega) hs) (wt (hZ_gt.1 hh))
theorem lcmp_gt {x z : Int64} {o : Int} {pt pf p1 : Nat} (hd : decode code pc = .ok (.lcmp, 1)) (h1 : pc + 1 = p1) (he : decode code p1 = .ok (.ifCond .gt o, 3)) (hp : (p1 : Int) + o = (pt : Int)) (hq : p1 + 3 = pf) (wt : z.toInt < x.toInt → WP l Z a0 n0 R y code mx ret cells slots pt Ls st H Q) (wf : x.toInt ≤ z.toInt → WP l Z a0 n0 R y code mx ret cells slots pf Ls st H Q) : WP l Z a0 n0 R y code mx ret cells slots pc Ls (.long z :: .long x :: st) H Q :=
  lcmp hd h1 (if_gt he hp hq (fun q => wt ((by obtain ⟨k1, k2, k3⟩ := c_lcmp x z; omega))) fun q => wf ((by obtain ⟨k1, k2, k3⟩ := c_lcmp x z; omega)))
theorem hI_le {x z : Int32} : (if_icmp.holds .le x z = true → x.toInt ≤ z.toInt) ∧ (if_icmp.holds .le x z = false → z.toInt < x.toInt) := by
  constructor <;> intro hq <;> simp [if_icmp.holds, Int32.lt_iff_toInt_lt, Int32.le_iff_toInt_le] at hq ⊢ <;> first | omega | exact hq | simp_all
theorem hZ_le {x : Int32} : (ifCond.holds .le x = true → x.toInt ≤ 0) ∧ (ifCond.holds .le x = false → 0 < x.toInt) := by
  rw [if0]
  exact hI_le (z := 0)
theorem if_le {x : Int32} {o : Int} {pt pf : Nat} (hd : decode code pc = .ok (.ifCond .le o, 3)) (hp : (pc : Int) + o = (pt : Int)) (hq : pc + 3 = pf) (wt : x.toInt ≤ 0 → WP l Z a0 n0 R y code mx ret cells slots pt Ls st H Q) (wf : 0 < x.toInt → WP l Z a0 n0 R y code mx ret cells slots pf Ls st H Q) : WP l Z a0 n0 R y code mx ret cells slots pc Ls (.int x :: st) H Q := by
  subst hq
  cases hh : ifCond.holds .le x
  · exact pure (fun p e m below c T t h hx hc hs => XS.ifNo h hx rfl (hb hc hd) rfl hh hs) (wf (hZ_le.2 hh))
  · exact pure (fun p e m below c T t h hx hc hs => XS.ifYes h hx rfl (pc0 := pc) (pc' := pt) rfl (hb hc hd) rfl hh (by omega) (by omega) hs) (wt (hZ_le.1 hh))
theorem hI_eq {x z : Int32} : (if_icmp.holds .eq x z = true → x = z) ∧ (if_icmp.holds .eq x z = false → ¬ x = z) := by
  constructor <;> intro hq <;> simp [if_icmp.holds, Int32.lt_iff_toInt_lt, Int32.le_iff_toInt_le] at hq ⊢ <;> first | omega | exact hq | simp_all
theorem hZ_eq {x : Int32} : (ifCond.holds .eq x = true → x = 0) ∧ (ifCond.holds .eq x = false → ¬ x = 0) := by
  rw [if0]
  exact hI_eq (z := 0)
theorem if_eq {x : Int32} {o : Int} {pt pf : Nat} (hd : decode code pc = .ok (.ifCond .eq o, 3)) (hp : (pc : Int) + o = (pt : Int)) (hq : pc + 3 = pf) (wt : x = 0 → WP l Z a0 n0 R y code mx ret cells slots pt Ls st H Q) (wf : ¬ x = 0 → WP l Z a0 n0 R y code mx ret cells slots pf Ls st H Q) : WP l Z a0 n0 R y code mx ret cells slots pc Ls (.int x :: st) H Q := by
  subst hq
  cases hh : ifCond.holds .eq x
  · exact pure (fun p e m below c T t h hx hc hs => XS.ifNo h hx rfl (hb hc hd) rfl hh hs) (wf (hZ_eq.2 hh))
  · exact pure (fun p e m below c T t h hx hc hs => XS.ifYes h hx rfl (pc0 := pc) (pc' := pt) rfl (hb hc hd) rfl hh (by omega) (by omega) hs) (wt (hZ_eq.1 hh))
theorem hI_ne {x z : Int32} : (if_icmp.holds .ne x z = true → ¬ x = z) ∧ (if_icmp.holds .ne x z = false → x = z) := by
  constructor <;> intro hq <;> simp [if_icmp.holds, Int32.lt_iff_toInt_lt, Int32.le_iff_toInt_le] at hq ⊢ <;> first | omega | exact hq | simp_all
theorem icmp_ne {x z : Int32} {o : Int} {pt pf : Nat} (hd : decode code pc = .ok (.if_icmp .ne o, 3)) (hp : (pc : Int) + o = (pt : Int)) (hq : pc + 3 = pf) (wt : ¬ x = z → WP l Z a0 n0 R y code mx ret cells slots pt Ls st H Q) (wf : x = z → WP l Z a0 n0 R y code mx ret cells slots pf Ls st H Q) : WP l Z a0 n0 R y code mx ret cells slots pc Ls (.int z :: .int x :: st) H Q := by
  subst hq
  cases hh : if_icmp.holds .ne x z
  · exact pure (fun p e m below c T t h hx hc hs => XS.icmpNo h hx rfl (hb hc hd) rfl hh hs) (wf (hI_ne.2 hh))
  · exact pure (fun p e m below c T t h hx hc hs => XS.icmpYes h hx rfl (pc0 := pc) (pc' := pt) rfl (hb hc hd) rfl hh (by omega) (by omega) hs) (wt (hI_ne.1 hh))
theorem hZ_ne {x : Int32} : (ifCond.holds .ne x = true → ¬ x = 0) ∧ (ifCond.holds .ne x = false → x = 0) := by
  rw [if0]
  exact hI_ne (z := 0)
theorem if_ne {x : Int32} {o : Int} {pt pf : Nat} (hd : decode code pc = .ok (.ifCond .ne o, 3)) (hp : (pc : Int) + o = (pt : Int)) (hq : pc + 3 = pf) (wt : ¬ x = 0 → WP l Z a0 n0 R y code mx ret cells slots pt Ls st H Q) (wf : x = 0 → WP l Z a0 n0 R y code mx ret cells slots pf Ls st H Q) : WP l Z a0 n0 R y code mx ret cells slots pc Ls (.int x :: st) H Q := by
  subst hq
  cases hh : ifCond.holds .ne x
  · exact pure (fun p e m below c T t h hx hc hs => XS.ifNo h hx rfl (hb hc hd) rfl hh hs) (wf (hZ_ne.2 hh))
  · exact pure (fun p e m below c T t h hx hc hs => XS.ifYes h hx rfl (pc0 := pc) (pc' := pt) rfl (hb hc hd) rfl hh (by omega) (by omega) hs) (wt (hZ_ne.1 hh))
def ok1 : Slot → Bool
  | .unset => true
  | .val v => v.category == 1
  | .second => false
theorem stl1 (pre : List Slot) {o : Slot} {t : List Slot} {v : Value} (ho : ok1 o = true) (hv : v.category = 1) : storeLocals ⟨pre ++ o :: t⟩ pre.length v = some ⟨pre ++ .val v :: t⟩ := by
  have hg : (⟨pre ++ o :: t⟩ : Array Slot)[pre.length]? = some o := by simp
  have hs : storeSelf (⟨pre ++ o :: t⟩ : Array Slot) pre.length v = some ⟨pre ++ .val v :: t⟩ := by
    simp [storeSelf, setAt, hv, Array.setIfInBounds]
  cases o with
  | unset => simp only [storeLocals, hg]; exact hs
  | second => cases ho
  | val w =>
    have hw : ¬ w.category = 2 := by simp only [ok1, beq_iff_eq] at ho; omega
    simp only [storeLocals, hg]
    show (if w.category = 2 then _ else _) = _
    rw [if_neg hw]; exact hs
theorem istoreN_1 {s0 : Slot} {o : Slot} {t : List Slot} {x : Int32} {pc' : Nat} (hd : decode code pc = .ok (.istore_n 1, 1)) (ho : ok1 o = true) (hp : pc + 1 = pc') (w : WP l Z a0 n0 R y code mx ret cells slots pc' (s0 :: .val (.int x) :: t) st H Q) : WP l Z a0 n0 R y code mx ret cells slots pc (s0 :: o :: t) (.int x :: st) H Q := by
  subst hp
  exact pure (fun p e m below c T t h hx hc' hs => XS.istoreN h hx rfl (hb hc' hd) rfl (stl1 [s0] ho rfl) hs) w
theorem istoreN_2 {s0 s1 : Slot} {o : Slot} {t : List Slot} {x : Int32} {pc' : Nat} (hd : decode code pc = .ok (.istore_n 2, 1)) (ho : ok1 o = true) (hp : pc + 1 = pc') (w : WP l Z a0 n0 R y code mx ret cells slots pc' (s0 :: s1 :: .val (.int x) :: t) st H Q) : WP l Z a0 n0 R y code mx ret cells slots pc (s0 :: s1 :: o :: t) (.int x :: st) H Q := by
  subst hp
  exact pure (fun p e m below c T t h hx hc' hs => XS.istoreN h hx rfl (hb hc' hd) rfl (stl1 [s0, s1] ho rfl) hs) w
theorem iinc_2 {s0 s1 : Slot} {t : List Slot} {x : Int32} {i : Int} (n : Int32) {pc' : Nat} (hd : decode code pc = .ok (.iinc 2 i, 3)) (hn : Int32.ofInt i = n) (hp : pc + 3 = pc') (w : WP l Z a0 n0 R y code mx ret cells slots pc' (s0 :: s1 :: .val (.int (x + n)) :: t) st H Q) : WP l Z a0 n0 R y code mx ret cells slots pc (s0 :: s1 :: .val (.int x) :: t) st H Q := by
  subst hp hn
  exact pure (fun p e m below c T t h hx hc' hs => XS.iinc h hx rfl (hb hc' hd) rfl (stl1 [s0, s1] rfl rfl) hs) w
theorem istoreN_3 {s0 s1 s2 : Slot} {o : Slot} {t : List Slot} {x : Int32} {pc' : Nat} (hd : decode code pc = .ok (.istore_n 3, 1)) (ho : ok1 o = true) (hp : pc + 1 = pc') (w : WP l Z a0 n0 R y code mx ret cells slots pc' (s0 :: s1 :: s2 :: .val (.int x) :: t) st H Q) : WP l Z a0 n0 R y code mx ret cells slots pc (s0 :: s1 :: s2 :: o :: t) (.int x :: st) H Q := by
  subst hp
  exact pure (fun p e m below c T t h hx hc' hs => XS.istoreN h hx rfl (hb hc' hd) rfl (stl1 [s0, s1, s2] ho rfl) hs) w
theorem iinc_3 {s0 s1 s2 : Slot} {t : List Slot} {x : Int32} {i : Int} (n : Int32) {pc' : Nat} (hd : decode code pc = .ok (.iinc 3 i, 3)) (hn : Int32.ofInt i = n) (hp : pc + 3 = pc') (w : WP l Z a0 n0 R y code mx ret cells slots pc' (s0 :: s1 :: s2 :: .val (.int (x + n)) :: t) st H Q) : WP l Z a0 n0 R y code mx ret cells slots pc (s0 :: s1 :: s2 :: .val (.int x) :: t) st H Q := by
  subst hp hn
  exact pure (fun p e m below c T t h hx hc' hs => XS.iinc h hx rfl (hb hc' hd) rfl (stl1 [s0, s1, s2] rfl rfl) hs) w
theorem istore_4 {s0 s1 s2 s3 : Slot} {o : Slot} {t : List Slot} {x : Int32} {pc' : Nat} (hd : decode code pc = .ok (.istore 4, 2)) (ho : ok1 o = true) (hp : pc + 2 = pc') (w : WP l Z a0 n0 R y code mx ret cells slots pc' (s0 :: s1 :: s2 :: s3 :: .val (.int x) :: t) st H Q) : WP l Z a0 n0 R y code mx ret cells slots pc (s0 :: s1 :: s2 :: s3 :: o :: t) (.int x :: st) H Q := by
  subst hp
  exact pure (fun p e m below c T t h hx hc' hs => XS.istore h hx rfl (hb hc' hd) rfl (stl1 [s0, s1, s2, s3] ho rfl) hs) w
theorem astore_7 {s0 s1 s2 s3 s4 s5 s6 : Slot} {o : Slot} {t : List Slot} {v : Value} {pc' : Nat} (hd : decode code pc = .ok (.astore 7, 2)) (hv : v.isRef = true) (hc : v.category = 1) (ho : ok1 o = true) (hp : pc + 2 = pc') (w : WP l Z a0 n0 R y code mx ret cells slots pc' (s0 :: s1 :: s2 :: s3 :: s4 :: s5 :: s6 :: .val (v) :: t) st H Q) : WP l Z a0 n0 R y code mx ret cells slots pc (s0 :: s1 :: s2 :: s3 :: s4 :: s5 :: s6 :: o :: t) (v :: st) H Q := by
  subst hp
  exact pure (fun p e m below c T t h hx hc' hs => XS.astore h hx rfl (hb hc' hd) rfl hv (stl1 [s0, s1, s2, s3, s4, s5, s6] ho hc) hs) w
theorem astore_8 {s0 s1 s2 s3 s4 s5 s6 s7 : Slot} {o : Slot} {t : List Slot} {v : Value} {pc' : Nat} (hd : decode code pc = .ok (.astore 8, 2)) (hv : v.isRef = true) (hc : v.category = 1) (ho : ok1 o = true) (hp : pc + 2 = pc') (w : WP l Z a0 n0 R y code mx ret cells slots pc' (s0 :: s1 :: s2 :: s3 :: s4 :: s5 :: s6 :: s7 :: .val (v) :: t) st H Q) : WP l Z a0 n0 R y code mx ret cells slots pc (s0 :: s1 :: s2 :: s3 :: s4 :: s5 :: s6 :: s7 :: o :: t) (v :: st) H Q := by
  subst hp
  exact pure (fun p e m below c T t h hx hc' hs => XS.astore h hx rfl (hb hc' hd) rfl hv (stl1 [s0, s1, s2, s3, s4, s5, s6, s7] ho hc) hs) w
theorem astore_9 {s0 s1 s2 s3 s4 s5 s6 s7 s8 : Slot} {o : Slot} {t : List Slot} {v : Value} {pc' : Nat} (hd : decode code pc = .ok (.astore 9, 2)) (hv : v.isRef = true) (hc : v.category = 1) (ho : ok1 o = true) (hp : pc + 2 = pc') (w : WP l Z a0 n0 R y code mx ret cells slots pc' (s0 :: s1 :: s2 :: s3 :: s4 :: s5 :: s6 :: s7 :: s8 :: .val (v) :: t) st H Q) : WP l Z a0 n0 R y code mx ret cells slots pc (s0 :: s1 :: s2 :: s3 :: s4 :: s5 :: s6 :: s7 :: s8 :: o :: t) (v :: st) H Q := by
  subst hp
  exact pure (fun p e m below c T t h hx hc' hs => XS.astore h hx rfl (hb hc' hd) rfl hv (stl1 [s0, s1, s2, s3, s4, s5, s6, s7, s8] ho hc) hs) w
theorem getfield {i : Nat} {C n d : String} {a : Addr} {v : Value} {fs : List (String × String × Value)} {pc' : Nat} (k j : Nat) (hw : (Cond.fieldLink y.cls i C n d).before a0 Z = true) (hd : decode code pc = .ok (.getfield i, 3)) (hk : H[k]? = some (a, .inr (C, fs))) (hj : fs[j]? = some (n, d, v)) (hp : pc + 3 = pc') (w : WP l Z a0 n0 R y code mx ret cells slots pc' Ls (v :: st) H Q) : WP l Z a0 n0 R y code mx ret cells slots pc Ls (.ref a :: st) H Q := by
  subst hp
  exact stepT (fun p e s m args below meth c T locs X hx hZ hc hm ho hR => by
    have F := ((hR.at hk).2.2.2 _ (List.mem_of_getElem? hj)).1
    exact getF X hx hZ ho (host := "") (Or.inl hw) Via.refl rfl F (g := mkF m pc ⟨Ls⟩ (.ref a :: st)) rfl rfl (hb hc hd)) w
theorem arraylength {ty : FieldType} {a : Addr} {vs : List Value} {pc' : Nat} (k : Nat) (n : Int32) (hd : decode code pc = .ok (.arraylength, 1)) (hk : H[k]? = some (a, .inl (ty, vs))) (hn : Int32.ofNat vs.length = n) (hp : pc + 1 = pc') (w : WP l Z a0 n0 R y code mx ret cells slots pc' Ls (.int n :: st) H Q) : WP l Z a0 n0 R y code mx ret cells slots pc Ls (.ref a :: st) H Q := by
  subst hp hn
  exact stepT (fun p e s m args below meth c T locs X hx hZ hc hm ho hR => ⟨T, X, rfl, fun target hs => by
    obtain ⟨cl, A, q1, q2⟩ := (hR.at hk).2
    refine X.arraylength hx A.1 (State.isArrayOf_alike hZ.alike A.2.1) (g := mkF m pc ⟨Ls⟩ (.ref a :: st)) rfl rfl (hb hc hd) _ ?_
    rw [q1, List.size_toArray]; exact hs⟩) w
theorem iaload {a : Addr} {vs : List Value} {j : Int32} {v : Value} {pc' : Nat} (k i : Nat) (hd : decode code pc = .ok (.iaload, 1)) (hk : H[k]? = some (a, .inl (.int, vs))) (hj : j.toInt = (i : Int)) (hv : vs[i]? = some v) (hp : pc + 1 = pc') (w : WP l Z a0 n0 R y code mx ret cells slots pc' Ls (v :: st) H Q) : WP l Z a0 n0 R y code mx ret cells slots pc Ls (.int j :: .ref a :: st) H Q := by
  subst hp
  exact stepT (fun p e s m args below meth c T locs X hx hZ hc hm ho hR => ⟨T, X, rfl, fun target hs => by
    obtain ⟨cl, A, q1, q2⟩ := (hR.at hk).2
    have q3 : j.toNatClampNeg = i := idx_eq hj
    have q4 : cl.slots[j.toNatClampNeg]? = some v := by rw [q1, q3]; simpa using hv
    exact X.iaload hx A.1 (State.isArrayOf_alike hZ.alike A.2.1) A.2.2 (idx_ok hj (by rw [q1, List.size_toArray]; exact (List.getElem?_eq_some_iff.mp hv).1)) q4 (g := mkF m pc ⟨Ls⟩ (.int j :: .ref a :: st)) rfl rfl (hb hc hd) _ hs⟩) w
theorem laload {a : Addr} {vs : List Value} {j : Int32} {v : Value} {pc' : Nat} (k i : Nat) (hd : decode code pc = .ok (.laload, 1)) (hk : H[k]? = some (a, .inl (.long, vs))) (hj : j.toInt = (i : Int)) (hv : vs[i]? = some v) (hp : pc + 1 = pc') (w : WP l Z a0 n0 R y code mx ret cells slots pc' Ls (v :: st) H Q) : WP l Z a0 n0 R y code mx ret cells slots pc Ls (.int j :: .ref a :: st) H Q := by
  subst hp
  exact stepT (fun p e s m args below meth c T locs X hx hZ hc hm ho hR => ⟨T, X, rfl, fun target hs => by
    obtain ⟨cl, A, q1, q2⟩ := (hR.at hk).2
    have q3 : j.toNatClampNeg = i := idx_eq hj
    have q4 : cl.slots[j.toNatClampNeg]? = some v := by rw [q1, q3]; simpa using hv
    exact X.laload hx A.1 (State.isArrayOf_alike hZ.alike A.2.1) A.2.2 (idx_ok hj (by rw [q1, List.size_toArray]; exact (List.getElem?_eq_some_iff.mp hv).1)) q4 (g := mkF m pc ⟨Ls⟩ (.int j :: .ref a :: st)) rfl rfl (hb hc hd) _ hs⟩) w
theorem baload {a : Addr} {vs : List Value} {j : Int32} {v : Value} {pc' : Nat} (k i : Nat) (hd : decode code pc = .ok (.baload, 1)) (hk : H[k]? = some (a, .inl (.byte, vs))) (hj : j.toInt = (i : Int)) (hv : vs[i]? = some v) (hp : pc + 1 = pc') (w : WP l Z a0 n0 R y code mx ret cells slots pc' Ls (v :: st) H Q) : WP l Z a0 n0 R y code mx ret cells slots pc Ls (.int j :: .ref a :: st) H Q := by
  subst hp
  exact stepT (fun p e s m args below meth c T locs X hx hZ hc hm ho hR => ⟨T, X, rfl, fun target hs => by
    obtain ⟨cl, A, q1, q2⟩ := (hR.at hk).2
    have q3 : j.toNatClampNeg = i := idx_eq hj
    have q4 : cl.slots[j.toNatClampNeg]? = some v := by rw [q1, q3]; simpa using hv
    exact X.baloadBytes hx A.1 (State.isArrayOf_alike hZ.alike A.2.1) A.2.2 (idx_ok hj (by rw [q1, List.size_toArray]; exact (List.getElem?_eq_some_iff.mp hv).1)) q4 (g := mkF m pc ⟨Ls⟩ (.int j :: .ref a :: st)) rfl rfl (hb hc hd) _ hs⟩) w
theorem baloadZ {a : Addr} {vs : List Value} {j : Int32} {v : Value} {pc' : Nat} (k i : Nat) (hd : decode code pc = .ok (.baload, 1)) (hk : H[k]? = some (a, .inl (.boolean, vs))) (hj : j.toInt = (i : Int)) (hv : vs[i]? = some v) (hp : pc + 1 = pc') (w : WP l Z a0 n0 R y code mx ret cells slots pc' Ls (v :: st) H Q) : WP l Z a0 n0 R y code mx ret cells slots pc Ls (.int j :: .ref a :: st) H Q := by
  subst hp
  exact stepT (fun p e s m args below meth c T locs X hx hZ hc hm ho hR => ⟨T, X, rfl, fun target hs => by
    obtain ⟨cl, A, q1, q2⟩ := (hR.at hk).2
    have q3 : j.toNatClampNeg = i := idx_eq hj
    have q4 : cl.slots[j.toNatClampNeg]? = some v := by rw [q1, q3]; simpa using hv
    exact X.baloadBooleans hx A.1 (State.isArrayOf_alike hZ.alike A.2.1) A.2.2 (idx_ok hj (by rw [q1, List.size_toArray]; exact (List.getElem?_eq_some_iff.mp hv).1)) q4 (g := mkF m pc ⟨Ls⟩ (.int j :: .ref a :: st)) rfl rfl (hb hc hd) _ hs⟩) w
theorem iastoreG (pre : MH) {post : MH} {a : Addr} {vs : List Value} {j : Int32} {x : Int32} {pc' : Nat} (i : Nat) (hd : decode code pc = .ok (.iastore, 1)) (hj : j.toInt = (i : Int)) (hi : i < vs.length) (hp : pc + 1 = pc') (w : WP l Z a0 n0 R y code mx ret cells slots pc' Ls st (pre ++ (a, .inl (.int, vs.set i (.int x))) :: post) Q) : WP l Z a0 n0 R y code mx ret cells slots pc Ls ((.int x) :: .int j :: .ref a :: st) (pre ++ (a, .inl (.int, vs)) :: post) Q := by
  subst hp
  exact stepW (pre := pre) (fun p e s m args below meth c T locs X hx hZ hc hm ho hn hR => by
    obtain ⟨cl, A, q1, q2⟩ := hR
    have q3 : j.toNatClampNeg = i := idx_eq hj
    obtain ⟨T', h', X', e', W, st⟩ := stI X hx hZ rfl A (x := x) (idx_ok hj (by rw [q1, List.size_toArray]; exact hi)) (g := mkF m pc ⟨Ls⟩ ((.int x) :: .int j :: .ref a :: st)) rfl rfl (hb hc hd)
    rw [q3] at W X'
    exact ⟨T', h', _, _, X', e', W, fun k => k.setArr W, st⟩) w
theorem iastore_0 {post : MH} {a : Addr} {vs : List Value} {j : Int32} {x : Int32} {pc' : Nat} (i : Nat) (hd : decode code pc = .ok (.iastore, 1)) (hj : j.toInt = (i : Int)) (hi : i < vs.length) (hp : pc + 1 = pc') (w : WP l Z a0 n0 R y code mx ret cells slots pc' Ls st ((a, .inl (.int, vs.set i (.int x))) :: post) Q) : WP l Z a0 n0 R y code mx ret cells slots pc Ls ((.int x) :: .int j :: .ref a :: st) ((a, .inl (.int, vs)) :: post) Q := iastoreG [] i hd hj hi hp w
theorem iastore_1 {c0 : Addr × MC} {post : MH} {a : Addr} {vs : List Value} {j : Int32} {x : Int32} {pc' : Nat} (i : Nat) (hd : decode code pc = .ok (.iastore, 1)) (hj : j.toInt = (i : Int)) (hi : i < vs.length) (hp : pc + 1 = pc') (w : WP l Z a0 n0 R y code mx ret cells slots pc' Ls st (c0 :: (a, .inl (.int, vs.set i (.int x))) :: post) Q) : WP l Z a0 n0 R y code mx ret cells slots pc Ls ((.int x) :: .int j :: .ref a :: st) (c0 :: (a, .inl (.int, vs)) :: post) Q := iastoreG [c0] i hd hj hi hp w
theorem iastore_2 {c0 c1 : Addr × MC} {post : MH} {a : Addr} {vs : List Value} {j : Int32} {x : Int32} {pc' : Nat} (i : Nat) (hd : decode code pc = .ok (.iastore, 1)) (hj : j.toInt = (i : Int)) (hi : i < vs.length) (hp : pc + 1 = pc') (w : WP l Z a0 n0 R y code mx ret cells slots pc' Ls st (c0 :: c1 :: (a, .inl (.int, vs.set i (.int x))) :: post) Q) : WP l Z a0 n0 R y code mx ret cells slots pc Ls ((.int x) :: .int j :: .ref a :: st) (c0 :: c1 :: (a, .inl (.int, vs)) :: post) Q := iastoreG [c0, c1] i hd hj hi hp w
theorem lastoreG (pre : MH) {post : MH} {a : Addr} {vs : List Value} {j : Int32} {x : Int64} {pc' : Nat} (i : Nat) (hd : decode code pc = .ok (.lastore, 1)) (hj : j.toInt = (i : Int)) (hi : i < vs.length) (hp : pc + 1 = pc') (w : WP l Z a0 n0 R y code mx ret cells slots pc' Ls st (pre ++ (a, .inl (.long, vs.set i (.long x))) :: post) Q) : WP l Z a0 n0 R y code mx ret cells slots pc Ls ((.long x) :: .int j :: .ref a :: st) (pre ++ (a, .inl (.long, vs)) :: post) Q := by
  subst hp
  exact stepW (pre := pre) (fun p e s m args below meth c T locs X hx hZ hc hm ho hn hR => by
    obtain ⟨cl, A, q1, q2⟩ := hR
    have q3 : j.toNatClampNeg = i := idx_eq hj
    obtain ⟨T', h', X', e', W, st⟩ := stJ X hx hZ rfl A (x := x) (idx_ok hj (by rw [q1, List.size_toArray]; exact hi)) (g := mkF m pc ⟨Ls⟩ ((.long x) :: .int j :: .ref a :: st)) rfl rfl (hb hc hd)
    rw [q3] at W X'
    exact ⟨T', h', _, _, X', e', W, fun k => k.setArr W, st⟩) w
theorem lastore_0 {post : MH} {a : Addr} {vs : List Value} {j : Int32} {x : Int64} {pc' : Nat} (i : Nat) (hd : decode code pc = .ok (.lastore, 1)) (hj : j.toInt = (i : Int)) (hi : i < vs.length) (hp : pc + 1 = pc') (w : WP l Z a0 n0 R y code mx ret cells slots pc' Ls st ((a, .inl (.long, vs.set i (.long x))) :: post) Q) : WP l Z a0 n0 R y code mx ret cells slots pc Ls ((.long x) :: .int j :: .ref a :: st) ((a, .inl (.long, vs)) :: post) Q := lastoreG [] i hd hj hi hp w
theorem bastoreZG (pre : MH) {post : MH} {a : Addr} {vs : List Value} {j : Int32} {x : Int32} {pc' : Nat} (i : Nat) (hd : decode code pc = .ok (.bastore, 1)) (hj : j.toInt = (i : Int)) (hi : i < vs.length) (hp : pc + 1 = pc') (w : WP l Z a0 n0 R y code mx ret cells slots pc' Ls st (pre ++ (a, .inl (.boolean, vs.set i (.int (x &&& 1)))) :: post) Q) : WP l Z a0 n0 R y code mx ret cells slots pc Ls ((.int x) :: .int j :: .ref a :: st) (pre ++ (a, .inl (.boolean, vs)) :: post) Q := by
  subst hp
  exact stepW (pre := pre) (fun p e s m args below meth c T locs X hx hZ hc hm ho hn hR => by
    obtain ⟨cl, A, q1, q2⟩ := hR
    have q3 : j.toNatClampNeg = i := idx_eq hj
    obtain ⟨T', h', X', e', W, st⟩ := stZ X hx hZ rfl A (x := x) (idx_ok hj (by rw [q1, List.size_toArray]; exact hi)) (g := mkF m pc ⟨Ls⟩ ((.int x) :: .int j :: .ref a :: st)) rfl rfl (hb hc hd)
    rw [q3] at W X'
    exact ⟨T', h', _, _, X', e', W, fun k => k.setArr W, st⟩) w
theorem bastoreZ_0 {post : MH} {a : Addr} {vs : List Value} {j : Int32} {x : Int32} {pc' : Nat} (i : Nat) (hd : decode code pc = .ok (.bastore, 1)) (hj : j.toInt = (i : Int)) (hi : i < vs.length) (hp : pc + 1 = pc') (w : WP l Z a0 n0 R y code mx ret cells slots pc' Ls st ((a, .inl (.boolean, vs.set i (.int (x &&& 1)))) :: post) Q) : WP l Z a0 n0 R y code mx ret cells slots pc Ls ((.int x) :: .int j :: .ref a :: st) ((a, .inl (.boolean, vs)) :: post) Q := bastoreZG [] i hd hj hi hp w
theorem putfieldG (pre : MH) (fpre : List (String × String × Value)) {post : MH} {fpost : List (String × String × Value)} {i kk : Nat} {C n d : String} {a : Addr} {v u : Value} {ty : FieldType} {pc' : Nat} (hw : (Cond.fieldLink y.cls i C n d).before a0 Z = true) (hL : (Cond.lays C C n d).before a0 Z = true ∨ ((Cond.laysFinal C C n d).before a0 Z = true ∧ y.cls = C ∧ y.name = "<init>")) (hI : (Cond.instantiable C kk).before a0 Z = true) (hty : parseFieldDescriptor d = some ty) (hn : narrow ty v = v) (hf : fits ty v = true) (hd : decode code pc = .ok (.putfield i, 3)) (hp : pc + 3 = pc') (w : WP l Z a0 n0 R y code mx ret cells slots pc' Ls st (pre ++ (a, .inr (C, fpre ++ (n, d, v) :: fpost)) :: post) Q) : WP l Z a0 n0 R y code mx ret cells slots pc Ls (v :: .ref a :: st) (pre ++ (a, .inr (C, fpre ++ (n, d, u) :: fpost)) :: post) Q := by
  subst hp
  exact stepW (pre := pre) (fun p e s m args below meth c T locs X hx hZ hc hm ho hnm hR => by
    have F := (hR.2.2 (n, d, u) (by simp)).1
    obtain ⟨T', h', X', e', W, st⟩ := putF X hx hZ ho (host := "") (Or.inl hw) Via.refl rfl F hR.1 (hL.imp id fun q => ⟨q.1, q.2.1, hnm.trans q.2.2⟩) hI hty hn hf (g := mkF m pc ⟨Ls⟩ (v :: .ref a :: st)) rfl rfl (hb hc hd)
    exact ⟨T', h', _, _, X', e', W, fun k => k.setFld W, st⟩) w
theorem putfield_0_0 {post : MH} {fpost : List (String × String × Value)} {i kk : Nat} {C n d : String} {a : Addr} {v u : Value} {ty : FieldType} {pc' : Nat} (hw : (Cond.fieldLink y.cls i C n d).before a0 Z = true) (hL : (Cond.lays C C n d).before a0 Z = true ∨ ((Cond.laysFinal C C n d).before a0 Z = true ∧ y.cls = C ∧ y.name = "<init>")) (hI : (Cond.instantiable C kk).before a0 Z = true) (hty : parseFieldDescriptor d = some ty) (hn : narrow ty v = v) (hf : fits ty v = true) (hd : decode code pc = .ok (.putfield i, 3)) (hp : pc + 3 = pc') (w : WP l Z a0 n0 R y code mx ret cells slots pc' Ls st ((a, .inr (C, (n, d, v) :: fpost)) :: post) Q) : WP l Z a0 n0 R y code mx ret cells slots pc Ls (v :: .ref a :: st) ((a, .inr (C, (n, d, u) :: fpost)) :: post) Q := putfieldG [] [] hw hL hI hty hn hf hd hp w
theorem putfield_1_1 {c0 : Addr × MC} {f0 : String × String × Value} {post : MH} {fpost : List (String × String × Value)} {i kk : Nat} {C n d : String} {a : Addr} {v u : Value} {ty : FieldType} {pc' : Nat} (hw : (Cond.fieldLink y.cls i C n d).before a0 Z = true) (hL : (Cond.lays C C n d).before a0 Z = true ∨ ((Cond.laysFinal C C n d).before a0 Z = true ∧ y.cls = C ∧ y.name = "<init>")) (hI : (Cond.instantiable C kk).before a0 Z = true) (hty : parseFieldDescriptor d = some ty) (hn : narrow ty v = v) (hf : fits ty v = true) (hd : decode code pc = .ok (.putfield i, 3)) (hp : pc + 3 = pc') (w : WP l Z a0 n0 R y code mx ret cells slots pc' Ls st (c0 :: (a, .inr (C, f0 :: (n, d, v) :: fpost)) :: post) Q) : WP l Z a0 n0 R y code mx ret cells slots pc Ls (v :: .ref a :: st) (c0 :: (a, .inr (C, f0 :: (n, d, u) :: fpost)) :: post) Q := putfieldG [c0] [f0] hw hL hI hty hn hf hd hp w
theorem putfield_2_2 {c0 c1 : Addr × MC} {f0 f1 : String × String × Value} {post : MH} {fpost : List (String × String × Value)} {i kk : Nat} {C n d : String} {a : Addr} {v u : Value} {ty : FieldType} {pc' : Nat} (hw : (Cond.fieldLink y.cls i C n d).before a0 Z = true) (hL : (Cond.lays C C n d).before a0 Z = true ∨ ((Cond.laysFinal C C n d).before a0 Z = true ∧ y.cls = C ∧ y.name = "<init>")) (hI : (Cond.instantiable C kk).before a0 Z = true) (hty : parseFieldDescriptor d = some ty) (hn : narrow ty v = v) (hf : fits ty v = true) (hd : decode code pc = .ok (.putfield i, 3)) (hp : pc + 3 = pc') (w : WP l Z a0 n0 R y code mx ret cells slots pc' Ls st (c0 :: c1 :: (a, .inr (C, f0 :: f1 :: (n, d, v) :: fpost)) :: post) Q) : WP l Z a0 n0 R y code mx ret cells slots pc Ls (v :: .ref a :: st) (c0 :: c1 :: (a, .inr (C, f0 :: f1 :: (n, d, u) :: fpost)) :: post) Q := putfieldG [c0, c1] [f0, f1] hw hL hI hty hn hf hd hp w
theorem putfield_3_3 {c0 c1 c2 : Addr × MC} {f0 f1 f2 : String × String × Value} {post : MH} {fpost : List (String × String × Value)} {i kk : Nat} {C n d : String} {a : Addr} {v u : Value} {ty : FieldType} {pc' : Nat} (hw : (Cond.fieldLink y.cls i C n d).before a0 Z = true) (hL : (Cond.lays C C n d).before a0 Z = true ∨ ((Cond.laysFinal C C n d).before a0 Z = true ∧ y.cls = C ∧ y.name = "<init>")) (hI : (Cond.instantiable C kk).before a0 Z = true) (hty : parseFieldDescriptor d = some ty) (hn : narrow ty v = v) (hf : fits ty v = true) (hd : decode code pc = .ok (.putfield i, 3)) (hp : pc + 3 = pc') (w : WP l Z a0 n0 R y code mx ret cells slots pc' Ls st (c0 :: c1 :: c2 :: (a, .inr (C, f0 :: f1 :: f2 :: (n, d, v) :: fpost)) :: post) Q) : WP l Z a0 n0 R y code mx ret cells slots pc Ls (v :: .ref a :: st) (c0 :: c1 :: c2 :: (a, .inr (C, f0 :: f1 :: f2 :: (n, d, u) :: fpost)) :: post) Q := putfieldG [c0, c1, c2] [f0, f1, f2] hw hL hI hty hn hf hd hp w
theorem newarray {aty : ArrayType} {n : Int32} {pc' : Nat} {ty : FieldType} (i cap : Nat) (vs : List Value) (hw : (Cond.arrayClass ty).before a0 Z = true) (hd : decode code pc = .ok (.newarray aty, 2)) (hn : n.toInt = (i : Int)) (hcap : i ≤ cap) (hbig : cap * 8 ≤ 536870912) (hc : cells + 1 ≤ R.cells) (hl : slots + cap ≤ R.slots) (hvs : List.replicate i (defaultValue ty) = vs) (hp : pc + 2 = pc') (hty : newarray.typeOf aty = ty) {cells' slots' : Nat} (hc' : cells + 1 = cells') (hs' : slots + cap = slots') (w : ∀ a : Addr, WP l Z a0 n0 R y code mx ret cells' slots' pc' Ls (.ref a :: st) ((a, .inl (ty, vs)) :: H) Q) : WP l Z a0 n0 R y code mx ret cells slots pc Ls (.int n :: st) H Q := by
  subst hp hvs hty hc' hs'
  intro p e s m args below meth c T locs X hx hZ hcode hm ho hnm hr hlk hF hR g1 g2
  have q3 : n.toNatClampNeg = i := idx_eq hn
  obtain ⟨T', h', cA, X', e', E, A, st⟩ := newP X hx hZ hw rfl (g := mkF m pc ⟨Ls⟩ (.int n :: st)) rfl (hb hcode hd) rfl (fun q => by rw [Int32.lt_iff_toInt_lt, hn] at q; simp at q; omega) (cap := cap) (by rw [q3]; exact hcap) hbig hc hl
  have hlt : i < 2 ^ 31 := by have := n.toInt_lt; rw [hn] at this; omega
  obtain ⟨v, H', L, s2, k1, k2⟩ := w _ p e s m args below meth c T' locs X' hx hZ hcode hm ho hnm hr hlk hF (by rw [e']; exact hR.push E ⟨_, A, by simp [newA, q3], by simpa using hlt⟩) hc hl
  exact ⟨v, H', L, s2, st _ k1, k2⟩
theorem new_ {i k : Nat} {C : String} {pc' : Nat} (fs : List (String × String × Value)) (hw : (Cond.classLink y.cls i C).before a0 Z = true) (hI : (Cond.instantiable C k).before a0 Z = true) (hz : (Cond.initialized C).before a0 Z = true) (hN : (fs.map (·.1)).Nodup) (hfs : ∀ x ∈ fs, Laid Z a0 C C x.1 x.2.1 ∧ ∃ t, parseFieldDescriptor x.2.1 = some t ∧ defaultValue t = x.2.2) (hd : decode code pc = .ok (.new i, 3)) (hc : cells + 1 ≤ R.cells) (hl : slots + k ≤ R.slots) (hp : pc + 3 = pc') {cells' slots' : Nat} (hc' : cells + 1 = cells') (hs' : slots + k = slots') (w : ∀ a : Addr, WP l Z a0 n0 R y code mx ret cells' slots' pc' Ls (.ref a :: st) ((a, .inr (C, fs)) :: H) Q) : WP l Z a0 n0 R y code mx ret cells slots pc Ls st H Q := by
  subst hp hc' hs'
  intro p e s m args below meth c T locs X hx hZ hcode hm ho hnm hr hlk hF hR g1 g2
  obtain ⟨T', h', X', e', E, A, D, -, st⟩ := newO X hx hZ ho hw hI hz rfl (g := mkF m pc ⟨Ls⟩ st) rfl (hb hcode hd) hc hl
  obtain ⟨v, H', L, s2, k1, k2⟩ := w _ p e s m args below meth c T' locs X' hx hZ hcode hm ho hnm hr hlk hF (by
    rw [e']
    refine hR.push E ⟨A, hN, fun x hx => ?_⟩
    obtain ⟨q1, t, q2, q3⟩ := hfs x hx
    exact ⟨q3 ▸ D q1 q2, q1, t, q2⟩) hc hl
  exact ⟨v, H', L, s2, st _ k1, k2⟩
theorem initObj {i : Nat} {a : Addr} {pc' : Nat} (W : Nat) (w1 : (Cond.methodLink y.cls i Lib.objectInit).before a0 Z = true) (w2 : (Cond.instanceMethod Lib.objectInit).before a0 Z = true) (w3 : (Cond.code Lib.objectInit ⟨#[0xb1]⟩ 1 none).before a0 Z = true) (hd : decode code pc = .ok (.invokespecial i, 3)) (hs : Ls.length = mx) (hf : 1 ≤ R.frames) (hW : (st.map fun v => v.category).sum = W) (hl : W + 12 ≤ R.locals) (hp : pc + 3 = pc') (w : WP l Z a0 n0 R y code mx ret cells slots pc' Ls st H Q) : WP l Z a0 n0 R y code mx ret cells slots pc Ls (.ref a :: st) H Q := by
  subst hp
  exact stepT (fun p e s m args below meth c T locs X hx hZ hc hm ho hR => initO X hx hZ ho w1 w2 w3 rfl (g := mkF m pc ⟨Ls⟩ (.ref a :: st)) rfl (by rw [hm]; simpa using hs) rfl (hb hc hd) hf (W := W) (by show 2 * 0 + _ ≤ _; omega) hl) w
theorem topI {z : Int32} (P : Int32 → Prop) (h : P z) (w : ∀ z' : Int32, P z' → WP l Z a0 n0 R y code mx ret cells slots pc Ls (.int z' :: st) H Q) : WP l Z a0 n0 R y code mx ret cells slots pc Ls (.int z :: st) H Q := w z h
theorem leaveW {v : Option Value} {st : List Value} (hv : ret = none → v = none) (q : Q v H)
    (h : ∀ (p : Program) (e : Env) (s : State) (m : MethodId) (args : Array Value) (below : List Frame) (meth : Method) (c : Code) (T : State) (locs : List Loc) (fs : List Frame), Stand p l e R s m args below meth c T locs cells slots → p.tables.exec = Jvm.exec → c.code = code → meth.sig.returnType = ret → (∀ (f : JFrame) (acts : List Action), f.method = m → f.locked = none → f.entered = [] → (doReturn e (T.setTop f) acts v).1 = T.setFrames fs) → Steps p.tables e below (T.setTop (mkF m pc ⟨Ls⟩ st)) (T.setFrames fs)) : WP l Z a0 n0 R y code mx ret cells slots pc Ls st H Q := by
  intro p e s m args below meth c T locs X hx hZ hc hm ho hn hr hl hF hR g1 g2
  obtain ⟨fs, hrr, hrun, hended, hW, hsame⟩ := X.leave (v := v) (fun k => hv (by rw [← hr]; exact k)) hl
  exact ⟨v, H, locs, _, h p e s m args below meth c T locs fs X hx hc hr hrr, hrun, hended, hF, hR, q, hW, hsame.mono g1 g2⟩
theorem ireturn {z : Int32} (hret : ret = some .int) (hd : decode code pc = .ok (.ireturn, 1)) (q : Q (some (.int z)) H) : WP l Z a0 n0 R y code mx ret cells slots pc Ls (.int z :: st) H Q :=
  leaveW (fun k => by rw [hret] at k; cases k) q fun p e s m args below meth c T locs fs X hx hc hr hrr => retI X hx (hr.trans hret) (hb hc hd) hrr
theorem zreturn {z : Int32} (hret : ret = some .boolean) (hd : decode code pc = .ok (.ireturn, 1)) (q : Q (some (.int (z &&& 1))) H) : WP l Z a0 n0 R y code mx ret cells slots pc Ls (.int z :: st) H Q :=
  leaveW (fun k => by rw [hret] at k; cases k) q fun p e s m args below meth c T locs fs X hx hc hr hrr => retN X hx (t := .boolean) (hr.trans hret) (by simp) (hb hc hd) hrr
theorem return_ (hret : ret = none) (hd : decode code pc = .ok (.return_, 1)) (q : Q none H) : WP l Z a0 n0 R y code mx ret cells slots pc Ls [] H Q :=
  leaveW (fun _ => rfl) q fun p e s m args below meth c T locs fs X hx hc hr hrr => X.returnOut hx (hr.trans hret) (hb hc hd) hrr
/-- what a call by a contract leaves -/
def After (l : Launch) (Z : State) (a0 : Array Value) (n0 : Nat) (R : Room) (y : MethodName) (code : ByteArray) (mx : Nat) (ret : Option FieldType) (cells slots pc : Nat) (Ls : List Slot) (st : List Value) (Q : Option Value → MH → Prop) : Option Value → MH → Prop
  | some r, H' => WP l Z a0 n0 R y code mx ret cells slots pc Ls (r :: st) H' Q
  | none, H' => WP l Z a0 n0 R y code mx ret cells slots pc Ls st H' Q
theorem After.to {v : Option Value} {H' : MH} (h : After l Z a0 n0 R y code mx ret cells slots pc Ls st Q v H') : WP l Z a0 n0 R y code mx ret cells slots pc Ls (v.toList ++ st) H' Q := by
  cases v <;> exact h
theorem callSG {z : MethodName} {zc : ByteArray} {zm : Nat} {zr : Option FieldType} {ps : List FieldType} {i : Nat} {rm : Room} {pc' : Nat} (W : Nat) (argsL : List Value) {rest : List Value} (w1 : (Cond.methodLink y.cls i z).before a0 Z = true) (w2 : (Cond.static z).before a0 Z = true) (w3 : (Cond.initialized z.cls).before a0 Z = true) (w4 : (Cond.code z zc zm zr).before a0 Z = true) (hy : z.cls ≠ "java/lang/invoke/MethodHandle" ∧ z.cls ≠ "java/lang/invoke/VarHandle") (hds : parseMethodDescriptor z.desc = some ⟨ps, zr⟩) (hlen : argsL.length = ps.length) (hd : decode code pc = .ok (.invokestatic i, 3)) (hs : Ls.length = mx) (hW : (rest.map fun v => v.category).sum = W) (hf : rm.frames + 1 ≤ R.frames) (hl : W + (zm + 11) + rm.locals ≤ R.locals) (hc : cells + rm.cells ≤ R.cells) (hsl : slots + rm.slots ≤ R.slots) (hp : pc + 3 = pc') {cells' slots' : Nat} (hc' : cells + rm.cells = cells') (hs' : slots + rm.slots = slots') (hst : st = argsL.reverse ++ rest)
    (k : Con l Z a0 n0 z zc zm zr rm argsL.toArray H (After l Z a0 n0 R y code mx ret cells' slots' pc' Ls rest Q)) : WP l Z a0 n0 R y code mx ret cells slots pc Ls st H Q := by
  subst hp hst hc' hs'
  intro p e s m args below meth c T locs X hx hZ hcode hm ho hnm hr hlk hF hR g1 g2
  obtain ⟨v, vm, ⟨T', L', k', n'⟩, -, X', ⟨Lc, ⟨q1, H', q2, q3⟩, e1, e2, e3⟩, st'⟩ := Jvm.LawKit.callS X hx (y := z) ho (mvT hZ w1) (mvT hZ w2) (mvT hZ w3) (mvT hZ w4) hy (backOf (W := W) (h := T.heap) (Q := fun v h L => Fr n0 L ∧ ∃ H', Rel Z a0 n0 H' h ∧ After l Z a0 n0 R y code mx ret (cells + rm.cells) (slots + rm.slots) (pc + 3) Ls rest Q v H') (k [] T.heap hR) hZ w4 w3 hf hl) (g := mkF m pc ⟨Ls⟩ (argsL.reverse ++ rest)) rfl (by rw [hm]; simpa using hs) (argsL := argsL) (rest := rest) (lenOf hds hlen) rfl (by show 2 * 0 + _ ≤ _; omega) (hb hcode hd) (fun _ _ => ⟨rfl, rfl, hc, hsl⟩)
  dsimp only [Pt.U, Pt.locs, Pt.cells, Pt.slots] at X' e1 e2 e3 st'
  subst e1 e2 e3
  obtain ⟨v2, H2, L2, s2, k1, k2⟩ := (After.to q3) p e s m args below meth c T' _ X' hx hZ hcode hm ho hnm hr hlk (Fr.app hF q1) q2 hc hsl
  exact ⟨v2, H2, L2, s2, st' _ k1, k2⟩
theorem callIG {z : MethodName} {zc : ByteArray} {zm : Nat} {ps : List FieldType} {i : Nat} {rm : Room} {pc' : Nat} {a : Addr} (W : Nat) (argsL : List Value) {rest : List Value} (hzn : z.name = "<init>") (w1 : (Cond.methodLink y.cls i z).before a0 Z = true) (w2 : (Cond.instanceMethod z).before a0 Z = true) (w3 : (Cond.initialized z.cls).before a0 Z = true) (w4 : (Cond.code z zc zm none).before a0 Z = true) (hy : z.cls ≠ "java/lang/invoke/MethodHandle" ∧ z.cls ≠ "java/lang/invoke/VarHandle") (hds : parseMethodDescriptor z.desc = some ⟨ps, none⟩) (hlen : argsL.length = ps.length) (hd : decode code pc = .ok (.invokespecial i, 3)) (hs : Ls.length = mx) (hW : (rest.map fun v => v.category).sum = W) (hf : rm.frames + 1 ≤ R.frames) (hl : W + (zm + 11) + rm.locals ≤ R.locals) (hc : cells + rm.cells ≤ R.cells) (hsl : slots + rm.slots ≤ R.slots) (hp : pc + 3 = pc') {cells' slots' : Nat} (hc' : cells + rm.cells = cells') (hs' : slots + rm.slots = slots') (hst : st = argsL.reverse ++ .ref a :: rest)
    (k : Con l Z a0 n0 z zc zm none rm (.ref a :: argsL).toArray H (After l Z a0 n0 R y code mx ret cells' slots' pc' Ls rest Q)) : WP l Z a0 n0 R y code mx ret cells slots pc Ls st H Q := by
  subst hp hst hc' hs'
  intro p e s m args below meth c T locs X hx hZ hcode hm ho hnm hr hlk hF hR g1 g2
  obtain ⟨v, vm, ⟨T', L', k', n'⟩, -, X', ⟨Lc, ⟨q1, H', q2, q3⟩, e1, e2, e3⟩, st'⟩ := X.specialBack hx (y := z) hzn ho (mvT hZ w1) (mvT hZ w2) (mvT hZ w4) hy (backOf (W := W) (h := T.heap) (Q := fun v h L => Fr n0 L ∧ ∃ H', Rel Z a0 n0 H' h ∧ After l Z a0 n0 R y code mx ret (cells + rm.cells) (slots + rm.slots) (pc + 3) Ls rest Q v H') (k [] T.heap hR) hZ w4 w3 hf hl) (g := mkF m pc ⟨Ls⟩ (argsL.reverse ++ .ref a :: rest)) rfl (by rw [hm]; simpa using hs) (Steps.refl _) (a := a) (argsL := argsL) (rest := rest) (lenOf hds hlen) rfl (by show 2 * 0 + _ ≤ _; omega) (hb hcode hd) (fun _ _ => ⟨rfl, rfl, hc, hsl⟩)
  dsimp only [Pt.U, Pt.locs, Pt.cells, Pt.slots] at X' e1 e2 e3 st'
  subst e1 e2 e3
  obtain ⟨v2, H2, L2, s2, k1, k2⟩ := (After.to q3) p e s m args below meth c T' _ X' hx hZ hcode hm ho hnm hr hlk (Fr.app hF q1) q2 hc hsl
  exact ⟨v2, H2, L2, s2, st'.trans k1, k2⟩
theorem callVG {z : MethodName} {zc : ByteArray} {zm : Nat} {zr : Option FieldType} {ps : List FieldType} {i : Nat} {rm : Room} {pc' : Nat} {a : Addr} {fs : List (String × String × Value)} (kk W : Nat) (argsL : List Value) {rest : List Value} (w1 : (Cond.methodLink y.cls i z).before a0 Z = true) (wd : (Cond.declares z).before a0 Z = true) (ws : (Cond.selects z.cls z z).before a0 Z = true) (w2 : (Cond.instanceMethod z).before a0 Z = true) (w3 : (Cond.initialized z.cls).before a0 Z = true) (w4 : (Cond.code z zc zm zr).before a0 Z = true) (hy : z.cls ≠ "java/lang/invoke/MethodHandle" ∧ z.cls ≠ "java/lang/invoke/VarHandle") (hds : parseMethodDescriptor z.desc = some ⟨ps, zr⟩) (hlen : argsL.length = ps.length) (hd : decode code pc = .ok (.invokevirtual i, 3)) (hk : H[kk]? = some (a, .inr (z.cls, fs))) (hs : Ls.length = mx) (hW : (rest.map fun v => v.category).sum = W) (hf : rm.frames + 1 ≤ R.frames) (hl : W + (zm + 11) + rm.locals ≤ R.locals) (hc : cells + rm.cells ≤ R.cells) (hsl : slots + rm.slots ≤ R.slots) (hp : pc + 3 = pc') {cells' slots' : Nat} (hc' : cells + rm.cells = cells') (hs' : slots + rm.slots = slots') (hst : st = argsL.reverse ++ .ref a :: rest)
    (k : Con l Z a0 n0 z zc zm zr rm (.ref a :: argsL).toArray H (After l Z a0 n0 R y code mx ret cells' slots' pc' Ls rest Q)) : WP l Z a0 n0 R y code mx ret cells slots pc Ls st H Q := by
  subst hp hst hc' hs'
  intro p e s m args below meth c T locs X hx hZ hcode hm ho hnm hr hlk hF hR g1 g2
  obtain ⟨cq, kq, qa, qb, qc⟩ := isOf hZ (T := T) rfl (hR.at hk).2.1
  obtain ⟨v, vm, ⟨T', L', k', n'⟩, -, X', ⟨Lc, ⟨q1, H', q2, q3⟩, e1, e2, e3⟩, st'⟩ := X.virtualBack hx (y := z) (z := z) ho (mvT hZ w1) (mvT hZ wd) (notFace_of_selects (args := #[]) (mvT hZ ws)) (mvT hZ ws) (mvT hZ w2) hy (backOf (W := W) (h := T.heap) (Q := fun v h L => Fr n0 L ∧ ∃ H', Rel Z a0 n0 H' h ∧ After l Z a0 n0 R y code mx ret (cells + rm.cells) (slots + rm.slots) (pc + 3) Ls rest Q v H') (k [] T.heap hR) hZ w4 w3 hf hl) qa qc (g := mkF m pc ⟨Ls⟩ (argsL.reverse ++ .ref a :: rest)) rfl (by rw [hm]; simpa using hs) (Steps.refl _) (argsL := argsL) (rest := rest) (lenOf hds hlen) rfl (by show 2 * 0 + _ ≤ _; omega) (hb hcode hd) (fun _ _ => ⟨rfl, rfl, hc, hsl⟩)
  dsimp only [Pt.U, Pt.locs, Pt.cells, Pt.slots] at X' e1 e2 e3 st'
  subst e1 e2 e3
  obtain ⟨v2, H2, L2, s2, k1, k2⟩ := (After.to q3) p e s m args below meth c T' _ X' hx hZ hcode hm ho hnm hr hlk (Fr.app hF q1) q2 hc hsl
  exact ⟨v2, H2, L2, s2, st'.trans k1, k2⟩
theorem callPG {z : MethodName} {zc : ByteArray} {zm : Nat} {zr : Option FieldType} {ps : List FieldType} {i nn : Nat} {rm : Room} {pc' : Nat} {a : Addr} {fs : List (String × String × Value)} (kk W : Nat) (argsL : List Value) {rest : List Value} (w1 : (Cond.methodLink y.cls i z).before a0 Z = true) (wp : (Cond.privateMethod z).before a0 Z = true) (wi : (Cond.instantiable z.cls nn).before a0 Z = true) (w2 : (Cond.instanceMethod z).before a0 Z = true) (w3 : (Cond.initialized z.cls).before a0 Z = true) (w4 : (Cond.code z zc zm zr).before a0 Z = true) (hy : z.cls ≠ "java/lang/invoke/MethodHandle" ∧ z.cls ≠ "java/lang/invoke/VarHandle") (hds : parseMethodDescriptor z.desc = some ⟨ps, zr⟩) (hlen : argsL.length = ps.length) (hd : decode code pc = .ok (.invokevirtual i, 3)) (hk : H[kk]? = some (a, .inr (z.cls, fs))) (hs : Ls.length = mx) (hW : (rest.map fun v => v.category).sum = W) (hf : rm.frames + 1 ≤ R.frames) (hl : W + (zm + 11) + rm.locals ≤ R.locals) (hc : cells + rm.cells ≤ R.cells) (hsl : slots + rm.slots ≤ R.slots) (hp : pc + 3 = pc') {cells' slots' : Nat} (hc' : cells + rm.cells = cells') (hs' : slots + rm.slots = slots') (hst : st = argsL.reverse ++ .ref a :: rest)
    (k : Con l Z a0 n0 z zc zm zr rm (.ref a :: argsL).toArray H (After l Z a0 n0 R y code mx ret cells' slots' pc' Ls rest Q)) : WP l Z a0 n0 R y code mx ret cells slots pc Ls st H Q := by
  subst hp hst hc' hs'
  intro p e s m args below meth c T locs X hx hZ hcode hm ho hnm hr hlk hF hR g1 g2
  obtain ⟨cq, kq, hcq, hkq, -, hflags, -⟩ := Cond.instantiable_spec (mvT (args := args) hZ wi)
  have hitf : kq.isInterface = false := by
    cases hi : kq.isInterface
    · rfl
    · simp [hi] at hflags
  have hpa : s.PrivateAt z := Cond.privateMethod_at (mvP hZ wp (args := #[]))
  obtain ⟨cell, hcell, hobj⟩ := (hR.at hk).2.1.cell
  obtain ⟨v, vm, ⟨T', L', k', n'⟩, -, X', ⟨Lc, ⟨q1, H', q2, q3⟩, e1, e2, e3⟩, st'⟩ := X.privateBack hx (y := z) ho (mvT hZ w1) (mvT hZ w2) (selects_self_of_private hcq hkq hitf hpa (mvT hZ w2) hy) hpa (mvT hZ w4) hy (backOf (W := W) (h := T.heap) (Q := fun v h L => Fr n0 L ∧ ∃ H', Rel Z a0 n0 H' h ∧ After l Z a0 n0 R y code mx ret (cells + rm.cells) (slots + rm.slots) (pc + 3) Ls rest Q v H') (k [] T.heap hR) hZ w4 w3 hf hl) (g := mkF m pc ⟨Ls⟩ (argsL.reverse ++ .ref a :: rest)) rfl (by rw [hm]; simpa using hs) (Steps.refl _) (a := a) hcell hobj (argsL := argsL) (rest := rest) (lenOf hds hlen) rfl (by show 2 * 0 + _ ≤ _; omega) (hb hcode hd) (fun _ _ => ⟨rfl, rfl, hc, hsl⟩)
  dsimp only [Pt.U, Pt.locs, Pt.cells, Pt.slots] at X' e1 e2 e3 st'
  subst e1 e2 e3
  obtain ⟨v2, H2, L2, s2, k1, k2⟩ := (After.to q3) p e s m args below meth c T' _ X' hx hZ hcode hm ho hnm hr hlk (Fr.app hF q1) q2 hc hsl
  exact ⟨v2, H2, L2, s2, st'.trans k1, k2⟩
theorem afterS {r : Value} {H' : MH} (h : WP l Z a0 n0 R y code mx ret cells slots pc Ls (r :: st) H' Q) : After l Z a0 n0 R y code mx ret cells slots pc Ls st Q (some r) H' := h
theorem afterN {H' : MH} (h : WP l Z a0 n0 R y code mx ret cells slots pc Ls st H' Q) : After l Z a0 n0 R y code mx ret cells slots pc Ls st Q none H' := h
theorem callV_0 {z : MethodName} {zc : ByteArray} {zm : Nat} {zr : Option FieldType} {ps : List FieldType} {i : Nat} {rm : Room} {pc' : Nat} {a : Addr} {fs : List (String × String × Value)} (kk W : Nat) {rest : List Value} (w1 : (Cond.methodLink y.cls i z).before a0 Z = true) (wd : (Cond.declares z).before a0 Z = true) (ws : (Cond.selects z.cls z z).before a0 Z = true) (w2 : (Cond.instanceMethod z).before a0 Z = true) (w3 : (Cond.initialized z.cls).before a0 Z = true) (w4 : (Cond.code z zc zm zr).before a0 Z = true) (hy : z.cls ≠ "java/lang/invoke/MethodHandle" ∧ z.cls ≠ "java/lang/invoke/VarHandle") (hds : parseMethodDescriptor z.desc = some ⟨ps, zr⟩) (hlen : 0 = ps.length) (hd : decode code pc = .ok (.invokevirtual i, 3)) (hk : H[kk]? = some (a, .inr (z.cls, fs))) (hs : Ls.length = mx) (hW : (rest.map fun v => v.category).sum = W) (hf : rm.frames + 1 ≤ R.frames) (hl : W + (zm + 11) + rm.locals ≤ R.locals) (hc : cells + rm.cells ≤ R.cells) (hsl : slots + rm.slots ≤ R.slots) (hp : pc + 3 = pc') {cells' slots' : Nat} (hc' : cells + rm.cells = cells') (hs' : slots + rm.slots = slots') (k : Con l Z a0 n0 z zc zm zr rm #[.ref a] H (After l Z a0 n0 R y code mx ret cells' slots' pc' Ls rest Q)) : WP l Z a0 n0 R y code mx ret cells slots pc Ls (.ref a :: rest) H Q := callVG kk W [] w1 wd ws w2 w3 w4 hy hds hlen hd hk hs hW hf hl hc hsl hp hc' hs' rfl k
theorem callI_1 {z : MethodName} {zc : ByteArray} {zm : Nat} {ps : List FieldType} {i : Nat} {rm : Room} {pc' : Nat} {a : Addr} (W : Nat) {v0 : Value} {rest : List Value} (hzn : z.name = "<init>") (w1 : (Cond.methodLink y.cls i z).before a0 Z = true) (w2 : (Cond.instanceMethod z).before a0 Z = true) (w3 : (Cond.initialized z.cls).before a0 Z = true) (w4 : (Cond.code z zc zm none).before a0 Z = true) (hy : z.cls ≠ "java/lang/invoke/MethodHandle" ∧ z.cls ≠ "java/lang/invoke/VarHandle") (hds : parseMethodDescriptor z.desc = some ⟨ps, none⟩) (hlen : 1 = ps.length) (hd : decode code pc = .ok (.invokespecial i, 3)) (hs : Ls.length = mx) (hW : (rest.map fun v => v.category).sum = W) (hf : rm.frames + 1 ≤ R.frames) (hl : W + (zm + 11) + rm.locals ≤ R.locals) (hc : cells + rm.cells ≤ R.cells) (hsl : slots + rm.slots ≤ R.slots) (hp : pc + 3 = pc') {cells' slots' : Nat} (hc' : cells + rm.cells = cells') (hs' : slots + rm.slots = slots') (k : Con l Z a0 n0 z zc zm none rm #[.ref a, v0] H (After l Z a0 n0 R y code mx ret cells' slots' pc' Ls rest Q)) : WP l Z a0 n0 R y code mx ret cells slots pc Ls (v0 :: .ref a :: rest) H Q := callIG W [v0] hzn w1 w2 w3 w4 hy hds hlen hd hs hW hf hl hc hsl hp hc' hs' rfl k
theorem callV_1 {z : MethodName} {zc : ByteArray} {zm : Nat} {zr : Option FieldType} {ps : List FieldType} {i : Nat} {rm : Room} {pc' : Nat} {a : Addr} {fs : List (String × String × Value)} (kk W : Nat) {v0 : Value} {rest : List Value} (w1 : (Cond.methodLink y.cls i z).before a0 Z = true) (wd : (Cond.declares z).before a0 Z = true) (ws : (Cond.selects z.cls z z).before a0 Z = true) (w2 : (Cond.instanceMethod z).before a0 Z = true) (w3 : (Cond.initialized z.cls).before a0 Z = true) (w4 : (Cond.code z zc zm zr).before a0 Z = true) (hy : z.cls ≠ "java/lang/invoke/MethodHandle" ∧ z.cls ≠ "java/lang/invoke/VarHandle") (hds : parseMethodDescriptor z.desc = some ⟨ps, zr⟩) (hlen : 1 = ps.length) (hd : decode code pc = .ok (.invokevirtual i, 3)) (hk : H[kk]? = some (a, .inr (z.cls, fs))) (hs : Ls.length = mx) (hW : (rest.map fun v => v.category).sum = W) (hf : rm.frames + 1 ≤ R.frames) (hl : W + (zm + 11) + rm.locals ≤ R.locals) (hc : cells + rm.cells ≤ R.cells) (hsl : slots + rm.slots ≤ R.slots) (hp : pc + 3 = pc') {cells' slots' : Nat} (hc' : cells + rm.cells = cells') (hs' : slots + rm.slots = slots') (k : Con l Z a0 n0 z zc zm zr rm #[.ref a, v0] H (After l Z a0 n0 R y code mx ret cells' slots' pc' Ls rest Q)) : WP l Z a0 n0 R y code mx ret cells slots pc Ls (v0 :: .ref a :: rest) H Q := callVG kk W [v0] w1 wd ws w2 w3 w4 hy hds hlen hd hk hs hW hf hl hc hsl hp hc' hs' rfl k
theorem callP_1 {z : MethodName} {zc : ByteArray} {zm : Nat} {zr : Option FieldType} {ps : List FieldType} {i nn : Nat} {rm : Room} {pc' : Nat} {a : Addr} {fs : List (String × String × Value)} (kk W : Nat) {v0 : Value} {rest : List Value} (w1 : (Cond.methodLink y.cls i z).before a0 Z = true) (wp : (Cond.privateMethod z).before a0 Z = true) (wi : (Cond.instantiable z.cls nn).before a0 Z = true) (w2 : (Cond.instanceMethod z).before a0 Z = true) (w3 : (Cond.initialized z.cls).before a0 Z = true) (w4 : (Cond.code z zc zm zr).before a0 Z = true) (hy : z.cls ≠ "java/lang/invoke/MethodHandle" ∧ z.cls ≠ "java/lang/invoke/VarHandle") (hds : parseMethodDescriptor z.desc = some ⟨ps, zr⟩) (hlen : 1 = ps.length) (hd : decode code pc = .ok (.invokevirtual i, 3)) (hk : H[kk]? = some (a, .inr (z.cls, fs))) (hs : Ls.length = mx) (hW : (rest.map fun v => v.category).sum = W) (hf : rm.frames + 1 ≤ R.frames) (hl : W + (zm + 11) + rm.locals ≤ R.locals) (hc : cells + rm.cells ≤ R.cells) (hsl : slots + rm.slots ≤ R.slots) (hp : pc + 3 = pc') {cells' slots' : Nat} (hc' : cells + rm.cells = cells') (hs' : slots + rm.slots = slots') (k : Con l Z a0 n0 z zc zm zr rm #[.ref a, v0] H (After l Z a0 n0 R y code mx ret cells' slots' pc' Ls rest Q)) : WP l Z a0 n0 R y code mx ret cells slots pc Ls (v0 :: .ref a :: rest) H Q := callPG kk W [v0] w1 wp wi w2 w3 w4 hy hds hlen hd hk hs hW hf hl hc hsl hp hc' hs' rfl k
theorem callS_2 {z : MethodName} {zc : ByteArray} {zm : Nat} {zr : Option FieldType} {ps : List FieldType} {i : Nat} {rm : Room} {pc' : Nat} (W : Nat) {v0 v1 : Value} {rest : List Value} (w1 : (Cond.methodLink y.cls i z).before a0 Z = true) (w2 : (Cond.static z).before a0 Z = true) (w3 : (Cond.initialized z.cls).before a0 Z = true) (w4 : (Cond.code z zc zm zr).before a0 Z = true) (hy : z.cls ≠ "java/lang/invoke/MethodHandle" ∧ z.cls ≠ "java/lang/invoke/VarHandle") (hds : parseMethodDescriptor z.desc = some ⟨ps, zr⟩) (hlen : 2 = ps.length) (hd : decode code pc = .ok (.invokestatic i, 3)) (hs : Ls.length = mx) (hW : (rest.map fun v => v.category).sum = W) (hf : rm.frames + 1 ≤ R.frames) (hl : W + (zm + 11) + rm.locals ≤ R.locals) (hc : cells + rm.cells ≤ R.cells) (hsl : slots + rm.slots ≤ R.slots) (hp : pc + 3 = pc') {cells' slots' : Nat} (hc' : cells + rm.cells = cells') (hs' : slots + rm.slots = slots') (k : Con l Z a0 n0 z zc zm zr rm #[v0, v1] H (After l Z a0 n0 R y code mx ret cells' slots' pc' Ls rest Q)) : WP l Z a0 n0 R y code mx ret cells slots pc Ls (v1 :: v0 :: rest) H Q := callSG W [v0, v1] w1 w2 w3 w4 hy hds hlen hd hs hW hf hl hc hsl hp hc' hs' rfl k
theorem callP_2 {z : MethodName} {zc : ByteArray} {zm : Nat} {zr : Option FieldType} {ps : List FieldType} {i nn : Nat} {rm : Room} {pc' : Nat} {a : Addr} {fs : List (String × String × Value)} (kk W : Nat) {v0 v1 : Value} {rest : List Value} (w1 : (Cond.methodLink y.cls i z).before a0 Z = true) (wp : (Cond.privateMethod z).before a0 Z = true) (wi : (Cond.instantiable z.cls nn).before a0 Z = true) (w2 : (Cond.instanceMethod z).before a0 Z = true) (w3 : (Cond.initialized z.cls).before a0 Z = true) (w4 : (Cond.code z zc zm zr).before a0 Z = true) (hy : z.cls ≠ "java/lang/invoke/MethodHandle" ∧ z.cls ≠ "java/lang/invoke/VarHandle") (hds : parseMethodDescriptor z.desc = some ⟨ps, zr⟩) (hlen : 2 = ps.length) (hd : decode code pc = .ok (.invokevirtual i, 3)) (hk : H[kk]? = some (a, .inr (z.cls, fs))) (hs : Ls.length = mx) (hW : (rest.map fun v => v.category).sum = W) (hf : rm.frames + 1 ≤ R.frames) (hl : W + (zm + 11) + rm.locals ≤ R.locals) (hc : cells + rm.cells ≤ R.cells) (hsl : slots + rm.slots ≤ R.slots) (hp : pc + 3 = pc') {cells' slots' : Nat} (hc' : cells + rm.cells = cells') (hs' : slots + rm.slots = slots') (k : Con l Z a0 n0 z zc zm zr rm #[.ref a, v0, v1] H (After l Z a0 n0 R y code mx ret cells' slots' pc' Ls rest Q)) : WP l Z a0 n0 R y code mx ret cells slots pc Ls (v1 :: v0 :: .ref a :: rest) H Q := callPG kk W [v0, v1] w1 wp wi w2 w3 w4 hy hds hlen hd hk hs hW hf hl hc hsl hp hc' hs' rfl k
theorem callS_3 {z : MethodName} {zc : ByteArray} {zm : Nat} {zr : Option FieldType} {ps : List FieldType} {i : Nat} {rm : Room} {pc' : Nat} (W : Nat) {v0 v1 v2 : Value} {rest : List Value} (w1 : (Cond.methodLink y.cls i z).before a0 Z = true) (w2 : (Cond.static z).before a0 Z = true) (w3 : (Cond.initialized z.cls).before a0 Z = true) (w4 : (Cond.code z zc zm zr).before a0 Z = true) (hy : z.cls ≠ "java/lang/invoke/MethodHandle" ∧ z.cls ≠ "java/lang/invoke/VarHandle") (hds : parseMethodDescriptor z.desc = some ⟨ps, zr⟩) (hlen : 3 = ps.length) (hd : decode code pc = .ok (.invokestatic i, 3)) (hs : Ls.length = mx) (hW : (rest.map fun v => v.category).sum = W) (hf : rm.frames + 1 ≤ R.frames) (hl : W + (zm + 11) + rm.locals ≤ R.locals) (hc : cells + rm.cells ≤ R.cells) (hsl : slots + rm.slots ≤ R.slots) (hp : pc + 3 = pc') {cells' slots' : Nat} (hc' : cells + rm.cells = cells') (hs' : slots + rm.slots = slots') (k : Con l Z a0 n0 z zc zm zr rm #[v0, v1, v2] H (After l Z a0 n0 R y code mx ret cells' slots' pc' Ls rest Q)) : WP l Z a0 n0 R y code mx ret cells slots pc Ls (v2 :: v1 :: v0 :: rest) H Q := callSG W [v0, v1, v2] w1 w2 w3 w4 hy hds hlen hd hs hW hf hl hc hsl hp hc' hs' rfl k
end Jvm.Wp
namespace Jvm.Pilot.@@N@@
open Jvm Jvm.ClassFile Sem Op Lib Jvm.Free Jvm.Stand Jvm.LawKit Jvm.RoadKit Bundle Jvm.Pilot.@@N@@.Jvm.D
set_option maxHeartbeats 8000000
abbrev Hw (Z : State) (a0 : Array Value) : Prop := ∀ d ∈ tables_1, d.before a0 Z = true
theorem w0 {Z : State} {a0 : Array Value} (hw : Hw Z a0) : (Jvm.Cond.arrayClass Jvm.ClassFile.FieldType.long).before a0 Z = true := hw _ (List.mem_of_getElem? (i := 0) rfl)
theorem w1 {Z : State} {a0 : Array Value} (hw : Hw Z a0) : (Jvm.Cond.classLink "pheromedian/model/VertexQueueIsEmptyPinLaw" (8 : Nat) "pheromedian/model/VertexQueue").before a0 Z = true := hw _ (List.mem_of_getElem? (i := 1) rfl)
theorem w2 {Z : State} {a0 : Array Value} (hw : Hw Z a0) : (Jvm.Cond.instantiable "pheromedian/model/VertexQueue" (4 : Nat)).before a0 Z = true := hw _ (List.mem_of_getElem? (i := 2) rfl)
theorem w3 {Z : State} {a0 : Array Value} (hw : Hw Z a0) : (Jvm.Cond.initialized "pheromedian/model/VertexQueue").before a0 Z = true := hw _ (List.mem_of_getElem? (i := 3) rfl)
theorem w4 {Z : State} {a0 : Array Value} (hw : Hw Z a0) : (Jvm.Cond.methodLink "pheromedian/model/VertexQueueIsEmptyPinLaw" (21 : Nat) ({ cls := "pheromedian/model/VertexQueue", name := "<init>", desc := "([J)V" } : Jvm.MethodName)).before a0 Z = true := hw _ (List.mem_of_getElem? (i := 4) rfl)
theorem w5 {Z : State} {a0 : Array Value} (hw : Hw Z a0) : (Jvm.Cond.instanceMethod ({ cls := "pheromedian/model/VertexQueue", name := "<init>", desc := "([J)V" } : Jvm.MethodName)).before a0 Z = true := hw _ (List.mem_of_getElem? (i := 5) rfl)
theorem w6 {Z : State} {a0 : Array Value} (hw : Hw Z a0) : (Jvm.Cond.code ({ cls := "pheromedian/model/VertexQueue", name := "<init>", desc := "([J)V" } : Jvm.MethodName) prog_16_method_1_code (2 : Nat) (Option.none : Option Jvm.ClassFile.FieldType)).before a0 Z = true := hw _ (List.mem_of_getElem? (i := 6) rfl)
theorem w7 {Z : State} {a0 : Array Value} (hw : Hw Z a0) : (Jvm.Cond.methodLink "pheromedian/model/VertexQueue" (1 : Nat) ({ cls := "java/lang/Object", name := "<init>", desc := "()V" } : Jvm.MethodName)).before a0 Z = true := hw _ (List.mem_of_getElem? (i := 7) rfl)
theorem w8 {Z : State} {a0 : Array Value} (hw : Hw Z a0) : (Jvm.Cond.instanceMethod ({ cls := "java/lang/Object", name := "<init>", desc := "()V" } : Jvm.MethodName)).before a0 Z = true := hw _ (List.mem_of_getElem? (i := 8) rfl)
theorem w9 {Z : State} {a0 : Array Value} (hw : Hw Z a0) : (Jvm.Cond.code ({ cls := "java/lang/Object", name := "<init>", desc := "()V" } : Jvm.MethodName) object_method_1_code (1 : Nat) (Option.none : Option Jvm.ClassFile.FieldType)).before a0 Z = true := hw _ (List.mem_of_getElem? (i := 9) rfl)
theorem w10 {Z : State} {a0 : Array Value} (hw : Hw Z a0) : (Jvm.Cond.fieldLink "pheromedian/model/VertexQueue" (7 : Nat) "pheromedian/model/VertexQueue" "key" "[J").before a0 Z = true := hw _ (List.mem_of_getElem? (i := 10) rfl)
theorem w11 {Z : State} {a0 : Array Value} (hw : Hw Z a0) : (Jvm.Cond.laysFinal "pheromedian/model/VertexQueue" "pheromedian/model/VertexQueue" "key" "[J").before a0 Z = true := hw _ (List.mem_of_getElem? (i := 11) rfl)
theorem w12 {Z : State} {a0 : Array Value} (hw : Hw Z a0) : (Jvm.Cond.arrayClass Jvm.ClassFile.FieldType.int).before a0 Z = true := hw _ (List.mem_of_getElem? (i := 12) rfl)
theorem w13 {Z : State} {a0 : Array Value} (hw : Hw Z a0) : (Jvm.Cond.fieldLink "pheromedian/model/VertexQueue" (13 : Nat) "pheromedian/model/VertexQueue" "heap" "[I").before a0 Z = true := hw _ (List.mem_of_getElem? (i := 13) rfl)
theorem w14 {Z : State} {a0 : Array Value} (hw : Hw Z a0) : (Jvm.Cond.laysFinal "pheromedian/model/VertexQueue" "pheromedian/model/VertexQueue" "heap" "[I").before a0 Z = true := hw _ (List.mem_of_getElem? (i := 14) rfl)
theorem w15 {Z : State} {a0 : Array Value} (hw : Hw Z a0) : (Jvm.Cond.fieldLink "pheromedian/model/VertexQueue" (17 : Nat) "pheromedian/model/VertexQueue" "position" "[I").before a0 Z = true := hw _ (List.mem_of_getElem? (i := 15) rfl)
theorem w16 {Z : State} {a0 : Array Value} (hw : Hw Z a0) : (Jvm.Cond.laysFinal "pheromedian/model/VertexQueue" "pheromedian/model/VertexQueue" "position" "[I").before a0 Z = true := hw _ (List.mem_of_getElem? (i := 16) rfl)
theorem w17 {Z : State} {a0 : Array Value} (hw : Hw Z a0) : (Jvm.Cond.methodLink "pheromedian/model/VertexQueue" (20 : Nat) ({ cls := "java/util/Arrays", name := "fill", desc := "([II)V" } : Jvm.MethodName)).before a0 Z = true := hw _ (List.mem_of_getElem? (i := 17) rfl)
theorem w18 {Z : State} {a0 : Array Value} (hw : Hw Z a0) : (Jvm.Cond.static ({ cls := "java/util/Arrays", name := "fill", desc := "([II)V" } : Jvm.MethodName)).before a0 Z = true := hw _ (List.mem_of_getElem? (i := 18) rfl)
theorem w19 {Z : State} {a0 : Array Value} (hw : Hw Z a0) : (Jvm.Cond.initialized "java/util/Arrays").before a0 Z = true := hw _ (List.mem_of_getElem? (i := 19) rfl)
theorem w20 {Z : State} {a0 : Array Value} (hw : Hw Z a0) : (Jvm.Cond.code ({ cls := "java/util/Arrays", name := "fill", desc := "([II)V" } : Jvm.MethodName) jdk_65_method_103_code (4 : Nat) (Option.none : Option Jvm.ClassFile.FieldType)).before a0 Z = true := hw _ (List.mem_of_getElem? (i := 20) rfl)
theorem w21 {Z : State} {a0 : Array Value} (hw : Hw Z a0) : (Jvm.Cond.arrayClass Jvm.ClassFile.FieldType.boolean).before a0 Z = true := hw _ (List.mem_of_getElem? (i := 21) rfl)
theorem w22 {Z : State} {a0 : Array Value} (hw : Hw Z a0) : (Jvm.Cond.methodLink "pheromedian/model/VertexQueueIsEmptyPinLaw" (17 : Nat) ({ cls := "pheromedian/model/VertexQueue", name := "isEmpty", desc := "()Z" } : Jvm.MethodName)).before a0 Z = true := hw _ (List.mem_of_getElem? (i := 22) rfl)
theorem w23 {Z : State} {a0 : Array Value} (hw : Hw Z a0) : (Jvm.Cond.declares ({ cls := "pheromedian/model/VertexQueue", name := "isEmpty", desc := "()Z" } : Jvm.MethodName)).before a0 Z = true := hw _ (List.mem_of_getElem? (i := 23) rfl)
theorem w24 {Z : State} {a0 : Array Value} (hw : Hw Z a0) : (Jvm.Cond.instanceMethod ({ cls := "pheromedian/model/VertexQueue", name := "isEmpty", desc := "()Z" } : Jvm.MethodName)).before a0 Z = true := hw _ (List.mem_of_getElem? (i := 24) rfl)
theorem w25 {Z : State} {a0 : Array Value} (hw : Hw Z a0) : (Jvm.Cond.selects "pheromedian/model/VertexQueue" ({ cls := "pheromedian/model/VertexQueue", name := "isEmpty", desc := "()Z" } : Jvm.MethodName) ({ cls := "pheromedian/model/VertexQueue", name := "isEmpty", desc := "()Z" } : Jvm.MethodName)).before a0 Z = true := hw _ (List.mem_of_getElem? (i := 25) rfl)
theorem w26 {Z : State} {a0 : Array Value} (hw : Hw Z a0) : (Jvm.Cond.code ({ cls := "pheromedian/model/VertexQueue", name := "isEmpty", desc := "()Z" } : Jvm.MethodName) prog_16_method_2_code (1 : Nat) (Option.some Jvm.ClassFile.FieldType.boolean)).before a0 Z = true := hw _ (List.mem_of_getElem? (i := 26) rfl)
theorem w27 {Z : State} {a0 : Array Value} (hw : Hw Z a0) : (Jvm.Cond.fieldLink "pheromedian/model/VertexQueue" (26 : Nat) "pheromedian/model/VertexQueue" "size" "I").before a0 Z = true := hw _ (List.mem_of_getElem? (i := 27) rfl)
theorem w28 {Z : State} {a0 : Array Value} (hw : Hw Z a0) : (Jvm.Cond.lays "pheromedian/model/VertexQueue" "pheromedian/model/VertexQueue" "size" "I").before a0 Z = true := hw _ (List.mem_of_getElem? (i := 28) rfl)
theorem w29 {Z : State} {a0 : Array Value} (hw : Hw Z a0) : (Jvm.Cond.methodLink "pheromedian/model/VertexQueueIsEmptyPinLaw" (24 : Nat) ({ cls := "pheromedian/model/VertexQueueIsEmptyPinLaw", name := "step", desc := "(Lpheromedian/model/VertexQueue;I[Z)Z" } : Jvm.MethodName)).before a0 Z = true := hw _ (List.mem_of_getElem? (i := 29) rfl)
theorem w30 {Z : State} {a0 : Array Value} (hw : Hw Z a0) : (Jvm.Cond.static ({ cls := "pheromedian/model/VertexQueueIsEmptyPinLaw", name := "step", desc := "(Lpheromedian/model/VertexQueue;I[Z)Z" } : Jvm.MethodName)).before a0 Z = true := hw _ (List.mem_of_getElem? (i := 30) rfl)
theorem w31 {Z : State} {a0 : Array Value} (hw : Hw Z a0) : (Jvm.Cond.initialized "pheromedian/model/VertexQueueIsEmptyPinLaw").before a0 Z = true := hw _ (List.mem_of_getElem? (i := 31) rfl)
theorem w32 {Z : State} {a0 : Array Value} (hw : Hw Z a0) : (Jvm.Cond.code ({ cls := "pheromedian/model/VertexQueueIsEmptyPinLaw", name := "step", desc := "(Lpheromedian/model/VertexQueue;I[Z)Z" } : Jvm.MethodName) method_2_code (5 : Nat) (Option.some Jvm.ClassFile.FieldType.boolean)).before a0 Z = true := hw _ (List.mem_of_getElem? (i := 32) rfl)
theorem w33 {Z : State} {a0 : Array Value} (hw : Hw Z a0) : (Jvm.Cond.methodLink "pheromedian/model/VertexQueueIsEmptyPinLaw" (13 : Nat) ({ cls := "pheromedian/model/VertexQueue", name := "update", desc := "(I)V" } : Jvm.MethodName)).before a0 Z = true := hw _ (List.mem_of_getElem? (i := 33) rfl)
theorem w34 {Z : State} {a0 : Array Value} (hw : Hw Z a0) : (Jvm.Cond.declares ({ cls := "pheromedian/model/VertexQueue", name := "update", desc := "(I)V" } : Jvm.MethodName)).before a0 Z = true := hw _ (List.mem_of_getElem? (i := 34) rfl)
theorem w35 {Z : State} {a0 : Array Value} (hw : Hw Z a0) : (Jvm.Cond.instanceMethod ({ cls := "pheromedian/model/VertexQueue", name := "update", desc := "(I)V" } : Jvm.MethodName)).before a0 Z = true := hw _ (List.mem_of_getElem? (i := 35) rfl)
theorem w36 {Z : State} {a0 : Array Value} (hw : Hw Z a0) : (Jvm.Cond.selects "pheromedian/model/VertexQueue" ({ cls := "pheromedian/model/VertexQueue", name := "update", desc := "(I)V" } : Jvm.MethodName) ({ cls := "pheromedian/model/VertexQueue", name := "update", desc := "(I)V" } : Jvm.MethodName)).before a0 Z = true := hw _ (List.mem_of_getElem? (i := 36) rfl)
theorem w37 {Z : State} {a0 : Array Value} (hw : Hw Z a0) : (Jvm.Cond.code ({ cls := "pheromedian/model/VertexQueue", name := "update", desc := "(I)V" } : Jvm.MethodName) prog_16_method_3_code (3 : Nat) (Option.none : Option Jvm.ClassFile.FieldType)).before a0 Z = true := hw _ (List.mem_of_getElem? (i := 37) rfl)
theorem w38 {Z : State} {a0 : Array Value} (hw : Hw Z a0) : (Jvm.Cond.methodLink "pheromedian/model/VertexQueue" (30 : Nat) ({ cls := "pheromedian/model/VertexQueue", name := "place", desc := "(II)V" } : Jvm.MethodName)).before a0 Z = true := hw _ (List.mem_of_getElem? (i := 38) rfl)
theorem w39 {Z : State} {a0 : Array Value} (hw : Hw Z a0) : (Jvm.Cond.instanceMethod ({ cls := "pheromedian/model/VertexQueue", name := "place", desc := "(II)V" } : Jvm.MethodName)).before a0 Z = true := hw _ (List.mem_of_getElem? (i := 39) rfl)
theorem w40 {Z : State} {a0 : Array Value} (hw : Hw Z a0) : (Jvm.Cond.privateMethod ({ cls := "pheromedian/model/VertexQueue", name := "place", desc := "(II)V" } : Jvm.MethodName)).before a0 Z = true := hw _ (List.mem_of_getElem? (i := 40) rfl)
theorem w41 {Z : State} {a0 : Array Value} (hw : Hw Z a0) : (Jvm.Cond.code ({ cls := "pheromedian/model/VertexQueue", name := "place", desc := "(II)V" } : Jvm.MethodName) prog_16_method_7_code (3 : Nat) (Option.none : Option Jvm.ClassFile.FieldType)).before a0 Z = true := hw _ (List.mem_of_getElem? (i := 41) rfl)
theorem w42 {Z : State} {a0 : Array Value} (hw : Hw Z a0) : (Jvm.Cond.methodLink "pheromedian/model/VertexQueue" (34 : Nat) ({ cls := "pheromedian/model/VertexQueue", name := "siftUp", desc := "(I)V" } : Jvm.MethodName)).before a0 Z = true := hw _ (List.mem_of_getElem? (i := 42) rfl)
theorem w43 {Z : State} {a0 : Array Value} (hw : Hw Z a0) : (Jvm.Cond.instanceMethod ({ cls := "pheromedian/model/VertexQueue", name := "siftUp", desc := "(I)V" } : Jvm.MethodName)).before a0 Z = true := hw _ (List.mem_of_getElem? (i := 43) rfl)
theorem w44 {Z : State} {a0 : Array Value} (hw : Hw Z a0) : (Jvm.Cond.privateMethod ({ cls := "pheromedian/model/VertexQueue", name := "siftUp", desc := "(I)V" } : Jvm.MethodName)).before a0 Z = true := hw _ (List.mem_of_getElem? (i := 44) rfl)
theorem w45 {Z : State} {a0 : Array Value} (hw : Hw Z a0) : (Jvm.Cond.code ({ cls := "pheromedian/model/VertexQueue", name := "siftUp", desc := "(I)V" } : Jvm.MethodName) prog_16_method_5_code (4 : Nat) (Option.none : Option Jvm.ClassFile.FieldType)).before a0 Z = true := hw _ (List.mem_of_getElem? (i := 45) rfl)
theorem w46 {Z : State} {a0 : Array Value} (hw : Hw Z a0) : (Jvm.Cond.methodLink "pheromedian/model/VertexQueueIsEmptyPinLaw" (7 : Nat) ({ cls := "pheromedian/model/VertexQueue", name := "poll", desc := "()I" } : Jvm.MethodName)).before a0 Z = true := hw _ (List.mem_of_getElem? (i := 46) rfl)
theorem w47 {Z : State} {a0 : Array Value} (hw : Hw Z a0) : (Jvm.Cond.declares ({ cls := "pheromedian/model/VertexQueue", name := "poll", desc := "()I" } : Jvm.MethodName)).before a0 Z = true := hw _ (List.mem_of_getElem? (i := 47) rfl)
theorem w48 {Z : State} {a0 : Array Value} (hw : Hw Z a0) : (Jvm.Cond.instanceMethod ({ cls := "pheromedian/model/VertexQueue", name := "poll", desc := "()I" } : Jvm.MethodName)).before a0 Z = true := hw _ (List.mem_of_getElem? (i := 48) rfl)
theorem w49 {Z : State} {a0 : Array Value} (hw : Hw Z a0) : (Jvm.Cond.selects "pheromedian/model/VertexQueue" ({ cls := "pheromedian/model/VertexQueue", name := "poll", desc := "()I" } : Jvm.MethodName) ({ cls := "pheromedian/model/VertexQueue", name := "poll", desc := "()I" } : Jvm.MethodName)).before a0 Z = true := hw _ (List.mem_of_getElem? (i := 49) rfl)
theorem w50 {Z : State} {a0 : Array Value} (hw : Hw Z a0) : (Jvm.Cond.code ({ cls := "pheromedian/model/VertexQueue", name := "poll", desc := "()I" } : Jvm.MethodName) prog_16_method_4_code (2 : Nat) (Option.some Jvm.ClassFile.FieldType.int)).before a0 Z = true := hw _ (List.mem_of_getElem? (i := 50) rfl)
theorem w51 {Z : State} {a0 : Array Value} (hw : Hw Z a0) : (Jvm.Cond.methodLink "pheromedian/model/VertexQueue" (38 : Nat) ({ cls := "pheromedian/model/VertexQueue", name := "siftDown", desc := "(I)V" } : Jvm.MethodName)).before a0 Z = true := hw _ (List.mem_of_getElem? (i := 51) rfl)
theorem w52 {Z : State} {a0 : Array Value} (hw : Hw Z a0) : (Jvm.Cond.instanceMethod ({ cls := "pheromedian/model/VertexQueue", name := "siftDown", desc := "(I)V" } : Jvm.MethodName)).before a0 Z = true := hw _ (List.mem_of_getElem? (i := 52) rfl)
theorem w53 {Z : State} {a0 : Array Value} (hw : Hw Z a0) : (Jvm.Cond.privateMethod ({ cls := "pheromedian/model/VertexQueue", name := "siftDown", desc := "(I)V" } : Jvm.MethodName)).before a0 Z = true := hw _ (List.mem_of_getElem? (i := 53) rfl)
theorem w54 {Z : State} {a0 : Array Value} (hw : Hw Z a0) : (Jvm.Cond.code ({ cls := "pheromedian/model/VertexQueue", name := "siftDown", desc := "(I)V" } : Jvm.MethodName) prog_16_method_6_code (4 : Nat) (Option.none : Option Jvm.ClassFile.FieldType)).before a0 Z = true := hw _ (List.mem_of_getElem? (i := 54) rfl)
theorem d1_0 : decode prog_16_method_1_code 0 = .ok (.aload_n 0, 1) := by decide +kernel
theorem d1_1 : decode prog_16_method_1_code 1 = .ok (.invokespecial 1, 3) := by decide +kernel
theorem d1_4 : decode prog_16_method_1_code 4 = .ok (.aload_n 0, 1) := by decide +kernel
theorem d1_5 : decode prog_16_method_1_code 5 = .ok (.aload_n 1, 1) := by decide +kernel
theorem d1_6 : decode prog_16_method_1_code 6 = .ok (.putfield 7, 3) := by decide +kernel
theorem d1_9 : decode prog_16_method_1_code 9 = .ok (.aload_n 0, 1) := by decide +kernel
theorem d1_10 : decode prog_16_method_1_code 10 = .ok (.aload_n 1, 1) := by decide +kernel
theorem d1_11 : decode prog_16_method_1_code 11 = .ok (.arraylength, 1) := by decide +kernel
theorem d1_12 : decode prog_16_method_1_code 12 = .ok (.newarray .int, 2) := by decide +kernel
theorem d1_14 : decode prog_16_method_1_code 14 = .ok (.putfield 13, 3) := by decide +kernel
theorem d1_17 : decode prog_16_method_1_code 17 = .ok (.aload_n 0, 1) := by decide +kernel
theorem d1_18 : decode prog_16_method_1_code 18 = .ok (.aload_n 1, 1) := by decide +kernel
theorem d1_19 : decode prog_16_method_1_code 19 = .ok (.arraylength, 1) := by decide +kernel
theorem d1_20 : decode prog_16_method_1_code 20 = .ok (.newarray .int, 2) := by decide +kernel
theorem d1_22 : decode prog_16_method_1_code 22 = .ok (.putfield 17, 3) := by decide +kernel
theorem d1_25 : decode prog_16_method_1_code 25 = .ok (.aload_n 0, 1) := by decide +kernel
theorem d1_26 : decode prog_16_method_1_code 26 = .ok (.getfield 17, 3) := by decide +kernel
theorem d1_29 : decode prog_16_method_1_code 29 = .ok (.iconst (-1), 1) := by decide +kernel
theorem d1_30 : decode prog_16_method_1_code 30 = .ok (.invokestatic 20, 3) := by decide +kernel
theorem d1_33 : decode prog_16_method_1_code 33 = .ok (.return_, 1) := by decide +kernel
theorem d2_0 : decode jdk_65_method_103_code 0 = .ok (.iconst 0, 1) := by decide +kernel
theorem d2_1 : decode jdk_65_method_103_code 1 = .ok (.istore_n 2, 1) := by decide +kernel
theorem d2_2 : decode jdk_65_method_103_code 2 = .ok (.aload_n 0, 1) := by decide +kernel
theorem d2_3 : decode jdk_65_method_103_code 3 = .ok (.arraylength, 1) := by decide +kernel
theorem d2_4 : decode jdk_65_method_103_code 4 = .ok (.istore_n 3, 1) := by decide +kernel
theorem d2_5 : decode jdk_65_method_103_code 5 = .ok (.iload_n 2, 1) := by decide +kernel
theorem d2_6 : decode jdk_65_method_103_code 6 = .ok (.iload_n 3, 1) := by decide +kernel
theorem d2_7 : decode jdk_65_method_103_code 7 = .ok (.if_icmp .ge 13, 3) := by decide +kernel
theorem d2_10 : decode jdk_65_method_103_code 10 = .ok (.aload_n 0, 1) := by decide +kernel
theorem d2_11 : decode jdk_65_method_103_code 11 = .ok (.iload_n 2, 1) := by decide +kernel
theorem d2_12 : decode jdk_65_method_103_code 12 = .ok (.iload_n 1, 1) := by decide +kernel
theorem d2_13 : decode jdk_65_method_103_code 13 = .ok (.iastore, 1) := by decide +kernel
theorem d2_14 : decode jdk_65_method_103_code 14 = .ok (.iinc 2 1, 3) := by decide +kernel
theorem d2_17 : decode jdk_65_method_103_code 17 = .ok (.goto (-12), 3) := by decide +kernel
theorem d2_20 : decode jdk_65_method_103_code 20 = .ok (.return_, 1) := by decide +kernel
theorem d3_0 : decode prog_16_method_2_code 0 = .ok (.aload_n 0, 1) := by decide +kernel
theorem d3_1 : decode prog_16_method_2_code 1 = .ok (.getfield 26, 3) := by decide +kernel
theorem d3_4 : decode prog_16_method_2_code 4 = .ok (.ifCond .ne 7, 3) := by decide +kernel
theorem d3_7 : decode prog_16_method_2_code 7 = .ok (.iconst 1, 1) := by decide +kernel
theorem d3_8 : decode prog_16_method_2_code 8 = .ok (.goto 4, 3) := by decide +kernel
theorem d3_11 : decode prog_16_method_2_code 11 = .ok (.iconst 0, 1) := by decide +kernel
theorem d3_12 : decode prog_16_method_2_code 12 = .ok (.ireturn, 1) := by decide +kernel
theorem d4_0 : decode method_2_code 0 = .ok (.aload_n 2, 1) := by decide +kernel
theorem d4_1 : decode method_2_code 1 = .ok (.iconst 0, 1) := by decide +kernel
theorem d4_2 : decode method_2_code 2 = .ok (.baload, 1) := by decide +kernel
theorem d4_3 : decode method_2_code 3 = .ok (.ifCond .ne 15, 3) := by decide +kernel
theorem d4_6 : decode method_2_code 6 = .ok (.aload_n 2, 1) := by decide +kernel
theorem d4_7 : decode method_2_code 7 = .ok (.iconst 1, 1) := by decide +kernel
theorem d4_8 : decode method_2_code 8 = .ok (.baload, 1) := by decide +kernel
theorem d4_9 : decode method_2_code 9 = .ok (.ifCond .ne 9, 3) := by decide +kernel
theorem d4_12 : decode method_2_code 12 = .ok (.aload_n 2, 1) := by decide +kernel
theorem d4_13 : decode method_2_code 13 = .ok (.iconst 2, 1) := by decide +kernel
theorem d4_14 : decode method_2_code 14 = .ok (.baload, 1) := by decide +kernel
theorem d4_15 : decode method_2_code 15 = .ok (.ifCond .eq 7, 3) := by decide +kernel
theorem d4_18 : decode method_2_code 18 = .ok (.iconst 1, 1) := by decide +kernel
theorem d4_19 : decode method_2_code 19 = .ok (.goto 4, 3) := by decide +kernel
theorem d4_22 : decode method_2_code 22 = .ok (.iconst 0, 1) := by decide +kernel
theorem d4_23 : decode method_2_code 23 = .ok (.istore_n 3, 1) := by decide +kernel
theorem d4_24 : decode method_2_code 24 = .ok (.iload_n 1, 1) := by decide +kernel
theorem d4_25 : decode method_2_code 25 = .ok (.iconst 1, 1) := by decide +kernel
theorem d4_26 : decode method_2_code 26 = .ok (.iand, 1) := by decide +kernel
theorem d4_27 : decode method_2_code 27 = .ok (.ifCond .eq 41, 3) := by decide +kernel
theorem d4_30 : decode method_2_code 30 = .ok (.iload_n 3, 1) := by decide +kernel
theorem d4_31 : decode method_2_code 31 = .ok (.ifCond .eq 37, 3) := by decide +kernel
theorem d4_34 : decode method_2_code 34 = .ok (.aload_n 0, 1) := by decide +kernel
theorem d4_35 : decode method_2_code 35 = .ok (.invokevirtual 7, 3) := by decide +kernel
theorem d4_38 : decode method_2_code 38 = .ok (.istore 4, 2) := by decide +kernel
theorem d4_40 : decode method_2_code 40 = .ok (.iload 4, 2) := by decide +kernel
theorem d4_42 : decode method_2_code 42 = .ok (.ifCond .lt 16, 3) := by decide +kernel
theorem d4_45 : decode method_2_code 45 = .ok (.iload 4, 2) := by decide +kernel
theorem d4_47 : decode method_2_code 47 = .ok (.iconst 2, 1) := by decide +kernel
theorem d4_48 : decode method_2_code 48 = .ok (.if_icmp .gt 10, 3) := by decide +kernel
theorem d4_51 : decode method_2_code 51 = .ok (.aload_n 2, 1) := by decide +kernel
theorem d4_52 : decode method_2_code 52 = .ok (.iload 4, 2) := by decide +kernel
theorem d4_54 : decode method_2_code 54 = .ok (.baload, 1) := by decide +kernel
theorem d4_55 : decode method_2_code 55 = .ok (.ifCond .ne 5, 3) := by decide +kernel
theorem d4_60 : decode method_2_code 60 = .ok (.aload_n 2, 1) := by decide +kernel
theorem d4_61 : decode method_2_code 61 = .ok (.iload 4, 2) := by decide +kernel
theorem d4_63 : decode method_2_code 63 = .ok (.iconst 0, 1) := by decide +kernel
theorem d4_64 : decode method_2_code 64 = .ok (.bastore, 1) := by decide +kernel
theorem d4_65 : decode method_2_code 65 = .ok (.goto 23, 3) := by decide +kernel
theorem d4_68 : decode method_2_code 68 = .ok (.iload_n 1, 1) := by decide +kernel
theorem d4_69 : decode method_2_code 69 = .ok (.iconst 1, 1) := by decide +kernel
theorem d4_70 : decode method_2_code 70 = .ok (.iushr, 1) := by decide +kernel
theorem d4_71 : decode method_2_code 71 = .ok (.iconst 3, 1) := by decide +kernel
theorem d4_72 : decode method_2_code 72 = .ok (.iand, 1) := by decide +kernel
theorem d4_73 : decode method_2_code 73 = .ok (.iconst 3, 1) := by decide +kernel
theorem d4_74 : decode method_2_code 74 = .ok (.irem, 1) := by decide +kernel
theorem d4_75 : decode method_2_code 75 = .ok (.istore 4, 2) := by decide +kernel
theorem d4_77 : decode method_2_code 77 = .ok (.aload_n 0, 1) := by decide +kernel
theorem d4_78 : decode method_2_code 78 = .ok (.iload 4, 2) := by decide +kernel
theorem d4_80 : decode method_2_code 80 = .ok (.invokevirtual 13, 3) := by decide +kernel
theorem d4_83 : decode method_2_code 83 = .ok (.aload_n 2, 1) := by decide +kernel
theorem d4_84 : decode method_2_code 84 = .ok (.iload 4, 2) := by decide +kernel
theorem d4_86 : decode method_2_code 86 = .ok (.iconst 1, 1) := by decide +kernel
theorem d4_87 : decode method_2_code 87 = .ok (.bastore, 1) := by decide +kernel
theorem d4_88 : decode method_2_code 88 = .ok (.aload_n 2, 1) := by decide +kernel
theorem d4_89 : decode method_2_code 89 = .ok (.iconst 0, 1) := by decide +kernel
theorem d4_90 : decode method_2_code 90 = .ok (.baload, 1) := by decide +kernel
theorem d4_91 : decode method_2_code 91 = .ok (.ifCond .ne 19, 3) := by decide +kernel
theorem d4_94 : decode method_2_code 94 = .ok (.aload_n 2, 1) := by decide +kernel
theorem d4_95 : decode method_2_code 95 = .ok (.iconst 1, 1) := by decide +kernel
theorem d4_96 : decode method_2_code 96 = .ok (.baload, 1) := by decide +kernel
theorem d4_97 : decode method_2_code 97 = .ok (.ifCond .ne 13, 3) := by decide +kernel
theorem d4_100 : decode method_2_code 100 = .ok (.aload_n 2, 1) := by decide +kernel
theorem d4_101 : decode method_2_code 101 = .ok (.iconst 2, 1) := by decide +kernel
theorem d4_102 : decode method_2_code 102 = .ok (.baload, 1) := by decide +kernel
theorem d4_103 : decode method_2_code 103 = .ok (.ifCond .ne 7, 3) := by decide +kernel
theorem d4_106 : decode method_2_code 106 = .ok (.iconst 1, 1) := by decide +kernel
theorem d4_107 : decode method_2_code 107 = .ok (.goto 4, 3) := by decide +kernel
theorem d4_110 : decode method_2_code 110 = .ok (.iconst 0, 1) := by decide +kernel
theorem d4_111 : decode method_2_code 111 = .ok (.istore 4, 2) := by decide +kernel
theorem d4_113 : decode method_2_code 113 = .ok (.aload_n 0, 1) := by decide +kernel
theorem d4_114 : decode method_2_code 114 = .ok (.invokevirtual 17, 3) := by decide +kernel
theorem d4_117 : decode method_2_code 117 = .ok (.iload 4, 2) := by decide +kernel
theorem d4_119 : decode method_2_code 119 = .ok (.if_icmp .ne 7, 3) := by decide +kernel
theorem d4_122 : decode method_2_code 122 = .ok (.iconst 1, 1) := by decide +kernel
theorem d4_123 : decode method_2_code 123 = .ok (.goto 4, 3) := by decide +kernel
theorem d4_127 : decode method_2_code 127 = .ok (.ireturn, 1) := by decide +kernel
theorem d5_0 : decode prog_16_method_3_code 0 = .ok (.aload_n 0, 1) := by decide +kernel
theorem d5_1 : decode prog_16_method_3_code 1 = .ok (.getfield 17, 3) := by decide +kernel
theorem d5_4 : decode prog_16_method_3_code 4 = .ok (.iload_n 1, 1) := by decide +kernel
theorem d5_5 : decode prog_16_method_3_code 5 = .ok (.iaload, 1) := by decide +kernel
theorem d5_6 : decode prog_16_method_3_code 6 = .ok (.istore_n 2, 1) := by decide +kernel
theorem d5_7 : decode prog_16_method_3_code 7 = .ok (.iload_n 2, 1) := by decide +kernel
theorem d5_8 : decode prog_16_method_3_code 8 = .ok (.ifCond .ge 21, 3) := by decide +kernel
theorem d5_11 : decode prog_16_method_3_code 11 = .ok (.aload_n 0, 1) := by decide +kernel
theorem d5_12 : decode prog_16_method_3_code 12 = .ok (.dup, 1) := by decide +kernel
theorem d5_13 : decode prog_16_method_3_code 13 = .ok (.getfield 26, 3) := by decide +kernel
theorem d5_16 : decode prog_16_method_3_code 16 = .ok (.dup_x1, 1) := by decide +kernel
theorem d5_17 : decode prog_16_method_3_code 17 = .ok (.iconst 1, 1) := by decide +kernel
theorem d5_18 : decode prog_16_method_3_code 18 = .ok (.iadd, 1) := by decide +kernel
theorem d5_19 : decode prog_16_method_3_code 19 = .ok (.putfield 26, 3) := by decide +kernel
theorem d5_22 : decode prog_16_method_3_code 22 = .ok (.istore_n 2, 1) := by decide +kernel
theorem d5_23 : decode prog_16_method_3_code 23 = .ok (.aload_n 0, 1) := by decide +kernel
theorem d5_24 : decode prog_16_method_3_code 24 = .ok (.iload_n 1, 1) := by decide +kernel
theorem d5_25 : decode prog_16_method_3_code 25 = .ok (.iload_n 2, 1) := by decide +kernel
theorem d5_26 : decode prog_16_method_3_code 26 = .ok (.invokevirtual 30, 3) := by decide +kernel
theorem d5_29 : decode prog_16_method_3_code 29 = .ok (.aload_n 0, 1) := by decide +kernel
theorem d5_30 : decode prog_16_method_3_code 30 = .ok (.iload_n 2, 1) := by decide +kernel
theorem d5_31 : decode prog_16_method_3_code 31 = .ok (.invokevirtual 34, 3) := by decide +kernel
theorem d5_34 : decode prog_16_method_3_code 34 = .ok (.return_, 1) := by decide +kernel
theorem d6_0 : decode prog_16_method_7_code 0 = .ok (.aload_n 0, 1) := by decide +kernel
theorem d6_1 : decode prog_16_method_7_code 1 = .ok (.getfield 13, 3) := by decide +kernel
theorem d6_4 : decode prog_16_method_7_code 4 = .ok (.iload_n 2, 1) := by decide +kernel
theorem d6_5 : decode prog_16_method_7_code 5 = .ok (.iload_n 1, 1) := by decide +kernel
theorem d6_6 : decode prog_16_method_7_code 6 = .ok (.iastore, 1) := by decide +kernel
theorem d6_7 : decode prog_16_method_7_code 7 = .ok (.aload_n 0, 1) := by decide +kernel
theorem d6_8 : decode prog_16_method_7_code 8 = .ok (.getfield 17, 3) := by decide +kernel
theorem d6_11 : decode prog_16_method_7_code 11 = .ok (.iload_n 1, 1) := by decide +kernel
theorem d6_12 : decode prog_16_method_7_code 12 = .ok (.iload_n 2, 1) := by decide +kernel
theorem d6_13 : decode prog_16_method_7_code 13 = .ok (.iastore, 1) := by decide +kernel
theorem d6_14 : decode prog_16_method_7_code 14 = .ok (.return_, 1) := by decide +kernel
theorem d7_0 : decode prog_16_method_5_code 0 = .ok (.aload_n 0, 1) := by decide +kernel
theorem d7_1 : decode prog_16_method_5_code 1 = .ok (.getfield 13, 3) := by decide +kernel
theorem d7_4 : decode prog_16_method_5_code 4 = .ok (.iload_n 1, 1) := by decide +kernel
theorem d7_5 : decode prog_16_method_5_code 5 = .ok (.iaload, 1) := by decide +kernel
theorem d7_6 : decode prog_16_method_5_code 6 = .ok (.istore_n 2, 1) := by decide +kernel
theorem d7_7 : decode prog_16_method_5_code 7 = .ok (.iload_n 1, 1) := by decide +kernel
theorem d7_8 : decode prog_16_method_5_code 8 = .ok (.ifCond .le 49, 3) := by decide +kernel
theorem d7_11 : decode prog_16_method_5_code 11 = .ok (.iload_n 1, 1) := by decide +kernel
theorem d7_12 : decode prog_16_method_5_code 12 = .ok (.iconst 1, 1) := by decide +kernel
theorem d7_13 : decode prog_16_method_5_code 13 = .ok (.isub, 1) := by decide +kernel
theorem d7_14 : decode prog_16_method_5_code 14 = .ok (.iconst 2, 1) := by decide +kernel
theorem d7_15 : decode prog_16_method_5_code 15 = .ok (.idiv, 1) := by decide +kernel
theorem d7_16 : decode prog_16_method_5_code 16 = .ok (.istore_n 3, 1) := by decide +kernel
theorem d7_17 : decode prog_16_method_5_code 17 = .ok (.aload_n 0, 1) := by decide +kernel
theorem d7_18 : decode prog_16_method_5_code 18 = .ok (.getfield 7, 3) := by decide +kernel
theorem d7_21 : decode prog_16_method_5_code 21 = .ok (.aload_n 0, 1) := by decide +kernel
theorem d7_22 : decode prog_16_method_5_code 22 = .ok (.getfield 13, 3) := by decide +kernel
theorem d7_25 : decode prog_16_method_5_code 25 = .ok (.iload_n 3, 1) := by decide +kernel
theorem d7_26 : decode prog_16_method_5_code 26 = .ok (.iaload, 1) := by decide +kernel
theorem d7_27 : decode prog_16_method_5_code 27 = .ok (.laload, 1) := by decide +kernel
theorem d7_28 : decode prog_16_method_5_code 28 = .ok (.aload_n 0, 1) := by decide +kernel
theorem d7_29 : decode prog_16_method_5_code 29 = .ok (.getfield 7, 3) := by decide +kernel
theorem d7_32 : decode prog_16_method_5_code 32 = .ok (.iload_n 2, 1) := by decide +kernel
theorem d7_33 : decode prog_16_method_5_code 33 = .ok (.laload, 1) := by decide +kernel
theorem d7_34 : decode prog_16_method_5_code 34 = .ok (.lcmp, 1) := by decide +kernel
theorem d7_35 : decode prog_16_method_5_code 35 = .ok (.ifCond .gt 6, 3) := by decide +kernel
theorem d7_38 : decode prog_16_method_5_code 38 = .ok (.goto 19, 3) := by decide +kernel
theorem d7_41 : decode prog_16_method_5_code 41 = .ok (.aload_n 0, 1) := by decide +kernel
theorem d7_42 : decode prog_16_method_5_code 42 = .ok (.aload_n 0, 1) := by decide +kernel
theorem d7_43 : decode prog_16_method_5_code 43 = .ok (.getfield 13, 3) := by decide +kernel
theorem d7_46 : decode prog_16_method_5_code 46 = .ok (.iload_n 3, 1) := by decide +kernel
theorem d7_47 : decode prog_16_method_5_code 47 = .ok (.iaload, 1) := by decide +kernel
theorem d7_48 : decode prog_16_method_5_code 48 = .ok (.iload_n 1, 1) := by decide +kernel
theorem d7_49 : decode prog_16_method_5_code 49 = .ok (.invokevirtual 30, 3) := by decide +kernel
theorem d7_52 : decode prog_16_method_5_code 52 = .ok (.iload_n 3, 1) := by decide +kernel
theorem d7_53 : decode prog_16_method_5_code 53 = .ok (.istore_n 1, 1) := by decide +kernel
theorem d7_54 : decode prog_16_method_5_code 54 = .ok (.goto (-47), 3) := by decide +kernel
theorem d7_57 : decode prog_16_method_5_code 57 = .ok (.aload_n 0, 1) := by decide +kernel
theorem d7_58 : decode prog_16_method_5_code 58 = .ok (.iload_n 2, 1) := by decide +kernel
theorem d7_59 : decode prog_16_method_5_code 59 = .ok (.iload_n 1, 1) := by decide +kernel
theorem d7_60 : decode prog_16_method_5_code 60 = .ok (.invokevirtual 30, 3) := by decide +kernel
theorem d7_63 : decode prog_16_method_5_code 63 = .ok (.return_, 1) := by decide +kernel
theorem d8_0 : decode prog_16_method_4_code 0 = .ok (.aload_n 0, 1) := by decide +kernel
theorem d8_1 : decode prog_16_method_4_code 1 = .ok (.getfield 13, 3) := by decide +kernel
theorem d8_4 : decode prog_16_method_4_code 4 = .ok (.iconst 0, 1) := by decide +kernel
theorem d8_5 : decode prog_16_method_4_code 5 = .ok (.iaload, 1) := by decide +kernel
theorem d8_6 : decode prog_16_method_4_code 6 = .ok (.istore_n 1, 1) := by decide +kernel
theorem d8_7 : decode prog_16_method_4_code 7 = .ok (.aload_n 0, 1) := by decide +kernel
theorem d8_8 : decode prog_16_method_4_code 8 = .ok (.getfield 17, 3) := by decide +kernel
theorem d8_11 : decode prog_16_method_4_code 11 = .ok (.iload_n 1, 1) := by decide +kernel
theorem d8_12 : decode prog_16_method_4_code 12 = .ok (.iconst (-1), 1) := by decide +kernel
theorem d8_13 : decode prog_16_method_4_code 13 = .ok (.iastore, 1) := by decide +kernel
theorem d8_14 : decode prog_16_method_4_code 14 = .ok (.aload_n 0, 1) := by decide +kernel
theorem d8_15 : decode prog_16_method_4_code 15 = .ok (.dup, 1) := by decide +kernel
theorem d8_16 : decode prog_16_method_4_code 16 = .ok (.getfield 26, 3) := by decide +kernel
theorem d8_19 : decode prog_16_method_4_code 19 = .ok (.iconst 1, 1) := by decide +kernel
theorem d8_20 : decode prog_16_method_4_code 20 = .ok (.isub, 1) := by decide +kernel
theorem d8_21 : decode prog_16_method_4_code 21 = .ok (.putfield 26, 3) := by decide +kernel
theorem d8_24 : decode prog_16_method_4_code 24 = .ok (.aload_n 0, 1) := by decide +kernel
theorem d8_25 : decode prog_16_method_4_code 25 = .ok (.getfield 26, 3) := by decide +kernel
theorem d8_28 : decode prog_16_method_4_code 28 = .ok (.ifCond .le 22, 3) := by decide +kernel
theorem d8_31 : decode prog_16_method_4_code 31 = .ok (.aload_n 0, 1) := by decide +kernel
theorem d8_32 : decode prog_16_method_4_code 32 = .ok (.aload_n 0, 1) := by decide +kernel
theorem d8_33 : decode prog_16_method_4_code 33 = .ok (.getfield 13, 3) := by decide +kernel
theorem d8_36 : decode prog_16_method_4_code 36 = .ok (.aload_n 0, 1) := by decide +kernel
theorem d8_37 : decode prog_16_method_4_code 37 = .ok (.getfield 26, 3) := by decide +kernel
theorem d8_40 : decode prog_16_method_4_code 40 = .ok (.iaload, 1) := by decide +kernel
theorem d8_41 : decode prog_16_method_4_code 41 = .ok (.iconst 0, 1) := by decide +kernel
theorem d8_42 : decode prog_16_method_4_code 42 = .ok (.invokevirtual 30, 3) := by decide +kernel
theorem d8_45 : decode prog_16_method_4_code 45 = .ok (.aload_n 0, 1) := by decide +kernel
theorem d8_46 : decode prog_16_method_4_code 46 = .ok (.iconst 0, 1) := by decide +kernel
theorem d8_47 : decode prog_16_method_4_code 47 = .ok (.invokevirtual 38, 3) := by decide +kernel
theorem d8_50 : decode prog_16_method_4_code 50 = .ok (.iload_n 1, 1) := by decide +kernel
theorem d8_51 : decode prog_16_method_4_code 51 = .ok (.ireturn, 1) := by decide +kernel
theorem d9_0 : decode prog_16_method_6_code 0 = .ok (.aload_n 0, 1) := by decide +kernel
theorem d9_1 : decode prog_16_method_6_code 1 = .ok (.getfield 13, 3) := by decide +kernel
theorem d9_4 : decode prog_16_method_6_code 4 = .ok (.iload_n 1, 1) := by decide +kernel
theorem d9_5 : decode prog_16_method_6_code 5 = .ok (.iaload, 1) := by decide +kernel
theorem d9_6 : decode prog_16_method_6_code 6 = .ok (.istore_n 2, 1) := by decide +kernel
theorem d9_7 : decode prog_16_method_6_code 7 = .ok (.iconst 2, 1) := by decide +kernel
theorem d9_8 : decode prog_16_method_6_code 8 = .ok (.iload_n 1, 1) := by decide +kernel
theorem d9_9 : decode prog_16_method_6_code 9 = .ok (.imul, 1) := by decide +kernel
theorem d9_10 : decode prog_16_method_6_code 10 = .ok (.iconst 1, 1) := by decide +kernel
theorem d9_11 : decode prog_16_method_6_code 11 = .ok (.iadd, 1) := by decide +kernel
theorem d9_12 : decode prog_16_method_6_code 12 = .ok (.istore_n 3, 1) := by decide +kernel
theorem d9_13 : decode prog_16_method_6_code 13 = .ok (.iload_n 3, 1) := by decide +kernel
theorem d9_14 : decode prog_16_method_6_code 14 = .ok (.aload_n 0, 1) := by decide +kernel
theorem d9_15 : decode prog_16_method_6_code 15 = .ok (.getfield 26, 3) := by decide +kernel
theorem d9_18 : decode prog_16_method_6_code 18 = .ok (.if_icmp .lt 6, 3) := by decide +kernel
theorem d9_21 : decode prog_16_method_6_code 21 = .ok (.goto 84, 3) := by decide +kernel
theorem d9_24 : decode prog_16_method_6_code 24 = .ok (.iload_n 3, 1) := by decide +kernel
theorem d9_25 : decode prog_16_method_6_code 25 = .ok (.iconst 1, 1) := by decide +kernel
theorem d9_26 : decode prog_16_method_6_code 26 = .ok (.iadd, 1) := by decide +kernel
theorem d9_27 : decode prog_16_method_6_code 27 = .ok (.aload_n 0, 1) := by decide +kernel
theorem d9_28 : decode prog_16_method_6_code 28 = .ok (.getfield 26, 3) := by decide +kernel
theorem d9_31 : decode prog_16_method_6_code 31 = .ok (.if_icmp .ge 34, 3) := by decide +kernel
theorem d9_34 : decode prog_16_method_6_code 34 = .ok (.aload_n 0, 1) := by decide +kernel
theorem d9_35 : decode prog_16_method_6_code 35 = .ok (.getfield 7, 3) := by decide +kernel
theorem d9_38 : decode prog_16_method_6_code 38 = .ok (.aload_n 0, 1) := by decide +kernel
theorem d9_39 : decode prog_16_method_6_code 39 = .ok (.getfield 13, 3) := by decide +kernel
theorem d9_42 : decode prog_16_method_6_code 42 = .ok (.iload_n 3, 1) := by decide +kernel
theorem d9_43 : decode prog_16_method_6_code 43 = .ok (.iconst 1, 1) := by decide +kernel
theorem d9_44 : decode prog_16_method_6_code 44 = .ok (.iadd, 1) := by decide +kernel
theorem d9_45 : decode prog_16_method_6_code 45 = .ok (.iaload, 1) := by decide +kernel
theorem d9_46 : decode prog_16_method_6_code 46 = .ok (.laload, 1) := by decide +kernel
theorem d9_47 : decode prog_16_method_6_code 47 = .ok (.aload_n 0, 1) := by decide +kernel
theorem d9_48 : decode prog_16_method_6_code 48 = .ok (.getfield 7, 3) := by decide +kernel
theorem d9_51 : decode prog_16_method_6_code 51 = .ok (.aload_n 0, 1) := by decide +kernel
theorem d9_52 : decode prog_16_method_6_code 52 = .ok (.getfield 13, 3) := by decide +kernel
theorem d9_55 : decode prog_16_method_6_code 55 = .ok (.iload_n 3, 1) := by decide +kernel
theorem d9_56 : decode prog_16_method_6_code 56 = .ok (.iaload, 1) := by decide +kernel
theorem d9_57 : decode prog_16_method_6_code 57 = .ok (.laload, 1) := by decide +kernel
theorem d9_58 : decode prog_16_method_6_code 58 = .ok (.lcmp, 1) := by decide +kernel
theorem d9_59 : decode prog_16_method_6_code 59 = .ok (.ifCond .ge 6, 3) := by decide +kernel
theorem d9_62 : decode prog_16_method_6_code 62 = .ok (.iinc 3 1, 3) := by decide +kernel
theorem d9_65 : decode prog_16_method_6_code 65 = .ok (.aload_n 0, 1) := by decide +kernel
theorem d9_66 : decode prog_16_method_6_code 66 = .ok (.getfield 7, 3) := by decide +kernel
theorem d9_69 : decode prog_16_method_6_code 69 = .ok (.iload_n 2, 1) := by decide +kernel
theorem d9_70 : decode prog_16_method_6_code 70 = .ok (.laload, 1) := by decide +kernel
theorem d9_71 : decode prog_16_method_6_code 71 = .ok (.aload_n 0, 1) := by decide +kernel
theorem d9_72 : decode prog_16_method_6_code 72 = .ok (.getfield 7, 3) := by decide +kernel
theorem d9_75 : decode prog_16_method_6_code 75 = .ok (.aload_n 0, 1) := by decide +kernel
theorem d9_76 : decode prog_16_method_6_code 76 = .ok (.getfield 13, 3) := by decide +kernel
theorem d9_79 : decode prog_16_method_6_code 79 = .ok (.iload_n 3, 1) := by decide +kernel
theorem d9_80 : decode prog_16_method_6_code 80 = .ok (.iaload, 1) := by decide +kernel
theorem d9_81 : decode prog_16_method_6_code 81 = .ok (.laload, 1) := by decide +kernel
theorem d9_82 : decode prog_16_method_6_code 82 = .ok (.lcmp, 1) := by decide +kernel
theorem d9_83 : decode prog_16_method_6_code 83 = .ok (.ifCond .gt 6, 3) := by decide +kernel
theorem d9_86 : decode prog_16_method_6_code 86 = .ok (.goto 19, 3) := by decide +kernel
theorem d9_89 : decode prog_16_method_6_code 89 = .ok (.aload_n 0, 1) := by decide +kernel
theorem d9_90 : decode prog_16_method_6_code 90 = .ok (.aload_n 0, 1) := by decide +kernel
theorem d9_91 : decode prog_16_method_6_code 91 = .ok (.getfield 13, 3) := by decide +kernel
theorem d9_94 : decode prog_16_method_6_code 94 = .ok (.iload_n 3, 1) := by decide +kernel
theorem d9_95 : decode prog_16_method_6_code 95 = .ok (.iaload, 1) := by decide +kernel
theorem d9_96 : decode prog_16_method_6_code 96 = .ok (.iload_n 1, 1) := by decide +kernel
theorem d9_97 : decode prog_16_method_6_code 97 = .ok (.invokevirtual 30, 3) := by decide +kernel
theorem d9_100 : decode prog_16_method_6_code 100 = .ok (.iload_n 3, 1) := by decide +kernel
theorem d9_101 : decode prog_16_method_6_code 101 = .ok (.istore_n 1, 1) := by decide +kernel
theorem d9_102 : decode prog_16_method_6_code 102 = .ok (.goto (-95), 3) := by decide +kernel
theorem d9_105 : decode prog_16_method_6_code 105 = .ok (.aload_n 0, 1) := by decide +kernel
theorem d9_106 : decode prog_16_method_6_code 106 = .ok (.iload_n 2, 1) := by decide +kernel
theorem d9_107 : decode prog_16_method_6_code 107 = .ok (.iload_n 1, 1) := by decide +kernel
theorem d9_108 : decode prog_16_method_6_code 108 = .ok (.invokevirtual 30, 3) := by decide +kernel
theorem d9_111 : decode prog_16_method_6_code 111 = .ok (.return_, 1) := by decide +kernel
theorem pd0 : parseMethodDescriptor "(II)V" = some ⟨[.int, .int], none⟩ := by decide +kernel
theorem pd1 : parseMethodDescriptor "(I)V" = some ⟨[.int], none⟩ := by decide +kernel
theorem pd2 : parseMethodDescriptor "([II)V" = some ⟨[(.array .int), .int], none⟩ := by decide +kernel
theorem pd3 : parseMethodDescriptor "()Z" = some ⟨[], some .boolean⟩ := by decide +kernel
theorem pd4 : parseMethodDescriptor "()I" = some ⟨[], some .int⟩ := by decide +kernel
theorem pd5 : parseMethodDescriptor "([J)V" = some ⟨[(.array .long)], none⟩ := by decide +kernel
theorem pd6 : parseMethodDescriptor "(Lpheromedian/model/VertexQueue;I[Z)Z" = some ⟨[(.object "pheromedian/model/VertexQueue"), .int, (.array .boolean)], some .boolean⟩ := by decide +kernel
abbrev nm0 : MethodName := x
abbrev rm0 : Room := room_1
abbrev C0 (l : Launch) (Z : State) (a0 : Array Value) (n0 : Nat) := Wp.Con l Z a0 n0 nm0 code maxLocals ret rm0
abbrev W0 (l : Launch) (Z : State) (a0 : Array Value) (n0 : Nat) := Wp.WP l Z a0 n0 rm0 nm0 code maxLocals ret
theorem pn0 : plainFor nm0 = true := by first | exact plainFor_of_name (by first | (simp [plainName, overriddenIn, nm0, x]; done) | decide +kernel) | decide +kernel
theorem ef0 (m : MethodId) (x0 : Int64) (x1 : Int64) (x2 : Int64) (x3 : Int32) : entryFrame m #[(.long x0), (.long x1), (.long x2), (.int x3)] maxLocals = mkF m 0 ⟨[.val (.long x0), .second, .val (.long x1), .second, .val (.long x2), .second, .val (.int x3), .unset, .unset, .unset]⟩ [] := by first | exact (Wp.efG m [(.long x0), (.long x1), (.long x2), (.int x3)] maxLocals).trans rfl | (simp [entryFrame, mkF, argsToLocals, Value.category, maxLocals]; done)
abbrev nm1 : MethodName := ⟨"pheromedian/model/VertexQueue", "<init>", "([J)V"⟩
abbrev rm1 : Room := { frames := 1, cells := 2, slots := 6, locals := 15 }
abbrev C1 (l : Launch) (Z : State) (a0 : Array Value) (n0 : Nat) := Wp.Con l Z a0 n0 nm1 prog_16_method_1_code 2 none rm1
abbrev W1 (l : Launch) (Z : State) (a0 : Array Value) (n0 : Nat) := Wp.WP l Z a0 n0 rm1 nm1 prog_16_method_1_code 2 none
theorem pn1 : plainFor nm1 = true := by first | exact plainFor_of_name (by first | (simp [plainName, overriddenIn, nm1, x]; done) | decide +kernel) | decide +kernel
theorem ef1 (m : MethodId) (r : Addr) (x0 : Addr) : entryFrame m #[(.ref r), (.ref x0)] 2 = mkF m 0 ⟨[.val (.ref r), .val (.ref x0)]⟩ [] := by first | exact (Wp.efG m [(.ref r), (.ref x0)] 2).trans rfl | (simp [entryFrame, mkF, argsToLocals, Value.category]; done)
abbrev nm2 : MethodName := ⟨"java/util/Arrays", "fill", "([II)V"⟩
abbrev rm2 : Room := { frames := 0, cells := 0, slots := 0, locals := 0 }
abbrev C2 (l : Launch) (Z : State) (a0 : Array Value) (n0 : Nat) := Wp.Con l Z a0 n0 nm2 jdk_65_method_103_code 4 none rm2
abbrev W2 (l : Launch) (Z : State) (a0 : Array Value) (n0 : Nat) := Wp.WP l Z a0 n0 rm2 nm2 jdk_65_method_103_code 4 none
theorem pn2 : plainFor nm2 = true := by first | exact plainFor_of_name (by first | (simp [plainName, overriddenIn, nm2, x]; done) | decide +kernel) | decide +kernel
theorem ef2 (m : MethodId) (x0 : Addr) (x1 : Int32) : entryFrame m #[(.ref x0), (.int x1)] 4 = mkF m 0 ⟨[.val (.ref x0), .val (.int x1), .unset, .unset]⟩ [] := by first | exact (Wp.efG m [(.ref x0), (.int x1)] 4).trans rfl | (simp [entryFrame, mkF, argsToLocals, Value.category]; done)
abbrev nm3 : MethodName := ⟨"pheromedian/model/VertexQueue", "isEmpty", "()Z"⟩
abbrev rm3 : Room := { frames := 0, cells := 0, slots := 0, locals := 0 }
abbrev C3 (l : Launch) (Z : State) (a0 : Array Value) (n0 : Nat) := Wp.Con l Z a0 n0 nm3 prog_16_method_2_code 1 (some .boolean) rm3
abbrev W3 (l : Launch) (Z : State) (a0 : Array Value) (n0 : Nat) := Wp.WP l Z a0 n0 rm3 nm3 prog_16_method_2_code 1 (some .boolean)
theorem pn3 : plainFor nm3 = true := by first | exact plainFor_of_name (by first | (simp [plainName, overriddenIn, nm3, x]; done) | decide +kernel) | decide +kernel
theorem ef3 (m : MethodId) (r : Addr) : entryFrame m #[(.ref r)] 1 = mkF m 0 ⟨[.val (.ref r)]⟩ [] := by first | exact (Wp.efG m [(.ref r)] 1).trans rfl | (simp [entryFrame, mkF, argsToLocals, Value.category]; done)
abbrev nm4 : MethodName := ⟨"pheromedian/model/VertexQueueIsEmptyPinLaw", "step", "(Lpheromedian/model/VertexQueue;I[Z)Z"⟩
abbrev rm4 : Room := { frames := 3, cells := 0, slots := 0, locals := 43 }
abbrev C4 (l : Launch) (Z : State) (a0 : Array Value) (n0 : Nat) := Wp.Con l Z a0 n0 nm4 method_2_code 5 (some .boolean) rm4
abbrev W4 (l : Launch) (Z : State) (a0 : Array Value) (n0 : Nat) := Wp.WP l Z a0 n0 rm4 nm4 method_2_code 5 (some .boolean)
theorem pn4 : plainFor nm4 = true := by first | exact plainFor_of_name (by first | (simp [plainName, overriddenIn, nm4, x]; done) | decide +kernel) | decide +kernel
theorem ef4 (m : MethodId) (x0 : Addr) (x1 : Int32) (x2 : Addr) : entryFrame m #[(.ref x0), (.int x1), (.ref x2)] 5 = mkF m 0 ⟨[.val (.ref x0), .val (.int x1), .val (.ref x2), .unset, .unset]⟩ [] := by first | exact (Wp.efG m [(.ref x0), (.int x1), (.ref x2)] 5).trans rfl | (simp [entryFrame, mkF, argsToLocals, Value.category]; done)
abbrev nm5 : MethodName := ⟨"pheromedian/model/VertexQueue", "update", "(I)V"⟩
abbrev rm5 : Room := { frames := 2, cells := 0, slots := 0, locals := 29 }
abbrev C5 (l : Launch) (Z : State) (a0 : Array Value) (n0 : Nat) := Wp.Con l Z a0 n0 nm5 prog_16_method_3_code 3 none rm5
abbrev W5 (l : Launch) (Z : State) (a0 : Array Value) (n0 : Nat) := Wp.WP l Z a0 n0 rm5 nm5 prog_16_method_3_code 3 none
theorem pn5 : plainFor nm5 = true := by first | exact plainFor_of_name (by first | (simp [plainName, overriddenIn, nm5, x]; done) | decide +kernel) | decide +kernel
theorem ef5 (m : MethodId) (r : Addr) (x0 : Int32) : entryFrame m #[(.ref r), (.int x0)] 3 = mkF m 0 ⟨[.val (.ref r), .val (.int x0), .unset]⟩ [] := by first | exact (Wp.efG m [(.ref r), (.int x0)] 3).trans rfl | (simp [entryFrame, mkF, argsToLocals, Value.category]; done)
abbrev nm6 : MethodName := ⟨"pheromedian/model/VertexQueue", "place", "(II)V"⟩
abbrev rm6 : Room := { frames := 0, cells := 0, slots := 0, locals := 0 }
abbrev C6 (l : Launch) (Z : State) (a0 : Array Value) (n0 : Nat) := Wp.Con l Z a0 n0 nm6 prog_16_method_7_code 3 none rm6
abbrev W6 (l : Launch) (Z : State) (a0 : Array Value) (n0 : Nat) := Wp.WP l Z a0 n0 rm6 nm6 prog_16_method_7_code 3 none
theorem pn6 : plainFor nm6 = true := by first | exact plainFor_of_name (by first | (simp [plainName, overriddenIn, nm6, x]; done) | decide +kernel) | decide +kernel
theorem ef6 (m : MethodId) (r : Addr) (x0 : Int32) (x1 : Int32) : entryFrame m #[(.ref r), (.int x0), (.int x1)] 3 = mkF m 0 ⟨[.val (.ref r), .val (.int x0), .val (.int x1)]⟩ [] := by first | exact (Wp.efG m [(.ref r), (.int x0), (.int x1)] 3).trans rfl | (simp [entryFrame, mkF, argsToLocals, Value.category]; done)
abbrev nm7 : MethodName := ⟨"pheromedian/model/VertexQueue", "siftUp", "(I)V"⟩
abbrev rm7 : Room := { frames := 1, cells := 0, slots := 0, locals := 14 }
abbrev C7 (l : Launch) (Z : State) (a0 : Array Value) (n0 : Nat) := Wp.Con l Z a0 n0 nm7 prog_16_method_5_code 4 none rm7
abbrev W7 (l : Launch) (Z : State) (a0 : Array Value) (n0 : Nat) := Wp.WP l Z a0 n0 rm7 nm7 prog_16_method_5_code 4 none
theorem pn7 : plainFor nm7 = true := by first | exact plainFor_of_name (by first | (simp [plainName, overriddenIn, nm7, x]; done) | decide +kernel) | decide +kernel
theorem ef7 (m : MethodId) (r : Addr) (x0 : Int32) : entryFrame m #[(.ref r), (.int x0)] 4 = mkF m 0 ⟨[.val (.ref r), .val (.int x0), .unset, .unset]⟩ [] := by first | exact (Wp.efG m [(.ref r), (.int x0)] 4).trans rfl | (simp [entryFrame, mkF, argsToLocals, Value.category]; done)
abbrev nm8 : MethodName := ⟨"pheromedian/model/VertexQueue", "poll", "()I"⟩
abbrev rm8 : Room := { frames := 2, cells := 0, slots := 0, locals := 29 }
abbrev C8 (l : Launch) (Z : State) (a0 : Array Value) (n0 : Nat) := Wp.Con l Z a0 n0 nm8 prog_16_method_4_code 2 (some .int) rm8
abbrev W8 (l : Launch) (Z : State) (a0 : Array Value) (n0 : Nat) := Wp.WP l Z a0 n0 rm8 nm8 prog_16_method_4_code 2 (some .int)
theorem pn8 : plainFor nm8 = true := by first | exact plainFor_of_name (by first | (simp [plainName, overriddenIn, nm8, x]; done) | decide +kernel) | decide +kernel
theorem ef8 (m : MethodId) (r : Addr) : entryFrame m #[(.ref r)] 2 = mkF m 0 ⟨[.val (.ref r), .unset]⟩ [] := by first | exact (Wp.efG m [(.ref r)] 2).trans rfl | (simp [entryFrame, mkF, argsToLocals, Value.category]; done)
abbrev nm9 : MethodName := ⟨"pheromedian/model/VertexQueue", "siftDown", "(I)V"⟩
abbrev rm9 : Room := { frames := 1, cells := 0, slots := 0, locals := 14 }
abbrev C9 (l : Launch) (Z : State) (a0 : Array Value) (n0 : Nat) := Wp.Con l Z a0 n0 nm9 prog_16_method_6_code 4 none rm9
abbrev W9 (l : Launch) (Z : State) (a0 : Array Value) (n0 : Nat) := Wp.WP l Z a0 n0 rm9 nm9 prog_16_method_6_code 4 none
theorem pn9 : plainFor nm9 = true := by first | exact plainFor_of_name (by first | (simp [plainName, overriddenIn, nm9, x]; done) | decide +kernel) | decide +kernel
theorem ef9 (m : MethodId) (r : Addr) (x0 : Int32) : entryFrame m #[(.ref r), (.int x0)] 4 = mkF m 0 ⟨[.val (.ref r), .val (.int x0), .unset, .unset]⟩ [] := by first | exact (Wp.efG m [(.ref r), (.int x0)] 4).trans rfl | (simp [entryFrame, mkF, argsToLocals, Value.category]; done)
def fs_VertexQueue : List (String × String × Value) := [("key", "[J", .null), ("heap", "[I", .null), ("position", "[I", .null), ("size", "I", .int 0)]
theorem fs_VertexQueue_ok {Z : State} {a0 : Array Value} (hw : Hw Z a0) : ∀ x ∈ fs_VertexQueue, Laid Z a0 "pheromedian/model/VertexQueue" "pheromedian/model/VertexQueue" x.1 x.2.1 ∧ ∃ t, parseFieldDescriptor x.2.1 = some t ∧ defaultValue t = x.2.2 := by
  intro x hx
  simp only [fs_VertexQueue, List.mem_cons, List.not_mem_nil, or_false] at hx
  rcases hx with rfl | rfl | rfl | rfl
  · exact ⟨Or.inr (w11 hw), (.array .long), by decide, rfl⟩
  · exact ⟨Or.inr (w14 hw), (.array .int), by decide, rfl⟩
  · exact ⟨Or.inr (w16 hw), (.array .int), by decide, rfl⟩
  · exact ⟨Or.inl (w28 hw), .int, by decide, rfl⟩
set_option maxRecDepth 65536
def own_b (p : Bool) : Int32 := if p then 1 else 0
theorem own_b1 {p : Bool} (h : p = true) : (some (Value.int (1 &&& 1)) : Option Value) = some (.int (own_b p)) := by subst h; rfl
theorem own_b0 {p : Bool} (h : p = false) : (some (Value.int (0 &&& 1)) : Option Value) = some (.int (own_b p)) := by subst h; rfl

theorem own_inc {i : Int32} {k : Nat} (h : i.toInt = (k : Int)) (hk : k < 2147483647) : (i + 1).toInt = ((k + 1 : Nat) : Int) := by
  have h1 := c_iadd i 1
  have h2 := rng32 (i + 1)
  have h3 : (1 : Int32).toInt = 1 := rfl
  omega

/-- the queue's two arrays: what stands where in the heap, and where each vertex stands -/
def own_place (hs : List Nat) (ps : List Int) (v at_ : Nat) : Option (List Nat × List Int) :=
  if at_ < hs.length ∧ v < ps.length then some (hs.set at_ v, ps.set v (at_ : Int)) else none
def own_up (le : Nat → Nat → Bool) (v : Nat) : Nat → Nat → List Nat → List Int → Option (List Nat × List Int)
  | 0, _, _, _ => none
  | f + 1, at_, hs, ps =>
    if at_ = 0 then own_place hs ps v 0
    else match hs[(at_ - 1) / 2]? with
      | none => none
      | some w =>
        if w < ps.length ∧ v < ps.length then
          (if le w v then own_place hs ps v at_
           else match own_place hs ps w at_ with
             | none => none
             | some (hs', ps') => own_up le v f ((at_ - 1) / 2) hs' ps')
        else none
def own_siftUp (le : Nat → Nat → Bool) (f at_ : Nat) (hs : List Nat) (ps : List Int) : Option (List Nat × List Int) :=
  match hs[at_]? with
  | none => none
  | some v => own_up le v f at_ hs ps
/-- which child -/
def own_child (le : Nat → Nat → Bool) (n c : Nat) (hs : List Nat) (ps : List Int) : Option (Nat × Nat) :=
  match hs[c]? with
  | none => none
  | some c0 =>
    if c0 < ps.length then
      (if c + 1 < n then
        match hs[c + 1]? with
        | none => none
        | some c1 => if c1 < ps.length then (if le c0 c1 then some (c, c0) else some (c + 1, c1)) else none
      else some (c, c0))
    else none
def own_dn (le : Nat → Nat → Bool) (n v : Nat) : Nat → Nat → List Nat → List Int → Option (List Nat × List Int)
  | 0, _, _, _ => none
  | f + 1, at_, hs, ps =>
    if n ≤ 2 * at_ + 1 then own_place hs ps v at_
    else match own_child le n (2 * at_ + 1) hs ps with
      | none => none
      | some (c, w) =>
        if v < ps.length then
          (if le v w then own_place hs ps v at_
           else match own_place hs ps w at_ with
             | none => none
             | some (hs', ps') => own_dn le n v f c hs' ps')
        else none
def own_siftDown (le : Nat → Nat → Bool) (f n at_ : Nat) (hs : List Nat) (ps : List Int) : Option (List Nat × List Int) :=
  match hs[at_]? with
  | none => none
  | some v => own_dn le n v f at_ hs ps
def own_update (le : Nat → Nat → Bool) (f v : Nat) (s : Nat × List Nat × List Int) : Option (Nat × List Nat × List Int) :=
  match s.2.2[v]? with
  | none => none
  | some p =>
    if p < -1 ∨ 1000 ≤ p then none
    else if p < 0 then
      match own_place s.2.1 s.2.2 v s.1 with
      | none => none
      | some (hs, ps) => match own_siftUp le f s.1 hs ps with
        | none => none
        | some (hs', ps') => some (s.1 + 1, hs', ps')
    else match own_siftUp le f p.toNat s.2.1 s.2.2 with
      | none => none
      | some (hs', ps') => some (s.1, hs', ps')
def own_poll (le : Nat → Nat → Bool) (f : Nat) (s : Nat × List Nat × List Int) : Option (Nat × (Nat × List Nat × List Int)) :=
  match s.2.1[0]? with
  | none => none
  | some v =>
    if v < s.2.2.length ∧ 0 < s.1 then
      (if s.1 - 1 = 0 then some (v, (0, s.2.1, s.2.2.set v (-1)))
       else match s.2.1[s.1 - 1]? with
        | none => none
        | some w => match own_place s.2.1 (s.2.2.set v (-1)) w 0 with
          | none => none
          | some (hs, ps) => match own_siftDown le f (s.1 - 1) 0 hs ps with
            | none => none
            | some (hs', ps') => some (v, (s.1 - 1, hs', ps')))
    else none
def own_ups (le : Nat → Nat → Bool) (f : Nat) : List Nat → (Nat × List Nat × List Int) → Option (Nat × List Nat × List Int)
  | [], s => some s
  | v :: vs, s => match own_update le f v s with
    | none => none
    | some s' => own_ups le f vs s'
def own_polls (le : Nat → Nat → Bool) (f : Nat) : Nat → (Nat × List Nat × List Int) → Option (List Nat × (Nat × List Nat × List Int))
  | 0, s => some ([], s)
  | k + 1, s => match own_poll le f s with
    | none => none
    | some (v, s') => match own_polls le f k s' with
      | none => none
      | some (vs, s'') => some (v :: vs, s'')

def own_rank (ks : List Int) (x : Int) : Nat := (ks.filter fun k => decide (k < x)).length
theorem own_rank_cons (k : Int) (t : List Int) (x : Int) : own_rank (k :: t) x = (if k < x then 1 else 0) + own_rank t x := by
  unfold own_rank
  by_cases h : k < x
  · simp [List.filter_cons, h]; omega
  · simp [List.filter_cons, h]
theorem own_rank_mono (ks : List Int) {x y : Int} (h : x ≤ y) : own_rank ks x ≤ own_rank ks y := by
  induction ks with
  | nil => exact Nat.le_refl _
  | cons k t ih => rw [own_rank_cons, own_rank_cons]; split <;> split <;> omega
theorem own_rank_lt (ks : List Int) {x y : Int} (h : x < y) (hx : x ∈ ks) : own_rank ks x < own_rank ks y := by
  induction ks with
  | nil => cases hx
  | cons k t ih =>
    have hm := own_rank_mono t (Int.le_of_lt h)
    rw [own_rank_cons, own_rank_cons]
    rcases List.mem_cons.mp hx with rfl | h2
    · rw [if_neg (by omega), if_pos h]; omega
    · have := ih h2
      split <;> split <;> omega
theorem own_rank_len (ks : List Int) {x : Int} (hx : x ∈ ks) : own_rank ks x < ks.length := by
  induction ks with
  | nil => cases hx
  | cons k t ih =>
    have hle : own_rank t x ≤ t.length := List.length_filter_le _ _
    rw [own_rank_cons, List.length_cons]
    rcases List.mem_cons.mp hx with rfl | h2
    · rw [if_neg (by omega)]; omega
    · have := ih h2
      split <;> omega
theorem own_rank_iff (ks : List Int) {x y : Int} (hy : y ∈ ks) : x ≤ y ↔ own_rank ks x ≤ own_rank ks y := by
  constructor
  · exact own_rank_mono ks
  · intro h
    by_cases q : x ≤ y
    · exact q
    · have := own_rank_lt ks (show y < x by omega) hy; omega
/-- the order of N keys by their ranks -/
def own_rk (N : Nat) (r : List Nat) (i j : Nat) : Bool := if Nat.blt i N && Nat.blt j N then Nat.ble (r.getD i 0) (r.getD j 0) else true
def own_le (ks : List Int64) (i j : Nat) : Bool := if Nat.blt i ks.length && Nat.blt j ks.length then decide ((ks.getD i 0).toInt ≤ (ks.getD j 0).toInt) else true
theorem own_le_t {ks : List Int64} {i j : Nat} (hi : i < ks.length) (hj : j < ks.length) (h : (ks.getD i 0).toInt ≤ (ks.getD j 0).toInt) : own_le ks i j = true := by
  unfold own_le
  rw [if_pos (by simp [Nat.blt_eq, hi, hj])]; exact decide_eq_true h
theorem own_le_f {ks : List Int64} {i j : Nat} (hi : i < ks.length) (hj : j < ks.length) (h : ¬ (ks.getD i 0).toInt ≤ (ks.getD j 0).toInt) : ¬ own_le ks i j = true := by
  unfold own_le
  rw [if_pos (by simp [Nat.blt_eq, hi, hj]), decide_eq_false h]; decide
theorem own_ranked (ks : List Int64) : own_le ks = own_rk ks.length (ks.map fun k => own_rank (ks.map Int64.toInt) k.toInt) := by
  funext i j
  unfold own_le own_rk
  split
  · rename_i h
    simp only [Bool.and_eq_true, Nat.blt_eq] at h
    have e1 : (ks.map fun k => own_rank (ks.map Int64.toInt) k.toInt).getD i 0 = own_rank (ks.map Int64.toInt) (ks.getD i 0).toInt := by simp [List.getElem?_eq_getElem h.1]
    have e2 : (ks.map fun k => own_rank (ks.map Int64.toInt) k.toInt).getD j 0 = own_rank (ks.map Int64.toInt) (ks.getD j 0).toInt := by simp [List.getElem?_eq_getElem h.2]
    rw [e1, e2]
    have hm : (ks.getD j 0).toInt ∈ ks.map Int64.toInt := List.mem_map_of_mem (by simp [List.getElem?_eq_getElem h.2])
    have := own_rank_iff (ks.map Int64.toInt) (x := (ks.getD i 0).toInt) hm
    rw [Bool.eq_iff_iff, decide_eq_true_iff, Nat.ble_eq]
    exact this
  · rfl
theorem own_rank_fin (ks : List Int64) (k : Int64) (h : k ∈ ks) : own_rank (ks.map Int64.toInt) k.toInt < ks.length := by
  have := own_rank_len (ks.map Int64.toInt) (x := k.toInt) (List.mem_map_of_mem h)
  simpa using this
theorem own_ranked' (W : List Int) (ks : List Int64) (hW : ∀ k ∈ ks, k.toInt ∈ W) : own_le ks = own_rk ks.length (ks.map fun k => own_rank W k.toInt) := by
  funext i j
  unfold own_le own_rk
  split
  · rename_i h
    simp only [Bool.and_eq_true, Nat.blt_eq] at h
    have e1 : (ks.map fun k => own_rank W k.toInt).getD i 0 = own_rank W (ks.getD i 0).toInt := by simp [List.getElem?_eq_getElem h.1]
    have e2 : (ks.map fun k => own_rank W k.toInt).getD j 0 = own_rank W (ks.getD j 0).toInt := by simp [List.getElem?_eq_getElem h.2]
    rw [e1, e2]
    have hm : (ks.getD j 0).toInt ∈ W := hW _ (by simp [List.getElem?_eq_getElem h.2])
    have := own_rank_iff W (x := (ks.getD i 0).toInt) hm
    rw [Bool.eq_iff_iff, decide_eq_true_iff, Nat.ble_eq]
    exact this
  · rfl
/-- each rank is the number of the smaller ranks -/
def own_cn (r : List Nat) : Bool := r.all fun x => (r.filter fun y => Nat.blt y x).length == x
theorem own_cn_of (W : List Int) : own_cn (W.map (own_rank W)) = true := by
  unfold own_cn
  rw [List.all_eq_true]
  intro x hx
  obtain ⟨w, hw, rfl⟩ := List.mem_map.mp hx
  rw [beq_iff_eq, List.filter_map, List.length_map]
  show _ = (W.filter fun k => decide (k < w)).length
  congr 1
  apply List.filter_congr
  intro k hk
  show Nat.blt (own_rank W k) (own_rank W w) = decide (k < w)
  have := own_rank_iff W (x := w) hk
  rw [Bool.eq_iff_iff, Nat.blt_eq, decide_eq_true_iff]
  omega

def own_hv (hs : List Nat) : List Value := hs.map fun v => .int (Int32.ofNat v)
def own_pv (ps : List Int) : List Value := ps.map fun v => .int (Int32.ofInt v)
theorem own_N {k : Nat} (h : k < 1000) : (Int32.ofNat k).toInt = (k : Int) := Int32.toInt_ofNat_of_lt (by omega)
theorem own_hv_set (hs : List Nat) (i v : Nat) : (own_hv hs).set i (.int (Int32.ofNat v)) = own_hv (hs.set i v) := by simp [own_hv, List.map_set]
theorem own_pv_set (ps : List Int) (i : Nat) (v : Int) : (own_pv ps).set i (.int (Int32.ofInt v)) = own_pv (ps.set i v) := by simp [own_pv, List.map_set]
theorem own_pv_setN (ps : List Int) (i v : Nat) : (own_pv ps).set i (.int (Int32.ofNat v)) = own_pv (ps.set i (v : Int)) := by
  rw [← own_pv_set]; rfl
theorem own_hv_get {hs : List Nat} {i v : Nat} (h : hs[i]? = some v) : (own_hv hs)[i]? = some (.int (Int32.ofNat v)) := by simp [own_hv, h]
theorem own_pv_get {ps : List Int} {i : Nat} {v : Int} (h : ps[i]? = some v) : (own_pv ps)[i]? = some (.int (Int32.ofInt v)) := by simp [own_pv, h]
theorem own_ks_get {ks : List Int64} {i : Nat} (h : i < ks.length) : (ks.map Value.long)[i]? = some (.long (ks.getD i 0)) := by
  simp [List.getElem?_eq_getElem h]
theorem own_hv_len (hs : List Nat) : (own_hv hs).length = hs.length := by simp [own_hv]
theorem own_pv_len (ps : List Int) : (own_pv ps).length = ps.length := by simp [own_pv]
theorem own_place_some {hs hs' : List Nat} {ps ps' : List Int} {v at_ : Nat} (h : own_place hs ps v at_ = some (hs', ps')) : at_ < hs.length ∧ v < ps.length ∧ hs' = hs.set at_ v ∧ ps' = ps.set v (at_ : Int) := by
  unfold own_place at h
  split at h
  · rename_i hh; simp only [Option.some.injEq, Prod.mk.injEq] at h; exact ⟨hh.1, hh.2, h.1.symm, h.2.symm⟩
  · cases h
theorem own_child2 {k : Nat} (h : k < 1000) : ((2 : Int32) * Int32.ofNat k + 1).toInt = ((2 * k + 1 : Nat) : Int) := by
  have e1 := c_imul 2 (Int32.ofNat k)
  have r1 := rng32 (2 * Int32.ofNat k)
  have e2 := c_iadd (2 * Int32.ofNat k) 1
  have r2 := rng32 (2 * Int32.ofNat k + 1)
  have e3 : (1 : Int32).toInt = 1 := rfl
  have e4 : (2 : Int32).toInt = 2 := rfl
  rw [own_N h, e4] at e1
  omega
theorem own_succ {k : Nat} (h : k < 999) : Int32.ofNat k + 1 = Int32.ofNat (k + 1) := Int32.toInt_inj.mp (by rw [own_inc (own_N (by omega)) (by omega), own_N (by omega)])
theorem own_pred {k : Nat} (h : k < 1000) (h0 : 0 < k) : Int32.ofNat k - 1 = Int32.ofNat (k - 1) := by
  apply Int32.toInt_inj.mp
  have e1 := c_isub (Int32.ofNat k) 1
  have r1 := rng32 (Int32.ofNat k - 1)
  have e0 := own_N h
  have e2 : (1 : Int32).toInt = 1 := rfl
  rw [own_N (by omega)]; omega
theorem own_half {k : Nat} (h : k < 1000) (h0 : 0 < k) : (Int32.ofNat k - 1) / 2 = Int32.ofNat ((k - 1) / 2) := by
  apply Int32.toInt_inj.mp
  have e1 := c_isub (Int32.ofNat k) 1
  have r1 := rng32 (Int32.ofNat k - 1)
  have e0 := own_N h
  have e2 : (1 : Int32).toInt = 1 := rfl
  have e3 : (Int32.ofNat k - 1).toInt = (k : Int) - 1 := by omega
  rw [(c_idiv (Int32.ofNat k - 1) 2 2 (by decide) (by decide)).1 (by omega), e3, own_N (by omega)]
  omega
theorem con6 {l : Launch} {Z : State} {a0 : Array Value} {n0 : Nat} (hw : Hw Z a0) (X0 : Addr × Wp.MC) (ap ah q ak : Addr) (ks : List Int64) (T : Wp.MH) (n : Nat) (hs : List Nat) (ps : List Int) (v at_ : Nat) (h1 : hs.length < 1000) (h2 : ps.length < 1000) (hat : at_ < hs.length) (hv : v < ps.length) :
    C6 l Z a0 n0 #[.ref q, .int (Int32.ofNat v), .int (Int32.ofNat at_)] (X0 :: (ap, .inl (.int, own_pv ps)) :: (ah, .inl (.int, own_hv hs)) :: (q, .inr ("pheromedian/model/VertexQueue", [("key", "[J", .ref ak), ("heap", "[I", .ref ah), ("position", "[I", .ref ap), ("size", "I", .int (Int32.ofNat n))])) :: (ak, .inl (.long, ks.map Value.long)) :: T) (fun r H' => r = none ∧ H' = (X0 :: (ap, .inl (.int, own_pv (ps.set v (at_ : Int)))) :: (ah, .inl (.int, own_hv (hs.set at_ v))) :: (q, .inr ("pheromedian/model/VertexQueue", [("key", "[J", .ref ak), ("heap", "[I", .ref ah), ("position", "[I", .ref ap), ("size", "I", .int (Int32.ofNat n))])) :: (ak, .inl (.long, ks.map Value.long)) :: T)) := by
  refine Wp.Con.intro pn6 (fun m => ef6 m q _ _) ?_
  refine Wp.aloadN (pc' := 1) d6_0 rfl rfl rfl ?_
  refine Wp.getfield 3 1 (pc' := 4) (w13 hw) d6_1 rfl rfl rfl ?_
  refine Wp.iloadN (pc' := 5) d6_4 rfl rfl ?_
  refine Wp.iloadN (pc' := 6) d6_5 rfl rfl ?_
  refine Wp.iastore_2 at_ (pc' := 7) d6_6 (own_N (by omega)) (by rw [own_hv_len]; exact hat) rfl ?_
  rw [own_hv_set]
  refine Wp.aloadN (pc' := 8) d6_7 rfl rfl rfl ?_
  refine Wp.getfield 3 2 (pc' := 11) (w15 hw) d6_8 rfl rfl rfl ?_
  refine Wp.iloadN (pc' := 12) d6_11 rfl rfl ?_
  refine Wp.iloadN (pc' := 13) d6_12 rfl rfl ?_
  refine Wp.iastore_1 v (pc' := 14) d6_13 (own_N (by omega)) (by rw [own_pv_len]; exact hv) rfl ?_
  rw [own_pv_setN]
  refine Wp.return_ rfl d6_14 ?_
  exact ⟨rfl, rfl⟩
theorem con7 {l : Launch} {Z : State} {a0 : Array Value} {n0 : Nat} (hw : Hw Z a0) (X0 : Addr × Wp.MC) (ap ah q ak : Addr) (ks : List Int64) (T : Wp.MH) (n : Nat) (hk0 : ks.length < 1000) (f at0 : Nat) (hs hs' : List Nat) (ps ps' : List Int) (h1 : hs.length < 1000) (h2 : ps.length = ks.length) (hr : own_siftUp (own_le ks) f at0 hs ps = some (hs', ps')) :
    C7 l Z a0 n0 #[.ref q, .int (Int32.ofNat at0)] (X0 :: (ap, .inl (.int, own_pv ps)) :: (ah, .inl (.int, own_hv hs)) :: (q, .inr ("pheromedian/model/VertexQueue", [("key", "[J", .ref ak), ("heap", "[I", .ref ah), ("position", "[I", .ref ap), ("size", "I", .int (Int32.ofNat n))])) :: (ak, .inl (.long, ks.map Value.long)) :: T) (fun r H' => r = none ∧ H' = (X0 :: (ap, .inl (.int, own_pv ps')) :: (ah, .inl (.int, own_hv hs')) :: (q, .inr ("pheromedian/model/VertexQueue", [("key", "[J", .ref ak), ("heap", "[I", .ref ah), ("position", "[I", .ref ap), ("size", "I", .int (Int32.ofNat n))])) :: (ak, .inl (.long, ks.map Value.long)) :: T)) := by
  refine Wp.Con.intro pn7 (fun m => ef7 m q _) ?_
  generalize hQ : (fun (r : Option Value) (H' : Wp.MH) => r = none ∧ H' = (X0 :: (ap, .inl (.int, own_pv ps')) :: (ah, .inl (.int, own_hv hs')) :: (q, .inr ("pheromedian/model/VertexQueue", [("key", "[J", .ref ak), ("heap", "[I", .ref ah), ("position", "[I", .ref ap), ("size", "I", .int (Int32.ofNat n))])) :: (ak, .inl (.long, ks.map Value.long)) :: T)) = Q
  unfold own_siftUp at hr
  split at hr
  · cases hr
  rename_i v hv
  have hlt : at0 < hs.length := (List.getElem?_eq_some_iff.mp hv).1
  have K : ∀ (f at_ : Nat) (hs : List Nat) (ps : List Int) (o : Slot), Wp.ok1 o = true → hs.length < 1000 → ps.length = ks.length → at_ < 1000 → own_up (own_le ks) v f at_ hs ps = some (hs', ps') →
      W7 l Z a0 n0 0 0 7 [.val (.ref q), .val (.int (Int32.ofNat at_)), .val (.int (Int32.ofNat v)), o] [] (X0 :: (ap, .inl (.int, own_pv ps)) :: (ah, .inl (.int, own_hv hs)) :: (q, .inr ("pheromedian/model/VertexQueue", [("key", "[J", .ref ak), ("heap", "[I", .ref ah), ("position", "[I", .ref ap), ("size", "I", .int (Int32.ofNat n))])) :: (ak, .inl (.long, ks.map Value.long)) :: T) Q := by
    intro f
    induction f with
    | zero => intro at_ hs ps o ho h1 h2 h3 hr; cases hr
    | succ f ih =>
      intro at_ hs ps o ho h1 h2 h3 hr
      unfold own_up at hr
      have eN := own_N h3
      split at hr
      · rename_i h0
        subst h0
        obtain ⟨p1, p2, rfl, rfl⟩ := own_place_some hr
        refine Wp.iloadN (pc' := 8) d7_7 rfl rfl ?_
        refine Wp.if_le (pt := 57) (pf := 11) d7_8 (by decide) rfl (fun hc8 => ?_) (fun hc8 => ?_)
        · refine Wp.aloadN (pc' := 58) d7_57 rfl rfl rfl ?_
          refine Wp.iloadN (pc' := 59) d7_58 rfl rfl ?_
          refine Wp.iloadN (pc' := 60) d7_59 rfl rfl ?_
          refine Wp.callP_2 3 0 (pc' := 63) (cells' := 0) (slots' := 0)  (rm := rm6) (w38 hw) (w40 hw) (w2 hw) (w39 hw) (w3 hw) (w41 hw) (by decide) pd0 rfl d7_60 rfl rfl rfl (by decide) (by decide) (by decide) (by decide) rfl rfl rfl ?_
          refine (con6 hw X0 ap ah q ak ks T n hs ps v 0 h1 (by omega) p1 p2).mono ?_
          rintro _ _ ⟨rfl, rfl⟩
          refine Wp.afterN ?_
          refine Wp.return_ rfl d7_63 ?_
          subst hQ; exact ⟨rfl, rfl⟩
        · exact absurd hc8 (by decide)
      · rename_i h0
        split at hr
        · cases hr
        · rename_i w hw'
          have hwl : (at_ - 1) / 2 < hs.length := (List.getElem?_eq_some_iff.mp hw').1
          split at hr
          · rename_i hb
            refine Wp.iloadN (pc' := 8) d7_7 rfl rfl ?_
            refine Wp.if_le (pt := 57) (pf := 11) d7_8 (by decide) rfl (fun hc8 => ?_) (fun hc8 => ?_)
            · exfalso; omega
            · refine Wp.iloadN (pc' := 12) d7_11 rfl rfl ?_
              refine Wp.iconst (1) (pc' := 13) d7_12 rfl rfl ?_
              refine Wp.isub (pc' := 14) d7_13 rfl ?_
              refine Wp.iconst (2) (pc' := 15) d7_14 rfl rfl ?_
              refine Wp.idiv (pc' := 16) d7_15 (by decide) rfl ?_
              rw [own_half h3 (by omega)]
              refine Wp.istoreN_3 (pc' := 17) d7_16 ho rfl ?_
              refine Wp.aloadN (pc' := 18) d7_17 rfl rfl rfl ?_
              refine Wp.getfield 3 0 (pc' := 21) (w10 hw) d7_18 rfl rfl rfl ?_
              refine Wp.aloadN (pc' := 22) d7_21 rfl rfl rfl ?_
              refine Wp.getfield 3 1 (pc' := 25) (w13 hw) d7_22 rfl rfl rfl ?_
              refine Wp.iloadN (pc' := 26) d7_25 rfl rfl ?_
              refine Wp.iaload 2 ((at_ - 1) / 2) (pc' := 27) d7_26 rfl (own_N (by omega)) (own_hv_get hw') rfl ?_
              refine Wp.laload 4 w (pc' := 28) d7_27 rfl (own_N (by omega)) (own_ks_get (by omega)) rfl ?_
              refine Wp.aloadN (pc' := 29) d7_28 rfl rfl rfl ?_
              refine Wp.getfield 3 0 (pc' := 32) (w10 hw) d7_29 rfl rfl rfl ?_
              refine Wp.iloadN (pc' := 33) d7_32 rfl rfl ?_
              refine Wp.laload 4 v (pc' := 34) d7_33 rfl (own_N (by omega)) (own_ks_get (by omega)) rfl ?_
              refine Wp.lcmp_gt (pt := 41) (pf := 38) d7_34 rfl d7_35 (by decide) rfl (fun hc35 => ?_) (fun hc35 => ?_)
              · rw [if_neg (own_le_f (ks := ks) (i := w) (j := v) (by omega) (by omega) (by omega))] at hr
                split at hr
                · cases hr
                rename_i hs2 ps2 hpl
                obtain ⟨p1, p2, rfl, rfl⟩ := own_place_some hpl
                refine Wp.aloadN (pc' := 42) d7_41 rfl rfl rfl ?_
                refine Wp.aloadN (pc' := 43) d7_42 rfl rfl rfl ?_
                refine Wp.getfield 3 1 (pc' := 46) (w13 hw) d7_43 rfl rfl rfl ?_
                refine Wp.iloadN (pc' := 47) d7_46 rfl rfl ?_
                refine Wp.iaload 2 ((at_ - 1) / 2) (pc' := 48) d7_47 rfl (own_N (by omega)) (own_hv_get hw') rfl ?_
                refine Wp.iloadN (pc' := 49) d7_48 rfl rfl ?_
                refine Wp.callP_2 3 0 (pc' := 52) (cells' := 0) (slots' := 0)  (rm := rm6) (w38 hw) (w40 hw) (w2 hw) (w39 hw) (w3 hw) (w41 hw) (by decide) pd0 rfl d7_49 rfl rfl rfl (by decide) (by decide) (by decide) (by decide) rfl rfl rfl ?_
                refine (con6 hw X0 ap ah q ak ks T n hs ps w at_ h1 (by omega) p1 p2).mono ?_
                rintro _ _ ⟨rfl, rfl⟩
                refine Wp.afterN ?_
                refine Wp.iloadN (pc' := 53) d7_52 rfl rfl ?_
                refine Wp.istoreN_1 (pc' := 54) d7_53 rfl rfl ?_
                refine Wp.goto (pc' := 7) d7_54 (by decide) ?_
                exact ih _ _ _ _ rfl (by simpa using h1) (by simpa using h2) (by omega) hr
              · rw [if_pos (own_le_t (ks := ks) (i := w) (j := v) (by omega) (by omega) hc35)] at hr
                obtain ⟨p1, p2, rfl, rfl⟩ := own_place_some hr
                refine Wp.goto (pc' := 57) d7_38 (by decide) ?_
                refine Wp.aloadN (pc' := 58) d7_57 rfl rfl rfl ?_
                refine Wp.iloadN (pc' := 59) d7_58 rfl rfl ?_
                refine Wp.iloadN (pc' := 60) d7_59 rfl rfl ?_
                refine Wp.callP_2 3 0 (pc' := 63) (cells' := 0) (slots' := 0)  (rm := rm6) (w38 hw) (w40 hw) (w2 hw) (w39 hw) (w3 hw) (w41 hw) (by decide) pd0 rfl d7_60 rfl rfl rfl (by decide) (by decide) (by decide) (by decide) rfl rfl rfl ?_
                refine (con6 hw X0 ap ah q ak ks T n hs ps v at_ h1 (by omega) p1 p2).mono ?_
                rintro _ _ ⟨rfl, rfl⟩
                refine Wp.afterN ?_
                refine Wp.return_ rfl d7_63 ?_
                subst hQ; exact ⟨rfl, rfl⟩
          · cases hr
  refine Wp.aloadN (pc' := 1) d7_0 rfl rfl rfl ?_
  refine Wp.getfield 3 1 (pc' := 4) (w13 hw) d7_1 rfl rfl rfl ?_
  refine Wp.iloadN (pc' := 5) d7_4 rfl rfl ?_
  refine Wp.iaload 2 at0 (pc' := 6) d7_5 rfl (own_N (by omega)) (own_hv_get hv) rfl ?_
  refine Wp.istoreN_2 (pc' := 7) d7_6 rfl rfl ?_
  exact K f at0 hs ps _ rfl h1 h2 (by omega) hr
theorem con9 {l : Launch} {Z : State} {a0 : Array Value} {n0 : Nat} (hw : Hw Z a0) (X0 : Addr × Wp.MC) (ap ah q ak : Addr) (ks : List Int64) (T : Wp.MH) (n : Nat) (hn : n < 1000) (hk0 : ks.length < 1000) (f at0 : Nat) (hs hs' : List Nat) (ps ps' : List Int) (h1 : hs.length < 1000) (h2 : ps.length = ks.length) (hr : own_siftDown (own_le ks) f n at0 hs ps = some (hs', ps')) :
    C9 l Z a0 n0 #[.ref q, .int (Int32.ofNat at0)] (X0 :: (ap, .inl (.int, own_pv ps)) :: (ah, .inl (.int, own_hv hs)) :: (q, .inr ("pheromedian/model/VertexQueue", [("key", "[J", .ref ak), ("heap", "[I", .ref ah), ("position", "[I", .ref ap), ("size", "I", .int (Int32.ofNat n))])) :: (ak, .inl (.long, ks.map Value.long)) :: T) (fun r H' => r = none ∧ H' = (X0 :: (ap, .inl (.int, own_pv ps')) :: (ah, .inl (.int, own_hv hs')) :: (q, .inr ("pheromedian/model/VertexQueue", [("key", "[J", .ref ak), ("heap", "[I", .ref ah), ("position", "[I", .ref ap), ("size", "I", .int (Int32.ofNat n))])) :: (ak, .inl (.long, ks.map Value.long)) :: T)) := by
  refine Wp.Con.intro pn9 (fun m => ef9 m q _) ?_
  generalize hQ : (fun (r : Option Value) (H' : Wp.MH) => r = none ∧ H' = (X0 :: (ap, .inl (.int, own_pv ps')) :: (ah, .inl (.int, own_hv hs')) :: (q, .inr ("pheromedian/model/VertexQueue", [("key", "[J", .ref ak), ("heap", "[I", .ref ah), ("position", "[I", .ref ap), ("size", "I", .int (Int32.ofNat n))])) :: (ak, .inl (.long, ks.map Value.long)) :: T)) = Q
  unfold own_siftDown at hr
  split at hr
  · cases hr
  rename_i v hv
  have hlt : at0 < hs.length := (List.getElem?_eq_some_iff.mp hv).1
  have enN := own_N hn
  have K : ∀ (f at_ : Nat) (hs : List Nat) (ps : List Int) (o : Slot), Wp.ok1 o = true → hs.length < 1000 → ps.length = ks.length → at_ < 1000 → own_dn (own_le ks) n v f at_ hs ps = some (hs', ps') →
      W9 l Z a0 n0 0 0 7 [.val (.ref q), .val (.int (Int32.ofNat at_)), .val (.int (Int32.ofNat v)), o] [] (X0 :: (ap, .inl (.int, own_pv ps)) :: (ah, .inl (.int, own_hv hs)) :: (q, .inr ("pheromedian/model/VertexQueue", [("key", "[J", .ref ak), ("heap", "[I", .ref ah), ("position", "[I", .ref ap), ("size", "I", .int (Int32.ofNat n))])) :: (ak, .inl (.long, ks.map Value.long)) :: T) Q := by
    intro f
    induction f with
    | zero => intro at_ hs ps o ho h1 h2 h3 hr; cases hr
    | succ f ih =>
      intro at_ hs ps o ho h1 h2 h3 hr
      unfold own_dn at hr
      have eN := own_N h3
      have eC := own_child2 h3
      split at hr
      · rename_i h0
        obtain ⟨p1, p2, rfl, rfl⟩ := own_place_some hr
        refine Wp.iconst (2) (pc' := 8) d9_7 rfl rfl ?_
        refine Wp.iloadN (pc' := 9) d9_8 rfl rfl ?_
        refine Wp.imul (pc' := 10) d9_9 rfl ?_
        refine Wp.iconst (1) (pc' := 11) d9_10 rfl rfl ?_
        refine Wp.iadd (pc' := 12) d9_11 rfl ?_
        refine Wp.topI (fun z => z.toInt = _) eC (fun ch hch => ?_)
        refine Wp.istoreN_3 (pc' := 13) d9_12 ho rfl ?_
        refine Wp.iloadN (pc' := 14) d9_13 rfl rfl ?_
        refine Wp.aloadN (pc' := 15) d9_14 rfl rfl rfl ?_
        refine Wp.getfield 3 3 (pc' := 18) (w27 hw) d9_15 rfl rfl rfl ?_
        refine Wp.icmp_lt (pt := 24) (pf := 21) d9_18 (by decide) rfl (fun hc18 => ?_) (fun hc18 => ?_)
        · exfalso; omega
        · refine Wp.goto (pc' := 105) d9_21 (by decide) ?_
          refine Wp.aloadN (pc' := 106) d9_105 rfl rfl rfl ?_
          refine Wp.iloadN (pc' := 107) d9_106 rfl rfl ?_
          refine Wp.iloadN (pc' := 108) d9_107 rfl rfl ?_
          refine Wp.callP_2 3 0 (pc' := 111) (cells' := 0) (slots' := 0)  (rm := rm6) (w38 hw) (w40 hw) (w2 hw) (w39 hw) (w3 hw) (w41 hw) (by decide) pd0 rfl d9_108 rfl rfl rfl (by decide) (by decide) (by decide) (by decide) rfl rfl rfl ?_
          refine (con6 hw X0 ap ah q ak ks T n hs ps v at_ h1 (by omega) p1 p2).mono ?_
          rintro _ _ ⟨rfl, rfl⟩
          refine Wp.afterN ?_
          refine Wp.return_ rfl d9_111 ?_
          subst hQ; exact ⟨rfl, rfl⟩
      · rename_i h0
        split at hr
        · cases hr
        · rename_i c w hcw
          split at hr
          · rename_i hb
            have K65 : ∀ ch : Int32, ch = Int32.ofNat c → hs[c]? = some w → w < ps.length → W9 l Z a0 n0 0 0 65 [.val (.ref q), .val (.int (Int32.ofNat at_)), .val (.int (Int32.ofNat v)), .val (.int ch)] [] (X0 :: (ap, .inl (.int, own_pv ps)) :: (ah, .inl (.int, own_hv hs)) :: (q, .inr ("pheromedian/model/VertexQueue", [("key", "[J", .ref ak), ("heap", "[I", .ref ah), ("position", "[I", .ref ap), ("size", "I", .int (Int32.ofNat n))])) :: (ak, .inl (.long, ks.map Value.long)) :: T) Q := by
              intro ch hch hcw' hwl
              subst hch
              have hcl : c < hs.length := (List.getElem?_eq_some_iff.mp hcw').1
              refine Wp.aloadN (pc' := 66) d9_65 rfl rfl rfl ?_
              refine Wp.getfield 3 0 (pc' := 69) (w10 hw) d9_66 rfl rfl rfl ?_
              refine Wp.iloadN (pc' := 70) d9_69 rfl rfl ?_
              refine Wp.laload 4 v (pc' := 71) d9_70 rfl (own_N (by omega)) (own_ks_get (by omega)) rfl ?_
              refine Wp.aloadN (pc' := 72) d9_71 rfl rfl rfl ?_
              refine Wp.getfield 3 0 (pc' := 75) (w10 hw) d9_72 rfl rfl rfl ?_
              refine Wp.aloadN (pc' := 76) d9_75 rfl rfl rfl ?_
              refine Wp.getfield 3 1 (pc' := 79) (w13 hw) d9_76 rfl rfl rfl ?_
              refine Wp.iloadN (pc' := 80) d9_79 rfl rfl ?_
              refine Wp.iaload 2 c (pc' := 81) d9_80 rfl (own_N (by omega)) (own_hv_get hcw') rfl ?_
              refine Wp.laload 4 w (pc' := 82) d9_81 rfl (own_N (by omega)) (own_ks_get (by omega)) rfl ?_
              refine Wp.lcmp_gt (pt := 89) (pf := 86) d9_82 rfl d9_83 (by decide) rfl (fun hc83 => ?_) (fun hc83 => ?_)
              · rw [if_neg (own_le_f (ks := ks) (i := v) (j := w) (by omega) (by omega) (by omega))] at hr
                split at hr
                · cases hr
                rename_i hs2 ps2 hpl
                obtain ⟨p1, p2, rfl, rfl⟩ := own_place_some hpl
                refine Wp.aloadN (pc' := 90) d9_89 rfl rfl rfl ?_
                refine Wp.aloadN (pc' := 91) d9_90 rfl rfl rfl ?_
                refine Wp.getfield 3 1 (pc' := 94) (w13 hw) d9_91 rfl rfl rfl ?_
                refine Wp.iloadN (pc' := 95) d9_94 rfl rfl ?_
                refine Wp.iaload 2 c (pc' := 96) d9_95 rfl (own_N (by omega)) (own_hv_get hcw') rfl ?_
                refine Wp.iloadN (pc' := 97) d9_96 rfl rfl ?_
                refine Wp.callP_2 3 0 (pc' := 100) (cells' := 0) (slots' := 0)  (rm := rm6) (w38 hw) (w40 hw) (w2 hw) (w39 hw) (w3 hw) (w41 hw) (by decide) pd0 rfl d9_97 rfl rfl rfl (by decide) (by decide) (by decide) (by decide) rfl rfl rfl ?_
                refine (con6 hw X0 ap ah q ak ks T n hs ps w at_ h1 (by omega) p1 p2).mono ?_
                rintro _ _ ⟨rfl, rfl⟩
                refine Wp.afterN ?_
                refine Wp.iloadN (pc' := 101) d9_100 rfl rfl ?_
                refine Wp.istoreN_1 (pc' := 102) d9_101 rfl rfl ?_
                refine Wp.goto (pc' := 7) d9_102 (by decide) ?_
                exact ih _ _ _ _ rfl (by simpa using h1) (by simpa using h2) (by omega) hr
              · rw [if_pos (own_le_t (ks := ks) (i := v) (j := w) (by omega) (by omega) hc83)] at hr
                obtain ⟨p1, p2, rfl, rfl⟩ := own_place_some hr
                refine Wp.goto (pc' := 105) d9_86 (by decide) ?_
                refine Wp.aloadN (pc' := 106) d9_105 rfl rfl rfl ?_
                refine Wp.iloadN (pc' := 107) d9_106 rfl rfl ?_
                refine Wp.iloadN (pc' := 108) d9_107 rfl rfl ?_
                refine Wp.callP_2 3 0 (pc' := 111) (cells' := 0) (slots' := 0)  (rm := rm6) (w38 hw) (w40 hw) (w2 hw) (w39 hw) (w3 hw) (w41 hw) (by decide) pd0 rfl d9_108 rfl rfl rfl (by decide) (by decide) (by decide) (by decide) rfl rfl rfl ?_
                refine (con6 hw X0 ap ah q ak ks T n hs ps v at_ h1 (by omega) p1 p2).mono ?_
                rintro _ _ ⟨rfl, rfl⟩
                refine Wp.afterN ?_
                refine Wp.return_ rfl d9_111 ?_
                subst hQ; exact ⟨rfl, rfl⟩
            clear hr ih
            unfold own_child at hcw
            split at hcw
            · cases hcw
            · rename_i c0 hc0
              have hc0l : 2 * at_ + 1 < hs.length := (List.getElem?_eq_some_iff.mp hc0).1
              have eC2 : (2 : Int32) * Int32.ofNat at_ + 1 = Int32.ofNat (2 * at_ + 1) := Int32.toInt_inj.mp (by rw [eC, own_N (by omega)])
              have eC3 : Int32.ofNat (2 * at_ + 1) + 1 = Int32.ofNat (2 * at_ + 1 + 1) := Int32.toInt_inj.mp (by rw [own_inc (own_N (by omega)) (by omega), own_N (by omega)])
              have eC4 := own_N (show 2 * at_ + 1 < 1000 by omega)
              split at hcw
              · rename_i hc0b
                split at hcw
                · rename_i hlt2
                  split at hcw
                  · cases hcw
                  · rename_i c1 hc1
                    have hc1l : 2 * at_ + 1 + 1 < hs.length := (List.getElem?_eq_some_iff.mp hc1).1
                    have eC5 := own_N (show 2 * at_ + 1 + 1 < 1000 by omega)
                    split at hcw
                    · rename_i hc1b
                      refine Wp.iconst (2) (pc' := 8) d9_7 rfl rfl ?_
                      refine Wp.iloadN (pc' := 9) d9_8 rfl rfl ?_
                      refine Wp.imul (pc' := 10) d9_9 rfl ?_
                      refine Wp.iconst (1) (pc' := 11) d9_10 rfl rfl ?_
                      refine Wp.iadd (pc' := 12) d9_11 rfl ?_
                      rw [eC2]
                      refine Wp.istoreN_3 (pc' := 13) d9_12 ho rfl ?_
                      refine Wp.iloadN (pc' := 14) d9_13 rfl rfl ?_
                      refine Wp.aloadN (pc' := 15) d9_14 rfl rfl rfl ?_
                      refine Wp.getfield 3 3 (pc' := 18) (w27 hw) d9_15 rfl rfl rfl ?_
                      refine Wp.icmp_lt (pt := 24) (pf := 21) d9_18 (by decide) rfl (fun hc18 => ?_) (fun hc18 => ?_)
                      · refine Wp.iloadN (pc' := 25) d9_24 rfl rfl ?_
                        refine Wp.iconst (1) (pc' := 26) d9_25 rfl rfl ?_
                        refine Wp.iadd (pc' := 27) d9_26 rfl ?_
                        rw [eC3]
                        refine Wp.aloadN (pc' := 28) d9_27 rfl rfl rfl ?_
                        refine Wp.getfield 3 3 (pc' := 31) (w27 hw) d9_28 rfl rfl rfl ?_
                        refine Wp.icmp_ge (pt := 65) (pf := 34) d9_31 (by decide) rfl (fun hc31 => ?_) (fun hc31 => ?_)
                        · exfalso; omega
                        · refine Wp.aloadN (pc' := 35) d9_34 rfl rfl rfl ?_
                          refine Wp.getfield 3 0 (pc' := 38) (w10 hw) d9_35 rfl rfl rfl ?_
                          refine Wp.aloadN (pc' := 39) d9_38 rfl rfl rfl ?_
                          refine Wp.getfield 3 1 (pc' := 42) (w13 hw) d9_39 rfl rfl rfl ?_
                          refine Wp.iloadN (pc' := 43) d9_42 rfl rfl ?_
                          refine Wp.iconst (1) (pc' := 44) d9_43 rfl rfl ?_
                          refine Wp.iadd (pc' := 45) d9_44 rfl ?_
                          rw [eC3]
                          refine Wp.iaload 2 (2 * at_ + 1 + 1) (pc' := 46) d9_45 rfl (own_N (by omega)) (own_hv_get hc1) rfl ?_
                          refine Wp.laload 4 c1 (pc' := 47) d9_46 rfl (own_N (by omega)) (own_ks_get (by omega)) rfl ?_
                          refine Wp.aloadN (pc' := 48) d9_47 rfl rfl rfl ?_
                          refine Wp.getfield 3 0 (pc' := 51) (w10 hw) d9_48 rfl rfl rfl ?_
                          refine Wp.aloadN (pc' := 52) d9_51 rfl rfl rfl ?_
                          refine Wp.getfield 3 1 (pc' := 55) (w13 hw) d9_52 rfl rfl rfl ?_
                          refine Wp.iloadN (pc' := 56) d9_55 rfl rfl ?_
                          refine Wp.iaload 2 (2 * at_ + 1) (pc' := 57) d9_56 rfl (own_N (by omega)) (own_hv_get hc0) rfl ?_
                          refine Wp.laload 4 c0 (pc' := 58) d9_57 rfl (own_N (by omega)) (own_ks_get (by omega)) rfl ?_
                          refine Wp.lcmp_ge (pt := 65) (pf := 62) d9_58 rfl d9_59 (by decide) rfl (fun hc59 => ?_) (fun hc59 => ?_)
                          · first | (rw [if_pos (own_le_t (ks := ks) (i := c0) (j := c1) (by omega) (by omega) (by omega))] at hcw; cases hcw; exact K65 _ rfl hc0 hc0b) | (cases hcw; exact K65 _ eC3 hc1 hc1b)
                          · rw [if_neg (own_le_f (ks := ks) (i := c0) (j := c1) (by omega) (by omega) (by omega))] at hcw
                            refine Wp.iinc_3 (1) (pc' := 65) d9_62 rfl rfl ?_
                            first | (rw [if_pos (own_le_t (ks := ks) (i := c0) (j := c1) (by omega) (by omega) (by omega))] at hcw; cases hcw; exact K65 _ rfl hc0 hc0b) | (cases hcw; exact K65 _ eC3 hc1 hc1b)
                      · exfalso; omega
                    · cases hcw
                · rename_i hlt2
                  cases hcw
                  refine Wp.iconst (2) (pc' := 8) d9_7 rfl rfl ?_
                  refine Wp.iloadN (pc' := 9) d9_8 rfl rfl ?_
                  refine Wp.imul (pc' := 10) d9_9 rfl ?_
                  refine Wp.iconst (1) (pc' := 11) d9_10 rfl rfl ?_
                  refine Wp.iadd (pc' := 12) d9_11 rfl ?_
                  rw [eC2]
                  refine Wp.istoreN_3 (pc' := 13) d9_12 ho rfl ?_
                  refine Wp.iloadN (pc' := 14) d9_13 rfl rfl ?_
                  refine Wp.aloadN (pc' := 15) d9_14 rfl rfl rfl ?_
                  refine Wp.getfield 3 3 (pc' := 18) (w27 hw) d9_15 rfl rfl rfl ?_
                  refine Wp.icmp_lt (pt := 24) (pf := 21) d9_18 (by decide) rfl (fun hc18 => ?_) (fun hc18 => ?_)
                  · refine Wp.iloadN (pc' := 25) d9_24 rfl rfl ?_
                    refine Wp.iconst (1) (pc' := 26) d9_25 rfl rfl ?_
                    refine Wp.iadd (pc' := 27) d9_26 rfl ?_
                    refine Wp.aloadN (pc' := 28) d9_27 rfl rfl rfl ?_
                    refine Wp.getfield 3 3 (pc' := 31) (w27 hw) d9_28 rfl rfl rfl ?_
                    refine Wp.icmp_ge (pt := 65) (pf := 34) d9_31 (by decide) rfl (fun hc31 => ?_) (fun hc31 => ?_)
                    · exact K65 _ rfl hc0 hc0b
                    · exfalso; rw [own_inc (own_N (by omega)) (by omega)] at hc31; omega
                  · exfalso; omega
              · cases hcw
          · cases hr
  refine Wp.aloadN (pc' := 1) d9_0 rfl rfl rfl ?_
  refine Wp.getfield 3 1 (pc' := 4) (w13 hw) d9_1 rfl rfl rfl ?_
  refine Wp.iloadN (pc' := 5) d9_4 rfl rfl ?_
  refine Wp.iaload 2 at0 (pc' := 6) d9_5 rfl (own_N (by omega)) (own_hv_get hv) rfl ?_
  refine Wp.istoreN_2 (pc' := 7) d9_6 rfl rfl ?_
  exact K f at0 hs ps _ rfl h1 h2 (by omega) hr
theorem con5 {l : Launch} {Z : State} {a0 : Array Value} {n0 : Nat} (hw : Hw Z a0) (X0 : Addr × Wp.MC) (ap ah q ak : Addr) (ks : List Int64) (T : Wp.MH) (hk0 : ks.length < 1000) (f v n n' : Nat) (hs hs' : List Nat) (ps ps' : List Int) (hn : n < 900) (h1 : hs.length < 1000) (h2 : ps.length = ks.length) (hr : own_update (own_le ks) f v (n, hs, ps) = some (n', hs', ps')) :
    C5 l Z a0 n0 #[.ref q, .int (Int32.ofNat v)] (X0 :: (ap, .inl (.int, own_pv ps)) :: (ah, .inl (.int, own_hv hs)) :: (q, .inr ("pheromedian/model/VertexQueue", [("key", "[J", .ref ak), ("heap", "[I", .ref ah), ("position", "[I", .ref ap), ("size", "I", .int (Int32.ofNat n))])) :: (ak, .inl (.long, ks.map Value.long)) :: T) (fun r H' => r = none ∧ H' = (X0 :: (ap, .inl (.int, own_pv ps')) :: (ah, .inl (.int, own_hv hs')) :: (q, .inr ("pheromedian/model/VertexQueue", [("key", "[J", .ref ak), ("heap", "[I", .ref ah), ("position", "[I", .ref ap), ("size", "I", .int (Int32.ofNat n'))])) :: (ak, .inl (.long, ks.map Value.long)) :: T)) := by
  refine Wp.Con.intro pn5 (fun m => ef5 m q _) ?_
  generalize hQ : (fun (r : Option Value) (H' : Wp.MH) => r = none ∧ H' = (X0 :: (ap, .inl (.int, own_pv ps')) :: (ah, .inl (.int, own_hv hs')) :: (q, .inr ("pheromedian/model/VertexQueue", [("key", "[J", .ref ak), ("heap", "[I", .ref ah), ("position", "[I", .ref ap), ("size", "I", .int (Int32.ofNat n'))])) :: (ak, .inl (.long, ks.map Value.long)) :: T)) = Q
  unfold own_update at hr
  simp only at hr
  split at hr
  · cases hr
  rename_i p hp
  have hvl : v < ps.length := (List.getElem?_eq_some_iff.mp hp).1
  split at hr
  · cases hr
  rename_i hpr
  have hpI : (Int32.ofInt p).toInt = p := Int32.toInt_ofInt_of_le (by omega) (by omega)
  split at hr
  · rename_i hneg
    split at hr
    · cases hr
    rename_i hs1 ps1 hpl
    obtain ⟨p1, p2, rfl, rfl⟩ := own_place_some hpl
    split at hr
    · cases hr
    rename_i hs2 ps2 hup
    cases hr
    refine Wp.aloadN (pc' := 1) d5_0 rfl rfl rfl ?_
    refine Wp.getfield 3 2 (pc' := 4) (w15 hw) d5_1 rfl rfl rfl ?_
    refine Wp.iloadN (pc' := 5) d5_4 rfl rfl ?_
    refine Wp.iaload 1 v (pc' := 6) d5_5 rfl (own_N (by omega)) (own_pv_get hp) rfl ?_
    refine Wp.istoreN_2 (pc' := 7) d5_6 rfl rfl ?_
    refine Wp.iloadN (pc' := 8) d5_7 rfl rfl ?_
    refine Wp.if_ge (pt := 29) (pf := 11) d5_8 (by decide) rfl (fun hc8 => ?_) (fun hc8 => ?_)
    · exfalso; omega
    · refine Wp.aloadN (pc' := 12) d5_11 rfl rfl rfl ?_
      refine Wp.dup (pc' := 13) d5_12 rfl rfl ?_
      refine Wp.getfield 3 3 (pc' := 16) (w27 hw) d5_13 rfl rfl rfl ?_
      refine Wp.dupX1 (pc' := 17) d5_16 rfl rfl rfl ?_
      refine Wp.iconst (1) (pc' := 18) d5_17 rfl rfl ?_
      refine Wp.iadd (pc' := 19) d5_18 rfl ?_
      refine Wp.putfield_3_3 (pc' := 22) (ty := .int) (w27 hw) (Or.inl (w28 hw)) (w2 hw) (by decide) rfl rfl d5_19 rfl ?_
      rw [own_succ (k := n) (by omega)]
      refine Wp.istoreN_2 (pc' := 23) d5_22 rfl rfl ?_
      refine Wp.aloadN (pc' := 24) d5_23 rfl rfl rfl ?_
      refine Wp.iloadN (pc' := 25) d5_24 rfl rfl ?_
      refine Wp.iloadN (pc' := 26) d5_25 rfl rfl ?_
      refine Wp.callP_2 3 0 (pc' := 29) (cells' := 0) (slots' := 0)  (rm := rm6) (w38 hw) (w40 hw) (w2 hw) (w39 hw) (w3 hw) (w41 hw) (by decide) pd0 rfl d5_26 rfl rfl rfl (by decide) (by decide) (by decide) (by decide) rfl rfl rfl ?_
      refine (con6 hw X0 ap ah q ak ks T (n + 1) hs ps v n h1 (by omega) p1 p2).mono ?_
      rintro _ _ ⟨rfl, rfl⟩
      refine Wp.afterN ?_
      refine Wp.aloadN (pc' := 30) d5_29 rfl rfl rfl ?_
      refine Wp.iloadN (pc' := 31) d5_30 rfl rfl ?_
      refine Wp.callP_1 3 0 (pc' := 34) (cells' := 0) (slots' := 0)  (rm := rm7) (w42 hw) (w44 hw) (w2 hw) (w43 hw) (w3 hw) (w45 hw) (by decide) pd1 rfl d5_31 rfl rfl rfl (by decide) (by decide) (by decide) (by decide) rfl rfl rfl ?_
      refine (con7 hw X0 ap ah q ak ks T (n + 1) hk0 f n _ _ _ _ (by simpa using h1) (by simpa using h2) hup).mono ?_
      rintro _ _ ⟨rfl, rfl⟩
      refine Wp.afterN ?_
      refine Wp.return_ rfl d5_34 ?_
      subst hQ; exact ⟨rfl, rfl⟩
  · rename_i hneg
    split at hr
    · cases hr
    rename_i hs2 ps2 hup
    cases hr
    have e2 : Int32.ofInt p = Int32.ofNat p.toNat := Int32.toInt_inj.mp (by rw [hpI, own_N (by omega)]; omega)
    refine Wp.aloadN (pc' := 1) d5_0 rfl rfl rfl ?_
    refine Wp.getfield 3 2 (pc' := 4) (w15 hw) d5_1 rfl rfl rfl ?_
    refine Wp.iloadN (pc' := 5) d5_4 rfl rfl ?_
    refine Wp.iaload 1 v (pc' := 6) d5_5 rfl (own_N (by omega)) (own_pv_get hp) rfl ?_
    refine Wp.istoreN_2 (pc' := 7) d5_6 rfl rfl ?_
    refine Wp.iloadN (pc' := 8) d5_7 rfl rfl ?_
    refine Wp.if_ge (pt := 29) (pf := 11) d5_8 (by decide) rfl (fun hc8 => ?_) (fun hc8 => ?_)
    · refine Wp.aloadN (pc' := 30) d5_29 rfl rfl rfl ?_
      refine Wp.iloadN (pc' := 31) d5_30 rfl rfl ?_
      rw [e2]
      refine Wp.callP_1 3 0 (pc' := 34) (cells' := 0) (slots' := 0)  (rm := rm7) (w42 hw) (w44 hw) (w2 hw) (w43 hw) (w3 hw) (w45 hw) (by decide) pd1 rfl d5_31 rfl rfl rfl (by decide) (by decide) (by decide) (by decide) rfl rfl rfl ?_
      refine (con7 hw X0 ap ah q ak ks T n hk0 f p.toNat _ _ _ _ h1 h2 hup).mono ?_
      rintro _ _ ⟨rfl, rfl⟩
      refine Wp.afterN ?_
      refine Wp.return_ rfl d5_34 ?_
      subst hQ; exact ⟨rfl, rfl⟩
    · exfalso; omega
theorem con8 {l : Launch} {Z : State} {a0 : Array Value} {n0 : Nat} (hw : Hw Z a0) (X0 : Addr × Wp.MC) (ap ah q ak : Addr) (ks : List Int64) (T : Wp.MH) (hk0 : ks.length < 1000) (f v n n' : Nat) (hs hs' : List Nat) (ps ps' : List Int) (hn : n < 900) (h1 : hs.length < 1000) (h2 : ps.length = ks.length) (hr : own_poll (own_le ks) f (n, hs, ps) = some (v, (n', hs', ps'))) :
    C8 l Z a0 n0 #[.ref q] (X0 :: (ap, .inl (.int, own_pv ps)) :: (ah, .inl (.int, own_hv hs)) :: (q, .inr ("pheromedian/model/VertexQueue", [("key", "[J", .ref ak), ("heap", "[I", .ref ah), ("position", "[I", .ref ap), ("size", "I", .int (Int32.ofNat n))])) :: (ak, .inl (.long, ks.map Value.long)) :: T) (fun r H' => r = some (.int (Int32.ofNat v)) ∧ H' = (X0 :: (ap, .inl (.int, own_pv ps')) :: (ah, .inl (.int, own_hv hs')) :: (q, .inr ("pheromedian/model/VertexQueue", [("key", "[J", .ref ak), ("heap", "[I", .ref ah), ("position", "[I", .ref ap), ("size", "I", .int (Int32.ofNat n'))])) :: (ak, .inl (.long, ks.map Value.long)) :: T)) := by
  refine Wp.Con.intro pn8 (fun m => ef8 m q) ?_
  unfold own_poll at hr
  simp only at hr
  split at hr
  · cases hr
  rename_i v0 hv0
  have hv0l : 0 < hs.length := (List.getElem?_eq_some_iff.mp hv0).1
  split at hr
  · rename_i hb
    have e1 := own_pred (show n < 1000 by omega) hb.2
    have e2 := own_N (show n - 1 < 1000 by omega)
    split at hr
    · rename_i hz
      cases hr
      refine Wp.aloadN (pc' := 1) d8_0 rfl rfl rfl ?_
      refine Wp.getfield 3 1 (pc' := 4) (w13 hw) d8_1 rfl rfl rfl ?_
      refine Wp.iconst (0) (pc' := 5) d8_4 rfl rfl ?_
      refine Wp.iaload 2 0 (pc' := 6) d8_5 rfl rfl (own_hv_get hv0) rfl ?_
      refine Wp.istoreN_1 (pc' := 7) d8_6 rfl rfl ?_
      refine Wp.aloadN (pc' := 8) d8_7 rfl rfl rfl ?_
      refine Wp.getfield 3 2 (pc' := 11) (w15 hw) d8_8 rfl rfl rfl ?_
      refine Wp.iloadN (pc' := 12) d8_11 rfl rfl ?_
      refine Wp.iconst (-1) (pc' := 13) d8_12 rfl rfl ?_
      refine Wp.iastore_1 v (pc' := 14) d8_13 (own_N (by omega)) (by rw [own_pv_len]; exact hb.1) rfl ?_
      rw [show (Value.int (-1)) = .int (Int32.ofInt (-1)) from rfl, own_pv_set]
      refine Wp.aloadN (pc' := 15) d8_14 rfl rfl rfl ?_
      refine Wp.dup (pc' := 16) d8_15 rfl rfl ?_
      refine Wp.getfield 3 3 (pc' := 19) (w27 hw) d8_16 rfl rfl rfl ?_
      refine Wp.iconst (1) (pc' := 20) d8_19 rfl rfl ?_
      refine Wp.isub (pc' := 21) d8_20 rfl ?_
      refine Wp.putfield_3_3 (pc' := 24) (ty := .int) (w27 hw) (Or.inl (w28 hw)) (w2 hw) (by decide) rfl rfl d8_21 rfl ?_
      rw [e1]
      refine Wp.aloadN (pc' := 25) d8_24 rfl rfl rfl ?_
      refine Wp.getfield 3 3 (pc' := 28) (w27 hw) d8_25 rfl rfl rfl ?_
      refine Wp.if_le (pt := 50) (pf := 31) d8_28 (by decide) rfl (fun hc28 => ?_) (fun hc28 => ?_)
      · refine Wp.iloadN (pc' := 51) d8_50 rfl rfl ?_
        refine Wp.ireturn rfl d8_51 ?_
        refine ⟨rfl, ?_⟩; rw [hz]
      · exfalso; omega
    · rename_i hz
      split at hr
      · cases hr
      rename_i w hw'
      have hwl : n - 1 < hs.length := (List.getElem?_eq_some_iff.mp hw').1
      split at hr
      · cases hr
      rename_i hs1 ps1 hpl
      obtain ⟨p1, p2, rfl, rfl⟩ := own_place_some hpl
      split at hr
      · cases hr
      rename_i hs2 ps2 hdn
      cases hr
      refine Wp.aloadN (pc' := 1) d8_0 rfl rfl rfl ?_
      refine Wp.getfield 3 1 (pc' := 4) (w13 hw) d8_1 rfl rfl rfl ?_
      refine Wp.iconst (0) (pc' := 5) d8_4 rfl rfl ?_
      refine Wp.iaload 2 0 (pc' := 6) d8_5 rfl rfl (own_hv_get hv0) rfl ?_
      refine Wp.istoreN_1 (pc' := 7) d8_6 rfl rfl ?_
      refine Wp.aloadN (pc' := 8) d8_7 rfl rfl rfl ?_
      refine Wp.getfield 3 2 (pc' := 11) (w15 hw) d8_8 rfl rfl rfl ?_
      refine Wp.iloadN (pc' := 12) d8_11 rfl rfl ?_
      refine Wp.iconst (-1) (pc' := 13) d8_12 rfl rfl ?_
      refine Wp.iastore_1 v (pc' := 14) d8_13 (own_N (by omega)) (by rw [own_pv_len]; exact hb.1) rfl ?_
      rw [show (Value.int (-1)) = .int (Int32.ofInt (-1)) from rfl, own_pv_set]
      refine Wp.aloadN (pc' := 15) d8_14 rfl rfl rfl ?_
      refine Wp.dup (pc' := 16) d8_15 rfl rfl ?_
      refine Wp.getfield 3 3 (pc' := 19) (w27 hw) d8_16 rfl rfl rfl ?_
      refine Wp.iconst (1) (pc' := 20) d8_19 rfl rfl ?_
      refine Wp.isub (pc' := 21) d8_20 rfl ?_
      refine Wp.putfield_3_3 (pc' := 24) (ty := .int) (w27 hw) (Or.inl (w28 hw)) (w2 hw) (by decide) rfl rfl d8_21 rfl ?_
      rw [e1]
      refine Wp.aloadN (pc' := 25) d8_24 rfl rfl rfl ?_
      refine Wp.getfield 3 3 (pc' := 28) (w27 hw) d8_25 rfl rfl rfl ?_
      refine Wp.if_le (pt := 50) (pf := 31) d8_28 (by decide) rfl (fun hc28 => ?_) (fun hc28 => ?_)
      · exfalso; omega
      · refine Wp.aloadN (pc' := 32) d8_31 rfl rfl rfl ?_
        refine Wp.aloadN (pc' := 33) d8_32 rfl rfl rfl ?_
        refine Wp.getfield 3 1 (pc' := 36) (w13 hw) d8_33 rfl rfl rfl ?_
        refine Wp.aloadN (pc' := 37) d8_36 rfl rfl rfl ?_
        refine Wp.getfield 3 3 (pc' := 40) (w27 hw) d8_37 rfl rfl rfl ?_
        refine Wp.iaload 2 (n - 1) (pc' := 41) d8_40 rfl e2 (own_hv_get hw') rfl ?_
        refine Wp.iconst (0) (pc' := 42) d8_41 rfl rfl ?_
        refine Wp.callP_2 3 0 (pc' := 45) (cells' := 0) (slots' := 0)  (rm := rm6) (w38 hw) (w40 hw) (w2 hw) (w39 hw) (w3 hw) (w41 hw) (by decide) pd0 rfl d8_42 rfl rfl rfl (by decide) (by decide) (by decide) (by decide) rfl rfl rfl ?_
        refine (con6 hw X0 ap ah q ak ks T (n - 1) hs _ w 0 h1 (by simp; omega) p1 p2).mono ?_
        rintro _ _ ⟨rfl, rfl⟩
        refine Wp.afterN ?_
        refine Wp.aloadN (pc' := 46) d8_45 rfl rfl rfl ?_
        refine Wp.iconst (0) (pc' := 47) d8_46 rfl rfl ?_
        refine Wp.callP_1 3 0 (pc' := 50) (cells' := 0) (slots' := 0)  (rm := rm9) (w51 hw) (w53 hw) (w2 hw) (w52 hw) (w3 hw) (w54 hw) (by decide) pd1 rfl d8_47 rfl rfl rfl (by decide) (by decide) (by decide) (by decide) rfl rfl rfl ?_
        refine (con9 hw X0 ap ah q ak ks T (n - 1) (by omega) hk0 f 0 _ _ _ _ (by simpa using h1) (by simpa using h2) hdn).mono ?_
        rintro _ _ ⟨rfl, rfl⟩
        refine Wp.afterN ?_
        refine Wp.iloadN (pc' := 51) d8_50 rfl rfl ?_
        refine Wp.ireturn rfl d8_51 ?_
        exact ⟨rfl, rfl⟩
  · cases hr
theorem con2 {l : Launch} {Z : State} {a0 : Array Value} {n0 : Nat} (hw : Hw Z a0) (ap : Addr) (x : Int32) (T : Wp.MH) :
    C2 l Z a0 n0 #[.ref ap, .int x] ((ap, .inl (.int, [.int 0, .int 0, .int 0])) :: T) (fun r H' => r = none ∧ H' = (ap, .inl (.int, [.int x, .int x, .int x])) :: T) := by
  refine Wp.Con.intro pn2 (fun m => ef2 m ap x) ?_
  refine Wp.iconst (0) (pc' := 1) d2_0 rfl rfl ?_
  refine Wp.istoreN_2 (pc' := 2) d2_1 rfl rfl ?_
  refine Wp.aloadN (pc' := 3) d2_2 rfl rfl rfl ?_
  refine Wp.arraylength 0 3 (pc' := 4) d2_3 rfl rfl rfl ?_
  refine Wp.istoreN_3 (pc' := 5) d2_4 rfl rfl ?_
  refine Wp.iloadN (pc' := 6) d2_5 rfl rfl ?_
  refine Wp.iloadN (pc' := 7) d2_6 rfl rfl ?_
  refine Wp.icmp_ge (pt := 20) (pf := 10) d2_7 (by decide) rfl (fun hc7 => absurd hc7 (by decide)) (fun hc7 => ?_)
  refine Wp.aloadN (pc' := 11) d2_10 rfl rfl rfl ?_
  refine Wp.iloadN (pc' := 12) d2_11 rfl rfl ?_
  refine Wp.iloadN (pc' := 13) d2_12 rfl rfl ?_
  refine Wp.iastore_0 0 (pc' := 14) d2_13 rfl (by simp) rfl ?_
  try simp only [List.set_cons_zero, List.set_cons_succ]
  refine Wp.iinc_2 (1) (pc' := 17) d2_14 rfl rfl ?_
  refine Wp.goto (pc' := 5) d2_17 (by decide) ?_
  refine Wp.iloadN (pc' := 6) d2_5 rfl rfl ?_
  refine Wp.iloadN (pc' := 7) d2_6 rfl rfl ?_
  refine Wp.icmp_ge (pt := 20) (pf := 10) d2_7 (by decide) rfl (fun hc7 => absurd hc7 (by decide)) (fun hc7 => ?_)
  refine Wp.aloadN (pc' := 11) d2_10 rfl rfl rfl ?_
  refine Wp.iloadN (pc' := 12) d2_11 rfl rfl ?_
  refine Wp.iloadN (pc' := 13) d2_12 rfl rfl ?_
  refine Wp.iastore_0 1 (pc' := 14) d2_13 rfl (by simp) rfl ?_
  try simp only [List.set_cons_zero, List.set_cons_succ]
  refine Wp.iinc_2 (1) (pc' := 17) d2_14 rfl rfl ?_
  refine Wp.goto (pc' := 5) d2_17 (by decide) ?_
  refine Wp.iloadN (pc' := 6) d2_5 rfl rfl ?_
  refine Wp.iloadN (pc' := 7) d2_6 rfl rfl ?_
  refine Wp.icmp_ge (pt := 20) (pf := 10) d2_7 (by decide) rfl (fun hc7 => absurd hc7 (by decide)) (fun hc7 => ?_)
  refine Wp.aloadN (pc' := 11) d2_10 rfl rfl rfl ?_
  refine Wp.iloadN (pc' := 12) d2_11 rfl rfl ?_
  refine Wp.iloadN (pc' := 13) d2_12 rfl rfl ?_
  refine Wp.iastore_0 2 (pc' := 14) d2_13 rfl (by simp) rfl ?_
  try simp only [List.set_cons_zero, List.set_cons_succ]
  refine Wp.iinc_2 (1) (pc' := 17) d2_14 rfl rfl ?_
  refine Wp.goto (pc' := 5) d2_17 (by decide) ?_
  refine Wp.iloadN (pc' := 6) d2_5 rfl rfl ?_
  refine Wp.iloadN (pc' := 7) d2_6 rfl rfl ?_
  refine Wp.icmp_ge (pt := 20) (pf := 10) d2_7 (by decide) rfl (fun hc7 => ?_) (fun hc7 => absurd hc7 (by decide))
  refine Wp.return_ rfl d2_20 ?_
  exact ⟨rfl, rfl⟩
theorem con1 {l : Launch} {Z : State} {a0 : Array Value} {n0 : Nat} (hw : Hw Z a0) (q ak : Addr) (ks : List Int64) (hN : ks.length = 3) (T : Wp.MH) :
    C1 l Z a0 n0 #[.ref q, .ref ak] ((q, .inr ("pheromedian/model/VertexQueue", fs_VertexQueue)) :: (ak, .inl (.long, ks.map Value.long)) :: T) (fun r H' => r = none ∧ ∃ ap ah : Addr, H' = ((ap, .inl (.int, own_pv [-1, -1, -1])) :: (ah, .inl (.int, own_hv [0, 0, 0])) :: (q, .inr ("pheromedian/model/VertexQueue", [("key", "[J", .ref ak), ("heap", "[I", .ref ah), ("position", "[I", .ref ap), ("size", "I", .int (Int32.ofNat 0))])) :: (ak, .inl (.long, ks.map Value.long)) :: T)) := by
  refine Wp.Con.intro pn1 (fun m => ef1 m q ak) ?_
  unfold fs_VertexQueue
  have hN2 : Int32.ofNat (ks.map Value.long).length = 3 := by rw [List.length_map, hN]; rfl
  refine Wp.aloadN (pc' := 1) d1_0 rfl rfl rfl ?_
  refine Wp.initObj 0 (pc' := 4) (w7 hw) (w8 hw) (w9 hw) d1_1 rfl (by decide) rfl (by decide) rfl ?_
  refine Wp.aloadN (pc' := 5) d1_4 rfl rfl rfl ?_
  refine Wp.aloadN (pc' := 6) d1_5 rfl rfl rfl ?_
  refine Wp.putfield_0_0 (pc' := 9) (ty := (.array .long)) (w10 hw) (Or.inr ⟨(w11 hw), rfl, rfl⟩) (w2 hw) (by decide) rfl rfl d1_6 rfl ?_
  refine Wp.aloadN (pc' := 10) d1_9 rfl rfl rfl ?_
  refine Wp.aloadN (pc' := 11) d1_10 rfl rfl rfl ?_
  refine Wp.arraylength 1 3 (pc' := 12) d1_11 rfl hN2 rfl ?_
  refine Wp.newarray 3 3 [.int 0, .int 0, .int 0] (pc' := 14) (cells' := 1) (slots' := 3) (ty := .int) (w12 hw) d1_12 rfl (by decide) (by decide) (by decide) (by decide) rfl rfl rfl rfl rfl (fun a12 => ?_)
  refine Wp.putfield_1_1 (pc' := 17) (ty := (.array .int)) (w13 hw) (Or.inr ⟨(w14 hw), rfl, rfl⟩) (w2 hw) (by decide) rfl rfl d1_14 rfl ?_
  refine Wp.aloadN (pc' := 18) d1_17 rfl rfl rfl ?_
  refine Wp.aloadN (pc' := 19) d1_18 rfl rfl rfl ?_
  refine Wp.arraylength 2 3 (pc' := 20) d1_19 rfl hN2 rfl ?_
  refine Wp.newarray 3 3 [.int 0, .int 0, .int 0] (pc' := 22) (cells' := 2) (slots' := 6) (ty := .int) (w12 hw) d1_20 rfl (by decide) (by decide) (by decide) (by decide) rfl rfl rfl rfl rfl (fun a20 => ?_)
  refine Wp.putfield_2_2 (pc' := 25) (ty := (.array .int)) (w15 hw) (Or.inr ⟨(w16 hw), rfl, rfl⟩) (w2 hw) (by decide) rfl rfl d1_22 rfl ?_
  refine Wp.aloadN (pc' := 26) d1_25 rfl rfl rfl ?_
  refine Wp.getfield 2 2 (pc' := 29) (w15 hw) d1_26 rfl rfl rfl ?_
  refine Wp.iconst (-1) (pc' := 30) d1_29 rfl rfl ?_
  refine Wp.callS_2 0 (pc' := 33) (cells' := 2) (slots' := 6)  (rm := rm2) (w17 hw) (w18 hw) (w19 hw) (w20 hw) (by decide) pd2 rfl d1_30 rfl rfl (by decide) (by decide) (by decide) (by decide) rfl rfl rfl ?_
  refine (con2 hw _ _ _).mono ?_
  rintro _ _ ⟨rfl, rfl⟩
  refine Wp.afterN ?_
  refine Wp.return_ rfl d1_33 ?_
  exact ⟨rfl, _, _, rfl⟩
abbrev own_S : Type := Nat × List Nat × List Int
def own_ok (N : Nat) (s : own_S) : Bool := Nat.blt s.1 900 && (s.2.1.length == N) && (s.2.2.length == N)
def own_su (N : Nat) (le : Nat → Nat → Bool) (v : Nat) (o : Option own_S) : Option own_S :=
  match o with
  | none => none
  | some s => if own_ok N s then own_update le 4 v s else none
def own_sp (N : Nat) (le : Nat → Nat → Bool) (o : Option (List Nat × own_S)) : Option (List Nat × own_S) :=
  match o with
  | none => none
  | some (ps, s) => if own_ok N s then
      (match own_poll le 4 s with
       | none => none
       | some (p, s') => some (p :: ps, s')) else none
theorem own_su_spec {N : Nat} {le : Nat → Nat → Bool} {v : Nat} {o : Option own_S} {s' : own_S} (h : own_su N le v o = some s') : ∃ n hs ps, o = some (n, hs, ps) ∧ n < 900 ∧ hs.length = N ∧ ps.length = N ∧ own_update le 4 v (n, hs, ps) = some s' := by
  unfold own_su at h
  split at h
  · cases h
  · rename_i s
    split at h
    · rename_i hk
      obtain ⟨n, hs, ps⟩ := s
      simp only [own_ok, Bool.and_eq_true, Nat.blt_eq, beq_iff_eq] at hk
      exact ⟨n, hs, ps, rfl, hk.1.1, hk.1.2, hk.2, h⟩
    · cases h
theorem own_sp_spec {N : Nat} {le : Nat → Nat → Bool} {o : Option (List Nat × own_S)} {p : Nat} {l : List Nat} {s' : own_S} (h : own_sp N le o = some (p :: l, s')) : ∃ n hs ps, o = some (l, (n, hs, ps)) ∧ n < 900 ∧ hs.length = N ∧ ps.length = N ∧ own_poll le 4 (n, hs, ps) = some (p, s') := by
  unfold own_sp at h
  split at h
  · cases h
  · rename_i ps s
    split at h
    · rename_i hk
      split at h
      · cases h
      · rename_i p' s2 hp
        obtain ⟨n, hs, ps⟩ := s
        cases h
        simp only [own_ok, Bool.and_eq_true, Nat.blt_eq, beq_iff_eq] at hk
        exact ⟨n, hs, ps, rfl, hk.1.1, hk.1.2, hk.2, hp⟩
    · cases h
def own_bv (bs : List Bool) : List Value := bs.map fun b => .int (own_b b)
def own_any (bs : List Bool) : Bool := bs.getD 0 false || bs.getD 1 false || bs.getD 2 false
theorem own_bv_get {bs : List Bool} {i : Nat} (h : bs.length = 3) (hi : i < 3) : (own_bv bs)[i]? = some (.int (own_b (bs.getD i false))) := by
  simp [own_bv, List.getElem?_eq_getElem (show i < bs.length by omega)]
theorem own_bv_set (bs : List Bool) (i : Nat) (b : Bool) : (own_bv bs).set i (.int (own_b b)) = own_bv (bs.set i b) := by simp [own_bv, List.map_set]
theorem own_yes {b : Bool} (h : ¬ own_b b = 0) : b = true := by cases b <;> first | rfl | exact absurd rfl h
theorem own_no {b : Bool} (h : own_b b = 0) : b = false := by cases b <;> first | rfl | exact absurd h (by decide)
def own_fin (r : own_S × List Bool) : Option (own_S × List Bool) := if (r.1.1 == 0) == !(own_any r.2) && own_ok 3 r.1 && (r.2.length == 3) then some r else none
def own_stp (le : Nat → Nat → Bool) (pb : Bool) (v : Nat) (o : Option (own_S × List Bool)) : Option (own_S × List Bool) :=
  match o with
  | none => none
  | some (s, bs) =>
    if pb && own_any bs then
      (match own_poll le 4 s with
       | none => none
       | some (p, s') => if Nat.blt p 3 && bs.getD p false then own_fin (s', bs.set p false) else none)
    else (match own_update le 4 v s with
      | none => none
      | some s' => own_fin (s', bs.set v true))
def own_s0 : Option (own_S × List Bool) := some ((0, [0, 0, 0], [-1, -1, -1]), [false, false, false])
def own_tst (r : List Nat) (b1 b2 b3 b4 : Bool) (v1 v2 v3 v4 : Nat) : Bool := if own_cn r then (own_stp (own_rk 3 r) b4 v4 (own_stp (own_rk 3 r) b3 v3 (own_stp (own_rk 3 r) b2 v2 (own_stp (own_rk 3 r) b1 v1 own_s0)))).isSome else true
theorem own_all3 : ∀ (r0 r1 r2 : Fin 3) (b1 b2 b3 b4 : Bool) (v1 v2 v3 v4 : Fin 3), own_tst [r0.1, r1.1, r2.1] b1 b2 b3 b4 v1.1 v2.1 v3.1 v4.1 = true := by decide +kernel
theorem own_chk_all (k0 k1 k2 : Int64) (b1 b2 b3 b4 : Bool) (v1 v2 v3 v4 : Nat) (h1 : v1 < 3) (h2 : v2 < 3) (h3 : v3 < 3) (h4 : v4 < 3) : (own_stp (own_le [k0, k1, k2]) b4 v4 (own_stp (own_le [k0, k1, k2]) b3 v3 (own_stp (own_le [k0, k1, k2]) b2 v2 (own_stp (own_le [k0, k1, k2]) b1 v1 own_s0)))).isSome = true := by
  rw [own_ranked]
  have hf := fun k h => own_rank_fin [k0, k1, k2] k h
  have hall := own_all3 ⟨_, hf k0 (by simp)⟩ ⟨_, hf k1 (by simp)⟩ ⟨_, hf k2 (by simp)⟩ b1 b2 b3 b4 ⟨v1, h1⟩ ⟨v2, h2⟩ ⟨v3, h3⟩ ⟨v4, h4⟩
  unfold own_tst at hall
  rw [if_pos (by
    have := own_cn_of ([k0, k1, k2].map Int64.toInt)
    rw [List.map_map] at this
    exact this)] at hall
  exact hall
theorem own_fin_spec {r r' : own_S × List Bool} (h : own_fin r = some r') : r' = r ∧ (r.1.1 = 0 ↔ own_any r.2 = false) ∧ r.1.1 < 900 ∧ r.1.2.1.length = 3 ∧ r.1.2.2.length = 3 ∧ r.2.length = 3 := by
  unfold own_fin at h
  split at h
  · rename_i hh
    cases h
    simp only [own_ok, Bool.and_eq_true, beq_iff_eq, Nat.blt_eq] at hh
    refine ⟨rfl, ?_, hh.1.2.1.1, hh.1.2.1.2, hh.1.2.2, hh.2⟩
    have h1 := hh.1.1
    cases hq : own_any r.2
    · rw [hq] at h1; simp at h1; simp [h1]
    · rw [hq] at h1; simp at h1; simp [h1]
  · cases h
theorem con3 {l : Launch} {Z : State} {a0 : Array Value} {n0 : Nat} (hw : Hw Z a0) (ain ap ah q ak : Addr) (ks : List Int64) (T : Wp.MH) (n : Nat) (hn : n < 1000) (hs : List Nat) (ps : List Int) (bs : List Bool) :
    C3 l Z a0 n0 #[.ref q] ((ain, .inl (.boolean, own_bv bs)) :: (ap, .inl (.int, own_pv ps)) :: (ah, .inl (.int, own_hv hs)) :: (q, .inr ("pheromedian/model/VertexQueue", [("key", "[J", .ref ak), ("heap", "[I", .ref ah), ("position", "[I", .ref ap), ("size", "I", .int (Int32.ofNat n))])) :: (ak, .inl (.long, ks.map Value.long)) :: T) (fun r H' => r = some (.int (own_b (decide (n = 0)))) ∧ H' = ((ain, .inl (.boolean, own_bv bs)) :: (ap, .inl (.int, own_pv ps)) :: (ah, .inl (.int, own_hv hs)) :: (q, .inr ("pheromedian/model/VertexQueue", [("key", "[J", .ref ak), ("heap", "[I", .ref ah), ("position", "[I", .ref ap), ("size", "I", .int (Int32.ofNat n))])) :: (ak, .inl (.long, ks.map Value.long)) :: T)) := by
  refine Wp.Con.intro pn3 (fun m => ef3 m q) ?_
  have eN := own_N hn
  refine Wp.aloadN (pc' := 1) d3_0 rfl rfl rfl ?_
  refine Wp.getfield 3 3 (pc' := 4) (w27 hw) d3_1 rfl rfl rfl ?_
  refine Wp.if_ne (pt := 11) (pf := 7) d3_4 (by decide) rfl (fun hc4 => ?_) (fun hc4 => ?_)
  · refine Wp.iconst (0) (pc' := 12) d3_11 rfl rfl ?_
    refine Wp.zreturn rfl d3_12 ?_
    first | exact ⟨own_b1 (decide_eq_true (by rw [hc4] at eN; have : (0 : Int32).toInt = 0 := rfl; omega)), rfl⟩ | exact ⟨own_b0 (decide_eq_false (fun e => hc4 (by rw [e]; rfl))), rfl⟩
  · refine Wp.iconst (1) (pc' := 8) d3_7 rfl rfl ?_
    refine Wp.goto (pc' := 12) d3_8 (by decide) ?_
    refine Wp.zreturn rfl d3_12 ?_
    first | exact ⟨own_b1 (decide_eq_true (by rw [hc4] at eN; have : (0 : Int32).toInt = 0 := rfl; omega)), rfl⟩ | exact ⟨own_b0 (decide_eq_false (fun e => hc4 (by rw [e]; rfl))), rfl⟩
theorem con4 {l : Launch} {Z : State} {a0 : Array Value} {n0 : Nat} (hw : Hw Z a0) (ain ap ah q ak : Addr) (ks : List Int64) (hks : ks.length = 3) (T : Wp.MH) (n : Nat) (hn : n < 900) (hs : List Nat) (ps : List Int) (bs : List Bool) (hb : bs.length = 3) (h1 : hs.length = 3) (h2 : ps.length = 3) (code' : Int32) (v : Nat) (hv : (((code'.toUInt32 >>> ((1 : Int32) &&& 31).toUInt32).toInt32 &&& 3) % 3) = Int32.ofNat v) (hv3 : v < 3) (n' : Nat) (hs' : List Nat) (ps' : List Int) (bs' : List Bool)
    (hr : own_stp (own_le ks) (decide (¬ code' &&& 1 = 0)) v (some ((n, hs, ps), bs)) = some ((n', hs', ps'), bs')) :
    C4 l Z a0 n0 #[.ref q, .int code', .ref ain] ((ain, .inl (.boolean, own_bv bs)) :: (ap, .inl (.int, own_pv ps)) :: (ah, .inl (.int, own_hv hs)) :: (q, .inr ("pheromedian/model/VertexQueue", [("key", "[J", .ref ak), ("heap", "[I", .ref ah), ("position", "[I", .ref ap), ("size", "I", .int (Int32.ofNat n))])) :: (ak, .inl (.long, ks.map Value.long)) :: T) (fun r H' => r = some (.int 1) ∧ H' = ((ain, .inl (.boolean, own_bv bs')) :: (ap, .inl (.int, own_pv ps')) :: (ah, .inl (.int, own_hv hs')) :: (q, .inr ("pheromedian/model/VertexQueue", [("key", "[J", .ref ak), ("heap", "[I", .ref ah), ("position", "[I", .ref ap), ("size", "I", .int (Int32.ofNat n'))])) :: (ak, .inl (.long, ks.map Value.long)) :: T)) := by
  refine Wp.Con.intro pn4 (fun m => ef4 m q code' ain) ?_
  generalize hQ : (fun (r : Option Value) (H' : Wp.MH) => r = some (.int 1) ∧ H' = ((ain, .inl (.boolean, own_bv bs')) :: (ap, .inl (.int, own_pv ps')) :: (ah, .inl (.int, own_hv hs')) :: (q, .inr ("pheromedian/model/VertexQueue", [("key", "[J", .ref ak), ("heap", "[I", .ref ah), ("position", "[I", .ref ap), ("size", "I", .int (Int32.ofNat n'))])) :: (ak, .inl (.long, ks.map Value.long)) :: T)) = Q
  have K88 : ∀ (c3 c4 : Int32), (n' = 0 ↔ own_any bs' = false) → n' < 900 → bs'.length = 3 → W4 l Z a0 n0 0 0 88 [.val (.ref q), .val (.int code'), .val (.ref ain), .val (.int c3), .val (.int c4)] [] ((ain, .inl (.boolean, own_bv bs')) :: (ap, .inl (.int, own_pv ps')) :: (ah, .inl (.int, own_hv hs')) :: (q, .inr ("pheromedian/model/VertexQueue", [("key", "[J", .ref ak), ("heap", "[I", .ref ah), ("position", "[I", .ref ap), ("size", "I", .int (Int32.ofNat n'))])) :: (ak, .inl (.long, ks.map Value.long)) :: T) Q := by
    intro c3 c4 hz hn' hb
    have K111 : ∀ e : Bool, e = !own_any bs' → W4 l Z a0 n0 0 0 111 [.val (.ref q), .val (.int code'), .val (.ref ain), .val (.int c3), .val (.int c4)] [.int (own_b e)] ((ain, .inl (.boolean, own_bv bs')) :: (ap, .inl (.int, own_pv ps')) :: (ah, .inl (.int, own_hv hs')) :: (q, .inr ("pheromedian/model/VertexQueue", [("key", "[J", .ref ak), ("heap", "[I", .ref ah), ("position", "[I", .ref ap), ("size", "I", .int (Int32.ofNat n'))])) :: (ak, .inl (.long, ks.map Value.long)) :: T) Q := by
      intro e he
      have hee : decide (n' = 0) = e := by
        rw [he]; cases hq : own_any bs'
        · exact decide_eq_true (hz.mpr hq)
        · exact decide_eq_false (fun k => by rw [hz.mp k] at hq; cases hq)
      refine Wp.istore_4 (pc' := 113) d4_111 rfl rfl ?_
      refine Wp.aloadN (pc' := 114) d4_113 rfl rfl rfl ?_
      refine Wp.callV_0 3 0 (pc' := 117) (cells' := 0) (slots' := 0)  (rm := rm3) (w22 hw) (w23 hw) (w25 hw) (w24 hw) (w3 hw) (w26 hw) (by decide) pd3 rfl d4_114 rfl rfl rfl (by decide) (by decide) (by decide) (by decide) rfl rfl rfl ?_
      refine (con3 hw ain ap ah q ak ks T n' (by omega) hs' ps' bs').mono ?_
      rintro _ _ ⟨rfl, rfl⟩
      refine Wp.afterS ?_
      refine Wp.iload (pc' := 119) d4_117 rfl rfl ?_
      refine Wp.icmp_ne (pt := 126) (pf := 122) d4_119 (by decide) rfl (fun hc119 => ?_) (fun hc119 => ?_)
      · exact absurd (by rw [hee]) hc119
      · refine Wp.iconst (1) (pc' := 123) d4_122 rfl rfl ?_
        refine Wp.goto (pc' := 127) d4_123 (by decide) ?_
        refine Wp.zreturn rfl d4_127 ?_
        subst hQ; exact ⟨rfl, rfl⟩
    refine Wp.aloadN (pc' := 89) d4_88 rfl rfl rfl ?_
    refine Wp.iconst (0) (pc' := 90) d4_89 rfl rfl ?_
    refine Wp.baloadZ 0 0 (pc' := 91) d4_90 rfl rfl (own_bv_get hb (by decide)) rfl ?_
    refine Wp.if_ne (pt := 110) (pf := 94) d4_91 (by decide) rfl (fun hc91 => ?_) (fun hc91 => ?_)
    · refine Wp.iconst (0) (pc' := 111) d4_110 rfl rfl ?_
      first | exact K111 true (by unfold own_any; rw [own_no hc91, own_no hc97, own_no hc103]; rfl) | exact K111 false (by unfold own_any; rw [own_yes hc91]; rfl) | exact K111 false (by unfold own_any; rw [own_yes hc97, Bool.or_true]; rfl) | exact K111 false (by unfold own_any; rw [own_yes hc103, Bool.or_true]; rfl)
    · refine Wp.aloadN (pc' := 95) d4_94 rfl rfl rfl ?_
      refine Wp.iconst (1) (pc' := 96) d4_95 rfl rfl ?_
      refine Wp.baloadZ 0 1 (pc' := 97) d4_96 rfl rfl (own_bv_get hb (by decide)) rfl ?_
      refine Wp.if_ne (pt := 110) (pf := 100) d4_97 (by decide) rfl (fun hc97 => ?_) (fun hc97 => ?_)
      · refine Wp.iconst (0) (pc' := 111) d4_110 rfl rfl ?_
        first | exact K111 true (by unfold own_any; rw [own_no hc91, own_no hc97, own_no hc103]; rfl) | exact K111 false (by unfold own_any; rw [own_yes hc91]; rfl) | exact K111 false (by unfold own_any; rw [own_yes hc97, Bool.or_true]; rfl) | exact K111 false (by unfold own_any; rw [own_yes hc103, Bool.or_true]; rfl)
      · refine Wp.aloadN (pc' := 101) d4_100 rfl rfl rfl ?_
        refine Wp.iconst (2) (pc' := 102) d4_101 rfl rfl ?_
        refine Wp.baloadZ 0 2 (pc' := 103) d4_102 rfl rfl (own_bv_get hb (by decide)) rfl ?_
        refine Wp.if_ne (pt := 110) (pf := 106) d4_103 (by decide) rfl (fun hc103 => ?_) (fun hc103 => ?_)
        · refine Wp.iconst (0) (pc' := 111) d4_110 rfl rfl ?_
          first | exact K111 true (by unfold own_any; rw [own_no hc91, own_no hc97, own_no hc103]; rfl) | exact K111 false (by unfold own_any; rw [own_yes hc91]; rfl) | exact K111 false (by unfold own_any; rw [own_yes hc97, Bool.or_true]; rfl) | exact K111 false (by unfold own_any; rw [own_yes hc103, Bool.or_true]; rfl)
        · refine Wp.iconst (1) (pc' := 107) d4_106 rfl rfl ?_
          refine Wp.goto (pc' := 111) d4_107 (by decide) ?_
          first | exact K111 true (by unfold own_any; rw [own_no hc91, own_no hc97, own_no hc103]; rfl) | exact K111 false (by unfold own_any; rw [own_yes hc91]; rfl) | exact K111 false (by unfold own_any; rw [own_yes hc97, Bool.or_true]; rfl) | exact K111 false (by unfold own_any; rw [own_yes hc103, Bool.or_true]; rfl)
  unfold own_stp at hr
  simp only at hr
  have K68 : ∀ c3 : Int32, (decide (¬ code' &&& 1 = 0) && own_any bs) = false → W4 l Z a0 n0 0 0 68 [.val (.ref q), .val (.int code'), .val (.ref ain), .val (.int c3), .unset] [] ((ain, .inl (.boolean, own_bv bs)) :: (ap, .inl (.int, own_pv ps)) :: (ah, .inl (.int, own_hv hs)) :: (q, .inr ("pheromedian/model/VertexQueue", [("key", "[J", .ref ak), ("heap", "[I", .ref ah), ("position", "[I", .ref ap), ("size", "I", .int (Int32.ofNat n))])) :: (ak, .inl (.long, ks.map Value.long)) :: T) Q := by
    intro c3 hf
    rw [if_neg (by rw [hf]; decide)] at hr
    split at hr
    · cases hr
    rename_i s1 hu
    obtain ⟨n1, hs1, ps1⟩ := s1
    obtain ⟨e, hz, g1, g2, g3, g4⟩ := own_fin_spec hr
    cases e
    refine Wp.iloadN (pc' := 69) d4_68 rfl rfl ?_
    refine Wp.iconst (1) (pc' := 70) d4_69 rfl rfl ?_
    refine Wp.iushr (pc' := 71) d4_70 rfl ?_
    refine Wp.iconst (3) (pc' := 72) d4_71 rfl rfl ?_
    refine Wp.iand (pc' := 73) d4_72 rfl ?_
    refine Wp.iconst (3) (pc' := 74) d4_73 rfl rfl ?_
    refine Wp.irem (pc' := 75) d4_74 (by decide) rfl ?_
    rw [hv]
    refine Wp.istore_4 (pc' := 77) d4_75 rfl rfl ?_
    refine Wp.aloadN (pc' := 78) d4_77 rfl rfl rfl ?_
    refine Wp.iload (pc' := 80) d4_78 rfl rfl ?_
    refine Wp.callV_1 3 0 (pc' := 83) (cells' := 0) (slots' := 0)  (rm := rm5) (w33 hw) (w34 hw) (w36 hw) (w35 hw) (w3 hw) (w37 hw) (by decide) pd1 rfl d4_80 rfl rfl rfl (by decide) (by decide) (by decide) (by decide) rfl rfl rfl ?_
    refine (con5 hw (ain, .inl (.boolean, own_bv bs)) ap ah q ak ks T (by omega) 4 v n _ hs _ ps _ hn (by omega) (by omega) hu).mono ?_
    rintro _ _ ⟨rfl, rfl⟩
    refine Wp.afterN ?_
    refine Wp.aloadN (pc' := 84) d4_83 rfl rfl rfl ?_
    refine Wp.iload (pc' := 86) d4_84 rfl rfl ?_
    refine Wp.iconst (1) (pc' := 87) d4_86 rfl rfl ?_
    refine Wp.bastoreZ_0 v (pc' := 88) d4_87 (own_N (by omega)) (by simp [own_bv, hb, hv3]) rfl ?_
    rw [show (Value.int ((1 : Int32) &&& 1)) = .int (own_b true) from rfl, own_bv_set]
    exact K88 _ _ hz g1 g4
  have K34 : ¬ code' &&& 1 = 0 → own_any bs = true → W4 l Z a0 n0 0 0 34 [.val (.ref q), .val (.int code'), .val (.ref ain), .val (.int 1), .unset] [] ((ain, .inl (.boolean, own_bv bs)) :: (ap, .inl (.int, own_pv ps)) :: (ah, .inl (.int, own_hv hs)) :: (q, .inr ("pheromedian/model/VertexQueue", [("key", "[J", .ref ak), ("heap", "[I", .ref ah), ("position", "[I", .ref ap), ("size", "I", .int (Int32.ofNat n))])) :: (ak, .inl (.long, ks.map Value.long)) :: T) Q := by
    intro hc hy
    rw [if_pos (by rw [decide_eq_true hc, hy]; rfl)] at hr
    split at hr
    · cases hr
    rename_i p s1 hu
    split at hr
    · rename_i hp
      simp only [Bool.and_eq_true, Nat.blt_eq] at hp
      obtain ⟨n1, hs1, ps1⟩ := s1
      obtain ⟨e, hz, g1, g2, g3, g4⟩ := own_fin_spec hr
      cases e
      have ep := own_N (show p < 1000 by omega)
      refine Wp.aloadN (pc' := 35) d4_34 rfl rfl rfl ?_
      refine Wp.callV_0 3 0 (pc' := 38) (cells' := 0) (slots' := 0)  (rm := rm8) (w46 hw) (w47 hw) (w49 hw) (w48 hw) (w3 hw) (w50 hw) (by decide) pd4 rfl d4_35 rfl rfl rfl (by decide) (by decide) (by decide) (by decide) rfl rfl rfl ?_
      refine (con8 hw (ain, .inl (.boolean, own_bv bs)) ap ah q ak ks T (by omega) 4 p n _ hs _ ps _ hn (by omega) (by omega) hu).mono ?_
      rintro _ _ ⟨rfl, rfl⟩
      refine Wp.afterS ?_
      refine Wp.istore_4 (pc' := 40) d4_38 rfl rfl ?_
      refine Wp.iload (pc' := 42) d4_40 rfl rfl ?_
      refine Wp.if_lt (pt := 58) (pf := 45) d4_42 (by decide) rfl (fun hc42 => ?_) (fun hc42 => ?_)
      · exfalso; omega
      · refine Wp.iload (pc' := 47) d4_45 rfl rfl ?_
        refine Wp.iconst (2) (pc' := 48) d4_47 rfl rfl ?_
        refine Wp.icmp_gt (pt := 58) (pf := 51) d4_48 (by decide) rfl (fun hc48 => ?_) (fun hc48 => ?_)
        · exfalso; simp only [Int32.reduceToInt] at hc48; omega
        · refine Wp.aloadN (pc' := 52) d4_51 rfl rfl rfl ?_
          refine Wp.iload (pc' := 54) d4_52 rfl rfl ?_
          refine Wp.baloadZ 0 p (pc' := 55) d4_54 rfl ep (own_bv_get hb hp.1) rfl ?_
          refine Wp.if_ne (pt := 60) (pf := 58) d4_55 (by decide) rfl (fun hc55 => ?_) (fun hc55 => ?_)
          · refine Wp.aloadN (pc' := 61) d4_60 rfl rfl rfl ?_
            refine Wp.iload (pc' := 63) d4_61 rfl rfl ?_
            refine Wp.iconst (0) (pc' := 64) d4_63 rfl rfl ?_
            refine Wp.bastoreZ_0 p (pc' := 65) d4_64 ep (by simp [own_bv, hb, hp.1]) rfl ?_
            rw [show (Value.int ((0 : Int32) &&& 1)) = .int (own_b false) from rfl, own_bv_set]
            refine Wp.goto (pc' := 88) d4_65 (by decide) ?_
            exact K88 _ _ hz g1 g4
          · exact absurd hc55 (by rw [hp.2]; decide)
    · cases hr
  have K23 : ∀ y : Bool, y = own_any bs → W4 l Z a0 n0 0 0 23 [.val (.ref q), .val (.int code'), .val (.ref ain), .unset, .unset] [.int (own_b y)] ((ain, .inl (.boolean, own_bv bs)) :: (ap, .inl (.int, own_pv ps)) :: (ah, .inl (.int, own_hv hs)) :: (q, .inr ("pheromedian/model/VertexQueue", [("key", "[J", .ref ak), ("heap", "[I", .ref ah), ("position", "[I", .ref ap), ("size", "I", .int (Int32.ofNat n))])) :: (ak, .inl (.long, ks.map Value.long)) :: T) Q := by
    intro y hy
    refine Wp.istoreN_3 (pc' := 24) d4_23 rfl rfl ?_
    refine Wp.iloadN (pc' := 25) d4_24 rfl rfl ?_
    refine Wp.iconst (1) (pc' := 26) d4_25 rfl rfl ?_
    refine Wp.iand (pc' := 27) d4_26 rfl ?_
    refine Wp.if_eq (pt := 68) (pf := 30) d4_27 (by decide) rfl (fun hc27 => ?_) (fun hc27 => ?_)
    · first | exact K68 _ (by rw [decide_eq_false (not_not_intro hc27)]; rfl) | exact K68 _ (by rw [← hy, own_no hc31, Bool.and_false])
    · refine Wp.iloadN (pc' := 31) d4_30 rfl rfl ?_
      refine Wp.if_eq (pt := 68) (pf := 34) d4_31 (by decide) rfl (fun hc31 => ?_) (fun hc31 => ?_)
      · first | exact K68 _ (by rw [decide_eq_false (not_not_intro hc27)]; rfl) | exact K68 _ (by rw [← hy, own_no hc31, Bool.and_false])
      · have hy1 := own_yes hc31
        subst hy1
        exact K34 hc27 hy.symm
  refine Wp.aloadN (pc' := 1) d4_0 rfl rfl rfl ?_
  refine Wp.iconst (0) (pc' := 2) d4_1 rfl rfl ?_
  refine Wp.baloadZ 0 0 (pc' := 3) d4_2 rfl rfl (own_bv_get hb (by decide)) rfl ?_
  refine Wp.if_ne (pt := 18) (pf := 6) d4_3 (by decide) rfl (fun hc3 => ?_) (fun hc3 => ?_)
  · refine Wp.iconst (1) (pc' := 19) d4_18 rfl rfl ?_
    refine Wp.goto (pc' := 23) d4_19 (by decide) ?_
    first | exact K23 false (by unfold own_any; rw [own_no hc3, own_no hc9, own_no hc15]; rfl) | exact K23 true (by unfold own_any; rw [own_yes hc3]; rfl) | exact K23 true (by unfold own_any; rw [own_yes hc9, Bool.or_true]; rfl) | exact K23 true (by unfold own_any; rw [own_yes hc15, Bool.or_true])
  · refine Wp.aloadN (pc' := 7) d4_6 rfl rfl rfl ?_
    refine Wp.iconst (1) (pc' := 8) d4_7 rfl rfl ?_
    refine Wp.baloadZ 0 1 (pc' := 9) d4_8 rfl rfl (own_bv_get hb (by decide)) rfl ?_
    refine Wp.if_ne (pt := 18) (pf := 12) d4_9 (by decide) rfl (fun hc9 => ?_) (fun hc9 => ?_)
    · refine Wp.iconst (1) (pc' := 19) d4_18 rfl rfl ?_
      refine Wp.goto (pc' := 23) d4_19 (by decide) ?_
      first | exact K23 false (by unfold own_any; rw [own_no hc3, own_no hc9, own_no hc15]; rfl) | exact K23 true (by unfold own_any; rw [own_yes hc3]; rfl) | exact K23 true (by unfold own_any; rw [own_yes hc9, Bool.or_true]; rfl) | exact K23 true (by unfold own_any; rw [own_yes hc15, Bool.or_true])
    · refine Wp.aloadN (pc' := 13) d4_12 rfl rfl rfl ?_
      refine Wp.iconst (2) (pc' := 14) d4_13 rfl rfl ?_
      refine Wp.baloadZ 0 2 (pc' := 15) d4_14 rfl rfl (own_bv_get hb (by decide)) rfl ?_
      refine Wp.if_eq (pt := 22) (pf := 18) d4_15 (by decide) rfl (fun hc15 => ?_) (fun hc15 => ?_)
      · refine Wp.iconst (0) (pc' := 23) d4_22 rfl rfl ?_
        first | exact K23 false (by unfold own_any; rw [own_no hc3, own_no hc9, own_no hc15]; rfl) | exact K23 true (by unfold own_any; rw [own_yes hc3]; rfl) | exact K23 true (by unfold own_any; rw [own_yes hc9, Bool.or_true]; rfl) | exact K23 true (by unfold own_any; rw [own_yes hc15, Bool.or_true])
      · refine Wp.iconst (1) (pc' := 19) d4_18 rfl rfl ?_
        refine Wp.goto (pc' := 23) d4_19 (by decide) ?_
        first | exact K23 false (by unfold own_any; rw [own_no hc3, own_no hc9, own_no hc15]; rfl) | exact K23 true (by unfold own_any; rw [own_yes hc3]; rfl) | exact K23 true (by unfold own_any; rw [own_yes hc9, Bool.or_true]; rfl) | exact K23 true (by unfold own_any; rw [own_yes hc15, Bool.or_true])
theorem own_stp_spec {le : Nat → Nat → Bool} {pb : Bool} {v : Nat} {o : Option (own_S × List Bool)} {r : own_S × List Bool} (h : own_stp le pb v o = some r) : (∃ n hs ps bs, o = some ((n, hs, ps), bs)) ∧ r.1.1 < 900 ∧ r.1.2.1.length = 3 ∧ r.1.2.2.length = 3 ∧ r.2.length = 3 := by
  unfold own_stp at h
  split at h
  · cases h
  · rename_i s bs
    obtain ⟨n, hs, ps⟩ := s
    refine ⟨⟨n, hs, ps, bs, rfl⟩, ?_⟩
    split at h
    · split at h
      · cases h
      · split at h
        · obtain ⟨e, -, g⟩ := own_fin_spec h
          rw [e]; exact g
        · cases h
    · split at h
      · cases h
      · obtain ⟨e, -, g⟩ := own_fin_spec h
        rw [e]; exact g
theorem own_v (c : Int32) : ∃ v : Nat, (((c.toUInt32 >>> ((1 : Int32) &&& 31).toUInt32).toInt32 &&& 3) % 3) = Int32.ofNat v ∧ v < 3 := by
  generalize (c.toUInt32 >>> ((1 : Int32) &&& 31).toUInt32).toInt32 = x
  have h1 : (x &&& 3).toInt = x.toInt % (2 ^ 2 : Nat) := c_mask x 3 2 (by decide) (by decide)
  have h2 := (c_irem (x &&& 3) 3 3 (by decide)).1 (by omega)
  exact ⟨((x &&& 3) % 3).toInt.toNat, Int32.toInt_inj.mp (by rw [own_N (by omega)]; omega), by omega⟩
theorem law_con (l : Launch) (Z : State) (a0 : Array Value) (n0 : Nat) (hw : Hw Z a0) (k0 k1 k2 : Int64) (ops : Int32) :
    C0 l Z a0 n0 #[.long k0, .long k1, .long k2, .int ops] [] (fun v _ => v = some (.int 1)) := by
  refine Wp.Con.intro pn0 (fun m => ef0 m k0 k1 k2 ops) ?_
  obtain ⟨v1, hv1, hl1⟩ := own_v ops
  obtain ⟨v2, hv2, hl2⟩ := own_v (ops.toUInt32 >>> ((3 : Int32) &&& 31).toUInt32).toInt32
  obtain ⟨v3, hv3, hl3⟩ := own_v (ops.toUInt32 >>> ((6 : Int32) &&& 31).toUInt32).toInt32
  obtain ⟨v4, hv4, hl4⟩ := own_v (ops.toUInt32 >>> ((9 : Int32) &&& 31).toUInt32).toInt32
  have hsome := own_chk_all k0 k1 k2 (decide (¬ ops &&& 1 = 0)) (decide (¬ (ops.toUInt32 >>> ((3 : Int32) &&& 31).toUInt32).toInt32 &&& 1 = 0)) (decide (¬ (ops.toUInt32 >>> ((6 : Int32) &&& 31).toUInt32).toInt32 &&& 1 = 0)) (decide (¬ (ops.toUInt32 >>> ((9 : Int32) &&& 31).toUInt32).toInt32 &&& 1 = 0)) v1 v2 v3 v4 hl1 hl2 hl3 hl4
  obtain ⟨⟨⟨m4, hs4, ps4⟩, bs4⟩, r4⟩ := Option.isSome_iff_exists.mp hsome
  obtain ⟨⟨m3, hs3, ps3, bs3, r3⟩, -⟩ := own_stp_spec r4
  obtain ⟨⟨m2, hs2, ps2, bs2, r2⟩, zw3⟩ := own_stp_spec r3
  obtain ⟨⟨m1, hs1, ps1, bs1, r1⟩, zw2⟩ := own_stp_spec r2
  obtain ⟨-, zw1⟩ := own_stp_spec r1
  rw [r3] at r4
  rw [r2] at r3
  rw [r1] at r2
  unfold own_s0 at r1
  simp only at zw1 zw2 zw3
  refine Wp.iconst (3) (pc' := 1) at_0 rfl rfl ?_
  refine Wp.newarray 3 3 [.long 0, .long 0, .long 0] (pc' := 3) (cells' := 1) (slots' := 3) (ty := .long) (w0 hw) at_1 rfl (by decide) (by decide) (by decide) (by decide) rfl rfl rfl rfl rfl (fun a1 => ?_)
  refine Wp.dup (pc' := 4) at_3 rfl rfl ?_
  refine Wp.iconst (0) (pc' := 5) at_4 rfl rfl ?_
  refine Wp.lloadN (pc' := 6) at_5 rfl rfl ?_
  refine Wp.lastore_0 0 (pc' := 7) at_6 rfl (by simp) rfl ?_
  try simp only [List.set_cons_zero, List.set_cons_succ]
  refine Wp.dup (pc' := 8) at_7 rfl rfl ?_
  refine Wp.iconst (1) (pc' := 9) at_8 rfl rfl ?_
  refine Wp.lloadN (pc' := 10) at_9 rfl rfl ?_
  refine Wp.lastore_0 1 (pc' := 11) at_10 rfl (by simp) rfl ?_
  try simp only [List.set_cons_zero, List.set_cons_succ]
  refine Wp.dup (pc' := 12) at_11 rfl rfl ?_
  refine Wp.iconst (2) (pc' := 13) at_12 rfl rfl ?_
  refine Wp.lload (pc' := 15) at_13 rfl rfl ?_
  refine Wp.lastore_0 2 (pc' := 16) at_15 rfl (by simp) rfl ?_
  try simp only [List.set_cons_zero, List.set_cons_succ]
  refine Wp.astore_7 (pc' := 18) at_16 rfl rfl rfl rfl ?_
  refine Wp.new_ (pc' := 21) (cells' := 2) (slots' := 7) fs_VertexQueue (w1 hw) (w2 hw) (w3 hw) (by decide) (fs_VertexQueue_ok hw) at_18 (by decide) (by decide) rfl rfl rfl (fun a18 => ?_)
  refine Wp.dup (pc' := 22) at_21 rfl rfl ?_
  refine Wp.aload (pc' := 24) at_22 rfl rfl rfl ?_
  refine Wp.callI_1 1 (pc' := 27) (cells' := 4) (slots' := 13)  (rm := rm1) rfl (w4 hw) (w5 hw) (w3 hw) (w6 hw) (by decide) pd5 rfl at_24 rfl rfl (by decide) (by decide) (by decide) (by decide) rfl rfl rfl ?_
  refine (con1 hw _ _ [k0, k1, k2] rfl _).mono ?_
  rintro _ _ ⟨rfl, ap, ah, rfl⟩
  refine Wp.afterN ?_
  refine Wp.astore_8 (pc' := 29) at_27 rfl rfl rfl rfl ?_
  refine Wp.iconst (3) (pc' := 30) at_29 rfl rfl ?_
  refine Wp.newarray 3 3 [.int 0, .int 0, .int 0] (pc' := 32) (cells' := 5) (slots' := 16) (ty := .boolean) (w21 hw) at_30 rfl (by decide) (by decide) (by decide) (by decide) rfl rfl rfl rfl rfl (fun a30 => ?_)
  refine Wp.astore_9 (pc' := 34) at_32 rfl rfl rfl rfl ?_
  refine Wp.aload (pc' := 36) at_34 rfl rfl rfl ?_
  refine Wp.callV_0 3 0 (pc' := 39) (cells' := 5) (slots' := 16)  (rm := rm3) (w22 hw) (w23 hw) (w25 hw) (w24 hw) (w3 hw) (w26 hw) (by decide) pd3 rfl at_36 rfl rfl rfl (by decide) (by decide) (by decide) (by decide) rfl rfl rfl ?_
  refine (con3 hw _ ap ah _ _ [k0, k1, k2] [] 0 (by decide) [0, 0, 0] [-1, -1, -1] [false, false, false]).mono ?_
  rintro _ _ ⟨rfl, rfl⟩
  refine Wp.afterS ?_
  refine Wp.if_ne (pt := 44) (pf := 42) at_39 (by decide) rfl (fun hc39 => ?_) (fun hc39 => ?_)
  · refine Wp.aload (pc' := 46) at_44 rfl rfl rfl ?_
    refine Wp.iload (pc' := 48) at_46 rfl rfl ?_
    refine Wp.aload (pc' := 50) at_48 rfl rfl rfl ?_
    refine Wp.callS_3 0 (pc' := 53) (cells' := 5) (slots' := 16)  (rm := rm4) (w29 hw) (w30 hw) (w31 hw) (w32 hw) (by decide) pd6 rfl at_50 rfl rfl (by decide) (by decide) (by decide) (by decide) rfl rfl rfl ?_
    refine (con4 hw _ ap ah _ _ [k0, k1, k2] rfl [] 0 (by decide) _ _ _ rfl rfl rfl _ v1 hv1 hl1 _ _ _ _ r1).mono ?_
    rintro _ _ ⟨rfl, rfl⟩
    refine Wp.afterS ?_
    refine Wp.if_eq (pt := 104) (pf := 56) at_53 (by decide) rfl (fun hc53 => ?_) (fun hc53 => ?_)
    · exact absurd hc53 (by decide)
    · refine Wp.aload (pc' := 58) at_56 rfl rfl rfl ?_
      refine Wp.iload (pc' := 60) at_58 rfl rfl ?_
      refine Wp.iconst (3) (pc' := 61) at_60 rfl rfl ?_
      refine Wp.iushr (pc' := 62) at_61 rfl ?_
      refine Wp.aload (pc' := 64) at_62 rfl rfl rfl ?_
      refine Wp.callS_3 0 (pc' := 67) (cells' := 5) (slots' := 16)  (rm := rm4) (w29 hw) (w30 hw) (w31 hw) (w32 hw) (by decide) pd6 rfl at_64 rfl rfl (by decide) (by decide) (by decide) (by decide) rfl rfl rfl ?_
      refine (con4 hw _ ap ah _ _ [k0, k1, k2] rfl [] m1 zw1.1 _ _ _ zw1.2.2.2 zw1.2.1 zw1.2.2.1 _ v2 hv2 hl2 _ _ _ _ r2).mono ?_
      rintro _ _ ⟨rfl, rfl⟩
      refine Wp.afterS ?_
      refine Wp.if_eq (pt := 104) (pf := 70) at_67 (by decide) rfl (fun hc67 => ?_) (fun hc67 => ?_)
      · exact absurd hc67 (by decide)
      · refine Wp.aload (pc' := 72) at_70 rfl rfl rfl ?_
        refine Wp.iload (pc' := 74) at_72 rfl rfl ?_
        refine Wp.bipush (6) (pc' := 76) at_74 rfl rfl ?_
        refine Wp.iushr (pc' := 77) at_76 rfl ?_
        refine Wp.aload (pc' := 79) at_77 rfl rfl rfl ?_
        refine Wp.callS_3 0 (pc' := 82) (cells' := 5) (slots' := 16)  (rm := rm4) (w29 hw) (w30 hw) (w31 hw) (w32 hw) (by decide) pd6 rfl at_79 rfl rfl (by decide) (by decide) (by decide) (by decide) rfl rfl rfl ?_
        refine (con4 hw _ ap ah _ _ [k0, k1, k2] rfl [] m2 zw2.1 _ _ _ zw2.2.2.2 zw2.2.1 zw2.2.2.1 _ v3 hv3 hl3 _ _ _ _ r3).mono ?_
        rintro _ _ ⟨rfl, rfl⟩
        refine Wp.afterS ?_
        refine Wp.if_eq (pt := 104) (pf := 85) at_82 (by decide) rfl (fun hc82 => ?_) (fun hc82 => ?_)
        · exact absurd hc82 (by decide)
        · refine Wp.aload (pc' := 87) at_85 rfl rfl rfl ?_
          refine Wp.iload (pc' := 89) at_87 rfl rfl ?_
          refine Wp.bipush (9) (pc' := 91) at_89 rfl rfl ?_
          refine Wp.iushr (pc' := 92) at_91 rfl ?_
          refine Wp.aload (pc' := 94) at_92 rfl rfl rfl ?_
          refine Wp.callS_3 0 (pc' := 97) (cells' := 5) (slots' := 16)  (rm := rm4) (w29 hw) (w30 hw) (w31 hw) (w32 hw) (by decide) pd6 rfl at_94 rfl rfl (by decide) (by decide) (by decide) (by decide) rfl rfl rfl ?_
          refine (con4 hw _ ap ah _ _ [k0, k1, k2] rfl [] m3 zw3.1 _ _ _ zw3.2.2.2 zw3.2.1 zw3.2.2.1 _ v4 hv4 hl4 _ _ _ _ r4).mono ?_
          rintro _ _ ⟨rfl, rfl⟩
          refine Wp.afterS ?_
          refine Wp.if_eq (pt := 104) (pf := 100) at_97 (by decide) rfl (fun hc97 => ?_) (fun hc97 => ?_)
          · exact absurd hc97 (by decide)
          · refine Wp.iconst (1) (pc' := 101) at_100 rfl rfl ?_
            refine Wp.goto (pc' := 105) at_101 (by decide) ?_
            refine Wp.zreturn rfl at_105 ?_
            rfl
  · exact absurd hc39 (by decide)
set_option maxRecDepth 65536 in
theorem comes_1 {Post : Tables → Env → Array Value → State → Outcome → State → Prop} (hpost : ∀ tb e args s v u, (limb_1_1.after args s (.returned v) u = true ∧ limb_1_2.after args s (.returned v) u = true ∧ True) → FrameEnd s (.returned v) u (Jvm.fieldLocs frame_1_writes args s ++ Jvm.arrayLocs frame_1_arrays args s ++ Jvm.staticLocs frame_1_statics s) room_1.cells room_1.slots → Post tb e args s (.returned v) u) :
    ArmFor flags0 classFile x code maxLocals ret World_1 tables_1 room_1 Calls_1 rest_1 Pre_1 Post := by
  intro l hfl _ _ p e ha hc hk s m args below hf hA hF happ hP
  obtain ⟨hcalls, hrest, hpre⟩ := hP
  obtain ⟨-, -, -, hnamed, -, -, -, hat⟩ := (Spec.applies_iff hf).mp happ
  obtain ⟨hg, hn⟩ := and_e (Cond.before_iff.mp (show (Jvm.Cond.and given_1 narrow_1).before args s = true from hpre))
  obtain ⟨hcnt, g0⟩ := and_e hg
  obtain ⟨y0, y1, y2, y3, rfl⟩ : ∃ y0 y1 y2 y3 : Value, args = #[y0, y1, y2, y3] := by
    have hs : args.size = 4 := by simpa [Cond.value, given_1] using hcnt
    obtain ⟨L⟩ := args
    match L, hs with
    | [y0, y1, y2, y3], _ => exact ⟨y0, y1, y2, y3, rfl⟩
  have hw := fun d (hd : d ∈ tables_1) => atoms_spec (ws := Jvm.Cond.code x code maxLocals ret :: tables_1) hat d (List.mem_cons_of_mem _ hd)
  obtain ⟨g0a, g1⟩ := and_e g0
  obtain ⟨i0, e0⟩ := isL_v g0a
  obtain rfl : y0 = .long i0 := Option.some.inj e0
  obtain ⟨g1a, g2⟩ := and_e g1
  obtain ⟨i1, e1⟩ := isL_v g1a
  obtain rfl : y1 = .long i1 := Option.some.inj e1
  obtain ⟨g2a, g3⟩ := and_e g2
  obtain ⟨i2, e2⟩ := isL_v g2a
  obtain rfl : y2 = .long i2 := Option.some.inj e2
  obtain ⟨i3, e3⟩ := is_v g3
  obtain rfl : y3 = .int i3 := Option.some.inj e3
  obtain ⟨n, o, h1, h2, h3, v, L, rfl, ⟨N, H', hR', rfl⟩, hq⟩ := law_con l s _ s.heap.size hw i0 i1 i2 i3 tables_1 s.heap ⟨Nat.le_refl _, List.nodup_nil, fun _ q => nomatch q⟩ p e ha hc hk s m _ below hf ((Spec.applies_iff_loose hf).mp happ).1 ⟨rfl, State.Warmed39.refl s, rfl⟩ trivial
  refine ⟨n, _, h1, h2, h3, hpost _ _ _ _ _ _ ⟨Cond.after_iff.mpr rfl, Cond.after_iff.mpr (eq_i res_at (Term.int_eval (1)) rfl), trivial⟩ ⟨hq.1, hq.2.1, (hq.2.2.sift fun y hy => Or.inr (N y hy)).mono (by decide) (by decide)⟩⟩
theorem main_1_1 : Claimed_1_1 := comes_1 fun _ _ _ _ _ _ h hF => ⟨h.1, hF⟩
theorem main_1_2 : Claimed_1_2 := comes_1 fun _ _ _ _ _ _ h hF => ⟨h.2.1, hF⟩
end Jvm.Pilot.@@N@@
namespace Jvm.Pilot.@@N@@
open Jvm Jvm.ClassFile Sem Op Lib Jvm.Free Jvm.Stand Jvm.Pilot.@@N@@.Jvm.D
/-! MADE BY PROGRAM (witnessworld.py) out of the Statement's table words and the real class files: 14 classes; the members and pool entries that the words name. The judged class is class 1, her method 2. -/
namespace start1
open Jvm.ClassFile
def u (s : String) : CpInfo := .utf8 (stringToUtf16 s)
/-- a pool by its gaps: so many unusable entries, then the entry; so many at the end -/
def gap : Nat → List CpInfo → List CpInfo
  | 0, r => r
  | n + 1, r => .unusable :: gap n r
def poolList (es : List (Nat × CpInfo)) (last : Nat) : List CpInfo := es.foldr (fun e r => gap e.1 (e.2 :: r)) (gap last [])
def pool (es : List (Nat × CpInfo)) (last : Nat) : Array CpInfo := ⟨poolList es last⟩
def fileOf (pool : Array CpInfo) (this : Nat) (attrs : Array Attribute := #[]) (ms : Array MethodInfo := #[]) (fl : Nat := 33) (sup : Nat := 0) (ifs : Array Nat := #[]) (fds : Array FieldInfo := #[]) : ClassFile where
  minorVersion := 0
  majorVersion := 65
  constantPool := pool
  accessFlags := fl
  thisClass := this
  superClass := sup
  interfaces := ifs
  fields := fds
  methods := ms
  attributes := attrs
def plain (name : String) (sup : Option ClassId) : Class where
  name := name
  kind := .ordinary
  loader := none
  accessFlags := 33
  super := sup
  interfaces := #[]
  cf := none
  fields := #[]
  methods := #[]
  instanceTypes := #[]
  staticTypes := #[]
  resolved := #[]
  callSites := []
  init := .initialized
  statics := none
  mirror := none

def pool0 : Array CpInfo := pool [(5, u "<init>"), (0, u "()V"), (1, .class_ 10), (1, u "java/lang/Object")] 113

def k0c0 : Code := { maxStack := 0, maxLocals := 1, code := object_method_1_code, exceptionTable := #[], attributes := #[] }
def k0m0 : Method := { name := "<init>", desc := "()V", sig := { parameters := [], returnType := none }, accessFlags := 1, code := some k0c0 }
/-- java/lang/Object -/
def k0 : Class := { plain "java/lang/Object" none with
  accessFlags := 33
  interfaces := #[]
  cf := some (fileOf pool0 8 #[] #[{ accessFlags := 1, nameIndex := 5, descriptorIndex := 6, attributes := #[] }] 33 0 #[] #[])
  fields := #[]
  methods := #[k0m0]
  instanceTypes := #[]
  staticTypes := #[]
  resolved := Array.replicate 124 none
  statics := none }

def pool1 : Array CpInfo := pool [(2, .class_ 4), (1, u "java/lang/Object"), (0, u "<init>"), (0, u "()V"), (0, .methodref 8 9), (0, .class_ 10), (0, .nameAndType 11 12), (0, u "pheromedian/model/VertexQueue"), (0, u "poll"), (0, u "()I"), (0, .methodref 8 14), (0, .nameAndType 15 16), (0, u "update"), (0, u "(I)V"), (0, .methodref 8 18), (0, .nameAndType 19 20), (0, u "isEmpty"), (0, u "()Z"), (0, .methodref 8 22), (0, .nameAndType 5 23), (0, u "([J)V"), (0, .methodref 25 26), (0, .class_ 27), (0, .nameAndType 28 29), (0, u "pheromedian/model/VertexQueueIsEmptyPinLaw"), (0, u "step"), (0, u "(Lpheromedian/model/VertexQueue;I[Z)Z"), (3, u "law"), (0, u "(JJJI)Z")] 6

def k1m0 : Method := { name := "<init>", desc := "()V", sig := { parameters := [], returnType := none }, accessFlags := 1, code := none }
def k1c1 : Code := { maxStack := 3, maxLocals := 5, code := method_2_code, exceptionTable := #[], attributes := #[] }
def k1m1 : Method := { name := "step", desc := "(Lpheromedian/model/VertexQueue;I[Z)Z", sig := { parameters := [(.object "pheromedian/model/VertexQueue"), .int, (.array .boolean)], returnType := some .boolean }, accessFlags := 10, code := some k1c1 }
def k1c2 : Code := { maxStack := 5, maxLocals := 10, code := code, exceptionTable := #[], attributes := #[] }
def k1m2 : Method := { name := "law", desc := "(JJJI)Z", sig := { parameters := [.long, .long, .long, .int], returnType := some .boolean }, accessFlags := 9, code := some k1c2 }
/-- pheromedian/model/VertexQueueIsEmptyPinLaw -/
def k1 : Class := { plain "pheromedian/model/VertexQueueIsEmptyPinLaw" (some 0) with
  accessFlags := 49
  interfaces := #[]
  cf := some (fileOf pool1 25 #[] #[{ accessFlags := 1, nameIndex := 5, descriptorIndex := 6, attributes := #[] }, { accessFlags := 10, nameIndex := 28, descriptorIndex := 29, attributes := #[] }, { accessFlags := 9, nameIndex := 33, descriptorIndex := 34, attributes := #[] }] 49 2 #[] #[])
  fields := #[]
  methods := #[k1m0, k1m1, k1m2]
  instanceTypes := #[]
  staticTypes := #[]
  resolved := Array.replicate 41 none
  statics := none }

def pool2 : Array CpInfo := pool [(1, .methodref 2 3), (0, .class_ 4), (0, .nameAndType 5 6), (0, u "java/lang/Object"), (0, u "<init>"), (0, u "()V"), (0, .fieldref 8 9), (0, .class_ 10), (0, .nameAndType 11 12), (0, u "pheromedian/model/VertexQueue"), (0, u "key"), (0, u "[J"), (0, .fieldref 8 14), (0, .nameAndType 15 16), (0, u "heap"), (0, u "[I"), (0, .fieldref 8 18), (0, .nameAndType 19 16), (0, u "position"), (0, .methodref 21 22), (0, .class_ 23), (0, .nameAndType 24 25), (0, u "java/util/Arrays"), (0, u "fill"), (0, u "([II)V"), (0, .fieldref 8 27), (0, .nameAndType 28 29), (0, u "size"), (0, u "I"), (0, .methodref 8 31), (0, .nameAndType 32 33), (0, u "place"), (0, u "(II)V"), (0, .methodref 8 35), (0, .nameAndType 36 37), (0, u "siftUp"), (0, u "(I)V"), (0, .methodref 8 39), (0, .nameAndType 40 37), (0, u "siftDown"), (0, u "([J)V"), (2, u "isEmpty"), (0, u "()Z"), (1, u "update"), (0, u "poll"), (0, u "()I")] 2

def k2c0 : Code := { maxStack := 2, maxLocals := 2, code := prog_16_method_1_code, exceptionTable := #[], attributes := #[] }
def k2m0 : Method := { name := "<init>", desc := "([J)V", sig := { parameters := [(.array .long)], returnType := none }, accessFlags := 0, code := some k2c0 }
def k2c1 : Code := { maxStack := 1, maxLocals := 1, code := prog_16_method_2_code, exceptionTable := #[], attributes := #[] }
def k2m1 : Method := { name := "isEmpty", desc := "()Z", sig := { parameters := [], returnType := some .boolean }, accessFlags := 0, code := some k2c1 }
def k2c2 : Code := { maxStack := 4, maxLocals := 3, code := prog_16_method_3_code, exceptionTable := #[], attributes := #[] }
def k2m2 : Method := { name := "update", desc := "(I)V", sig := { parameters := [.int], returnType := none }, accessFlags := 0, code := some k2c2 }
def k2c3 : Code := { maxStack := 3, maxLocals := 2, code := prog_16_method_4_code, exceptionTable := #[], attributes := #[] }
def k2m3 : Method := { name := "poll", desc := "()I", sig := { parameters := [], returnType := some .int }, accessFlags := 0, code := some k2c3 }
def k2c4 : Code := { maxStack := 4, maxLocals := 4, code := prog_16_method_5_code, exceptionTable := #[], attributes := #[] }
def k2m4 : Method := { name := "siftUp", desc := "(I)V", sig := { parameters := [.int], returnType := none }, accessFlags := 2, code := some k2c4 }
def k2c5 : Code := { maxStack := 5, maxLocals := 4, code := prog_16_method_6_code, exceptionTable := #[], attributes := #[] }
def k2m5 : Method := { name := "siftDown", desc := "(I)V", sig := { parameters := [.int], returnType := none }, accessFlags := 2, code := some k2c5 }
def k2c6 : Code := { maxStack := 3, maxLocals := 3, code := prog_16_method_7_code, exceptionTable := #[], attributes := #[] }
def k2m6 : Method := { name := "place", desc := "(II)V", sig := { parameters := [.int, .int], returnType := none }, accessFlags := 2, code := some k2c6 }
/-- pheromedian/model/VertexQueue -/
def k2 : Class := { plain "pheromedian/model/VertexQueue" (some 0) with
  accessFlags := 48
  interfaces := #[]
  cf := some (fileOf pool2 8 #[] #[{ accessFlags := 0, nameIndex := 5, descriptorIndex := 41, attributes := #[] }, { accessFlags := 0, nameIndex := 44, descriptorIndex := 45, attributes := #[] }, { accessFlags := 0, nameIndex := 47, descriptorIndex := 37, attributes := #[] }, { accessFlags := 0, nameIndex := 48, descriptorIndex := 49, attributes := #[] }, { accessFlags := 2, nameIndex := 36, descriptorIndex := 37, attributes := #[] }, { accessFlags := 2, nameIndex := 40, descriptorIndex := 37, attributes := #[] }, { accessFlags := 2, nameIndex := 32, descriptorIndex := 33, attributes := #[] }] 48 2 #[] #[{ accessFlags := 18, nameIndex := 11, descriptorIndex := 12, attributes := #[] }, { accessFlags := 18, nameIndex := 15, descriptorIndex := 16, attributes := #[] }, { accessFlags := 18, nameIndex := 19, descriptorIndex := 16, attributes := #[] }, { accessFlags := 2, nameIndex := 28, descriptorIndex := 29, attributes := #[] }])
  fields := #[{ name := "key", type := (.array .long), accessFlags := 18, slot := 0, constantValue := 0 }, { name := "heap", type := (.array .int), accessFlags := 18, slot := 1, constantValue := 0 }, { name := "position", type := (.array .int), accessFlags := 18, slot := 2, constantValue := 0 }, { name := "size", type := .int, accessFlags := 2, slot := 3, constantValue := 0 }]
  methods := #[k2m0, k2m1, k2m2, k2m3, k2m4, k2m5, k2m6]
  instanceTypes := #[(.array .long), (.array .int), (.array .int), .int]
  staticTypes := #[]
  resolved := Array.replicate 52 none
  statics := none }

def pool3 : Array CpInfo := pool [(2, .class_ 4), (1, u "java/lang/Object"), (0, u "<init>"), (0, u "()V"), (7, .class_ 16), (1, u "java/util/Arrays"), (57, .class_ 76), (1, u "java/util/Arrays$NaturalOrder"), (36, .class_ 115), (1, u "java/util/Arrays$LegacyMergeSort"), (1, u "Z"), (257, .class_ 376), (0, u "java/util/Arrays$ArrayList"), (68, u "$assertionsDisabled"), (269, u "MIN_ARRAY_SORT_GRAN"), (0, u "I"), (2, u "INSERTIONSORT_THRESHOLD"), (120, u "fill"), (4, u "([II)V"), (129, .class_ 976), (0, u "java/util/Arrays$ArrayItr")] 52

def k3m0 : Method := { name := "<init>", desc := "()V", sig := { parameters := [], returnType := none }, accessFlags := 2, code := none }
def k3c1 : Code := { maxStack := 3, maxLocals := 4, code := jdk_65_method_103_code, exceptionTable := #[], attributes := #[] }
def k3m1 : Method := { name := "fill", desc := "([II)V", sig := { parameters := [(.array .int), .int], returnType := none }, accessFlags := 9, code := some k3c1 }
/-- java/util/Arrays -/
def k3 : Class := { plain "java/util/Arrays" (some 0) with
  accessFlags := 49
  interfaces := #[]
  cf := some (fileOf pool3 14 #[.nestMembers #[975, 375, 113, 74]] #[{ accessFlags := 2, nameIndex := 5, descriptorIndex := 6, attributes := #[] }, { accessFlags := 9, nameIndex := 840, descriptorIndex := 845, attributes := #[] }] 49 2 #[] #[{ accessFlags := 26, nameIndex := 715, descriptorIndex := 716, attributes := #[] }, { accessFlags := 26, nameIndex := 719, descriptorIndex := 716, attributes := #[] }, { accessFlags := 4120, nameIndex := 445, descriptorIndex := 117, attributes := #[] }])
  fields := #[{ name := "MIN_ARRAY_SORT_GRAN", type := .int, accessFlags := 26, slot := 0, constantValue := 0 }, { name := "INSERTIONSORT_THRESHOLD", type := .int, accessFlags := 26, slot := 1, constantValue := 0 }, { name := "$assertionsDisabled", type := .boolean, accessFlags := 4120, slot := 2, constantValue := 0 }]
  methods := #[k3m0, k3m1]
  instanceTypes := #[]
  staticTypes := #[.int, .int, .boolean]
  resolved := Array.replicate 1029 none
  statics := none }

def pool4 : Array CpInfo := pool [(1, u "java/lang/Cloneable"), (0, .class_ 1), (0, u "java/lang/Object"), (0, .class_ 3)] 3

/-- java/lang/Cloneable -/
def k4 : Class := { plain "java/lang/Cloneable" (some 0) with
  accessFlags := 1537
  interfaces := #[]
  cf := some (fileOf pool4 2 #[] #[] 1537 4 #[] #[])
  fields := #[]
  methods := #[]
  instanceTypes := #[]
  staticTypes := #[]
  resolved := Array.replicate 8 none
  statics := none }

def pool5 : Array CpInfo := pool [(1, u "java/io/Serializable"), (0, .class_ 1), (0, u "java/lang/Object"), (0, .class_ 3)] 3

/-- java/io/Serializable -/
def k5 : Class := { plain "java/io/Serializable" (some 0) with
  accessFlags := 1537
  interfaces := #[]
  cf := some (fileOf pool5 2 #[] #[] 1537 4 #[] #[])
  fields := #[]
  methods := #[]
  instanceTypes := #[]
  staticTypes := #[]
  resolved := Array.replicate 8 none
  statics := none }

/-- the primitive boolean -/
def k6 : Class := { plain "boolean" none with kind := .primitive 'Z', accessFlags := 0x411 }
/-- [Z -/
def k7 : Class := { plain "[Z" (some 0) with kind := .array 6 .boolean, interfaces := #[4, 5], accessFlags := 1041 }

/-- the primitive byte -/
def k8 : Class := { plain "byte" none with kind := .primitive 'B', accessFlags := 0x411 }
/-- [B -/
def k9 : Class := { plain "[B" (some 0) with kind := .array 8 .byte, interfaces := #[4, 5], accessFlags := 1041 }

/-- the primitive int -/
def k10 : Class := { plain "int" none with kind := .primitive 'I', accessFlags := 0x411 }
/-- [I -/
def k11 : Class := { plain "[I" (some 0) with kind := .array 10 .int, interfaces := #[4, 5], accessFlags := 1041 }

/-- the primitive long -/
def k12 : Class := { plain "long" none with kind := .primitive 'J', accessFlags := 0x411 }
/-- [J -/
def k13 : Class := { plain "[J" (some 0) with kind := .array 12 .long, interfaces := #[4, 5], accessFlags := 1041 }

def heap : Heap := #[]
def classes : Array Class := #[k0, k1, k2, k3, k4, k5, k6, k7, k8, k9, k10, k11, k12, k13]
def interned : List (Array UInt16 × Addr) := []
def slotsUsed : Nat := 0
def theMethod : MethodId := ⟨1, 2⟩
def args0 : Array Value := #[.long 5, .long 5, .long 5, .int 5]
def aboutOver (below : List Frame) : State where
  vm := { classes := classes, interned := interned.toArray }
  heap := heap
  slotsUsed := slotsUsed
  threads := #[{ frames := .invoking theMethod args0 :: below }]
def below0 : List Frame := [.native { method := ⟨0, 0⟩, args := #[] }]
def about1 : State := aboutOver below0
def p0 : Program := .bare "" "" ""
def e0 : Env := launch0.env 0 0 0
theorem w_frames : about1.frames = Frame.invoking theMethod args0 :: below0 := rfl
set_option maxRecDepth 65536 in
theorem w_args : argsFit about1.vm theMethod args0 = true := by decide +kernel
set_option maxRecDepth 65536 in
theorem w_heap : heapFits about1 = true := by decide +kernel
set_option maxRecDepth 65536 in
theorem w_runnable : about1.curStatus? = some .runnable := by decide +kernel
set_option maxRecDepth 65536 in
theorem w_alone : about1.alone = true := by decide +kernel
set_option maxRecDepth 65536 in
theorem w_named : about1.methodNamed? x = some theMethod := by decide +kernel
set_option maxRecDepth 65536 in
theorem w_hears : about1.hears theMethod below0 = true := by decide +kernel
set_option maxRecDepth 65536 in
theorem w_ripe : about1.ripe theMethod args0 below0 = true := by decide +kernel
theorem w_running : about1.status = .running := rfl
set_option maxRecDepth 65536 in
theorem w_room : about1.hasRoom e0.platform room_1 = true :=
  launch0.hasRoom_least _ room_1 (by decide +kernel) (by decide +kernel) (by decide +kernel) (by decide +kernel) (by decide +kernel) (by decide +kernel)
theorem allAtoms_all (ts : List Jvm.Cond) (a : Array Jvm.Value) (st : Jvm.State) : (allAtoms ts).before a st = ts.all (fun c => c.before a st) := by
  induction ts with
  | nil => rfl
  | cons c t ih =>
    show (Jvm.Cond.and c (allAtoms t)).before a st = _
    rw [Jvm.Cond.before_and, ih, List.all_cons]
def words1 : List Jvm.Cond := Jvm.Cond.code x code maxLocals ret :: tables_1
/-- a 'code' word, met by the world's own term for the bytes: nothing is compared byte by byte -/
theorem code_word {y : MethodName} {bytes : ByteArray} {mx : Nat} {rt : Option FieldType} {a : Array Value} {s : State} {m : MethodId} {meth : Method} {c : Code} (h1 : s.methodNamed? y = some m) (h2 : s.vm.method? m = some meth) (h3 : meth.code = some c) (h4 : c.code = bytes)
    (h5 : (c.maxLocals == mx && c.exceptionTable.isEmpty && decide (c.maxStack ≤ mostOperands) && decide (meth.sig.returnType = rt) && !meth.locks && decide (parseMethodDescriptor y.desc = some meth.sig)) = true) : (Jvm.Cond.code y bytes mx rt).before a s = true := by
  simp only [Bool.and_eq_true, beq_iff_eq, Bool.not_eq_true', decide_eq_true_eq] at h5
  obtain ⟨⟨⟨⟨⟨g1, g2⟩, g3⟩, g4⟩, g5⟩, g6⟩ := h5
  simp [Cond.before, Cond.holds, Cond.value, h1, h2, h3, h4, g1, g2, g3, g4, g5, g6]
def isCode : Jvm.Cond → Bool
  | .code _ _ _ _ => true
  | _ => false
theorem all_split {L : List Jvm.Cond} {P : Jvm.Cond → Bool} (h1 : L.all (fun c => isCode c || P c) = true) (h2 : ∀ c ∈ L.filter isCode, P c = true) : L.all P = true := by
  refine List.all_eq_true.mpr fun c hc => ?_
  have h := List.all_eq_true.mp h1 c hc
  rcases Bool.eq_false_or_eq_true (isCode c) with hi | hi
  · exact h2 c (List.mem_filter.mpr ⟨hc, hi⟩)
  · simpa [hi] using h
set_option maxRecDepth 65536 in
theorem w_c0 : (Jvm.Cond.code x code maxLocals ret).before args0 about1 = true := code_word (m := ⟨1, 2⟩) (meth := k1m2) (c := k1c2) (by decide +kernel) rfl rfl rfl (by decide +kernel)
set_option maxRecDepth 65536 in
theorem w_c1 : (Jvm.Cond.code ({ cls := "pheromedian/model/VertexQueue", name := "<init>", desc := "([J)V" } : Jvm.MethodName) prog_16_method_1_code (2 : Nat) (Option.none : Option Jvm.ClassFile.FieldType)).before args0 about1 = true := code_word (m := ⟨2, 0⟩) (meth := k2m0) (c := k2c0) (by decide +kernel) rfl rfl rfl (by decide +kernel)
set_option maxRecDepth 65536 in
theorem w_c2 : (Jvm.Cond.code ({ cls := "java/lang/Object", name := "<init>", desc := "()V" } : Jvm.MethodName) object_method_1_code (1 : Nat) (Option.none : Option Jvm.ClassFile.FieldType)).before args0 about1 = true := code_word (m := ⟨0, 0⟩) (meth := k0m0) (c := k0c0) (by decide +kernel) rfl rfl rfl (by decide +kernel)
set_option maxRecDepth 65536 in
theorem w_c3 : (Jvm.Cond.code ({ cls := "java/util/Arrays", name := "fill", desc := "([II)V" } : Jvm.MethodName) jdk_65_method_103_code (4 : Nat) (Option.none : Option Jvm.ClassFile.FieldType)).before args0 about1 = true := code_word (m := ⟨3, 1⟩) (meth := k3m1) (c := k3c1) (by decide +kernel) rfl rfl rfl (by decide +kernel)
set_option maxRecDepth 65536 in
theorem w_c4 : (Jvm.Cond.code ({ cls := "pheromedian/model/VertexQueue", name := "isEmpty", desc := "()Z" } : Jvm.MethodName) prog_16_method_2_code (1 : Nat) (Option.some Jvm.ClassFile.FieldType.boolean)).before args0 about1 = true := code_word (m := ⟨2, 1⟩) (meth := k2m1) (c := k2c1) (by decide +kernel) rfl rfl rfl (by decide +kernel)
set_option maxRecDepth 65536 in
theorem w_c5 : (Jvm.Cond.code ({ cls := "pheromedian/model/VertexQueueIsEmptyPinLaw", name := "step", desc := "(Lpheromedian/model/VertexQueue;I[Z)Z" } : Jvm.MethodName) method_2_code (5 : Nat) (Option.some Jvm.ClassFile.FieldType.boolean)).before args0 about1 = true := code_word (m := ⟨1, 1⟩) (meth := k1m1) (c := k1c1) (by decide +kernel) rfl rfl rfl (by decide +kernel)
set_option maxRecDepth 65536 in
theorem w_c6 : (Jvm.Cond.code ({ cls := "pheromedian/model/VertexQueue", name := "update", desc := "(I)V" } : Jvm.MethodName) prog_16_method_3_code (3 : Nat) (Option.none : Option Jvm.ClassFile.FieldType)).before args0 about1 = true := code_word (m := ⟨2, 2⟩) (meth := k2m2) (c := k2c2) (by decide +kernel) rfl rfl rfl (by decide +kernel)
set_option maxRecDepth 65536 in
theorem w_c7 : (Jvm.Cond.code ({ cls := "pheromedian/model/VertexQueue", name := "place", desc := "(II)V" } : Jvm.MethodName) prog_16_method_7_code (3 : Nat) (Option.none : Option Jvm.ClassFile.FieldType)).before args0 about1 = true := code_word (m := ⟨2, 6⟩) (meth := k2m6) (c := k2c6) (by decide +kernel) rfl rfl rfl (by decide +kernel)
set_option maxRecDepth 65536 in
theorem w_c8 : (Jvm.Cond.code ({ cls := "pheromedian/model/VertexQueue", name := "siftUp", desc := "(I)V" } : Jvm.MethodName) prog_16_method_5_code (4 : Nat) (Option.none : Option Jvm.ClassFile.FieldType)).before args0 about1 = true := code_word (m := ⟨2, 4⟩) (meth := k2m4) (c := k2c4) (by decide +kernel) rfl rfl rfl (by decide +kernel)
set_option maxRecDepth 65536 in
theorem w_c9 : (Jvm.Cond.code ({ cls := "pheromedian/model/VertexQueue", name := "poll", desc := "()I" } : Jvm.MethodName) prog_16_method_4_code (2 : Nat) (Option.some Jvm.ClassFile.FieldType.int)).before args0 about1 = true := code_word (m := ⟨2, 3⟩) (meth := k2m3) (c := k2c3) (by decide +kernel) rfl rfl rfl (by decide +kernel)
set_option maxRecDepth 65536 in
theorem w_c10 : (Jvm.Cond.code ({ cls := "pheromedian/model/VertexQueue", name := "siftDown", desc := "(I)V" } : Jvm.MethodName) prog_16_method_6_code (4 : Nat) (Option.none : Option Jvm.ClassFile.FieldType)).before args0 about1 = true := code_word (m := ⟨2, 5⟩) (meth := k2m5) (c := k2c5) (by decide +kernel) rfl rfl rfl (by decide +kernel)
def codes1 : List Jvm.Cond := [Jvm.Cond.code x code maxLocals ret, Jvm.Cond.code ({ cls := "pheromedian/model/VertexQueue", name := "<init>", desc := "([J)V" } : Jvm.MethodName) prog_16_method_1_code (2 : Nat) (Option.none : Option Jvm.ClassFile.FieldType), Jvm.Cond.code ({ cls := "java/lang/Object", name := "<init>", desc := "()V" } : Jvm.MethodName) object_method_1_code (1 : Nat) (Option.none : Option Jvm.ClassFile.FieldType), Jvm.Cond.code ({ cls := "java/util/Arrays", name := "fill", desc := "([II)V" } : Jvm.MethodName) jdk_65_method_103_code (4 : Nat) (Option.none : Option Jvm.ClassFile.FieldType), Jvm.Cond.code ({ cls := "pheromedian/model/VertexQueue", name := "isEmpty", desc := "()Z" } : Jvm.MethodName) prog_16_method_2_code (1 : Nat) (Option.some Jvm.ClassFile.FieldType.boolean), Jvm.Cond.code ({ cls := "pheromedian/model/VertexQueueIsEmptyPinLaw", name := "step", desc := "(Lpheromedian/model/VertexQueue;I[Z)Z" } : Jvm.MethodName) method_2_code (5 : Nat) (Option.some Jvm.ClassFile.FieldType.boolean), Jvm.Cond.code ({ cls := "pheromedian/model/VertexQueue", name := "update", desc := "(I)V" } : Jvm.MethodName) prog_16_method_3_code (3 : Nat) (Option.none : Option Jvm.ClassFile.FieldType), Jvm.Cond.code ({ cls := "pheromedian/model/VertexQueue", name := "place", desc := "(II)V" } : Jvm.MethodName) prog_16_method_7_code (3 : Nat) (Option.none : Option Jvm.ClassFile.FieldType), Jvm.Cond.code ({ cls := "pheromedian/model/VertexQueue", name := "siftUp", desc := "(I)V" } : Jvm.MethodName) prog_16_method_5_code (4 : Nat) (Option.none : Option Jvm.ClassFile.FieldType), Jvm.Cond.code ({ cls := "pheromedian/model/VertexQueue", name := "poll", desc := "()I" } : Jvm.MethodName) prog_16_method_4_code (2 : Nat) (Option.some Jvm.ClassFile.FieldType.int), Jvm.Cond.code ({ cls := "pheromedian/model/VertexQueue", name := "siftDown", desc := "(I)V" } : Jvm.MethodName) prog_16_method_6_code (4 : Nat) (Option.none : Option Jvm.ClassFile.FieldType)]
set_option maxRecDepth 65536 in
theorem codes_eq : words1.filter isCode = codes1 := rfl
theorem w_codes : ∀ c ∈ words1.filter isCode, c.before args0 about1 = true := by
  rw [codes_eq]
  intro c hc
  simp only [codes1, List.mem_cons, List.not_mem_nil, or_false] at hc
  rcases hc with rfl | rfl | rfl | rfl | rfl | rfl | rfl | rfl | rfl | rfl | rfl
  · exact w_c0
  · exact w_c1
  · exact w_c2
  · exact w_c3
  · exact w_c4
  · exact w_c5
  · exact w_c6
  · exact w_c7
  · exact w_c8
  · exact w_c9
  · exact w_c10
set_option maxRecDepth 65536 in
theorem w_t1 : (words1.take 24).all (fun c => isCode c || c.before args0 about1) = true := by decide +kernel
set_option maxRecDepth 65536 in
theorem w_t2 : ((words1.drop 24).take 24).all (fun c => isCode c || c.before args0 about1) = true := by decide +kernel
set_option maxRecDepth 65536 in
theorem w_t3 : ((words1.drop 24).drop 24).all (fun c => isCode c || c.before args0 about1) = true := by decide +kernel
theorem w_tables : (allAtoms (Jvm.Cond.code x code maxLocals ret :: tables_1)).before args0 about1 = true := by
  rw [allAtoms_all]
  show words1.all (fun c => c.before args0 about1) = true
  refine all_split ?_ w_codes
  rw [← List.take_append_drop 24 words1, List.all_append, w_t1, ← List.take_append_drop 24 (words1.drop 24), List.all_append, w_t2, w_t3]
  rfl
set_option maxRecDepth 65536 in
theorem w_case : (Jvm.Cond.and given_1 narrow_1).before args0 about1 = true := by decide +kernel
theorem w_applies : (headSpec (Jvm.Cond.code x code maxLocals ret :: tables_1) room_1).applies x e0.platform about1 = true :=
  (Spec.applies_iff w_frames).mpr ⟨w_running, w_runnable, w_alone, w_named, w_hears, w_ripe, w_room, w_tables⟩
theorem atStart : AtStart classFile x code maxLocals ret World_1 tables_1 room_1 Calls_1 rest_1 Pre_1 launch0 p0 e0 about1 theMethod args0 below0 :=
  ⟨lists_1, trivial, launch0.admits_env _ _ _, launch0.least_env, fairChoices_fair.cas, fairChoices_fair.clock, w_frames, w_args, w_heap, w_applies, trivial, trivial, w_case⟩
end start1
theorem witness_1 : WitnessClaimed_1 := ⟨start1.p0, start1.e0, start1.about1, start1.theMethod, start1.args0, start1.below0, start1.atStart⟩
end Jvm.Pilot.@@N@@
